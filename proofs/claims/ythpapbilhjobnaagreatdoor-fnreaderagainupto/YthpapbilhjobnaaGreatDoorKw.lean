/-
  The law FnReaderAgain of the streams of zlib, where what it reads is of bulk at most 1048576: the walk of its code over the proved contracts of reader and encoder, its row and its card. Conditions: the row's own; what the package-level variables hold is tied to the program's text.
-/
import Derived.Test.YthpapbilhjobnaaGreatDoorM20
import Derived.Test.YthpapbilhjobnaaGreatDoorM22
import Derived.Test.YthpapbilhjobnaaGreatDoorM23
set_option linter.unusedVariables false
set_option linter.unusedSimpArgs false
namespace Go.Proofs.YthpapbilhjobnaaGreatDoor
open Go.RowKit Pu
def True1 (w : World) (e : Ending) (w' : World) : Prop:=e = .returned (.bool true) ∧ Ext (fun _ => False) w w'
theorem reads_made {has : Bool} {dict data : List UInt8} {a b : Nat} {X : List Bool} {bs : List UInt8} {g cap : Nat} {w w1 : World} (h : Made w has dict data a b X bs g cap w1) (w2 : World) (he : Ext (fun _ => False) w1 w2)
  (A hA dA kA U : Addr) (hG : Given w2 A hA dA kA U) (dv : Value) (D : List UInt8) (hasU : Bool) (hv : Arg w2 dv D) (hD : D.length ≤ 1099511627776) (hDd : has = true → hasU = true ∧ D = dict) (wv : Value) (hw : Arg w2 wv data) (hd : data.length ≤ 2097152) (n : Nat) (hn : (streamOf a b has dict data bs).length = n) :
  Calls Tryz.prog 15 #[.slice (some ⟨g,0,none⟩) n cap,dv,.bool hasU,wv] w2 (True1 w2):=by
 have hl:=stream_len a b has dict data bs
 refine reads_any g 0 n cap dv wv hasU data w2 (by rw [← hn,hl];split <;> omega) hw.rd ?_
 rw [← hn]
 exact (unpack_all h.enc _ [] (by rw [List.append_nil]) g 0 cap w2 (h.held.1.ext he (fun e => e)) A hA dA kA U hG dv D hasU hv hD hDd (.slice none 0 0) [] (by simp) (by simp) (Rd.nil w2) (fun b hb => by cases hb) hd).mono (fun e w' ⟨vo,h1,h2,h3⟩ => ⟨vo,h1,h2,h3⟩)
set_option maxRecDepth 100000 in
set_option maxHeartbeats 4000000 in
theorem fnRead_core (dv fv wv : Value) (has : Bool) (win lvl : Int) (data dict : List UInt8) (zs : List Int) (w : World) (A hA dA kA U : Addr) (hG : Given w A hA dA kA U) (hd : Arg w dv data) (hf : Arg w fv dict) (hw : Num w wv zs) (hsz : data.length + dict.length ≤ 2097152) :
  Calls Tryz.prog 9 #[dv,fv,.bool has,.int .i64 win,.int .i64 lvl,wv] w (True1 w):=by
 have HZ:=Lib.hid (zlib_any dv fv wv has win lvl data dict zs w hd.rd hf.rd hw.rd hw.len hsz hw.low)
 have HG:=Lib.hid hG;have HD:=Lib.hid hd;have HF:=Lib.hid hf;have HSZ:=Lib.hid hsz
 clear hG hd hf hw hsz
 go_enter Tryz.func9,Tryz.ntmps9
 go_wp2_with fail
 refine HZ.out.mono ?_
 intro e w1 hp
 obtain ⟨a,b,X,bs,g,cap,rfl,hM⟩:=hp.made
 obtain ⟨n,hn⟩ : ∃ n,(streamOf a b has dict data bs).length = n:=⟨_,rfl⟩
 rw [hn]
 have HR:=Lib.hid (reads_made hM w1 (Ext.refl _ _) A hA dA kA U (HG.out.ext hM.ext) fv dict has (HF.out.ext hM.ext) (by have:=HSZ.out;omega) (fun h => ⟨h,rfl⟩) dv (HD.out.ext hM.ext) (by have:=HSZ.out;omega) n hn)
 have HE:=Lib.hid hM.ext
 clear hp hM hn
 go_wp2_with fail
 refine HR.out.mono ?_
 rintro e w2 ⟨rfl,he⟩
 have HE2:=Lib.hid (HE.out.trans he)
 clear he
 go_wp2_with fail
 go_ret
 exact ⟨rfl,HE2.out⟩
set_option maxRecDepth 100000 in
set_option maxHeartbeats 4000000 in
theorem fnIgnored_core (dv fv wv : Value) (data dict : List UInt8) (zs : List Int) (w : World) (A hA dA kA U : Addr) (hG : Given w A hA dA kA U) (hd : Arg w dv data) (hf : Arg w fv dict) (hw : Num w wv zs) (hsz : data.length + dict.length ≤ 2097152) :
  Calls Tryz.prog 7 #[dv,fv,wv] w (True1 w):=by
 have HZ:=Lib.hid (zlib_any dv (.slice none 0 0) wv false 7 1 data [] zs w hd.rd (Rd.nil w) hw.rd hw.len (by simp;omega) hw.low)
 have HG:=Lib.hid hG;have HD:=Lib.hid hd;have HF:=Lib.hid hf;have HSZ:=Lib.hid hsz
 clear hG hd hf hw hsz
 go_enter Tryz.func7,Tryz.ntmps7
 go_wp2_with fail
 refine HZ.out.mono ?_
 intro e w1 hp
 obtain ⟨a,b,X,bs,g,cap,rfl,hM⟩:=hp.made
 obtain ⟨n,hn⟩ : ∃ n,(streamOf a b false [] data bs).length = n:=⟨_,rfl⟩
 rw [hn]
 have HR:=Lib.hid (reads_made hM w1 (Ext.refl _ _) A hA dA kA U (HG.out.ext hM.ext) fv dict true (HF.out.ext hM.ext) (by have:=HSZ.out;omega) (fun h => by cases h) dv (HD.out.ext hM.ext) (by have:=HSZ.out;omega) n hn)
 have HE:=Lib.hid hM.ext
 clear hp hM hn
 go_wp2_with fail
 refine HR.out.mono ?_
 rintro e w2 ⟨rfl,he⟩
 have HE2:=Lib.hid (HE.out.trans he)
 clear he
 go_wp2_with fail
 go_ret
 exact ⟨rfl,HE2.out⟩
end Go.Proofs.YthpapbilhjobnaaGreatDoor
namespace Go.Proofs.YthpapbilhjobnaaGreatDoor
open Go.RowKit Pu
variable {c0 c1 c2 c3 c4 c5 c6 c7 c8 c9 c10 c11 c12 c13 c14 c15 c16 c17 c18 c19 c20 c21 c22 c23 c24 c25 c26 c27 c28 c29 c30 c31 c32 c33 c34 c35 c36 c37 c38 c39 c40 c41 c42 c43 c44 c45 c46 c47 c48 c49 c50 c51 c52 c53 c54 c55 c56 c57 c58 c59 c60 c61 c62 c63 c64 c65 c66 c67 c68 c69 c70 c71 c72 c73 c74 c75 c76 c77 c78 c79 c80 c81 c82 c83 c84 c85 c86 c87 c88 c89 c90 c91 c92 c93 c94 c95 c96 c97 c98 c99 c100 c101 c102 c103 c104 c105 c106 c107 c108 c109 c110 c111 c112 c113 c114 c115 c116 c117 c118 c119 c120 c121 c122 c123 c124 c125 c126 c127 c128 c129 c130 c131 c132 c133 c134 c135 c136 c137 c138 c139 c140 c141 c142 c143 c144 c145 c146 c147 c148 c149 c150 c151 c152 c153 c154 c155 c156 c157 c158 c159 c160 c161 c162 c163 c164 c165 c166 c167 c168 c169 c170 c171 c172 c173 c174 c175 c176 c177 c178 c179 c180 c181 c182 c183 c184 c185 c186 c187 c188 c189 c190 c191 c192 c193 c194 c195 c196 c197 c198 c199 c200 c201 c202 c203 : Value}
theorem nilAhead_freset (a : Addr) (w : World) : (nilAhead 319 151 (.pointer (some a)) "Reset").run Tryz.prog w = .ok (some false) w := by kernel_rfl
theorem method_freset (a : Addr) (w : World) : (method 319 151 (.pointer (some a)) "Reset").run Tryz.prog w = .ok (129, .pointer (some a)) w := by kernel_rfl
set_option maxRecDepth 100000 in
set_option maxHeartbeats 4000000 in
theorem z_freset (Z R F : Nat) (v : Value) (w : World) (hc0 : w.cell? ⟨Z,0,none⟩ = some (.iface 50 (.pointer (some ⟨R,0,none⟩)))) (hc1 : w.cell? ⟨Z,1,none⟩ = some (.iface 151 (.pointer (some ⟨F,0,none⟩)))) (S : World → Prop)
  (hX : Calls Tryz.prog 129 #[.pointer (some ⟨F,0,none⟩),.iface 50 (.pointer (some ⟨R,0,none⟩)),v] w.drew fun e w' => e = .returned .nilIface ∧ S w') (K : Act → World → Prop) (R0 : Ending → World → Prop)
  (hK : ∀ (u187 u188 u189 u190 u191 u192 u193 u194 u195 u196 u197 u198 u199 : Value) (wx : World),S wx → K ⟨List.toArray ((.pointer (some ⟨Z,0,none⟩))::c1::(v)::c3::c4::c5::c6::c7::c8::c9::c10::c11::c12::c13::c14::c15::c16::c17::c18::c19::c20::c21::c22::c23::c24::c25::c26::c27::c28::c29::c30::c31::c32::c33::c34::c35::c36::c37::c38::c39::c40::c41::c42::c43::c44::c45::c46::c47::c48::c49::c50::c51::c52::c53::c54::c55::c56::c57::c58::c59::c60::c61::c62::c63::c64::c65::c66::c67::c68::c69::c70::c71::c72::c73::c74::c75::c76::c77::c78::c79::c80::c81::c82::c83::c84::c85::c86::c87::c88::c89::c90::c91::c92::c93::c94::c95::c96::c97::c98::c99::c100::c101::c102::c103::c104::c105::c106::c107::c108::c109::c110::c111::c112::c113::c114::c115::c116::c117::c118::c119::c120::c121::c122::c123::c124::c125::c126::c127::c128::c129::c130::c131::c132::c133::c134::c135::c136::c137::c138::c139::c140::c141::c142::c143::c144::c145::c146::c147::c148::c149::c150::c151::c152::c153::c154::c155::c156::c157::c158::c159::c160::c161::c162::c163::c164::c165::c166::c167::c168::c169::c170::c171::c172::c173::c174::c175::c176::c177::c178::c179::c180::c181::c182::c183::c184::c185::c186::u187::u188::u189::u190::u191::u192::u193::u194::u195::u196::u197::u198::u199::c200::c201::c202::c203::[]),[]⟩ wx) :
  Code.wp Tryz.prog (reg37 30) (Exit.then K (bodyPost Tryz.prog Tryz.f37 R0)) ⟨List.toArray ((.pointer (some ⟨Z,0,none⟩))::c1::(v)::c3::c4::c5::c6::c7::c8::c9::c10::c11::c12::c13::c14::c15::c16::c17::c18::c19::c20::c21::c22::c23::c24::c25::c26::c27::c28::c29::c30::c31::c32::c33::c34::c35::c36::c37::c38::c39::c40::c41::c42::c43::c44::c45::c46::c47::c48::c49::c50::c51::c52::c53::c54::c55::c56::c57::c58::c59::c60::c61::c62::c63::c64::c65::c66::c67::c68::c69::c70::c71::c72::c73::c74::c75::c76::c77::c78::c79::c80::c81::c82::c83::c84::c85::c86::c87::c88::c89::c90::c91::c92::c93::c94::c95::c96::c97::c98::c99::c100::c101::c102::c103::c104::c105::c106::c107::c108::c109::c110::c111::c112::c113::c114::c115::c116::c117::c118::c119::c120::c121::c122::c123::c124::c125::c126::c127::c128::c129::c130::c131::c132::c133::c134::c135::c136::c137::c138::c139::c140::c141::c142::c143::c144::c145::c146::c147::c148::c149::c150::c151::c152::c153::c154::c155::c156::c157::c158::c159::c160::c161::c162::c163::c164::c165::c166::c167::c168::c169::c170::c171::c172::c173::c174::c175::c176::c177::c178::c179::c180::c181::c182::c183::c184::c185::c186::c187::c188::c189::c190::c191::c192::c193::c194::c195::c196::c197::c198::c199::c200::c201::c202::c203::[]),[]⟩ w:=by
 have HX:=Lib.hid hX;have HK:=Lib.hid hK
 have hta2 : ∀ (a : Addr) (w : World),(Instr.typeAssert (.iface 151 (.pointer (some a))) 45 118 false).run Tryz.prog w = .ok (.iface 151 (.pointer (some a))) w:=fun a w => by kernel_rfl
 have hna:=nilAhead_freset
 have hm:=method_freset
 have hmf : ∀ (fn : Fn) (first cap : Array Value) (w : World),(Instr.makeFunc fn first cap).run Tryz.prog w = .ok (.func fn first cap) w:=fun _ _ _ _ => rfl
 clear hX hK
 conv => arg 2;whnf
 go_region_with (go_at_call 129;refine HX.out.mono ?_;rintro e w1 ⟨rfl,hs1⟩;have HS1:=Lib.hid hs1;clear hs1)
 all_goals
  go_wp2_with fail
  exact HK.out _ _ _ _ _ _ _ _ _ _ _ _ _ _ HS1.out
set_option maxRecDepth 100000 in
set_option maxHeartbeats 16000000 in
theorem zreset_again (x : Pl) (ap : Apart x) (Z R sb so cap : Nat) (src : List UInt8) (A hA dA kA U : Addr) (v : Value) (D : List UInt8) (w : World) (r0 g0 e0 y0 y1 y2 y3 : Value) (c : Array Value) (hb : Blk w Z #[r0,.iface 151 (.pointer (some ⟨x.F,0,none⟩)),g0,e0,y0,y1,y2,y3] 91) (hfe : FEnd x w c) (hS : Src w R sb so cap src 0) (hG : Glo w A hA dA kA U) (hv : Rd w v (D.map U8)) (hD : D.length ≤ 1099511627776)
  (hvs : ∀ b,v.ownBlock = some b → b < w.heap.size ∧ b ≠ Z ∧ b ≠ R ∧ b ≠ x.F ∧ b ≠ x.hb) (hZR : Z ≠ R) (hZs : Z ≠ sb) (hGZ : ¬ GM A hA dA kA U Z) (hGR : ¬ GM A hA dA kA U R) (room : src.length ≤ cap) (hZM : ¬ (Z = x.F ∨ Z = x.hb ∨ Z = x.Bb ∨ Z = x.Cb)) (hRM : ¬ (R = x.F ∨ R = x.hb ∨ R = x.Bb ∨ R = x.Cb)) (hsM : ¬ (sb = x.F ∨ sb = x.hb))
  (a b c0 c1 c2 c3 : UInt8) (s' : List UInt8) (hsrc : src = a::b::c0::c1::c2::c3::s') (hgood : zgood a b) (hfd : fdict b) (hnum : num4 c0 c1 c2 c3 = adler D) :
  Calls Tryz.prog 37 #[.pointer (some ⟨Z,0,none⟩),.iface 50 (.pointer (some ⟨R,0,none⟩)),v] w fun e w' => e = .returned .nilIface ∧ ∃ G c' hs wr full,ZNew w' Z R sb so cap src 6 x.F x.Bb x.Cb x.hb G c' hs wr full D ∧ w.heap.size ≤ G ∧ Ext (fun k => k = Z ∨ k = R ∨ k = x.F ∨ k = x.hb) w w':=by
 have HB:=Lib.hid hb;have HS:=Lib.hid hS;have HG:=Lib.hid hG;have HV:=Lib.hid hv;have HVS:=Lib.hid hvs;have HFE:=Lib.hid hfe
 have k0 : w.cell? ⟨Z,0,none⟩ = some r0:=by rw [hb.cell];rfl
 have k1 : w.cell? ⟨Z,1,none⟩ = some (.iface 151 (.pointer (some ⟨x.F,0,none⟩))):=by rw [hb.cell];rfl
 have k2 : w.cell? ⟨Z,2,none⟩ = some g0:=by rw [hb.cell];rfl
 have k3 : w.cell? ⟨Z,3,none⟩ = some e0:=by rw [hb.cell];rfl
 have k4 : w.cell? ⟨Z,4,none⟩ = some y0:=by rw [hb.cell];rfl
 have k5 : w.cell? ⟨Z,5,none⟩ = some y1:=by rw [hb.cell];rfl
 have k6 : w.cell? ⟨Z,6,none⟩ = some y2:=by rw [hb.cell];rfl
 have k7 : w.cell? ⟨Z,7,none⟩ = some y3:=by rw [hb.cell];rfl
 have hf:=hb.free
 have hta : ∀ (a : Addr) (w : World),(Instr.typeAssert (.iface 50 (.pointer (some a))) 78 86 true).run Tryz.prog w = .ok (.tuple #[.iface 50 (.pointer (some a)),.bool true]) w:=fun a w => by kernel_rfl
 clear hb hS hG hv hvs hfe
 have hta2 : ∀ (a : Addr) (w : World),(Instr.typeAssert (.iface 151 (.pointer (some a))) 45 118 false).run Tryz.prog w = .ok (.iface 151 (.pointer (some a))) w:=fun a w => by kernel_rfl
 go_enter Tryz.func37,Tryz.ntmps37
 go_upto_region 6 with (fail)
 obtain ⟨w1,hw1⟩ : ∃ y,(((((((((w.setCell ⟨Z,0,none⟩ .nilIface).setCell ⟨Z,1,none⟩ (.iface 151 (.pointer (some ⟨x.F,0,none⟩)))).setCell ⟨Z,2,none⟩ .nilIface).setCell ⟨Z,3,none⟩ .nilIface).setCell ⟨Z,4,none⟩ (.int .u8 0)).setCell ⟨Z,5,none⟩ (.int .u8 0)).setCell ⟨Z,6,none⟩ (.int .u8 0)).setCell ⟨Z,7,none⟩ (.int .u8 0)).setCell ⟨Z,0,none⟩ (.iface 50 (.pointer (some ⟨R,0,none⟩)))) = y:=⟨_,rfl⟩
 rw [hw1]
 have hb1 : Blk w1 Z #[.iface 50 (.pointer (some ⟨R,0,none⟩)),.iface 151 (.pointer (some ⟨x.F,0,none⟩)),.nilIface,.nilIface,U8 0,U8 0,U8 0,U8 0] 91:=by
  rw [← hw1]
  simpa [U8] using (((((((((HB.out.set 0 .nilIface).set 1 (.iface 151 (.pointer (some ⟨x.F,0,none⟩)))).set 2 .nilIface).set 3 .nilIface).set 4 (.int .u8 0)).set 5 (.int .u8 0)).set 6 (.int .u8 0)).set 7 (.int .u8 0)).set 0 (.iface 50 (.pointer (some ⟨R,0,none⟩))))
 have he1 : Ext (fun k => k = Z) w w1:=by rw [← hw1];exact (((((((((Ext.refl _ w).only _).only _).only _).only _).only _).only _).only _).only _).only _
 have hdr : Ext (fun k => k = Z) w w1.drew:=he1.drew
 have hGd:=HG.out.ext hdr (fun k hk e => hGZ (e ▸ hk))
 obtain ⟨nr,ev,hevv,hrd⟩:=zread_any Z R sb so cap src 0 2 A U _ w1.drew hb1.drew (by rfl) (HS.out.ext hdr (fun e => hZR e.symm) (fun e => hZs e.symm)) hGd.ends hZR hZs (fun h => hGZ (EM_GM h)) (fun h => hGR (EM_GM h)) (by omega) room
 have hc0 : w1.cell? ⟨Z,0,none⟩ = some (.iface 50 (.pointer (some ⟨R,0,none⟩))):=by rw [hb1.cell];rfl
 have HE1:=Lib.hid he1
 clear hw1 k0 k1 k2 k3 k4 k5 k6 k7 hf he1 hdr hGd
 refine z_read2 Z R w1 nr ev hevv _ hc0 hrd (fun w' h => h.cells (by show 3 < 8;decide)) _ _ ?_
 intro u35 u36 u37 u38 u39 u40 u41 u42 u43 u44 u45 u46 u47 u48 u49 w2 h2
 have HE2 : Hid (Ext (fun k => k = Z ∨ k = R) w w2):=Lib.hid (((HE1.out.drew).mono (fun _ _ e => .inl e)).trans h2.2)
 have HG2 : Hid (Glo w2 A hA dA kA U):=Lib.hid (HG.out.ext HE2.out (fun k hk e => by rcases e with e | e;exact hGZ (e ▸ hk);exact hGR (e ▸ hk)))
 have hz0 : (0 : Nat) ≠ Z:=fun e => hGZ (e ▸ .inl (by omega))
 have hz1 : (1 : Nat) ≠ Z:=fun e => hGZ (e ▸ .inl (by omega))
 have hz2 : (2 : Nat) ≠ Z:=fun e => hGZ (e ▸ .inl (by omega))
 have hz4 : (4 : Nat) ≠ Z:=fun e => hGZ (e ▸ .inl (by omega))
 have g0':=HG2.out.eof.cell
 have g1':=HG2.out.hdr.cell
 have g2':=HG2.out.dic.cell
 have g4':=HG2.out.early.cell
 subst hsrc
 rcases h2.1 with ⟨hp,rfl,hs2,hb2⟩ | ⟨hp,_,_,_⟩
 rotate_left
 ·exfalso;simp at hp;omega
 have hb3 : Blk (w2.setCell ⟨Z,3,none⟩ .nilIface) Z #[.iface 50 (.pointer (some ⟨R,0,none⟩)),.iface 151 (.pointer (some ⟨x.F,0,none⟩)),.nilIface,.nilIface,U8 a,U8 b,U8 0,U8 0] 91:=zblk_set (by simpa [splice] using hb2)
 have HS3 : Hid (Src (w2.setCell ⟨Z,3,none⟩ .nilIface) R sb so cap (a::b::c0::c1::c2::c3::s') 2):=Lib.hid ((by simpa using hs2 : Src w2 R sb so cap (a::b::c0::c1::c2::c3::s') 2).ext ((Ext.refl (fun k => k = Z) w2).only _) (fun e => hZR e.symm) (fun e => hZs e.symm))
 have HE3 : Hid (Ext (fun k => k = Z ∨ k = R) w (w2.setCell ⟨Z,3,none⟩ .nilIface)):=Lib.hid (HE2.out.setCell (p:=⟨Z,3,none⟩) (fun _ => .inl rfl) _)
 obtain ⟨w3,hw3⟩ : ∃ y,w2.setCell ⟨Z,3,none⟩ .nilIface = y:=⟨_,rfl⟩
 rw [hw3] at hb3 HS3 HE3 ⊢
 have k3 : w3.cell? ⟨Z,3,none⟩ = some .nilIface:=by rw [hb3.cell];rfl
 have k4 : w3.cell? ⟨Z,4,none⟩ = some (.int .u8 a.toNat):=by rw [hb3.cell];rfl
 have k5 : w3.cell? ⟨Z,5,none⟩ = some (.int .u8 b.toNat):=by rw [hb3.cell];rfl
 have HB3:=Lib.hid hb3
 have hG3 : Glo w3 A hA dA kA U:=HG.out.ext HE3.out (fun k hk e => by rcases e with e | e;exact hGZ (e ▸ hk);exact hGR (e ▸ hk))
 have HG3:=Lib.hid hG3
 clear h2 hs2 hb2 hb3 hc0 hrd hb1 hevv g0' g1' g2' g4' hw3 hG3
 go_upto_region 11 with (fail)
 refine z_num2 Z w3 a.toNat b.toNat a.toNat_lt b.toNat_lt k4 k5 _ _ ?_
 intro u9 u69 u70 u71 u72 u73 u74 w4 hu9 he4
 subst hu9
 have HS4:=Lib.hid (HS3.out.ext he4 (fun e => e) (fun e => e))
 have HE4:=Lib.hid (HE3.out.trans (he4.mono (fun _ _ e => e.elim)))
 have HG4:=Lib.hid (HG3.out.ext he4 (fun _ _ e => e))
 have hb4:=HB3.out.ext he4 (fun e => e)
 have HB4:=Lib.hid hb4
 have q1 : w4.cell? ⟨Z,1,none⟩ = some (.iface 151 (.pointer (some ⟨x.F,0,none⟩))):=by rw [hb4.cell];rfl
 have q2 : w4.cell? ⟨Z,2,none⟩ = some .nilIface:=by rw [hb4.cell];rfl
 have q0 : w4.cell? ⟨Z,0,none⟩ = some (.iface 50 (.pointer (some ⟨R,0,none⟩))):=by rw [hb4.cell];rfl
 have q3:=he4.cellSome (fun e => e) k3
 have q4:=he4.cellSome (fun e => e) k4
 have q5:=he4.cellSome (fun e => e) k5
 have hf4:=hb4.free
 have gg1:=HG4.out.hdr.cell
 obtain ⟨ta,hta'⟩ : ∃ y,a.toNat = y:=⟨_,rfl⟩
 obtain ⟨tb,htb'⟩ : ∃ y,b.toNat = y:=⟨_,rfl⟩
 have hla : ta < 256:=by rw [← hta'];exact a.toNat_lt
 have hlb : tb < 256:=by rw [← htb'];exact b.toNat_lt
 rw [hta'] at q4 ⊢
 rw [htb'] at q5 ⊢
 have HTA:=Lib.hid hta';have HTB:=Lib.hid htb'
 have l4:=u8_low4 ta hla
 have l5:=u8_bit5 tb hlb
 obtain ⟨m1,hm1⟩ : ∃ y,ta % 16 = y:=⟨_,rfl⟩
 obtain ⟨m2,hm2⟩ : ∃ y,ta / 16 = y:=⟨_,rfl⟩
 obtain ⟨m3,hm3⟩ : ∃ y,(256 * ta + tb) % 31 = y:=⟨_,rfl⟩
 obtain ⟨m4,hm4⟩ : ∃ y,256 * ta + tb = y:=⟨_,rfl⟩
 rw [hm4] at hm3 ⊢
 rw [hm1] at l4
 have e2 : (ta : Int) / 16 = (m2 : Int):=by omega
 have e3 : (m4 : Int) % 31 = (m3 : Int):=by omega
 have HM1:=Lib.hid hm1;have HM2:=Lib.hid hm2;have HM3:=Lib.hid hm3;have HM4:=Lib.hid hm4
 clear hta' htb' hm1 hm2 hm3 hm4 he4 hb4 k3 k4 k5
 have hg:=hgood
 unfold zgood at hg
 rw [HTA.out,HTB.out] at hg
 obtain ⟨x1,x2,x3⟩:=hg
 have d1 : ((m1 : Int) != 8) = false:=by have:=HM1.out;simp;omega
 have d2 : ¬ ((7 : Int) < (m2 : Int)):=by have:=HM2.out;omega
 have d3 : ((m3 : Int) != 0) = false:=by have:=HM3.out;have:=HM4.out;simp;omega
 clear x1 x2 x3
 have hfd':=hfd
 unfold fdict at hfd'
 rw [HTB.out] at hfd'
 obtain ⟨m5,hm5⟩ : ∃ y,32 * (tb / 32 % 2) = y:=⟨_,rfl⟩
 rw [hm5] at l5
 have d4 : ((m5 : Int) != 0) = true:=by simp;omega
 clear hm5 hfd'
 have hsrc4 : Src w4 R sb so cap (a::b::c0::c1::c2::c3::s') 2:=HS4.out
 have hGd:=HG4.out.ext (M:=fun _ => False) (Ext.refl _ w4).drew (fun _ _ e => e)
 obtain ⟨nr4,ev4,hevv4,hrd4⟩:=zread_any Z R sb so cap (a::b::c0::c1::c2::c3::s') 2 4 A U _ w4.drew HB4.out.drew (by rfl) (hsrc4.ext ((Ext.refl (fun _ => False) w4).drew) (fun e => e) (fun e => e)) hGd.ends hZR hZs (fun h => hGZ (EM_GM h)) (fun h => hGR (EM_GM h)) (by omega) room
 clear hsrc4 hGd gg1
 go_upto_region 17 with (fail)
 refine z_read4 Z R w4 nr4 ev4 hevv4 _ q0 hrd4 (fun w' h => h.cells (by show 3 < 8;decide)) _ _ _ ?_
 intro u112 u113 u114 u115 u116 u117 u118 u119 u120 u121 u122 u123 u124 u125 u126 w5 h5
 have HE5 : Hid (Ext (fun k => k = Z ∨ k = R) w w5):=Lib.hid (HE4.out.trans (((Ext.refl _ w4).drew).trans h5.2))
 have HG5 : Hid (Glo w5 A hA dA kA U):=Lib.hid (HG.out.ext HE5.out (fun k hk e => by rcases e with e | e;exact hGZ (e ▸ hk);exact hGR (e ▸ hk)))
 rcases h5.1 with ⟨hp4,rfl,hs5,hb5⟩ | ⟨hp4,_,_,_⟩
 rotate_left
 ·exfalso;simp at hp4;omega
 have hb6 : Blk (w5.setCell ⟨Z,3,none⟩ .nilIface) Z #[.iface 50 (.pointer (some ⟨R,0,none⟩)),.iface 151 (.pointer (some ⟨x.F,0,none⟩)),.nilIface,.nilIface,U8 c0,U8 c1,U8 c2,U8 c3] 91:=zblk_set (by simpa [splice] using hb5)
 have HS6 : Hid (Src (w5.setCell ⟨Z,3,none⟩ .nilIface) R sb so cap (a::b::c0::c1::c2::c3::s') 6):=Lib.hid (hs5.ext ((Ext.refl (fun k => k = Z) w5).only _) (fun e => hZR e.symm) (fun e => hZs e.symm))
 have HE6 : Hid (Ext (fun k => k = Z ∨ k = R) w (w5.setCell ⟨Z,3,none⟩ .nilIface)):=Lib.hid (HE5.out.setCell (p:=⟨Z,3,none⟩) (fun _ => .inl rfl) _)
 have hG6 : Glo (w5.setCell ⟨Z,3,none⟩ .nilIface) A hA dA kA U:=HG5.out.ext (M:=fun k => k = Z) ((Ext.refl _ w5).only _) (fun k hk e => hGZ (e ▸ hk))
 have HG6:=Lib.hid hG6
 obtain ⟨w6,hw6⟩ : ∃ y,w5.setCell ⟨Z,3,none⟩ .nilIface = y:=⟨_,rfl⟩
 rw [hw6] at hb6 HS6 HE6 HG6 ⊢
 have HB6:=Lib.hid hb6
 have k3 : w6.cell? ⟨Z,3,none⟩ = some .nilIface:=by rw [hb6.cell];rfl
 have k4 : w6.cell? ⟨Z,4,none⟩ = some (.int .u8 c0.toNat):=by rw [hb6.cell];rfl
 have k5 : w6.cell? ⟨Z,5,none⟩ = some (.int .u8 c1.toNat):=by rw [hb6.cell];rfl
 have k6 : w6.cell? ⟨Z,6,none⟩ = some (.int .u8 c2.toNat):=by rw [hb6.cell];rfl
 have k7 : w6.cell? ⟨Z,7,none⟩ = some (.int .u8 c3.toNat):=by rw [hb6.cell];rfl
 clear h5 hs5 hb5 hb6 hrd4 hevv4 hG6 hw6 q0 q1 q2 q3 q4 q5 hf4
 go_upto_region 22 with (fail)
 refine z_num4 Z w6 c0.toNat c1.toNat c2.toNat c3.toNat c0.toNat_lt c1.toNat_lt c2.toNat_lt c3.toNat_lt k4 k5 k6 k7 _ _ _ ?_
 intro u11 u146 u147 u148 u149 u150 u151 w7 hu11 he7
 subst hu11
 obtain ⟨N,hN⟩ : ∃ y,16777216 * c0.toNat + 65536 * c1.toNat + 256 * c2.toNat + c3.toNat = y:=⟨_,rfl⟩
 rw [hN]
 have HN : Hid (num4 c0 c1 c2 c3 = N):=Lib.hid hN
 have HE7:=Lib.hid (HE6.out.trans (he7.mono (fun _ _ e => e.elim)))
 have HCK:=Lib.hid (checksum_any D v w7 hD (HV.out.ext HE7.out (fun b hb e => by rcases e with e | e;exact (HVS.out b hb).2.1 e;exact (HVS.out b hb).2.2.1 e)))
 have HS7:=Lib.hid (HS6.out.ext he7 (fun e => e) (fun e => e))
 have HG7:=Lib.hid (HG6.out.ext he7 (fun _ _ e => e))
 have HB7:=Lib.hid (HB6.out.ext he7 (fun e => e))
 clear hN k3 k4 k5 k6 k7 he7
 go_wp2_with fail
 refine HCK.out.mono ?_
 rintro e w8 ⟨rfl,he8⟩
 have HE8:=Lib.hid (HE7.out.trans (he8.mono (fun _ _ e => e.elim)))
 have HS8:=Lib.hid (HS7.out.ext he8 (fun e => e) (fun e => e))
 have hG8:=HG7.out.ext he8 (fun _ _ e => e)
 have hb8:=HB7.out.ext he8 (fun e => e)
 have HB8:=Lib.hid hb8
 have gg2:=hG8.dic.cell
 have z0 : w8.cell? ⟨Z,0,none⟩ = some (.iface 50 (.pointer (some ⟨R,0,none⟩))):=by rw [hb8.cell];rfl
 have z1 : w8.cell? ⟨Z,1,none⟩ = some (.iface 151 (.pointer (some ⟨x.F,0,none⟩))):=by rw [hb8.cell];rfl
 have z2 : w8.cell? ⟨Z,2,none⟩ = some .nilIface:=by rw [hb8.cell];rfl
 have z3 : w8.cell? ⟨Z,3,none⟩ = some .nilIface:=by rw [hb8.cell];rfl
 have hf8:=hb8.free
 obtain ⟨AD,hAD⟩ : ∃ y,adler D = y:=⟨_,rfl⟩
 rw [hAD]
 have HAD:=Lib.hid hAD
 clear hAD he8 hb8 hG8
 have hq : N = AD:=by rw [← HN.out,← HAD.out];exact hnum
 have hq1 : ((N : Int) != (AD : Int)) = false:=by simp;omega
 have HQ:=Lib.hid hq
 have he8d : Ext (fun k => k = Z ∨ k = R) w w8.drew:=HE8.out.drew
 have zF : ∀ k,k = x.F ∨ k = x.hb ∨ k = x.Bb ∨ k = x.Cb → ¬ (k = Z ∨ k = R):=fun k hk e => by
  rcases e with e | e
  ·exact hZM (e ▸ hk)
  ·exact hRM (e ▸ hk)
 have hfe8:=HFE.out.ext he8d (zF _ (.inl rfl)) (zF _ (.inr (.inl rfl))) (zF _ (.inr (.inr (.inl rfl)))) (zF _ (.inr (.inr (.inr rfl))))
 obtain ⟨hs,wr,rd,fu,hdd⟩:=hfe8.dd
 have HFR:=Lib.hid (freset_any x.F R x.Bb x.Cb x.hb c hs wr rd fu v D w8.drew hfe8.sz hdd.blk hfe8.nob hfe8.bp hfe8.cp hdd hfe8.bb hfe8.cb ap.FB ap.FC ap.hB ap.hC (HV.out.ext he8d (fun b hb e => by rcases e with e | e;exact (HVS.out b hb).2.1 e;exact (HVS.out b hb).2.2.1 e)) hD (fun b hb => ⟨(HVS.out b hb).2.2.2.1,(HVS.out b hb).2.2.2.2⟩))
 clear hq he8d zF hfe8 hdd gg2 z2 z3 hf8
 go_upto_region 30 with (fail)
 refine z_freset Z R x.F v w8 z0 z1 (fun w' => ∃ c' hs' wr' full',FreshR w' x.F R x.Bb x.Cb x.hb c' hs' wr' full' D ∧ Ext (fun k => k = x.F ∨ k = x.hb) w8.drew w') (HFR.out.mono (fun e w' ⟨c',hs',wr',full',h1,h2,h3⟩ => ⟨h1,c',hs',wr',full',h2,h3⟩)) _ _ ?_
 rintro u187 u188 u189 u190 u191 u192 u193 u194 u195 u196 u197 u198 u199 w9 ⟨c',hs',wr',full',hfr,he9⟩
 have he89 : Ext (fun k => k = x.F ∨ k = x.hb) w8 w9:=(Ext.refl _ w8).drew.trans he9
 have hb9:=HB8.out.ext he89 (fun e => by rcases e with e | e;exact hZM (.inl e);exact hZM (.inr (.inl e)))
 have HDN:=Lib.hid (digest_new w9)
 have HB9:=Lib.hid hb9;have HE89:=Lib.hid he89;have HFS:=Lib.hid hfr
 clear he9 hb9 he89 hfr z0 z1
 go_wp2_with fail
 refine HDN.out.mono ?_
 rintro e wA ⟨G,rfl,hGl,hGb,heA⟩
 have hbA:=HB9.out.ext heA (fun e => e)
 have u2' : wA.cell? ⟨Z,2,none⟩ = some .nilIface:=by rw [hbA.cell];rfl
 have hfA:=hbA.free
 have hZl:=HB9.out.lt
 have hEz9 : Ext (fun k => k = Z) w9 (wA.setCell ⟨Z,2,none⟩ (.iface 153 (.pointer (some ⟨G,0,none⟩)))):=(heA.mono (fun _ _ e => e.elim)).only _
 have hnZ : ∀ k,k = x.F ∨ k = x.hb ∨ k = x.Bb ∨ k = x.Cb → k ≠ Z:=fun k hk e => hZM (e ▸ hk)
 have hS9:=HS8.out.ext HE89.out (fun e => by rcases e with e | e;exact hRM (.inl e);exact hRM (.inr (.inl e))) (fun e => by rcases e with e | e;exact hsM (.inl e);exact hsM (.inr e))
 have hEND:=Lib.hid (show Ending.returned Value.nilIface = .returned .nilIface ∧ ∃ G' c' hs wr full,ZNew (wA.setCell ⟨Z,2,none⟩ (.iface 153 (.pointer (some ⟨G,0,none⟩)))) Z R sb so cap (a::b::c0::c1::c2::c3::s') 6 x.F x.Bb x.Cb x.hb G' c' hs wr full D ∧ w.heap.size ≤ G' ∧ Ext (fun k => k = Z ∨ k = R ∨ k = x.F ∨ k = x.hb) w (wA.setCell ⟨Z,2,none⟩ (.iface 153 (.pointer (some ⟨G,0,none⟩)))) from
  ⟨rfl,G,c',hs',wr',full',⟨⟨c0,c1,c2,c3,zblk_set2 hbA⟩,hGb.setOther _ _ (by simp;omega),hS9.ext hEz9 (fun e => hZR e.symm) (fun e => hZs e.symm),HFS.out.ext hEz9 (hnZ _ (.inl rfl)) (hnZ _ (.inr (.inr (.inl rfl)))) (hnZ _ (.inr (.inr (.inr rfl)))) (hnZ _ (.inr (.inl rfl)))⟩,by have:=HE8.out.size;have:=HE89.out.size;omega,
   ((HE8.out.mono (fun k _ e => by rcases e with e | e;exact .inl e;exact .inr (.inl e))).trans (HE89.out.mono (fun k _ e => .inr (.inr e)))).trans (hEz9.mono (fun k _ e => .inl e))⟩)
 clear hbA hEz9 hGb heA hS9 hnZ
 go_wp2_with fail
 go_ret
 exact ⟨rfl,hEND.out.2⟩
end Go.Proofs.YthpapbilhjobnaaGreatDoor
namespace Go.Proofs.YthpapbilhjobnaaGreatDoor
open Go.RowKit Pu
variable {c0 c1 c2 c3 c4 c5 c6 c7 c8 c9 c10 c11 c12 c13 c14 c15 c16 c17 c18 c19 c20 c21 c22 c23 c24 c25 c26 c27 c28 c29 c30 c31 c32 c33 c34 c35 c36 c37 c38 c39 c40 c41 c42 c43 c44 c45 c46 c47 : Value}
noncomputable def reg13 (n : Nat) : Code:=(Tryz.f13.body.bind (regionOf n)).getD .skip
theorem nilAhead_zreset (a : Addr) (w : World) : (nilAhead 319 84 (.pointer (some a)) "Reset").run Tryz.prog w = .ok (some false) w := by kernel_rfl
theorem method_zreset (a : Addr) (w : World) : (method 319 84 (.pointer (some a)) "Reset").run Tryz.prog w = .ok (37, .pointer (some a)) w := by kernel_rfl
set_option maxRecDepth 100000 in
set_option maxHeartbeats 8000000 in
theorem t_reset (Z s2 n2 cap2 R2 : Nat) (v : Value) (w wN : World) (S : World → Prop)
  (hN : Calls Tryz.prog 23 #[.slice (some ⟨s2,0,none⟩) n2 cap2] w.drew fun e w' => e = .returned (.pointer (some ⟨R2,0,none⟩)) ∧ wN = w')
  (hX : Calls Tryz.prog 37 #[.pointer (some ⟨Z,0,none⟩),.iface 50 (.pointer (some ⟨R2,0,none⟩)),v] wN fun e w' => e = .returned .nilIface ∧ S w') (K K2 : Act → World → Prop) (R0 : Ending → World → Prop)
  (hK : ∀ (u9 u23 u24 u25 u26 u27 u28 u29 u30 u31 u32 : Value) (wx : World),u9 = .nilIface → S wx → K ⟨List.toArray (c0::(.slice (some ⟨s2,0,none⟩) n2 cap2)::(v)::c3::c4::c5::c6::c7::(.iface 84 (.pointer (some ⟨Z,0,none⟩)))::u9::c10::c11::c12::c13::c14::c15::c16::c17::c18::c19::c20::c21::c22::u23::u24::u25::u26::u27::u28::u29::u30::u31::u32::c33::c34::c35::c36::c37::c38::c39::c40::c41::c42::c43::c44::c45::c46::c47::[]),[]⟩ wx) :
  Code.wp Tryz.prog (reg13 5) (Exit.then K (Exit.then K2 (bodyPost Tryz.prog Tryz.f13 R0))) ⟨List.toArray (c0::(.slice (some ⟨s2,0,none⟩) n2 cap2)::(v)::c3::c4::c5::c6::c7::(.iface 84 (.pointer (some ⟨Z,0,none⟩)))::c9::c10::c11::c12::c13::c14::c15::c16::c17::c18::c19::c20::c21::c22::c23::c24::c25::c26::c27::c28::c29::c30::c31::c32::c33::c34::c35::c36::c37::c38::c39::c40::c41::c42::c43::c44::c45::c46::c47::[]),[]⟩ w:=by
 have HN:=Lib.hid hN;have HX:=Lib.hid hX;have HK:=Lib.hid hK
 have hta3 : ∀ (a : Addr) (w : World),(Instr.typeAssert (.iface 84 (.pointer (some a))) 45 56 false).run Tryz.prog w = .ok (.iface 84 (.pointer (some a))) w:=fun a w => by kernel_rfl
 have hna:=nilAhead_zreset
 have hm:=method_zreset
 have hmf : ∀ (fn : Fn) (first cap : Array Value) (w : World),(Instr.makeFunc fn first cap).run Tryz.prog w = .ok (.func fn first cap) w:=fun _ _ _ _ => rfl
 clear hN hX hK
 conv => arg 2;whnf
 go_region_with (first
  | (go_at_call 23;refine HN.out.mono ?_;rintro e w1 ⟨rfl,rfl⟩)
  | (go_at_call 37;refine HX.out.mono ?_;rintro e w1 ⟨rfl,hs1⟩;have HS1:=Lib.hid hs1;clear hs1))
 all_goals
  go_wp2_with fail
  exact HK.out _ _ _ _ _ _ _ _ _ _ _ _ rfl HS1.out
theorem zap_again (F R sb so cap hb Bb Cb Z G : Nat) (A hA dA kA U : Addr) (src ext : List UInt8) (n : Nat) (hs : sb < n) (hgl : ∀ k,GM A hA dA kA U k → k < n) (room : src.length ≤ cap)
  (o0 : n ≤ Z) (o1 : Z < F) (o2 : F < Bb) (o3 : Bb < Cb) (o4 : Cb < hb) (o5 : hb < R) (o6 : R < G) : ZAp ⟨F,R,sb,so,cap,hb,Bb,Cb,A,U,src,ext,fun k => k = Z ∨ k = G⟩ Z G hA dA kA:=by
 have hm : ∀ k,GM A hA dA kA U k → ¬ (k = F ∨ k = R ∨ k = hb ∨ k = Bb ∨ k = Cb):=fun k hk e => by
  have:=hgl k hk
  omega
 refine ⟨⟨?_,?_,?_,?_,?_,?_,?_,?_,?_,?_,?_,?_,?_,?_,?_,fun k hk => hm k (EM_GM hk),hm 7 (.inl (by omega)),?_,room⟩,?_,?_,?_,?_,?_,fun e => ?_,fun e => ?_,hm,.inl rfl,.inr rfl⟩
 case refine_22 => have:=hgl _ e;omega
 case refine_23 => have:=hgl _ e;omega
 all_goals first
  | (show (_ : Nat) ≠ _;simp only [];omega)
  | (show ¬ (_ ∨ _);simp only [];omega)
  | omega
theorem Enc.whole_end {dict data : List UInt8} {a b : Nat} {X : List Bool} {bs : List UInt8} (x : Pl) (hx : x.ext = []) (kA : Addr) (L : List UInt8) (c : Array Value) (w : World) (v : Value)
  (hok : L = ((gOf true dict data dict (pkOf bs X) (fourB (adler data))).all.drop (heldOf true dict).length).take L.length) (h : ZWhy2 x (gOf true dict data dict (pkOf bs X) (fourB (adler data))) kA (fourB (adler data)) L ((heldOf true dict).length + L.length) c w v) :
  v = .iface 175 (.pointer (some x.A)) ∧ L = data:=by
 have hheld : heldOf true dict = dictOf true dict:=(dictOf_last true dict).symm
 have e2 : (gOf true dict data dict (pkOf bs X) (fourB (adler data))).all = dictOf true dict ++ data:=by simp only [gOf]
 have e1 : (gOf true dict data dict (pkOf bs X) (fourB (adler data))).e = (dictOf true dict).length:=by simp only [gOf]
 have e3 : (gOf true dict data dict (pkOf bs X) (fourB (adler data))).d = (heldOf true dict).length:=by simp only [gOf]
 have e4 : (gOf true dict data dict (pkOf bs X) (fourB (adler data))).ok = (heldOf true dict = dictOf true dict):=by simp only [gOf]
 rw [e2,hheld,List.drop_left' rfl] at hok
 have hq : (heldOf true dict).length + L.length + (gOf true dict data dict (pkOf bs X) (fourB (adler data))).e = (gOf true dict data dict (pkOf bs X) (fourB (adler data))).all.length + (gOf true dict data dict (pkOf bs X) (fourB (adler data))).d → L = data:=fun hq => by
  rw [e1,e2,e3,List.length_append] at hq
  rw [hok,List.take_of_length_le (by omega)]
 cases h with
 | data z hn => exact absurd (by rw [e4];exact hheld) hn
 | cut hn => exact absurd hx hn
 | sum t0 t1 t2 t3 r hh hqq hn p hp =>
  obtain rfl:=hq hqq
  simp only [fourB,List.cons.injEq] at hh
  obtain ⟨rfl,rfl,rfl,rfl,_⟩:=hh
  exact absurd (num4_four _ (adler_lt L)) hn
 | eof t0 t1 t2 t3 r hh hqq hn he p hs hp => exact ⟨rfl,hq hqq⟩
set_option maxRecDepth 100000 in
set_option maxHeartbeats 16000000 in
theorem unpackTwice_any (s1 cap1 s2 cap2 : Nat) (src1 ext1 : List UInt8) (A hA dA kA U : Addr) (dv : Value) (dict : List UInt8) (data1 data2 : List UInt8) (a1 b1 a2 b2 : Nat) (X1 X2 : List Bool) (bs1 bs2 : List UInt8) (w : World)
  (hE1 : Enc false [] data1 a1 b1 X1 bs1) (hsrc1 : src1 ++ ext1 = (streamOf a1 b1 false [] [] bs1).take ((if false then 6 else 2) + bs1.length) ++ fourB (adler data1)) (h2 : 2 ≤ src1.length) (hE2 : Enc true dict data2 a2 b2 X2 bs2) (hh1 : Held w s1 0 cap1 src1) (hh2 : Held w s2 0 cap2 (streamOf a2 b2 true dict data2 bs2))
  (hG : Given w A hA dA kA U) (hv : Arg w dv dict) (hD : dict.length ≤ 1099511627776) (hd1 : data1.length ≤ 2097152) (hd2 : data2.length ≤ 2097152) (n2 : Nat) (hn2 : (streamOf a2 b2 true dict data2 bs2).length = n2) :
  Calls Tryz.prog 13 #[.slice (some ⟨s1,0,none⟩) src1.length cap1,.slice (some ⟨s2,0,none⟩) n2 cap2,dv] w fun e w' => ∃ vo,e = .returned (.tuple #[vo,.int .i64 0]) ∧ Rd w' vo (data2.map U8) ∧ Ext (fun _ => False) w w':=by
 have HENC1:=Lib.hid hE1;have HENC2:=Lib.hid hE2;have HSRC1:=Lib.hid hsrc1;have HH1:=Lib.hid hh1;have HH2:=Lib.hid hh2;have HG:=Lib.hid hG.glo;have HGL:=Lib.hid hG.low;have HV:=Lib.hid hv;have HD1:=Lib.hid hd1;have HD2:=Lib.hid hd2;have HN2:=Lib.hid hn2;have HDD:=Lib.hid hD
 have room1:=hh1.room
 have hs1l:=hh1.lt
 clear hE1 hE2 hsrc1 hh1 hh2 hG hv hd1 hd2 hn2 hD
 obtain ⟨R1,hR1⟩ : ∃ y,w.heap.size = y:=⟨_,rfl⟩
 obtain ⟨w1,hw1⟩ : ∃ y,w.alloc (.cells #[.slice (some ⟨s1,0,none⟩) src1.length cap1,.int .i64 0,.int .i64 (-1)] 80) = y:=⟨_,rfl⟩
 have he1 : Ext (fun _ => False) w w1:=by rw [← hw1];exact (Ext.refl _ w).alloc _
 have hs1 : w1.heap.size = R1 + 1:=by rw [← hw1,← hR1];simp
 have hS1 : Src w1 R1 s1 0 cap1 src1 0:=⟨by rw [← hw1,← hR1];exact Blk.new w _ _,fun j y hy => he1.cellSome (fun e => e) (HH1.out.cells j y hy),Nat.zero_le _,HH1.out.small,by omega⟩
 have HN1:=Lib.hid (newReader_any (some ⟨s1,0,none⟩) src1.length cap1 w)
 have HZ1:=Lib.hid (znew_none R1 s1 0 cap1 src1 A hA dA kA U w1 hS1 (HG.out.ext he1 (fun _ _ e => e)) (fun k hk => by have:=HGL.out k hk;omega) (by omega) (GM_ne HGL.out (by omega)) room1)
 have HE1:=Lib.hid he1;have HS1:=Lib.hid hs1;have HW1:=Lib.hid hw1;have HR1:=Lib.hid hR1
 clear he1 hs1 hS1 hw1 hR1
 go_enter Tryz.func13,Tryz.ntmps13
 go_wp2_with fail
 refine HN1.out.mono ?_
 rintro e w1' ⟨rfl,hw1'⟩
 rw [HW1.out] at hw1'
 have hw1s:=hw1'.symm
 subst hw1s
 rw [HR1.out]
 go_wp2_with fail
 refine HZ1.out.mono ?_
 intro e w2 hp1
 cases hp1 with
 | err he hw hs hx =>
  exfalso
  obtain ⟨hg,hf⟩:=head_good HENC1.out.head
  have hsrc:=HSRC1.out
  rw [← stream_split a1 b1 false [] data1 bs1,stream_false] at hsrc
  cases hw with
  | short hl => omega
  | header x y s hxx hgx =>
   rw [hxx] at hsrc
   simp only [List.cons_append,List.cons.injEq] at hsrc
   rw [hsrc.1,hsrc.2.1] at hgx
   exact hgx hg
  | shortDict x y s hxx hgx hfx hl =>
   rw [hxx] at hsrc
   simp only [List.cons_append,List.cons.injEq] at hsrc
   rw [hsrc.2.1] at hfx
   have:=hf.1 hfx
   cases this
  | dict x y c0 c1 c2 c3 s hxx hgx hfx hn =>
   rw [hxx] at hsrc
   simp only [List.cons_append,List.cons.injEq] at hsrc
   rw [hsrc.2.1] at hfx
   have:=hf.1 hfx
   cases this
 | ok he hw hz hZ hF h1 h2 h3 h4 hx =>
  rename_i p4 Z F Bb Cb hb G c hs wr full D'
  subst he
  have hE : Ext (fun _ => False) w w2:=HE1.out.trans' hx (fun b hb0 e => by have:=HR1.out;omega)
  have hG4:=HG.out.ext hE (fun _ _ e => e)
  obtain ⟨hDD,hst,_⟩:=HENC1.out.str src1 ext1 (fourB (adler data1)) [] HSRC1.out (by simp [fourB]) p4 D' hw
  have hbd:=gOf_small false [] data1 [] D' (pkOf bs1 X1) (fourB (adler data1)) hDD HD1.out
  have q1:=HS1.out
  have q2:=HR1.out
  have q3:=hE.size
  have za:=zap_of F R1 s1 0 cap1 hb Bb Cb Z G A hA dA kA U src1 ext1 w1.heap.size (by omega) (by omega) (fun k hk => by have:=HGL.out k hk;omega) (by omega) (GM_ne HGL.out (by omega)) room1 hZ hF h1 h2 h3 h4
  obtain ⟨x,hxx⟩ : ∃ y : Pl,(⟨F,R1,s1,0,cap1,hb,Bb,Cb,A,U,src1,ext1,fun k => k = Z ∨ k = G⟩ : Pl) = y:=⟨_,rfl⟩
  rw [hxx] at za
  have xR : x.R = R1:=by rw [← hxx]
  have xsb : x.sb = s1:=by rw [← hxx]
  have xso : x.so = 0:=by rw [← hxx]
  have xcap : x.cap = cap1:=by rw [← hxx]
  have xsrc : x.src = src1:=by rw [← hxx]
  have xext : x.ext = ext1:=by rw [← hxx]
  have xA : x.A = A:=by rw [← hxx]
  have xU : x.U = U:=by rw [← hxx]
  obtain ⟨m4,hzs⟩:=ZNew.start x (gOf false [] data1 [] (pkOf bs1 X1) (fourB (adler data1))) w2 Z G hA dA kA za (by rw [← hxx];exact fun _ h => h) p4 c hs wr full D' (by rw [← hxx];exact hz) (by rw [xA,xU];exact hG4) (pkOf bs1 X1) (dictOf false []).length (fourB (adler data1)) (by rw [xsrc,xext];exact hst)
  have hlow : ∀ k,ZLow x Z G hA dA kA k → k < w2.heap.size:=by
   have l1:=hz.f.dd.blk.lt
   have l2:=hz.f.dd.hblk.lt
   obtain ⟨_,l3⟩:=hz.f.bb
   obtain ⟨_,l4⟩:=hz.f.cb
   have l3:=l3.lt
   have l4:=l4.lt
   have l5:=hz.g.lt
   obtain ⟨_,_,_,_,l6⟩:=hz.z
   have l6:=l6.lt
   have l7:=hz.src.blk.lt
   have l8:=hE.size
   intro k hk
   rw [← hxx] at hk
   rcases hk with (e | e | e | e | e) | e | e | e | e
   ·rw [e];exact l1
   ·rw [e];exact l7
   ·rw [e];exact l2
   ·rw [e];exact l3
   ·rw [e];exact l4
   ·rw [e];show s1 < _;omega
   ·have:=HGL.out k e;omega
   ·rw [e];exact l6
   ·rw [e];exact l5
  have hnotw : ∀ b,b < w.heap.size → ¬ (x.M b ∨ b = Z ∨ b = G):=by
   intro b hb0 hk
   have l8:=hE.size
   rw [← hxx] at hk
   rcases hk with (e | e | e | e | e) | e | e
   ·have e' : b = F:=e;omega
   ·have e' : b = R1:=e;omega
   ·have e' : b = hb:=e;omega
   ·have e' : b = Bb:=e;omega
   ·have e' : b = Cb:=e;omega
   ·omega
   ·omega
  have HZLT:=Lib.hid (hlow Z (.inr (.inr (.inr (.inl rfl)))))
  have HDR:=Lib.hid (drain_any x _ w2 Z G hA dA kA za (pkOf bs1 X1) (fourB (adler data1)) hst.Z hst.pk hst.tl _ m4 [] c hzs (.slice none 0 0) [] (by simp) (by simp) (Rd.nil w2) (fun b hb0 => by cases hb0) hlow hbd)
  have HW:=Lib.hid hw;have HE4:=Lib.hid hE;have HNOT:=Lib.hid hnotw;have HXR:=Lib.hid xR;have HXS:=Lib.hid xsb;have HXO:=Lib.hid xso;have HXC:=Lib.hid xcap;have HXSR:=Lib.hid xsrc;have HXE:=Lib.hid xext;have HXA:=Lib.hid xA;have HXU:=Lib.hid xU
  have hZsb : Z ≠ x.sb:=za.zs
  have hZR : Z ≠ x.R:=fun e => za.zM (.inr (.inl e))
  have hFZ : x.F ≠ Z:=fun e => za.zM (.inl e.symm)
  have HXF:=Lib.hid (show x.F = F ∧ x.hb = hb ∧ x.Bb = Bb ∧ x.Cb = Cb from by rw [← hxx];exact ⟨rfl,rfl,rfl,rfl⟩)
  have HAP:=Lib.hid za.ap
  have HORD:=Lib.hid (show w1.heap.size ≤ Z ∧ Z < F ∧ F < Bb ∧ Bb < Cb ∧ Cb < hb ∧ hb < G from ⟨hZ,hF,h1,h2,h3,h4⟩)
  have HLOW:=Lib.hid hlow
  clear hw hE hnotw hz hZ hF h1 h2 h3 h4 hx hxx xR xsb xso xcap xsrc xext xA xU hlow hzs hst hbd hG4 za q1 q2 q3 hDD
  go_wp2_with fail
  refine HDR.out.mono ?_
  rintro e w5 ⟨vo5,L5,v5,c5,rfl,hown5,hE5,hok5,hzb5,hfe5,hS5,hgl5,hqb5,hwhy5⟩
  rw [HXA.out,HXU.out] at hgl5
  have hE05 : Ext (fun _ => False) w w5:=HE4.out.trans' hE5 (fun b hb0 e => HNOT.out b hb0 e)
  obtain ⟨y0,y1,y2,y3,hzb5⟩:=hzb5
  obtain ⟨xF,xh,xB,xC⟩:=HXF.out
  obtain ⟨o0,o1,o2,o3,o4,o5⟩:=HORD.out
  have z1:=HS1.out
  have z2:=HR1.out
  have z5:=hE5.size
  have zG : G < w2.heap.size:=HLOW.out G (.inr (.inr (.inr (.inr rfl))))
  obtain ⟨R2,hR2⟩ : ∃ y,w5.heap.size = y:=⟨_,rfl⟩
  obtain ⟨wN,hwN⟩ : ∃ y,w5.drew.alloc (.cells #[.slice (some ⟨s2,0,none⟩) n2 cap2,.int .i64 0,.int .i64 (-1)] 80) = y:=⟨_,rfl⟩
  have heN : Ext (fun _ => False) w5 wN:=by rw [← hwN];exact ((Ext.refl _ w5).drew).alloc _
  have hNs : wN.heap.size = R2 + 1:=by rw [← hwN,← hR2];simp
  have hE0N:=hE05.trans heN
  have hh2N:=HH2.out.ext hE0N (fun e => e)
  have hl2:=HH2.out.lt
  have hSN : Src wN R2 s2 0 cap2 (streamOf a2 b2 true dict data2 bs2) 0:=⟨by rw [HN2.out,← hwN,← hR2];exact Blk.new w5.drew _ _,hh2N.cells,Nat.zero_le _,hh2N.small,by omega⟩
  have hgm : ∀ k,GM A hA dA kA U k → k < w.heap.size:=HGL.out
  obtain ⟨hgz,hfz⟩:=head_good HENC2.out.head
  have HZR:=Lib.hid (zreset_again x HAP.out Z R2 s2 0 cap2 (streamOf a2 b2 true dict data2 bs2) A hA dA kA U dv dict wN _ _ _ _ _ _ _ c5 (hzb5.ext heN (fun e => e)) (hfe5.ext heN (fun e => e) (fun e => e) (fun e => e) (fun e => e)) hSN (hgl5.ext heN (fun _ _ e => e)) (HV.out.rd.ext hE0N (fun _ _ e => e)) HDD.out
   (fun b hb0 => by have:=HV.out.low b hb0;rw [xF,xh];omega) (by omega) (by omega) (fun e => by have:=hgm _ e;omega) (fun e => by have:=hgm _ e;omega) hh2N.room (by rw [xF,xh,xB,xC];omega) (by rw [xF,xh,xB,xC];omega) (by rw [xF,xh];omega)
   _ _ _ _ _ _ _ (stream_true a2 b2 dict data2 bs2) hgz (hfz.2 rfl) (num4_four _ (adler_lt dict)))
  have HNN:=Lib.hid ((newReader_any (some ⟨s2,0,none⟩) n2 cap2 w5.drew).mono (R':=fun e w' => e = .returned (.pointer (some ⟨R2,0,none⟩)) ∧ wN = w') (fun e w' ⟨h1,h2⟩ => ⟨by rw [h1];show Ending.returned (.pointer (some ⟨w5.heap.size,0,none⟩)) = _;rw [hR2],by rw [h2,hwN]⟩))
  have HE0N:=Lib.hid hE0N;have HGN:=Lib.hid (hgl5.ext heN (fun _ _ e => e));have HORD2:=Lib.hid (show R1 + 1 ≤ Z ∧ Z < F ∧ F < Bb ∧ Bb < Cb ∧ Cb < hb ∧ hb < R2 ∧ w.heap.size = R1 from ⟨by omega,o1,o2,o3,o4,by omega,z2⟩)
  have HNS:=Lib.hid hNs;have HL2:=Lib.hid hl2;have HR2N:=Lib.hid hh2N.room
  clear hown5 hE5 hok5 hzb5 hfe5 hS5 hgl5 hqb5 hwhy5 hE05 xF xh xB xC o0 o1 o2 o3 o4 o5 z1 z2 z5 zG hR2 hwN heN hNs hE0N hh2N hl2 hSN hgm hgz hfz
  go_upto_region 5 with (fail)
  refine t_reset Z s2 n2 cap2 R2 dv w5 wN _ HNN.out (HZR.out.mono (fun e w' h => ⟨h.1,h.2⟩)) _ _ _ ?_
  rintro u9 u23 u24 u25 u26 u27 u28 u29 u30 u31 u32 w6 hu9 ⟨G2,c6,hs6,wr6,fu6,hz6,hG2,hE6⟩
  subst hu9
  obtain ⟨xF,xh,xB,xC⟩:=HXF.out
  obtain ⟨o0,o1,o2,o3,o4,o5,o6⟩:=HORD2.out
  have hNs:=HNS.out
  have hl2:=HL2.out
  rw [xF,xh,xB,xC] at hz6
  rw [xF,xh] at hE6
  have hgl6 : Glo w6 A hA dA kA U:=HGN.out.ext hE6 (fun k hk e => by have:=HGL.out k hk;omega)
  have za:=zap_again F R2 s2 0 cap2 hb Bb Cb Z G2 A hA dA kA U (streamOf a2 b2 true dict data2 bs2) [] (R1 + 1) (by omega) (fun k hk => by have:=HGL.out k hk;omega) HR2N.out o0 o1 o2 o3 o4 o5 (by omega)
  obtain ⟨x2,hxx⟩ : ∃ y : Pl,(⟨F,R2,s2,0,cap2,hb,Bb,Cb,A,U,streamOf a2 b2 true dict data2 bs2,[],fun k => k = Z ∨ k = G2⟩ : Pl) = y:=⟨_,rfl⟩
  rw [hxx] at za
  have xA : x2.A = A:=by rw [← hxx]
  have xU : x2.U = U:=by rw [← hxx]
  have xext : x2.ext = []:=by rw [← hxx]
  have hZOk : ZOk (streamOf a2 b2 true dict data2 bs2) dict 6 dict:=by
   obtain ⟨hg,hf⟩:=head_good HENC2.out.head
   exact .dict _ _ _ _ _ _ _ (stream_true a2 b2 dict data2 bs2) hg (hf.2 rfl) (num4_four _ (adler_lt dict))
  obtain ⟨_,hst,_⟩:=HENC2.out.str (streamOf a2 b2 true dict data2 bs2) [] (fourB (adler data2)) dict (by rw [List.append_nil];exact stream_split a2 b2 true dict data2 bs2) (by simp [fourB]) 6 dict hZOk
  have hbd:=gOf_small true dict data2 dict dict (pkOf bs2 X2) (fourB (adler data2)) rfl HD2.out
  obtain ⟨m6,hzs⟩:=ZNew.start x2 (gOf true dict data2 dict (pkOf bs2 X2) (fourB (adler data2))) w6 Z G2 hA dA kA za (by rw [← hxx];exact fun _ h => h) 6 c6 hs6 wr6 fu6 dict (by rw [← hxx];exact hz6) (by rw [xA,xU];exact hgl6) (pkOf bs2 X2) (dictOf true dict).length (fourB (adler data2)) (by rw [← hxx];exact hst)
  have hlow : ∀ k,ZLow x2 Z G2 hA dA kA k → k < w6.heap.size:=by
   have l1:=hz6.f.dd.blk.lt
   have l2:=hz6.f.dd.hblk.lt
   obtain ⟨_,l3⟩:=hz6.f.bb
   obtain ⟨_,l4⟩:=hz6.f.cb
   have l3:=l3.lt
   have l4:=l4.lt
   have l5:=hz6.g.lt
   obtain ⟨_,_,_,_,l6⟩:=hz6.z
   have l6:=l6.lt
   have l7:=hz6.src.blk.lt
   have l8:=hE6.size
   intro k hk
   rw [← hxx] at hk
   rcases hk with (e | e | e | e | e) | e | e | e | e
   ·rw [e];exact l1
   ·rw [e];exact l7
   ·rw [e];exact l2
   ·rw [e];exact l3
   ·rw [e];exact l4
   ·rw [e];show s2 < _;omega
   ·have:=HGL.out k e;omega
   ·rw [e];exact l6
   ·rw [e];exact l5
  have hnotw : ∀ b,b < w.heap.size → ¬ (x2.M b ∨ b = Z ∨ b = G2):=by
   intro b hb0 hk
   rw [← hxx] at hk
   rcases hk with (e | e | e | e | e) | e | e
   ·have e' : b = F:=e;omega
   ·have e' : b = R2:=e;omega
   ·have e' : b = hb:=e;omega
   ·have e' : b = Bb:=e;omega
   ·have e' : b = Cb:=e;omega
   ·omega
   ·omega
  have hE06 : Ext (fun _ => False) w w6:=HE0N.out.trans' hE6 (fun b hb0 e => by omega)
  have HDR2:=Lib.hid (drain_any x2 _ w6 Z G2 hA dA kA za (pkOf bs2 X2) (fourB (adler data2)) hst.Z hst.pk hst.tl _ m6 [] c6 hzs (.slice none 0 0) [] (by simp) (by simp) (Rd.nil w6) (fun b hb0 => by cases hb0) hlow hbd)
  have HE06:=Lib.hid hE06;have HNOT2:=Lib.hid hnotw;have HXA2:=Lib.hid xA;have HXU2:=Lib.hid xU;have HXE2:=Lib.hid xext
  clear xF xh xB xC o0 o1 o2 o3 o4 o5 o6 hNs hl2 hz6 hE6 hgl6 za hxx xA xU xext hZOk hst hbd hzs hlow hnotw hE06 hG2
  go_wp2_with fail
  refine HDR2.out.mono ?_
  rintro e w7 ⟨vo,L,v7,c7,rfl,hown7,hE7,hok7,hzb7,hfe7,hS7,hgl7,hqb7,hwhy7⟩
  rw [HXA2.out,HXU2.out] at hgl7
  have hok7':=hok7 (by simp only [gOf];exact (dictOf_last true dict).symm) HXE2.out
  have e9 : lastOf dict = heldOf true dict:=by rw [held_def];rfl
  rw [e9] at hok7' hwhy7
  obtain ⟨rfl,rfl⟩:=Enc.whole_end (a:=a2) (b:=b2) x2 HXE2.out kA L c7 w7 v7 hok7' hwhy7
  rw [HXA2.out]
  obtain ⟨ci,hci,hcmp⟩:=Option.map_eq_some_iff.1 Tryz.comp175
  obtain ⟨cj,hcj,hcs⟩:=Option.map_eq_some_iff.1 Tryz.size204
  have heq:=run_eql_iface_ptr_same (P:=Tryz.prog) w7 A Tryz.underlying47 Tryz.underlying175 hci hcmp hcj
  have g0:=hgl7.eof.cell
  have HF:=Lib.hid (fault_any A hA dA kA U w7 hgl7 .nilIface 0 .none)
  have HEND:=Lib.hid (show Rd w7 vo (L.map U8) ∧ Ext (fun _ => False) w w7 from ⟨Rd.of_owns hown7,HE06.out.trans' hE7 (fun b hb0 e => HNOT2.out b hb0 e)⟩)
  clear hown7 hE7 hok7 hzb7 hfe7 hS7 hgl7 hqb7 hwhy7 hok7' e9 hci hcmp hcj hcs
  go_wp2_with fail
  refine HF.out.mono ?_
  rintro e w8 ⟨rfl,rfl⟩
  go_wp2_with fail
  go_ret2
  exact ⟨_,rfl,HEND.out.1,HEND.out.2⟩
end Go.Proofs.YthpapbilhjobnaaGreatDoor
namespace Go.Proofs.YthpapbilhjobnaaGreatDoor
open Go.RowKit Pu
theorem cut_in (x : Int) (n m : Nat) (hm : n = m + 1) (hm0 : 0 < m) (hb : n ≤ 1099511627776) : ∃ k : Nat,(wrap64 (wrap64 (x.tmod (m : Int) + (n : Int)) - 1)).tmod (m : Int) = (k : Int) ∧ k < m ∧ wrap64 (2 + (k : Int)) = ((k + 2 : Nat) : Int):=by
 have h1:=Int.tmod_lt_of_pos x (show (0 : Int) < (m : Int) by omega)
 have h2 : -(m : Int) < x.tmod (m : Int):=Int.lt_tmod_of_pos x (by omega)
 have e1 : wrap64 (x.tmod (m : Int) + (n : Int)) = x.tmod (m : Int) + (n : Int):=IntWalk.wrap64_in _ ⟨by omega,by omega⟩
 rw [e1]
 have e2 : wrap64 (x.tmod (m : Int) + (n : Int) - 1) = x.tmod (m : Int) + (n : Int) - 1:=IntWalk.wrap64_in _ ⟨by omega,by omega⟩
 rw [e2]
 have h3 : 0 ≤ (x.tmod (m : Int) + (n : Int) - 1).tmod (m : Int):=Int.tmod_nonneg _ (by omega)
 have h4:=Int.tmod_lt_of_pos (x.tmod (m : Int) + (n : Int) - 1) (show (0 : Int) < (m : Int) by omega)
 obtain ⟨k,hk⟩:=Int.eq_ofNat_of_zero_le h3
 rw [hk] at h4 ⊢
 refine ⟨k,rfl,by omega,?_⟩
 rw [IntWalk.wrap64_in _ ⟨by omega,by omega⟩]
 omega
set_option maxRecDepth 100000 in
set_option maxHeartbeats 16000000 in
theorem fnReaderAgain_core (dv mv fv wv : Value) (x : Int) (data more dict : List UInt8) (zs : List Int) (w : World) (A hA dA kA U : Addr) (hG : Given w A hA dA kA U) (hd : Arg w dv data) (hmr : Arg w mv more) (hf : Arg w fv dict) (hw : Num w wv zs) (hwf : (Lit.int .i64 x).wf = true) (hsz : data.length + more.length + dict.length ≤ 2097152) :
  Calls Tryz.prog 3 #[dv,mv,fv,wv,.int .i64 x] w (True1 w):=by
 have HZ:=Lib.hid (zlib_any dv (.slice none 0 0) wv false 7 1 data [] zs w hd.rd (Rd.nil w) hw.rd hw.len (by simp;omega) hw.low)
 have HG:=Lib.hid hG;have HM0:=Lib.hid hmr;have HF:=Lib.hid hf;have HW:=Lib.hid hw;have HSZ:=Lib.hid hsz
 clear hG hd hmr hf hw hsz hwf
 go_enter Tryz.func3,Tryz.ntmps3
 go_wp2_with fail
 refine HZ.out.mono ?_
 intro e w1 hp
 obtain ⟨a,b,X,bs,g,cap,rfl,hM⟩:=hp.made
 obtain ⟨n,hn⟩ : ∃ n,(streamOf a b false [] data bs).length = n:=⟨_,rfl⟩
 have hnl:=stream_len a b false [] data bs
 simp only [Bool.false_eq_true,if_false] at hnl
 have hnb : n ≤ 1099511627776:=by rw [← hn];exact hM.held.1.small
 obtain ⟨m,hm⟩ : ∃ m,n = m + 1:=⟨n - 1,by omega⟩
 obtain ⟨k,hk,hkm,hk2⟩:=cut_in x n m hm (by omega) hnb
 have hcap:=hM.held.1.room
 rw [hn] at hcap ⊢
 have hnm : (n : Int) - 1 = (m : Int):=by omega
 have hm0 : ¬ (m : Int) = 0:=by omega
 have hk2c : k + 2 ≤ cap:=by omega
 have hk2ci : ((k + 2 : Nat) : Int) ≤ (cap : Int):=by omega
 have hnbi : (n : Int) ≤ 1099511627776:=by omega
 have hmbi : (m : Int) < 1099511627776:=by omega
 have hmpi : (0 : Int) < (m : Int):=by omega
 have hv1 : wrap64 ((n : Int) - 1) = (m : Int):=by rw [hnm];exact IntWalk.wrap64_in _ ⟨by omega,by omega⟩
 have HZ2:=Lib.hid (zlib_any mv fv wv true 7 1 more dict zs w1 (HM0.out.ext hM.ext).rd (HF.out.ext hM.ext).rd (HW.out.ext hM.ext).rd HW.out.len (by have:=HSZ.out;omega) (HW.out.ext hM.ext).low)
 have HM:=Lib.hid hM;have HN:=Lib.hid hn;have HMM:=Lib.hid hm;have HKM:=Lib.hid hkm
 clear hp hM hn hnl hm hkm hcap
 obtain ⟨k2,hk22⟩ : ∃ y,k + 2 = y:=⟨_,rfl⟩
 rw [hk22] at hk2 hk2c hk2ci
 have HK2:=Lib.hid hk22
 clear hk22
 go_wp2_with fail
 refine HZ2.out.mono ?_
 intro e w2 hp
 obtain ⟨a2,b2,X2,bs2,g2,cap2,rfl,hM2⟩:=hp.made
 obtain ⟨n2,hn2⟩ : ∃ n,(streamOf a2 b2 true dict more bs2).length = n:=⟨_,rfl⟩
 rw [hn2]
 have hE2:=HM.out.ext.trans hM2.ext
 have hkn : k2 ≤ n:=by have:=HK2.out;have:=HKM.out;have:=HMM.out;omega
 have hlen : ((streamOf a b false [] data bs).take k2).length = k2:=by rw [List.length_take,HN.out];omega
 have hh1 : Held w2 g 0 cap ((streamOf a b false [] data bs).take k2):=by
  have h1:=HM.out.held.1.ext hM2.ext (fun e => e)
  exact ⟨fun j y hy => h1.cells j y (by
    rw [List.getElem?_map,List.getElem?_take] at hy
    split at hy
    ·rw [List.getElem?_map];exact hy
    ·cases hy),by rw [hlen];omega,by rw [hlen];exact hk2c,h1.lt⟩
 have hT:=unpackTwice_any g cap g2 cap2 ((streamOf a b false [] data bs).take k2) ((streamOf a b false [] data bs).drop k2) A hA dA kA U fv dict data more a b a2 b2 X X2 bs bs2 w2 HM.out.enc (by rw [List.take_append_drop];exact stream_split a b false [] data bs) (by rw [hlen];have:=HK2.out;omega) hM2.enc hh1 hM2.held.1 (HG.out.ext hE2) (HF.out.ext hE2) (by have:=HSZ.out;omega) (by have:=HSZ.out;omega) (by have:=HSZ.out;omega) n2 hn2
 rw [hlen] at hT
 have HT:=Lib.hid hT;have HE2:=Lib.hid hE2
 clear hp hM2 hn2 hE2 hkn hlen hh1 hT
 go_wp2_with fail
 refine HT.out.mono ?_
 rintro e w3 ⟨vo,rfl,hr,he3⟩
 have hE3:=HE2.out.trans he3
 have HS:=Lib.hid (same_any vo mv more w3 hr ((HM0.out.ext hE3).rd))
 have HZ3:=Lib.hid (zlib_any mv (.slice none 0 0) wv false 7 1 more [] zs w3 (HM0.out.ext hE3).rd (Rd.nil w3) (HW.out.ext hE3).rd HW.out.len (by have:=HSZ.out;simp;omega) (HW.out.ext hE3).low)
 have HE3:=Lib.hid hE3
 clear hr he3 hE3
 go_wp2_with fail
 refine HS.out.mono ?_
 rintro e w4 ⟨rfl,rfl⟩
 go_wp2_with fail
 refine HZ3.out.mono ?_
 intro e w4 hp4
 obtain ⟨a4,b4,X4,bs4,g4,cap4,rfl,hM4⟩:=hp4.made
 obtain ⟨n4,hn4⟩ : ∃ n,(streamOf a4 b4 false [] more bs4).length = n:=⟨_,rfl⟩
 rw [hn4]
 have hE4:=HE3.out.trans hM4.ext
 have HR:=Lib.hid (reads_made hM4 w4 (Ext.refl _ _) A hA dA kA U (HG.out.ext hE4) (.slice none 0 0) [] false (Arg.nil w4) (by simp) (fun h => by cases h) mv (HM0.out.ext hE4) (by have:=HSZ.out;omega) n4 hn4)
 have HE4:=Lib.hid hE4
 clear hp4 hM4 hn4 hE4
 go_wp2_with fail
 refine HR.out.mono ?_
 rintro e w5 ⟨rfl,he5⟩
 have HE5:=Lib.hid (HE4.out.trans he5)
 clear he5
 go_wp2_with fail
 go_ret
 exact ⟨rfl,HE5.out⟩
end Go.Proofs.YthpapbilhjobnaaGreatDoor
namespace Go.Proofs.YthpapbilhjobnaaGreatDoor.fnReaderAgain
open Go.ChangeShapes Go.WideShapes Go.ChangeAt Go.RowKit
set_option maxRecDepth 100000 in
theorem contract (H : Type) (enc : TypeId × Value → H) (W : World) (base : Nat) (args : Array Value) (ds gs : List (DataW H)) (before : List MemPlace)
  (hval : ∀ (j : Nat) t v,Tryz.f3.params[j]? = some t → args[j]? = some v → Value.okWide Tryz.prog W .any base t v)
  (hW : DataW.Whole enc Tryz.prog Tryz.f3.params.toList Rows.fnReaderAgainSpec.vars false W args.toList ds gs before) (hk : Rows.uptoSmall H (ds ++ gs) = true) (hL : laidMetH Tryz.prog Rows.fnReaderAgainUptoRow.laid W) :
  Calls Tryz.prog 3 args W fun e W' => ∃ v,e = .returned v ∧ Rows.fnReaderAgainSpec.post enc Tryz.prog Tryz.f3 false true false false W args v W':=by
 have hW':=hW
 have hbk:=bulk_bound hk
 obtain ⟨p,q,hA0,hV,rfl,hfz,hnd⟩:=hW
 have hA1 : DataW.TrodAll enc Tryz.prog W 0 (fun _ => true) true Tryz.f3.params.toList args.toList ds p:=hA0
 rw [Tryz.params3] at hA1 hval
 obtain ⟨v0,vs0,d0,ds0,p0,q0,hargs,rfl,rfl,h0,r0⟩:=trodAll_cons hA1
 obtain ⟨v1,vs1,d1,ds1,p1,q1,rfl,rfl,rfl,h1,r1⟩:=trodAll_cons r0
 obtain ⟨v2,vs2,d2,ds2,p2,q2,rfl,rfl,rfl,h2,r2⟩:=trodAll_cons r1
 obtain ⟨v3,vs3,d3,ds3,p3,q3,rfl,rfl,rfl,h3,r3⟩:=trodAll_cons r2
 obtain ⟨v4,vs4,d4,ds4,p4,q4,rfl,rfl,rfl,h4,r4⟩:=trodAll_cons r3
 obtain ⟨rfl,rfl,rfl⟩:=trodAll_nil r4
 obtain rfl : args = #[v0,v1,v2,v3,v4]:=by cases args;simp_all
 obtain ⟨rfl,rfl⟩:=trodVars_none hV
 simp only [List.append_nil,Rows.uptoBulkAll] at hbk
 obtain ⟨l0,a0,b0⟩:=arg_bytes (hval 0 22 v0 rfl rfl) h0
 obtain ⟨l1,a1,b1⟩:=arg_bytes (hval 1 22 v1 rfl rfl) h1
 obtain ⟨l2,a2,b2⟩:=arg_bytes (hval 2 22 v2 rfl rfl) h2
 obtain ⟨z3,a3⟩:=arg_nums (hval 3 23 v3 rfl rfl) h3 (by omega)
 obtain ⟨x4,rfl,rfl,rfl,w4⟩:=open_int Tryz.underlying3 (hval 4 3 v4 rfl rfl) h4
 obtain ⟨A,hA,dA,kA,U,hG⟩:=given_of_laid (W:=W) hL
 refine (fnReaderAgain_core v0 v1 v2 v3 x4 l0 l1 l2 z3 W A hA dA kA U hG a0 a1 a2 a3 w4 (by omega)).mono fun e W' ⟨he,hx⟩ => ?_
 subst he
 exact ⟨_,rfl,post_true hW' hx (by kernel_rfl) rfl rfl (by rw [Tryz.params3];decide +kernel)⟩
set_option maxRecDepth 100000 in
theorem reads (os : Os) {H : Type} (enc : TypeId × Value → H) : ∃ places,DataW.whole enc Tryz.prog ((laidWorld os).forCall (fun _ _ => 0) ⟨#[],#[.slice none 0 0,.slice none 0 0,.slice none 0 0,.slice none 0 0,.int .i64 0],[]⟩).memory Tryz.f3.params.toList Rows.fnReaderAgainSpec.vars false (#[.slice none 0 0,.slice none 0 0,.slice none 0 0,.slice none 0 0,.int .i64 0] : Array Value).toList 8 = some ([.nil,.nil,.nil,.nil,.lit (.int .i64 0)],[],places) :=
 ⟨[],by kernel_rfl⟩
set_option maxRecDepth 100000 in
theorem liftedUpto (os : Os) (started : os.Started) (H : Type) (enc : TypeId × Value → H) (F : Stop.Interp) :
  ReturnsInHanded {} Tryz.checked os 3 .any ((Rows.OpenSpec.upto Rows.fnReaderAgainSpec).preRow enc Tryz.prog Tryz.f3 Rows.fnReaderAgainUptoRow.domain false Rows.fnReaderAgainUptoRow.laid) (((Rows.OpenSpec.upto Rows.fnReaderAgainSpec).at F).post enc Tryz.prog Tryz.f3 false true false false):=by
 obtain ⟨places,hx⟩:=reads os enc
 refine returnsInHanded_of_row (C:=Tryz.checked) (s:=Rows.OpenSpec.upto Rows.fnReaderAgainSpec) own started (by kernel_rfl) Tryz.func3
  (witness_row_atRef (enc:=enc) (C:=Tryz.checked) false (laidWorld os) #[.slice none 0 0,.slice none 0 0,.slice none 0 0,.slice none 0 0,.int .i64 0] rfl (by kernel_rfl) (by kernel_rfl) (by kernel_rfl)
    (OpenSpec.preRow_of_cond 8 hx (by kernel_rfl) (fun k hk => by cases hk;kernel_rfl) (by kernel_rfl) (laid_met os _))) ?_
 intro W base args ds gs before hval hW _ hcond _ hL _ _
 exact contract H enc W base args ds gs before hval hW (hcond _ rfl) hL
set_option maxRecDepth 100000 in
theorem saidUpto : Rows.FnReaderAgainUptoSaid :=
 OpenClaim.holds_of_cond 3 Tryz.f3 rfl rfl rfl rfl rfl rfl rfl ⟨rfl,rfl,rfl,rfl,rfl⟩ rfl rfl rfl rfl rfl (by kernel_rfl) Tryz.func3 (by kernel_rfl)
  (of_decide_eq_true (by kernel_rfl)) (by unfold Func.isWrapper;first | (rw [if_pos (by decide +kernel)];kernel_rfl) | (rw [if_neg (by decide +kernel)];exact ⟨rfl,rfl⟩))
  (fun os started H enc _ F => by rw [OpenClaim.pre_eq_preRow];exact liftedUpto os started H enc F)
set_option maxRecDepth 100000 in
theorem plain (f : FuncId) (fn : Func) (hf : Tryz.pinned.checked.prog.funcNamed "cratestrap/laws.FnReaderAgain" = some f) (hfn : Tryz.pinned.checked.prog.funcs[f]? = some fn) :
  true = Tryz.pinned.checked.prog.looks [] ∧ ∀ (j : Nat) t,fn.params[j]? = some t → Tryz.pinned.checked.prog.wantsStandIn t = false:=by
 obtain rfl : f = 3 := Option.some.inj ((show Tryz.prog.funcNamed "cratestrap/laws.FnReaderAgain" = some 3 by kernel_rfl).symm.trans hf) |>.symm
 obtain rfl : fn = Tryz.f3:=(Option.some.inj (Tryz.func3.symm.trans hfn)).symm
 refine ⟨by kernel_rfl,fun j t ht => ?_⟩
 rw [Tryz.params3] at ht
 have hm : t ∈ [(22 : TypeId),22,22,23,3]:=by simpa using Array.mem_of_getElem? ht
 have key : ∀ t ∈ [(22 : TypeId),22,22,23,3],Tryz.prog.wantsStandIn t = false:=by decide +kernel
 exact key t hm
set_option maxRecDepth 100000 in
theorem cardUpto : Rows.FnReaderAgainUptoCardSaid :=
 Claim7.holds_tied_plain_at .later [] _ _ _ _ saidUpto (fun _ h => by cases h) (by kernel_rfl) (fun _ h => by cases h) fnReaderAgainUpto_row_tie rfl ⟨rfl,rfl⟩ (by kernel_rfl) rfl plain (by kernel_rfl)
end Go.Proofs.YthpapbilhjobnaaGreatDoor.fnReaderAgain
namespace Go.Proofs.YthpapbilhjobnaaGreatDoor
theorem fnReaderAgain_upto_card : Rows.FnReaderAgainUptoCardSaid:=fnReaderAgain.cardUpto
end Go.Proofs.YthpapbilhjobnaaGreatDoor
