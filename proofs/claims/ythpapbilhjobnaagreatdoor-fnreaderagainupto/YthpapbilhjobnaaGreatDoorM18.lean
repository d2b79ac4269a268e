/-
  Parts of the proofs over the reader and the encoder of streams, joined: Zp Zq. Conditions: each theorem names its own.
-/
import Derived.Test.YthpapbilhjobnaaGreatDoorM17
set_option linter.unusedVariables false
set_option linter.unusedSimpArgs false
namespace Go.Proofs.YthpapbilhjobnaaGreatDoor
open Go.RowKit Pu
variable {c0 c1 c2 c3 c4 c5 c6 c7 c8 c9 c10 c11 c12 c13 c14 c15 c16 c17 c18 c19 c20 c21 c22 c23 c24 c25 c26 c27 c28 c29 c30 c31 c32 c33 c34 c35 c36 c37 c38 c39 c40 c41 c42 c43 c44 c45 c46 c47 c48 c49 c50 c51 c52 c53 c54 c55 c56 c57 c58 c59 c60 c61 c62 c63 c64 c65 c66 c67 c68 c69 c70 c71 c72 c73 c74 c75 c76 c77 c78 c79 c80 c81 c82 c83 c84 c85 c86 c87 c88 c89 c90 c91 c92 c93 c94 c95 c96 c97 c98 c99 c100 c101 c102 c103 c104 c105 c106 c107 c108 c109 c110 c111 c112 c113 c114 c115 c116 c117 c118 c119 c120 c121 c122 c123 c124 c125 c126 c127 c128 c129 c130 c131 c132 c133 c134 c135 c136 c137 c138 c139 c140 c141 c142 c143 c144 c145 c146 c147 c148 c149 c150 c151 c152 c153 c154 c155 c156 c157 c158 c159 c160 c161 c162 c163 c164 c165 c166 c167 c168 c169 c170 c171 c172 c173 c174 c175 c176 c177 c178 c179 c180 c181 c182 c183 c184 c185 c186 c187 c188 c189 c190 c191 c192 c193 c194 c195 c196 c197 c198 c199 c200 c201 c202 c203 : Value}
noncomputable def reg37 (n : Nat) : Code:=(Tryz.f37.body.bind (regionOf n)).getD .skip
noncomputable def reg106 (n : Nat) : Code:=(Tryz.f106.body.bind (regionOf n)).getD .skip
def ZRead (Z R sb so cap : Nat) (src : List UInt8) (p n : Nat) (A U : Addr) (c : Array Value) (w w' : World) (ev : Value) : Prop :=
 ((p + n ≤ src.length ∧ ev = .nilIface ∧ Src w' R sb so cap src (p + n) ∧ Blk w' Z (splice c.toList 4 (((src.drop p).take n).map U8)).toArray 91) ∨
  (src.length < p + n ∧ (ev = .iface 175 (.pointer (some A)) ∨ ev = .iface 175 (.pointer (some U))) ∧ Src w' R sb so cap src src.length ∧ Blk w' Z (splice c.toList 4 ((src.drop p).map U8)).toArray 91)) ∧ Ext (fun k => k = Z ∨ k = R) w w'
theorem zread_any (Z R sb so cap : Nat) (src : List UInt8) (p n : Nat) (A U : Addr) (c : Array Value) (w : World) (hb : Blk w Z c 91) (hsz : c.size = 8) (hS : Src w R sb so cap src p) (hE : Ends w A U) (hZR : Z ≠ R) (hZs : Z ≠ sb) (hEZ : ¬ EM A U Z) (hER : ¬ EM A U R) (hn : n ≤ 4) (room : src.length ≤ cap) :
  ∃ (nr : Nat) (ev : Value),(ev = .nilIface ∨ ∃ u,ev = .iface 175 (.pointer (some u))) ∧ Calls Tryz.prog 48 #[.iface 50 (.pointer (some ⟨R,0,none⟩)),.slice (some ⟨Z,4,none⟩) n 4] w fun e w' => e = .returned (.tuple #[.int .i64 nr,ev]) ∧ ZRead Z R sb so cap src p n A U c w w' ev:=by
 have hle:=hS.le
 rcases Nat.lt_or_ge src.length (p + n) with hp | hp
 ·have hX:=readFull_short R sb so cap src p A U Z 4 n 4 c 91 w hS hE hER hEZ hb hZR hZs (by omega) room (by omega) hn hp
  rcases Nat.lt_or_ge p src.length with h1 | h1
  ·refine ⟨src.length - p,.iface 175 (.pointer (some U)),.inr ⟨_,rfl⟩,hX.mono ?_⟩
   rintro e w' ⟨a,b,d,f⟩
   rcases a with ⟨a,a2⟩ | ⟨a,a2⟩
   ·omega
   ·exact ⟨a,.inr ⟨hp,.inr rfl,b,d⟩,f.mono (fun _ _ e => e.symm)⟩
  ·refine ⟨src.length - p,.iface 175 (.pointer (some A)),.inr ⟨_,rfl⟩,hX.mono ?_⟩
   rintro e w' ⟨a,b,d,f⟩
   rcases a with ⟨a,a2⟩ | ⟨a,a2⟩
   ·exact ⟨a,.inr ⟨hp,.inl rfl,b,d⟩,f.mono (fun _ _ e => e.symm)⟩
   ·omega
 ·refine ⟨n,.nilIface,.inl rfl,(readFull_all R sb so cap src p A Z 4 n 4 c 91 w hS hE.eof (fun e => hER (.inl e)) hb hZR hZs (by omega) room (by omega) hn hp).mono ?_⟩
  rintro e w' ⟨a,b,d,f⟩
  exact ⟨a,.inl ⟨hp,rfl,b,d⟩,f.mono (fun _ _ e => e.symm)⟩
set_option maxRecDepth 100000 in
set_option maxHeartbeats 4000000 in
theorem z_read2 (Z R : Nat) (w : World) (nr : Nat) (ev : Value) (hev : ev = .nilIface ∨ ∃ u,ev = .iface 175 (.pointer (some u))) (S : World → Prop) (hc0 : w.cell? ⟨Z,0,none⟩ = some (.iface 50 (.pointer (some ⟨R,0,none⟩))))
  (hX : Calls Tryz.prog 48 #[.iface 50 (.pointer (some ⟨R,0,none⟩)),.slice (some ⟨Z,4,none⟩) 2 4] w.drew fun e w' => e = .returned (.tuple #[.int .i64 nr,ev]) ∧ S w') (hSS : ∀ w',S w' → (∃ v,w'.cell? ⟨Z,3,none⟩ = some v) ∧ ∀ i,w'.frozen? ⟨Z,i,none⟩ = false) (K : Act → World → Prop) (R0 : Ending → World → Prop)
  (hK : ∀ (u35 u36 u37 u38 u39 u40 u41 u42 u43 u44 u45 u46 u47 u48 u49 : Value) (wx : World),S wx → K ⟨List.toArray ((.pointer (some ⟨Z,0,none⟩))::c1::c2::c3::c4::c5::c6::c7::c8::c9::c10::c11::c12::c13::c14::c15::c16::c17::c18::c19::c20::c21::c22::c23::c24::c25::c26::c27::c28::c29::c30::c31::c32::c33::c34::u35::u36::u37::u38::u39::u40::u41::u42::u43::u44::u45::u46::u47::u48::u49::c50::c51::c52::c53::c54::c55::c56::c57::c58::c59::c60::c61::c62::c63::c64::c65::c66::c67::c68::c69::c70::c71::c72::c73::c74::c75::c76::c77::c78::c79::c80::c81::c82::c83::c84::c85::c86::c87::c88::c89::c90::c91::c92::c93::c94::c95::c96::c97::c98::c99::c100::c101::c102::c103::c104::c105::c106::c107::c108::c109::c110::c111::c112::c113::c114::c115::c116::c117::c118::c119::c120::c121::c122::c123::c124::c125::c126::c127::c128::c129::c130::c131::c132::c133::c134::c135::c136::c137::c138::c139::c140::c141::c142::c143::c144::c145::c146::c147::c148::c149::c150::c151::c152::c153::c154::c155::c156::c157::c158::c159::c160::c161::c162::c163::c164::c165::c166::c167::c168::c169::c170::c171::c172::c173::c174::c175::c176::c177::c178::c179::c180::c181::c182::c183::c184::c185::c186::c187::c188::c189::c190::c191::c192::c193::c194::c195::c196::c197::c198::c199::c200::c201::c202::c203::[]),[]⟩ (wx.setCell ⟨Z,3,none⟩ ev)) :
  Code.wp Tryz.prog (reg37 6) (Exit.then K (bodyPost Tryz.prog Tryz.f37 R0)) ⟨List.toArray ((.pointer (some ⟨Z,0,none⟩))::c1::c2::c3::c4::c5::c6::c7::c8::c9::c10::c11::c12::c13::c14::c15::c16::c17::c18::c19::c20::c21::c22::c23::c24::c25::c26::c27::c28::c29::c30::c31::c32::c33::c34::c35::c36::c37::c38::c39::c40::c41::c42::c43::c44::c45::c46::c47::c48::c49::c50::c51::c52::c53::c54::c55::c56::c57::c58::c59::c60::c61::c62::c63::c64::c65::c66::c67::c68::c69::c70::c71::c72::c73::c74::c75::c76::c77::c78::c79::c80::c81::c82::c83::c84::c85::c86::c87::c88::c89::c90::c91::c92::c93::c94::c95::c96::c97::c98::c99::c100::c101::c102::c103::c104::c105::c106::c107::c108::c109::c110::c111::c112::c113::c114::c115::c116::c117::c118::c119::c120::c121::c122::c123::c124::c125::c126::c127::c128::c129::c130::c131::c132::c133::c134::c135::c136::c137::c138::c139::c140::c141::c142::c143::c144::c145::c146::c147::c148::c149::c150::c151::c152::c153::c154::c155::c156::c157::c158::c159::c160::c161::c162::c163::c164::c165::c166::c167::c168::c169::c170::c171::c172::c173::c174::c175::c176::c177::c178::c179::c180::c181::c182::c183::c184::c185::c186::c187::c188::c189::c190::c191::c192::c193::c194::c195::c196::c197::c198::c199::c200::c201::c202::c203::[]),[]⟩ w:=by
 rcases hev with rfl | ⟨u,rfl⟩
 all_goals
  have HX:=Lib.hid hX;have HK:=Lib.hid hK;have HS:=Lib.hid hSS
  clear hX hK hSS
  conv => arg 2;whnf
  go_region_with (go_at_call 48;refine HX.out.mono ?_;rintro e w1 ⟨rfl,hs1⟩;obtain ⟨⟨y3,hy3⟩,hfz⟩:=HS.out w1 hs1;have HS1:=Lib.hid hs1;clear hs1)
  all_goals
   go_wp2_with fail
   exact HK.out _ _ _ _ _ _ _ _ _ _ _ _ _ _ _ _ HS1.out
set_option maxRecDepth 100000 in
set_option maxHeartbeats 4000000 in
theorem z_read4 (Z R : Nat) (w : World) (nr : Nat) (ev : Value) (hev : ev = .nilIface ∨ ∃ u,ev = .iface 175 (.pointer (some u))) (S : World → Prop) (hc0 : w.cell? ⟨Z,0,none⟩ = some (.iface 50 (.pointer (some ⟨R,0,none⟩))))
  (hX : Calls Tryz.prog 48 #[.iface 50 (.pointer (some ⟨R,0,none⟩)),.slice (some ⟨Z,4,none⟩) 4 4] w.drew fun e w' => e = .returned (.tuple #[.int .i64 nr,ev]) ∧ S w') (hSS : ∀ w',S w' → (∃ v,w'.cell? ⟨Z,3,none⟩ = some v) ∧ ∀ i,w'.frozen? ⟨Z,i,none⟩ = false) (K K2 : Act → World → Prop) (R0 : Ending → World → Prop)
  (hK : ∀ (u112 u113 u114 u115 u116 u117 u118 u119 u120 u121 u122 u123 u124 u125 u126 : Value) (wx : World),S wx → K ⟨List.toArray ((.pointer (some ⟨Z,0,none⟩))::c1::c2::c3::c4::c5::c6::c7::c8::c9::c10::c11::c12::c13::c14::c15::c16::c17::c18::c19::c20::c21::c22::c23::c24::c25::c26::c27::c28::c29::c30::c31::c32::c33::c34::c35::c36::c37::c38::c39::c40::c41::c42::c43::c44::c45::c46::c47::c48::c49::c50::c51::c52::c53::c54::c55::c56::c57::c58::c59::c60::c61::c62::c63::c64::c65::c66::c67::c68::c69::c70::c71::c72::c73::c74::c75::c76::c77::c78::c79::c80::c81::c82::c83::c84::c85::c86::c87::c88::c89::c90::c91::c92::c93::c94::c95::c96::c97::c98::c99::c100::c101::c102::c103::c104::c105::c106::c107::c108::c109::c110::c111::u112::u113::u114::u115::u116::u117::u118::u119::u120::u121::u122::u123::u124::u125::u126::c127::c128::c129::c130::c131::c132::c133::c134::c135::c136::c137::c138::c139::c140::c141::c142::c143::c144::c145::c146::c147::c148::c149::c150::c151::c152::c153::c154::c155::c156::c157::c158::c159::c160::c161::c162::c163::c164::c165::c166::c167::c168::c169::c170::c171::c172::c173::c174::c175::c176::c177::c178::c179::c180::c181::c182::c183::c184::c185::c186::c187::c188::c189::c190::c191::c192::c193::c194::c195::c196::c197::c198::c199::c200::c201::c202::c203::[]),[]⟩ (wx.setCell ⟨Z,3,none⟩ ev)) :
  Code.wp Tryz.prog (reg37 17) (Exit.then K (Exit.then K2 (bodyPost Tryz.prog Tryz.f37 R0))) ⟨List.toArray ((.pointer (some ⟨Z,0,none⟩))::c1::c2::c3::c4::c5::c6::c7::c8::c9::c10::c11::c12::c13::c14::c15::c16::c17::c18::c19::c20::c21::c22::c23::c24::c25::c26::c27::c28::c29::c30::c31::c32::c33::c34::c35::c36::c37::c38::c39::c40::c41::c42::c43::c44::c45::c46::c47::c48::c49::c50::c51::c52::c53::c54::c55::c56::c57::c58::c59::c60::c61::c62::c63::c64::c65::c66::c67::c68::c69::c70::c71::c72::c73::c74::c75::c76::c77::c78::c79::c80::c81::c82::c83::c84::c85::c86::c87::c88::c89::c90::c91::c92::c93::c94::c95::c96::c97::c98::c99::c100::c101::c102::c103::c104::c105::c106::c107::c108::c109::c110::c111::c112::c113::c114::c115::c116::c117::c118::c119::c120::c121::c122::c123::c124::c125::c126::c127::c128::c129::c130::c131::c132::c133::c134::c135::c136::c137::c138::c139::c140::c141::c142::c143::c144::c145::c146::c147::c148::c149::c150::c151::c152::c153::c154::c155::c156::c157::c158::c159::c160::c161::c162::c163::c164::c165::c166::c167::c168::c169::c170::c171::c172::c173::c174::c175::c176::c177::c178::c179::c180::c181::c182::c183::c184::c185::c186::c187::c188::c189::c190::c191::c192::c193::c194::c195::c196::c197::c198::c199::c200::c201::c202::c203::[]),[]⟩ w:=by
 rcases hev with rfl | ⟨u,rfl⟩
 all_goals
  have HX:=Lib.hid hX;have HK:=Lib.hid hK;have HS:=Lib.hid hSS
  clear hX hK hSS
  conv => arg 2;whnf
  go_region_with (go_at_call 48;refine HX.out.mono ?_;rintro e w1 ⟨rfl,hs1⟩;obtain ⟨⟨y3,hy3⟩,hfz⟩:=HS.out w1 hs1;have HS1:=Lib.hid hs1;clear hs1)
  all_goals
   go_wp2_with fail
   exact HK.out _ _ _ _ _ _ _ _ _ _ _ _ _ _ _ _ HS1.out
set_option maxRecDepth 100000 in
set_option maxHeartbeats 4000000 in
theorem z_num2 (Z : Nat) (w : World) (a b : Nat) (ha : a < 256) (hb : b < 256) (h0 : w.cell? ⟨Z,4,none⟩ = some (.int .u8 a)) (h1 : w.cell? ⟨Z,5,none⟩ = some (.int .u8 b)) (K : Act → World → Prop) (R0 : Ending → World → Prop)
  (hK : ∀ (u9 u69 u70 u71 u72 u73 u74 : Value) (wx : World),u9 = .int .u16 ((256 * a + b : Nat) : Int) → Ext (fun _ => False) w wx → K ⟨List.toArray ((.pointer (some ⟨Z,0,none⟩))::c1::c2::c3::c4::c5::c6::c7::c8::u9::c10::c11::c12::c13::c14::c15::c16::c17::c18::c19::c20::c21::c22::c23::c24::c25::c26::c27::c28::c29::c30::c31::c32::c33::c34::c35::c36::c37::c38::c39::c40::c41::c42::c43::c44::c45::c46::c47::c48::c49::c50::c51::c52::c53::c54::c55::c56::c57::c58::c59::c60::c61::c62::c63::c64::c65::c66::c67::c68::u69::u70::u71::u72::u73::u74::c75::c76::c77::c78::c79::c80::c81::c82::c83::c84::c85::c86::c87::c88::c89::c90::c91::c92::c93::c94::c95::c96::c97::c98::c99::c100::c101::c102::c103::c104::c105::c106::c107::c108::c109::c110::c111::c112::c113::c114::c115::c116::c117::c118::c119::c120::c121::c122::c123::c124::c125::c126::c127::c128::c129::c130::c131::c132::c133::c134::c135::c136::c137::c138::c139::c140::c141::c142::c143::c144::c145::c146::c147::c148::c149::c150::c151::c152::c153::c154::c155::c156::c157::c158::c159::c160::c161::c162::c163::c164::c165::c166::c167::c168::c169::c170::c171::c172::c173::c174::c175::c176::c177::c178::c179::c180::c181::c182::c183::c184::c185::c186::c187::c188::c189::c190::c191::c192::c193::c194::c195::c196::c197::c198::c199::c200::c201::c202::c203::[]),[]⟩ wx) :
  Code.wp Tryz.prog (reg37 11) (Exit.then K (bodyPost Tryz.prog Tryz.f37 R0)) ⟨List.toArray ((.pointer (some ⟨Z,0,none⟩))::c1::c2::c3::c4::c5::c6::c7::c8::c9::c10::c11::c12::c13::c14::c15::c16::c17::c18::c19::c20::c21::c22::c23::c24::c25::c26::c27::c28::c29::c30::c31::c32::c33::c34::c35::c36::c37::c38::c39::c40::c41::c42::c43::c44::c45::c46::c47::c48::c49::c50::c51::c52::c53::c54::c55::c56::c57::c58::c59::c60::c61::c62::c63::c64::c65::c66::c67::c68::c69::c70::c71::c72::c73::c74::c75::c76::c77::c78::c79::c80::c81::c82::c83::c84::c85::c86::c87::c88::c89::c90::c91::c92::c93::c94::c95::c96::c97::c98::c99::c100::c101::c102::c103::c104::c105::c106::c107::c108::c109::c110::c111::c112::c113::c114::c115::c116::c117::c118::c119::c120::c121::c122::c123::c124::c125::c126::c127::c128::c129::c130::c131::c132::c133::c134::c135::c136::c137::c138::c139::c140::c141::c142::c143::c144::c145::c146::c147::c148::c149::c150::c151::c152::c153::c154::c155::c156::c157::c158::c159::c160::c161::c162::c163::c164::c165::c166::c167::c168::c169::c170::c171::c172::c173::c174::c175::c176::c177::c178::c179::c180::c181::c182::c183::c184::c185::c186::c187::c188::c189::c190::c191::c192::c193::c194::c195::c196::c197::c198::c199::c200::c201::c202::c203::[]),[]⟩ w:=by
 have hdr : Ext (fun _ => False) w w.drew:=(Ext.refl _ w).drew
 have HX:=Lib.hid (uint16_any Z 4 4 a b ha hb w.drew (hdr.cellSome (fun e => e) h0) (hdr.cellSome (fun e => e) h1))
 have HK:=Lib.hid hK
 clear hK hdr
 conv => arg 2;whnf
 go_region_with (go_at_call 49;refine HX.out.mono ?_;rintro e w1 ⟨rfl,hs1⟩;have HS1:=Lib.hid hs1;clear hs1)
 all_goals
  go_wp2_with fail
  exact HK.out _ _ _ _ _ _ _ _ rfl (((Ext.refl _ w).drew).trans HS1.out)
end Go.Proofs.YthpapbilhjobnaaGreatDoor
namespace Go.Proofs.YthpapbilhjobnaaGreatDoor
open Go.RowKit Pu
variable {c0 c1 c2 c3 c4 c5 c6 c7 c8 c9 c10 c11 c12 c13 c14 c15 c16 c17 c18 c19 c20 c21 c22 c23 c24 c25 c26 c27 c28 c29 c30 c31 c32 c33 c34 c35 c36 c37 c38 c39 c40 c41 c42 c43 c44 c45 c46 c47 c48 c49 c50 c51 c52 c53 c54 c55 c56 c57 c58 c59 c60 c61 c62 c63 c64 c65 c66 c67 c68 c69 c70 c71 c72 c73 c74 c75 c76 c77 c78 c79 c80 c81 c82 c83 c84 c85 c86 c87 c88 c89 c90 c91 c92 c93 c94 c95 c96 c97 c98 c99 c100 c101 c102 c103 c104 c105 c106 c107 c108 c109 c110 c111 c112 c113 c114 c115 c116 c117 c118 c119 c120 c121 c122 c123 c124 c125 c126 c127 c128 c129 c130 c131 c132 c133 c134 c135 c136 c137 c138 c139 c140 c141 c142 c143 c144 c145 c146 c147 c148 c149 c150 c151 c152 c153 c154 c155 c156 c157 c158 c159 c160 c161 c162 c163 c164 c165 c166 c167 c168 c169 c170 c171 c172 c173 c174 c175 c176 c177 c178 c179 c180 c181 c182 c183 c184 c185 c186 c187 c188 c189 c190 c191 c192 c193 c194 c195 c196 c197 c198 c199 c200 c201 c202 c203 : Value}
set_option maxRecDepth 100000 in
set_option maxHeartbeats 4000000 in
theorem z_num4 (Z : Nat) (w : World) (a b c d : Nat) (ha : a < 256) (hb : b < 256) (hc : c < 256) (hd : d < 256) (h0 : w.cell? ⟨Z,4,none⟩ = some (.int .u8 a)) (h1 : w.cell? ⟨Z,5,none⟩ = some (.int .u8 b)) (h2 : w.cell? ⟨Z,6,none⟩ = some (.int .u8 c)) (h3 : w.cell? ⟨Z,7,none⟩ = some (.int .u8 d)) (K K2 : Act → World → Prop) (R0 : Ending → World → Prop)
  (hK : ∀ (u11 u146 u147 u148 u149 u150 u151 : Value) (wx : World),u11 = .int .u32 ((16777216 * a + 65536 * b + 256 * c + d : Nat) : Int) → Ext (fun _ => False) w wx → K ⟨List.toArray ((.pointer (some ⟨Z,0,none⟩))::c1::c2::c3::c4::c5::c6::c7::c8::c9::c10::u11::c12::c13::c14::c15::c16::c17::c18::c19::c20::c21::c22::c23::c24::c25::c26::c27::c28::c29::c30::c31::c32::c33::c34::c35::c36::c37::c38::c39::c40::c41::c42::c43::c44::c45::c46::c47::c48::c49::c50::c51::c52::c53::c54::c55::c56::c57::c58::c59::c60::c61::c62::c63::c64::c65::c66::c67::c68::c69::c70::c71::c72::c73::c74::c75::c76::c77::c78::c79::c80::c81::c82::c83::c84::c85::c86::c87::c88::c89::c90::c91::c92::c93::c94::c95::c96::c97::c98::c99::c100::c101::c102::c103::c104::c105::c106::c107::c108::c109::c110::c111::c112::c113::c114::c115::c116::c117::c118::c119::c120::c121::c122::c123::c124::c125::c126::c127::c128::c129::c130::c131::c132::c133::c134::c135::c136::c137::c138::c139::c140::c141::c142::c143::c144::c145::u146::u147::u148::u149::u150::u151::c152::c153::c154::c155::c156::c157::c158::c159::c160::c161::c162::c163::c164::c165::c166::c167::c168::c169::c170::c171::c172::c173::c174::c175::c176::c177::c178::c179::c180::c181::c182::c183::c184::c185::c186::c187::c188::c189::c190::c191::c192::c193::c194::c195::c196::c197::c198::c199::c200::c201::c202::c203::[]),[]⟩ wx) :
  Code.wp Tryz.prog (reg37 22) (Exit.then K (Exit.then K2 (bodyPost Tryz.prog Tryz.f37 R0))) ⟨List.toArray ((.pointer (some ⟨Z,0,none⟩))::c1::c2::c3::c4::c5::c6::c7::c8::c9::c10::c11::c12::c13::c14::c15::c16::c17::c18::c19::c20::c21::c22::c23::c24::c25::c26::c27::c28::c29::c30::c31::c32::c33::c34::c35::c36::c37::c38::c39::c40::c41::c42::c43::c44::c45::c46::c47::c48::c49::c50::c51::c52::c53::c54::c55::c56::c57::c58::c59::c60::c61::c62::c63::c64::c65::c66::c67::c68::c69::c70::c71::c72::c73::c74::c75::c76::c77::c78::c79::c80::c81::c82::c83::c84::c85::c86::c87::c88::c89::c90::c91::c92::c93::c94::c95::c96::c97::c98::c99::c100::c101::c102::c103::c104::c105::c106::c107::c108::c109::c110::c111::c112::c113::c114::c115::c116::c117::c118::c119::c120::c121::c122::c123::c124::c125::c126::c127::c128::c129::c130::c131::c132::c133::c134::c135::c136::c137::c138::c139::c140::c141::c142::c143::c144::c145::c146::c147::c148::c149::c150::c151::c152::c153::c154::c155::c156::c157::c158::c159::c160::c161::c162::c163::c164::c165::c166::c167::c168::c169::c170::c171::c172::c173::c174::c175::c176::c177::c178::c179::c180::c181::c182::c183::c184::c185::c186::c187::c188::c189::c190::c191::c192::c193::c194::c195::c196::c197::c198::c199::c200::c201::c202::c203::[]),[]⟩ w:=by
 have hdr : Ext (fun _ => False) w w.drew:=(Ext.refl _ w).drew
 have HX:=Lib.hid (uint32_any Z 4 4 a b c d ha hb hc hd w.drew (hdr.cellSome (fun e => e) h0) (hdr.cellSome (fun e => e) h1) (hdr.cellSome (fun e => e) h2) (hdr.cellSome (fun e => e) h3))
 have HK:=Lib.hid hK
 clear hK hdr
 conv => arg 2;whnf
 go_region_with (go_at_call 50;refine HX.out.mono ?_;rintro e w1 ⟨rfl,hs1⟩;have HS1:=Lib.hid hs1;clear hs1)
 all_goals
  go_wp2_with fail
  exact HK.out _ _ _ _ _ _ _ _ rfl (((Ext.refl _ w).drew).trans HS1.out)
set_option maxRecDepth 100000 in
set_option maxHeartbeats 4000000 in
theorem z_num4b (Z : Nat) (w : World) (a b c d : Nat) (ha : a < 256) (hb : b < 256) (hc : c < 256) (hd : d < 256) (h0 : w.cell? ⟨Z,4,none⟩ = some (.int .u8 a)) (h1 : w.cell? ⟨Z,5,none⟩ = some (.int .u8 b)) (h2 : w.cell? ⟨Z,6,none⟩ = some (.int .u8 c)) (h3 : w.cell? ⟨Z,7,none⟩ = some (.int .u8 d)) (K : Act → World → Prop) (R0 : Ending → World → Prop)
  (hK : ∀ (u9 u79 u80 u81 u82 u83 u84 : Value) (wx : World),u9 = .int .u32 ((16777216 * a + 65536 * b + 256 * c + d : Nat) : Int) → Ext (fun _ => False) w wx → K ⟨List.toArray ((.pointer (some ⟨Z,0,none⟩))::c1::c2::c3::c4::c5::c6::c7::c8::u9::c10::c11::c12::c13::c14::c15::c16::c17::c18::c19::c20::c21::c22::c23::c24::c25::c26::c27::c28::c29::c30::c31::c32::c33::c34::c35::c36::c37::c38::c39::c40::c41::c42::c43::c44::c45::c46::c47::c48::c49::c50::c51::c52::c53::c54::c55::c56::c57::c58::c59::c60::c61::c62::c63::c64::c65::c66::c67::c68::c69::c70::c71::c72::c73::c74::c75::c76::c77::c78::u79::u80::u81::u82::u83::u84::c85::c86::c87::c88::c89::c90::c91::c92::c93::c94::c95::c96::c97::c98::c99::c100::c101::c102::[]),[]⟩ wx) :
  Code.wp Tryz.prog (reg106 14) (Exit.then K (bodyPost Tryz.prog Tryz.f106 R0)) ⟨List.toArray ((.pointer (some ⟨Z,0,none⟩))::c1::c2::c3::c4::c5::c6::c7::c8::c9::c10::c11::c12::c13::c14::c15::c16::c17::c18::c19::c20::c21::c22::c23::c24::c25::c26::c27::c28::c29::c30::c31::c32::c33::c34::c35::c36::c37::c38::c39::c40::c41::c42::c43::c44::c45::c46::c47::c48::c49::c50::c51::c52::c53::c54::c55::c56::c57::c58::c59::c60::c61::c62::c63::c64::c65::c66::c67::c68::c69::c70::c71::c72::c73::c74::c75::c76::c77::c78::c79::c80::c81::c82::c83::c84::c85::c86::c87::c88::c89::c90::c91::c92::c93::c94::c95::c96::c97::c98::c99::c100::c101::c102::[]),[]⟩ w:=by
 have hdr : Ext (fun _ => False) w w.drew:=(Ext.refl _ w).drew
 have HX:=Lib.hid (uint32_any Z 4 4 a b c d ha hb hc hd w.drew (hdr.cellSome (fun e => e) h0) (hdr.cellSome (fun e => e) h1) (hdr.cellSome (fun e => e) h2) (hdr.cellSome (fun e => e) h3))
 have HK:=Lib.hid hK
 clear hK hdr
 conv => arg 2;whnf
 go_region_with (go_at_call 50;refine HX.out.mono ?_;rintro e w1 ⟨rfl,hs1⟩;have HS1:=Lib.hid hs1;clear hs1)
 all_goals
  go_wp2_with fail
  exact HK.out _ _ _ _ _ _ _ _ rfl (((Ext.refl _ w).drew).trans HS1.out)
end Go.Proofs.YthpapbilhjobnaaGreatDoor
