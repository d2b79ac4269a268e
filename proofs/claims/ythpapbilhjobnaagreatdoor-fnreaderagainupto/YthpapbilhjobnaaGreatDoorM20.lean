/-
  Parts of the proofs over the reader and the encoder of streams, joined: Zs Zt Av Dn Fo. Conditions: each theorem names its own.
-/
import Derived.Test.YthpapbilhjobnaaGreatDoorM15
import Derived.Test.YthpapbilhjobnaaGreatDoorM19
set_option linter.unusedVariables false
set_option linter.unusedSimpArgs false
namespace Go.Proofs.YthpapbilhjobnaaGreatDoor
open Go.RowKit Pu
variable {c0 c1 c2 c3 c4 c5 c6 c7 c8 c9 c10 c11 c12 c13 c14 c15 c16 c17 c18 c19 c20 c21 c22 c23 c24 c25 c26 c27 c28 c29 c30 c31 c32 c33 c34 c35 c36 c37 c38 c39 c40 c41 c42 c43 c44 c45 c46 c47 c48 c49 c50 c51 c52 c53 c54 c55 c56 c57 c58 c59 c60 c61 c62 c63 c64 c65 c66 c67 c68 c69 c70 c71 c72 c73 c74 c75 c76 c77 c78 c79 c80 c81 c82 c83 c84 c85 c86 c87 c88 c89 c90 c91 c92 c93 c94 c95 c96 c97 c98 c99 c100 c101 c102 : Value}
theorem nilAhead_write (a : Addr) (w : World) : (nilAhead 319 153 (.pointer (some a)) "Write").run Tryz.prog w = .ok (some false) w := by kernel_rfl
theorem method_write (a : Addr) (w : World) : (method 319 153 (.pointer (some a)) "Write").run Tryz.prog w = .ok (134, .pointer (some a)) w := by kernel_rfl
theorem nilAhead_sum32 (a : Addr) (w : World) : (nilAhead 319 153 (.pointer (some a)) "Sum32").run Tryz.prog w = .ok (some false) w := by kernel_rfl
theorem method_sum32 (a : Addr) (w : World) : (method 319 153 (.pointer (some a)) "Sum32").run Tryz.prog w = .ok (133, .pointer (some a)) w := by kernel_rfl
theorem nilAhead_fread (a : Addr) (w : World) : (nilAhead 319 151 (.pointer (some a)) "Read").run Tryz.prog w = .ok (some false) w := by kernel_rfl
theorem method_fread (a : Addr) (w : World) : (method 319 151 (.pointer (some a)) "Read").run Tryz.prog w = .ok (128, .pointer (some a)) w := by kernel_rfl
set_option maxRecDepth 100000 in
set_option maxHeartbeats 4000000 in
theorem z_write (Z B bo n dcap k G : Nat) (w : World) (hk : k ≤ n) (hn : n ≤ dcap) (h2 : w.cell? ⟨Z,2,none⟩ = some (.iface 153 (.pointer (some ⟨G,0,none⟩)))) (S : World → Prop)
  (hX : Calls Tryz.prog 134 #[.pointer (some ⟨G,0,none⟩),.slice (some ⟨B,bo,none⟩) k dcap] w.drew fun e w' => e = .returned (.tuple #[.int .i64 k,.nilIface]) ∧ S w') (K : Act → World → Prop) (R0 : Ending → World → Prop)
  (hK : ∀ (u31 u32 u33 u34 u35 u36 u37 u38 u39 u40 : Value) (wx : World),S wx → K ⟨List.toArray ((.pointer (some ⟨Z,0,none⟩))::(.slice (some ⟨B,bo,none⟩) n dcap)::c2::c3::c4::c5::(.int .i64 k)::c7::c8::c9::c10::c11::c12::c13::c14::c15::c16::c17::c18::c19::c20::c21::c22::c23::c24::c25::c26::c27::c28::c29::c30::u31::u32::u33::u34::u35::u36::u37::u38::u39::u40::c41::c42::c43::c44::c45::c46::c47::c48::c49::c50::c51::c52::c53::c54::c55::c56::c57::c58::c59::c60::c61::c62::c63::c64::c65::c66::c67::c68::c69::c70::c71::c72::c73::c74::c75::c76::c77::c78::c79::c80::c81::c82::c83::c84::c85::c86::c87::c88::c89::c90::c91::c92::c93::c94::c95::c96::c97::c98::c99::c100::c101::c102::[]),[]⟩ wx) :
  Code.wp Tryz.prog (reg106 5) (Exit.then K (bodyPost Tryz.prog Tryz.f106 R0)) ⟨List.toArray ((.pointer (some ⟨Z,0,none⟩))::(.slice (some ⟨B,bo,none⟩) n dcap)::c2::c3::c4::c5::(.int .i64 k)::c7::c8::c9::c10::c11::c12::c13::c14::c15::c16::c17::c18::c19::c20::c21::c22::c23::c24::c25::c26::c27::c28::c29::c30::c31::c32::c33::c34::c35::c36::c37::c38::c39::c40::c41::c42::c43::c44::c45::c46::c47::c48::c49::c50::c51::c52::c53::c54::c55::c56::c57::c58::c59::c60::c61::c62::c63::c64::c65::c66::c67::c68::c69::c70::c71::c72::c73::c74::c75::c76::c77::c78::c79::c80::c81::c82::c83::c84::c85::c86::c87::c88::c89::c90::c91::c92::c93::c94::c95::c96::c97::c98::c99::c100::c101::c102::[]),[]⟩ w:=by
 have HX:=Lib.hid hX;have HK:=Lib.hid hK
 have hna:=nilAhead_write
 have hm:=method_write
 have hmf : ∀ (fn : Fn) (first cap : Array Value) (w : World),(Instr.makeFunc fn first cap).run Tryz.prog w = .ok (.func fn first cap) w:=fun _ _ _ _ => rfl
 have hki : (k : Int) ≤ (n : Int):=by omega
 have hkd : k ≤ dcap:=by omega
 have hkdi : (k : Int) ≤ (dcap : Int):=by omega
 clear hX hK
 conv => arg 2;whnf
 go_region_with (go_at_call 134;refine HX.out.mono ?_;rintro e w1 ⟨rfl,hs1⟩;have HS1:=Lib.hid hs1;clear hs1)
 all_goals
  go_wp2_with fail
  exact HK.out _ _ _ _ _ _ _ _ _ _ _ HS1.out
structure ZAp (x : Pl) (Z G : Nat) (hA dA kA : Addr) : Prop where
 ap : Apart x
 zM : ¬ x.M Z
 gM : ¬ x.M G
 zs : Z ≠ x.sb
 gs : G ≠ x.sb
 zg : Z ≠ G
 zE : ¬ GM x.A hA dA kA x.U Z
 gE : ¬ GM x.A hA dA kA x.U G
 mE : ∀ k,GM x.A hA dA kA x.U k → ¬ x.M k
 oZ : x.O Z
 oG : x.O G
def ZB (x : Pl) (w : World) (Z G : Nat) (v : Value) : Prop:=∃ s0 s1 s2 s3 : UInt8,Blk w Z #[.iface 50 (.pointer (some ⟨x.R,0,none⟩)),.iface 151 (.pointer (some ⟨x.F,0,none⟩)),.iface 153 (.pointer (some ⟨G,0,none⟩)),v,U8 s0,U8 s1,U8 s2,U8 s3] 91
inductive ZWhy2 (x : Pl) (g : Blkc) (kA : Addr) (tl L : List UInt8) (q : Nat) (c : Array Value) (w : World) : Value → Prop
 | data (z : Int) (h : ¬ g.ok) : ZWhy2 x g kA tl L q c w (.iface 159 (.int .i64 z))
 | cut (h : x.ext ≠ []) : ZWhy2 x g kA tl L q c w (.iface 175 (.pointer (some x.U)))
 | sum (t0 t1 t2 t3 : UInt8) (r : List UInt8) (h : tl = t0::t1::t2::t3::r) (hq : q + g.e = g.all.length + g.d) (hn : num4 t0 t1 t2 t3 ≠ adler L) (p : Nat) (hp : x.src.drop p ++ x.ext = r) : ZWhy2 x g kA tl L q c w (.iface 175 (.pointer (some kA)))
 | eof (t0 t1 t2 t3 : UInt8) (r : List UInt8) (h : tl = t0::t1::t2::t3::r) (hq : q + g.e = g.all.length + g.d) (hn : num4 t0 t1 t2 t3 = adler L) (he : c[1048]? = some (.iface 175 (.pointer (some x.A)))) (p : Nat) (hs : Src w x.R x.sb x.so x.cap x.src p) (hp : x.src.drop p ++ x.ext = r) : ZWhy2 x g kA tl L q c w (.iface 175 (.pointer (some x.A)))
structure ZS (x : Pl) (g : Blkc) (w : World) (Z G : Nat) (hA dA kA : Addr) (q m : Nat) (T : List UInt8) (c : Array Value) (L : List UInt8) : Prop where
 zb : ZB x w Z G .nilIface
 gb : Blk w G #[.int .u32 (adler L)] 134
 rs : RS x g w c q T m
 glo : Glo w x.A hA dA kA x.U
structure FEnd (x : Pl) (w : World) (c : Array Value) : Prop where
 sz : c.size = 1054
 nob : c[1]? = some (.pointer none)
 bp : c[1035]? = some (.pointer (some ⟨x.Bb,0,none⟩))
 cp : c[1036]? = some (.pointer (some ⟨x.Cb,0,none⟩))
 dd : ∃ hs wr rd fu,DD w x.F x.hb c hs wr rd fu
 bb : ∃ f,Blk w x.Bb (arr 316 f) 149
 cb : ∃ g,Blk w x.Cb (arr 19 g) 150
theorem FEnd.ext {x : Pl} {w w' : World} {c : Array Value} {M : Nat → Prop} (h : FEnd x w c) (he : Ext M w w') (h1 : ¬ M x.F) (h2 : ¬ M x.hb) (h3 : ¬ M x.Bb) (h4 : ¬ M x.Cb) : FEnd x w' c:=by
 obtain ⟨f,hf⟩:=h.bb
 obtain ⟨g,hg⟩:=h.cb
 obtain ⟨hs,wr,rd,fu,hd⟩:=h.dd
 exact ⟨h.sz,h.nob,h.bp,h.cp,⟨hs,wr,rd,fu,hd.ext he h1 h2⟩,⟨f,hf.ext he h3⟩,⟨g,hg.ext he h4⟩⟩
theorem RS.fend {x : Pl} {g : Blkc} {w : World} {c : Array Value} {q m : Nat} {T : List UInt8} (h : RS x g w c q T m) : FEnd x w c ∧ ∃ p,Src w x.R x.sb x.so x.cap x.src p:=by
 obtain ⟨H,hs,wr,rd,fu,p,h1,h2,h3,h4,h5,h6⟩:=h.parts
 exact ⟨⟨h2,h4.nob,h4.bp,h4.cp,⟨_,_,_,_,h1.dd⟩,h4.bb,h4.cb⟩,_,h5.src⟩
def ZRPost (x : Pl) (g : Blkc) (w0 : World) (Z G : Nat) (hA dA kA : Addr) (tl : List UInt8) (q : Nat) (L : List UInt8) (B bo n : Nat) (cur : Array Value) (t : TypeId) (e : Ending) (w : World) : Prop :=
 ∃ k v cs c T m,e = .returned (.tuple #[.int .i64 (k : Nat),v]) ∧ cs.length = k ∧ k ≤ n ∧ Blk w B (splice cur.toList bo (cs.map U8)).toArray t ∧ Ext (fun j => x.M j ∨ j = Z ∨ j = G ∨ j = B) w0 w ∧ (g.ok → x.ext = [] → cs = (g.all.drop q).take k) ∧
  ((v = .nilIface ∧ 0 < k ∧ ZS x g w Z G hA dA kA (q + k) m T c (L ++ cs)) ∨ (ZB x w Z G v ∧ FEnd x w c ∧ (∃ p,Src w x.R x.sb x.so x.cap x.src p) ∧ Glo w x.A hA dA kA x.U ∧ q + k ≤ g.all.length + g.d ∧ ZWhy2 x g kA tl (L ++ cs) (q + k) c w v))
theorem RS.bound {x : Pl} {g : Blkc} {w : World} {c : Array Value} {q m : Nat} {T : List UInt8} (h : RS x g w c q T m) : q ≤ g.all.length + g.d:=by
 obtain ⟨H,hs,wr,rd,fu,p,h1,h2,h3,h4,h5,h6⟩:=h.parts
 have:=h1.len
 omega
set_option maxRecDepth 100000 in
set_option maxHeartbeats 4000000 in
theorem z_readsumN (Z R : Nat) (w : World) (nr : Nat) (ev : Value) (hev : ev = .nilIface ∨ ∃ u,ev = .iface 175 (.pointer (some u))) (S : World → Prop) (hc0 : w.cell? ⟨Z,0,none⟩ = some (.iface 50 (.pointer (some ⟨R,0,none⟩))))
  (hX : Calls Tryz.prog 48 #[.iface 50 (.pointer (some ⟨R,0,none⟩)),.slice (some ⟨Z,4,none⟩) 4 4] w.drew fun e w' => e = .returned (.tuple #[.int .i64 nr,ev]) ∧ S w') (K K2 : Act → World → Prop) (R0 : Ending → World → Prop)
  (hK : ∀ (u7 u8 u52 u53 u54 u55 u56 u57 u58 u59 u60 u61 u62 u63 : Value) (wx : World),u8 = ev → S wx → K ⟨List.toArray ((.pointer (some ⟨Z,0,none⟩))::c1::c2::c3::c4::c5::c6::u7::u8::c9::c10::c11::c12::c13::c14::c15::c16::c17::c18::c19::c20::c21::c22::c23::c24::c25::c26::c27::c28::c29::c30::c31::c32::c33::c34::c35::c36::c37::c38::c39::c40::c41::c42::c43::c44::c45::c46::c47::c48::c49::c50::c51::u52::u53::u54::u55::u56::u57::u58::u59::u60::u61::u62::u63::c64::c65::c66::c67::c68::c69::c70::c71::c72::c73::c74::c75::c76::c77::c78::c79::c80::c81::c82::c83::c84::c85::c86::c87::c88::c89::c90::c91::c92::c93::c94::c95::c96::c97::c98::c99::c100::c101::c102::[]),[]⟩ wx) :
  Code.wp Tryz.prog (reg106 8) (Exit.then K (Exit.then K2 (bodyPost Tryz.prog Tryz.f106 R0))) ⟨List.toArray ((.pointer (some ⟨Z,0,none⟩))::c1::c2::c3::c4::c5::c6::c7::c8::c9::c10::c11::c12::c13::c14::c15::c16::c17::c18::c19::c20::c21::c22::c23::c24::c25::c26::c27::c28::c29::c30::c31::c32::c33::c34::c35::c36::c37::c38::c39::c40::c41::c42::c43::c44::c45::c46::c47::c48::c49::c50::c51::c52::c53::c54::c55::c56::c57::c58::c59::c60::c61::c62::c63::c64::c65::c66::c67::c68::c69::c70::c71::c72::c73::c74::c75::c76::c77::c78::c79::c80::c81::c82::c83::c84::c85::c86::c87::c88::c89::c90::c91::c92::c93::c94::c95::c96::c97::c98::c99::c100::c101::c102::[]),[]⟩ w:=by
 have HX:=Lib.hid hX;have HK:=Lib.hid hK
 clear hX hK
 conv => arg 2;whnf
 go_region_with (go_at_call 48;refine HX.out.mono ?_;rintro e w1 ⟨rfl,hs1⟩;have HS1:=Lib.hid hs1;clear hs1)
 all_goals
  go_wp2_with fail
  exact HK.out _ _ _ _ _ _ _ _ _ _ _ _ _ _ _ rfl HS1.out
set_option maxRecDepth 100000 in
set_option maxHeartbeats 16000000 in
theorem zsread_any (x : Pl) (g : Blkc) (w : World) (Z G : Nat) (hA dA kA : Addr) (za : ZAp x Z G hA dA kA) (pk : Nat) (tl : List UInt8) (hZ : g.Z = List.replicate pk false ++ bitsOf tl) (hpk : pk < 8) (htl : 4 ≤ tl.length) (q m : Nat) (T : List UInt8) (c : Array Value) (L : List UInt8) (h : ZS x g w Z G hA dA kA q m T c L)
  (B bo n dcap : Nat) (cur : Array Value) (t : TypeId) (hn : 0 < n) (hn2 : n ≤ 1099511627776) (hdc : n ≤ dcap) (hb : Blk w B cur t) (hfit : bo + n ≤ cur.size) (hu8 : ∀ (o : Nat) (v : Value),cur[o]? = some v → ∃ z : Int,v = .int .u8 z) (hBM : ¬ x.M B) (hBs : B ≠ x.sb) (hBE : ¬ GM x.A hA dA kA x.U B) (hBZ : B ≠ Z) (hBG : B ≠ G) (hdm : dcap ≤ maxLen) :
  Calls Tryz.prog 106 #[.pointer (some ⟨Z,0,none⟩),.slice (some ⟨B,bo,none⟩) n dcap] w (ZRPost x g w Z G hA dA kA tl q L B bo n cur t):=by
 have HH:=Lib.hid h
 have HFR:=Lib.hid (fread_any x za.ap g w c q m T h.rs B bo n dcap cur t hn hn2 hdc hb hfit hu8 (fun e => by rcases e with e | e | e | e;exact hBM e;exact hBs e;exact hBE (EM_GM e);exact hBE (.inl (by omega))))
 obtain ⟨s0,s1,s2,s3,hzb⟩:=h.zb
 have k1 : w.cell? ⟨Z,1,none⟩ = some (.iface 151 (.pointer (some ⟨x.F,0,none⟩))):=by rw [hzb.cell];rfl
 have k3 : w.cell? ⟨Z,3,none⟩ = some .nilIface:=by rw [hzb.cell];rfl
 have hf:=hzb.free
 have HZB:=Lib.hid hzb;have HZZ:=Lib.hid hZ
 have hna:=nilAhead_fread
 have hm:=method_fread
 clear h hzb hb hZ
 go_enter Tryz.func106,Tryz.ntmps106
 go_wp2_with fail
 refine HFR.out.mono ?_
 rintro e w1 ⟨k,v,cs,c1,T1,m1,rfl,hcs,hkn,hB1,he1,hrs1,hbytes,hcase⟩
 have hz1 : ∀ j,j = Z ∨ j = G → ¬ (x.M j ∨ j = B):=by
  rintro j (rfl | rfl) (e | e)
  ·exact za.zM e
  ·exact hBZ e.symm
  ·exact za.gM e
  ·exact hBG e.symm
 have hzb1:=HZB.out.ext he1 (hz1 _ (.inl rfl))
 have hgb1:=HH.out.gb.ext he1 (hz1 _ (.inr rfl))
 have hgl1:=HH.out.glo.ext he1 (fun j hj e => by rcases e with e | e;exact za.mE j hj e;exact hBE (e ▸ hj))
 have q3 : w1.cell? ⟨Z,3,none⟩ = some .nilIface:=by rw [hzb1.cell];rfl
 have hf1:=hzb1.free
 have hvc : (v = .nilIface ∧ 0 < k) ∨ (v = .iface 175 (.pointer (some x.A)) ∧ q + k + g.e = g.all.length + g.d ∧ c1[1048]? = some v ∧ ∃ BB p,BB.length < 8 ∧ BB ++ bitsOf (x.src.drop p ++ x.ext) = g.Z ∧ Src w1 x.R x.sb x.so x.cap x.src p) ∨
   (¬ g.ok ∧ ∃ z : Int,v = .iface 159 (.int .i64 z)) ∨ (x.ext ≠ [] ∧ v = .iface 175 (.pointer (some x.U))):=by
  rcases hcase with h | ⟨rfl,h,hne⟩
  ·exact .inl h
  ·rcases hrs1.ended h hne za.ap hgl1.n1 with ⟨a,b,d⟩ | a | a
   ·exact .inr (.inl ⟨a,b,h,d⟩)
   ·exact .inr (.inr (.inl a))
   ·exact .inr (.inr (.inr a))
 have hfit2 : ∀ j y,(cs.map U8)[j]? = some y → (w1.setCell ⟨Z,3,none⟩ v).cell? ⟨B,bo + j,none⟩ = some y:=by
  intro j y hy
  rw [(hB1.setOther _ _ (by simpa using hBZ)).cell]
  exact (splice_same cur bo (cs.map U8) (by rw [List.length_map];omega)).2 j y hy
 have hRd : Rd (w1.setCell ⟨Z,3,none⟩ v).drew (.slice (some ⟨B,bo,none⟩) k dcap) (cs.map U8):=⟨dcap,by rw [List.length_map];omega,hdm,.inr ⟨B,bo,by rw [List.length_map,hcs],hfit2⟩⟩
 have hWR:=digest_write G L cs _ _ (by omega) hRd ((hgb1.setOther _ _ (by simp;exact za.zg.symm)).drew)
 rw [hcs] at hWR
 have hkey : ∀ w2,Blk w2 G #[.int .u32 (adler (L ++ cs))] 134 → Ext (fun j => j = G) (w1.setCell ⟨Z,3,none⟩ v).drew w2 →
   Blk w2 Z #[.iface 50 (.pointer (some ⟨x.R,0,none⟩)),.iface 151 (.pointer (some ⟨x.F,0,none⟩)),.iface 153 (.pointer (some ⟨G,0,none⟩)),v,U8 s0,U8 s1,U8 s2,U8 s3] 91 ∧ Glo w2 x.A hA dA kA x.U ∧ RS x g w2 c1 (q + k) T1 m1 ∧
   Blk w2 B (splice cur.toList bo (cs.map U8)).toArray t ∧ Ext (fun j => x.M j ∨ j = Z ∨ j = G ∨ j = B) w w2 ∧ Ext (fun j => j = Z ∨ j = G) w1 w2:=by
  intro w2 hg2 he2
  have e1 : Ext (fun j => j = Z ∨ j = G) w1 w2:=((((Ext.refl _ w1).setCell (p:=⟨Z,3,none⟩) (fun _ => .inl rfl) v).drew).trans (he2.mono (fun _ _ e => .inr e)))
  refine ⟨(zblk_set hzb1).drew.ext he2 za.zg,hgl1.ext e1 (fun j hj e => by rcases e with rfl | rfl;exact za.zE hj;exact za.gE hj),hrs1.outer (Outer.of_ext e1 ?_ ?_),?_,?_,e1⟩
  ·rintro j (rfl | rfl) (e | e | e | e)
   ·exact za.zM e
   ·exact za.zs e
   ·exact za.zE (EM_GM e)
   ·exact za.zE (.inl (by omega))
   ·exact za.gM e
   ·exact za.gs e
   ·exact za.gE (EM_GM e)
   ·exact za.gE (.inl (by omega))
  ·rintro j (rfl | rfl)
   ·exact .inl za.oZ
   ·exact .inl za.oG
  ·exact hB1.ext e1 (fun e => by rcases e with e | e;exact hBZ e;exact hBG e)
  ·exact (he1.mono (fun j _ e => by rcases e with e | e;exact .inl e;exact .inr (.inr (.inr e)))).trans (e1.mono (fun j _ e => by rcases e with e | e;exact .inr (.inl e);exact .inr (.inr (.inl e))))
 have HWR:=Lib.hid hWR;have HCS:=Lib.hid hcs;have HBY:=Lib.hid hbytes;have HKEY:=Lib.hid hkey
 have HZB1:=Lib.hid hzb1;have HRS1:=Lib.hid hrs1
 clear hcs hB1 he1 hrs1 hbytes hcase hzb1 hgb1 hgl1 hfit2 hRd hWR hz1 k1 k3 hf hkey
 have hfin : ∀ (v' : Value) (w2 w' : World) (t0 t1 t2 t3 : UInt8),Glo w2 x.A hA dA kA x.U → RS x g w2 c1 (q + k) T1 m1 → Blk w2 B (splice cur.toList bo (cs.map U8)).toArray t → Ext (fun j => x.M j ∨ j = Z ∨ j = G ∨ j = B) w w2 →
   Blk w' Z #[.iface 50 (.pointer (some ⟨x.R,0,none⟩)),.iface 151 (.pointer (some ⟨x.F,0,none⟩)),.iface 153 (.pointer (some ⟨G,0,none⟩)),v',U8 t0,U8 t1,U8 t2,U8 t3] 91 → Ext (fun j => j = Z ∨ j = x.R) w2 w' → (∃ p,Src w' x.R x.sb x.so x.cap x.src p) →
   ZWhy2 x g kA tl (L ++ cs) (q + k) c1 w' v' → ZRPost x g w Z G hA dA kA tl q L B bo n cur t (.returned (.tuple #[.int .i64 k,v'])) w':=by
  intro v' w2 w' t0 t1 t2 t3 hgl hrs hB hE hz hE' hS hwhy
  have hEZ : Ext (fun j => j = Z ∨ j = x.R) w2 w':=hE'
  have zF : ¬ (x.F = Z ∨ x.F = x.R):=fun e => by rcases e with e | e;exact za.zM (.inl e.symm);exact za.ap.FR e
  have zh : ¬ (x.hb = Z ∨ x.hb = x.R):=fun e => by rcases e with e | e;exact za.zM (.inr (.inr (.inl e.symm)));exact za.ap.Rh e.symm
  have zB : ¬ (x.Bb = Z ∨ x.Bb = x.R):=fun e => by rcases e with e | e;exact za.zM (.inr (.inr (.inr (.inl e.symm))));exact za.ap.RB e.symm
  have zC : ¬ (x.Cb = Z ∨ x.Cb = x.R):=fun e => by rcases e with e | e;exact za.zM (.inr (.inr (.inr (.inr e.symm))));exact za.ap.RC e.symm
  refine ⟨k,v',cs,c1,T1,m1,rfl,HCS.out,hkn,hB.ext hE' (fun e => by rcases e with e | e;exact hBZ e;exact hBM (.inr (.inl e))),hE.trans (hE'.mono (fun j _ e => by rcases e with e | e;exact .inr (.inl e);exact .inl (.inr (.inl e)))),HBY.out,.inr ⟨⟨t0,t1,t2,t3,hz⟩,hrs.fend.1.ext hEZ zF zh zB zC,hS,?_,hrs.bound,hwhy⟩⟩
  exact hgl.ext hE' (fun j hj e => by rcases e with rfl | rfl;exact za.zE hj;exact za.mE _ hj (.inr (.inl rfl)))
 have HFIN:=Lib.hid hfin
 clear hfin
 obtain ⟨ci,hci,hcmp⟩:=Option.map_eq_some_iff.1 Tryz.comp175
 obtain ⟨cj,hcj,hcs⟩:=Option.map_eq_some_iff.1 Tryz.size204
 rcases hvc with ⟨rfl,hk0⟩ | ⟨rfl,hq,h48,BB,p,hB8,hBB,hSrc⟩ | ⟨hok,ze,rfl⟩ | ⟨hext,rfl⟩
 ·
  go_upto_region 5 with (fail)
  refine z_write Z B bo n dcap k G _ hkn hdc (by rw [(HZB1.out.set 3 _).cell];simp) _ (HWR.out.mono (fun e w' h => ⟨h.1,h.2⟩)) _ _ ?_
  rintro u31 u32 u33 u34 u35 u36 u37 u38 u39 u40 w2 ⟨hg2,he2⟩
  obtain ⟨hz2,hgl2,hrs2,hB2,hE2,hE12⟩:=HKEY.out w2 hg2 he2
  have hn:=fun n : Nat => run_neq_of_eql0 (run_eql_iface_nil_left (P:=Tryz.prog) (w:=w2.drewN n) 175 (.pointer (some x.A)) Tryz.underlying47)
  have k3 : w2.cell? ⟨Z,3,none⟩ = some .nilIface:=by rw [hz2.cell];rfl
  have g0:=hgl2.eof.cell
  have hf2:=hz2.free
  have hEND : Hid (∀ na nb,ZRPost x g w Z G hA dA kA tl q L B bo n cur t (.returned (.tuple #[.int .i64 k,.nilIface])) ((w2.drewN na).drewN nb)):=Lib.hid (fun na nb => ⟨k,.nilIface,cs,c1,T1,m1,rfl,HCS.out,hkn,(hB2.drewN na).drewN nb,(hE2.drewN na).drewN nb,HBY.out,.inl ⟨rfl,hk0,⟨⟨s0,s1,s2,s3,(hz2.drewN na).drewN nb⟩,(hg2.drewN na).drewN nb,(hrs2.drewN na).drewN nb,hgl2.ext (M:=fun _ => False) (((Ext.refl _ w2).drewN na).drewN nb) (fun _ _ e => e)⟩⟩⟩)
  clear hz2 hgl2 hrs2 hB2 hE2 hE12 hg2 he2 hci hcmp hcj hcs
  go_upto_region 6 with (fail)
  go_quiet (fail)
  obtain ⟨na,rfl⟩ : ∃ n : Nat,n = nq:=⟨_,rfl⟩
  go_wp2_with fail
  go_quiet (fail)
  go_wp2_with fail
  go_ret2
  exact hEND.out na nq
 ·
  have htl2 : x.src.drop p ++ x.ext = tl:=by
   rw [HZZ.out] at hBB
   exact end_bits hBB hB8 hpk
  have hZR : Z ≠ x.R:=fun e => za.zM (.inr (.inl e))
  have hGR : G ≠ x.R:=fun e => za.gM (.inr (.inl e))
  have HTL:=Lib.hid htl2;have HQ:=Lib.hid hq;have H48:=Lib.hid h48;have HSRC:=Lib.hid hSrc
  clear hBB hB8 htl2 hq h48 hSrc
  go_upto_region 5 with (fail)
  refine z_write Z B bo n dcap k G _ hkn hdc (by rw [(HZB1.out.set 3 _).cell];simp) _ (HWR.out.mono (fun e w' h => ⟨h.1,h.2⟩)) _ _ ?_
  rintro u31 u32 u33 u34 u35 u36 u37 u38 u39 u40 w2 ⟨hg2,he2⟩
  obtain ⟨hz2,hgl2,hrs2,hB2,hE2,hE12⟩:=HKEY.out w2 hg2 he2
  have hS2 : Src w2 x.R x.sb x.so x.cap x.src p:=HSRC.out.ext hE12 (fun e => by rcases e with e | e;exact hZR e.symm;exact hGR e.symm) (fun e => by rcases e with e | e;exact za.zs e.symm;exact za.gs e.symm)
  have heq:=fun w : World => run_eql_iface_ptr_same (P:=Tryz.prog) w x.A Tryz.underlying47 Tryz.underlying175 hci hcmp hcj
  have heqn:=fun w : World => run_neq_of_eql (heq w)
  have k3 : w2.cell? ⟨Z,3,none⟩ = some (.iface 175 (.pointer (some x.A))):=by rw [hz2.cell];rfl
  have g0:=hgl2.eof.cell
  have hf2:=hz2.free
  have HZ2:=Lib.hid hz2;have HG2:=Lib.hid hgl2;have HR2:=Lib.hid hrs2;have HB2:=Lib.hid hB2;have HE2:=Lib.hid hE2;have HS2:=Lib.hid hS2;have HGB:=Lib.hid hg2
  clear hz2 hgl2 hrs2 hB2 hE2 hE12 hS2 hg2 he2
  go_upto_region 6 with (fail)
  go_quiet (fail)
  obtain ⟨w3,hw3⟩ : ∃ y,w2.drewN nq = y:=⟨_,rfl⟩
  have he3 : Ext (fun _ => False) w2 w3:=by rw [← hw3];exact (Ext.refl _ _).drewN _
  rw [hw3]
  clear hw3 k3 g0 hf2
  have hz3:=HZ2.out.ext he3 (fun e => e)
  have hdr : Ext (fun _ => False) w2 w3.drew:=he3.drew
  obtain ⟨nr,ev,hevv,hrd⟩:=zread_any Z x.R x.sb x.so x.cap x.src p 4 x.A x.U _ w3.drew hz3.drew (by rfl) (HS2.out.ext hdr (fun e => e) (fun e => e)) (HG2.out.ext hdr (fun _ _ e => e)).ends hZR za.zs (fun h => za.zE (EM_GM h)) (fun h => za.mE _ (EM_GM h) (.inr (.inl rfl))) (by omega) za.ap.room
  have hc0 : w3.cell? ⟨Z,0,none⟩ = some (.iface 50 (.pointer (some ⟨x.R,0,none⟩))):=by rw [hz3.cell];rfl
  have HE3:=Lib.hid he3
  clear he3 hdr hz3
  go_upto_region 8 with (fail)
  refine z_readsumN Z x.R w3 nr ev hevv _ hc0 hrd _ _ _ ?_
  intro u7 u8 u52 u53 u54 u55 u56 u57 u58 u59 u60 u61 u62 u63 w4 hu8 h4
  subst hu8
  have he4 : Ext (fun j => j = Z ∨ j = x.R) w2 w4:=((HE3.out.drew).mono (fun _ _ e => e.elim)).trans h4.2
  have hgl4 : Glo w4 x.A hA dA kA x.U:=HG2.out.ext he4 (fun j hj e => by rcases e with rfl | rfl;exact za.zE hj;exact za.mE _ hj (.inr (.inl rfl)))
  have g0:=hgl4.eof.cell
  have g3:=hgl4.sum.cell
  have g4:=hgl4.early.cell
  have hz0 : (0 : Nat) ≠ Z:=fun e => za.zE (e ▸ .inl (by omega))
  have hz3 : (3 : Nat) ≠ Z:=fun e => za.zE (e ▸ .inl (by omega))
  have hz4 : (4 : Nat) ≠ Z:=fun e => za.zE (e ▸ .inl (by omega))
  have HE4:=Lib.hid he4;have HG4:=Lib.hid hgl4
  have h41:=h4.1
  clear h4 he4 hgl4 hc0 hrd hevv
  rcases h41 with ⟨hp4,rfl,hs4,hb4⟩ | ⟨hp4,hevu,hs4,hb4⟩
  rotate_left
  ·
   have hext : x.ext ≠ []:=by
    intro e
    have h:=HTL.out
    rw [e,List.append_nil] at h
    have:=congrArg List.length h
    rw [List.length_drop] at this
    omega
   obtain ⟨y0,y1,y2,y3,hb5⟩ : ∃ y0 y1 y2 y3 : UInt8,Blk w4 Z #[.iface 50 (.pointer (some ⟨x.R,0,none⟩)),.iface 151 (.pointer (some ⟨x.F,0,none⟩)),.iface 153 (.pointer (some ⟨G,0,none⟩)),.iface 175 (.pointer (some x.A)),U8 y0,U8 y1,U8 y2,U8 y3] 91:=by
    rcases hd : x.src.drop p with _ | ⟨a,_ | ⟨b,_ | ⟨d,_ | ⟨e',s⟩⟩⟩⟩
    ·exact ⟨s0,s1,s2,s3,by simpa [splice,hd] using hb4⟩
    ·exact ⟨a,s1,s2,s3,by simpa [splice,hd] using hb4⟩
    ·exact ⟨a,b,s2,s3,by simpa [splice,hd] using hb4⟩
    ·exact ⟨a,b,d,s3,by simpa [splice,hd] using hb4⟩
    ·exfalso
     have:=congrArg List.length hd
     rw [List.length_drop] at this
     simp at this
     omega
   have k3 : w4.cell? ⟨Z,3,none⟩ = some (.iface 175 (.pointer (some x.A))):=by rw [hb5.cell];rfl
   have hf4:=hb5.free
   have HEND : Hid (∀ nq,ZRPost x g w Z G hA dA kA tl q L B bo n cur t (.returned (.tuple #[.int .i64 k,.iface 175 (.pointer (some x.U))])) ((w4.setCell ⟨Z,3,none⟩ (.iface 175 (.pointer (some x.U)))).drewN nq)):=Lib.hid (fun nq =>
    HFIN.out _ w2 _ y0 y1 y2 y3 HG2.out HR2.out HB2.out HE2.out ((zblk_set hb5).drewN nq) ((HE4.out.setCell (p:=⟨Z,3,none⟩) (fun _ => .inl rfl) _).drewN nq) ⟨_,(hs4.ext ((Ext.refl (fun k => k = Z) w4).only _) (fun e => hZR e.symm) (fun e => za.zs e.symm)).drewN nq⟩ (.cut hext))
   rcases hevu with rfl | rfl
   ·clear hb4 hb5 hs4 hci hcmp hcj hcs
    go_wp2_with fail
    go_quiet (fail)
    go_wp2_with fail
    go_ret2
    exact HEND.out nq
   ·have hne:=HG4.out.n1
    obtain ⟨cu,tu,hru⟩:=HG4.out.early.row
    obtain ⟨ca,ta,hra⟩:=HG4.out.eof.row
    have hn:=run_eql_iface_ptr_other (P:=Tryz.prog) w4 Tryz.underlying47 Tryz.underlying175 hci hcmp hcj (by omega) hne hru hra
    clear hb4 hb5 hs4 hci hcmp hcj hcs hru hra hne
    go_wp2_with fail
    go_quiet (fail)
    go_wp2_with fail
    go_ret2
    exact HEND.out nq
  ·obtain ⟨t0,t1,t2,t3,rest,hd⟩ : ∃ t0 t1 t2 t3 rest,x.src.drop p = t0::t1::t2::t3::rest:=by
    have h4 : 4 ≤ (x.src.drop p).length:=by rw [List.length_drop];omega
    rcases hd : x.src.drop p with _ | ⟨a,_ | ⟨b,_ | ⟨d,_ | ⟨e',s⟩⟩⟩⟩
    all_goals rw [hd] at h4
    ·simp at h4
    ·simp at h4
    ·simp at h4
    ·simp at h4
    ·exact ⟨a,b,d,e',s,rfl⟩
   have hp4' : x.src.drop (p + 4) = rest:=by rw [← List.drop_drop,hd];rfl
   have hb5 : Blk w4 Z #[.iface 50 (.pointer (some ⟨x.R,0,none⟩)),.iface 151 (.pointer (some ⟨x.F,0,none⟩)),.iface 153 (.pointer (some ⟨G,0,none⟩)),.iface 175 (.pointer (some x.A)),U8 t0,U8 t1,U8 t2,U8 t3] 91:=by simpa [splice,hd] using hb4
   have htl3 : tl = t0::t1::t2::t3::(rest ++ x.ext):=by rw [← HTL.out,hd];rfl
   have q0 : w4.cell? ⟨Z,4,none⟩ = some (.int .u8 t0.toNat):=by rw [hb5.cell];rfl
   have q1 : w4.cell? ⟨Z,5,none⟩ = some (.int .u8 t1.toNat):=by rw [hb5.cell];rfl
   have q2 : w4.cell? ⟨Z,6,none⟩ = some (.int .u8 t2.toNat):=by rw [hb5.cell];rfl
   have q3 : w4.cell? ⟨Z,7,none⟩ = some (.int .u8 t3.toNat):=by rw [hb5.cell];rfl
   have HB5:=Lib.hid hb5;have HS4:=Lib.hid hs4;have HTL3:=Lib.hid htl3;have HP4:=Lib.hid hp4'
   clear hb4 hb5 hs4 htl3 hp4' hd hci hcmp hcj hcs
   go_upto_region 14 with (fail)
   refine z_num4b Z w4 t0.toNat t1.toNat t2.toNat t3.toNat t0.toNat_lt t1.toNat_lt t2.toNat_lt t3.toNat_lt q0 q1 q2 q3 _ _ ?_
   intro u9 u79 u80 u81 u82 u83 u84 w5 hu9 he5
   subst hu9
   have hb5:=HB5.out.ext he5 (fun e => e)
   have k3 : w5.cell? ⟨Z,3,none⟩ = some (.iface 175 (.pointer (some x.A))):=by rw [hb5.cell];rfl
   have k2 : w5.cell? ⟨Z,2,none⟩ = some (.iface 153 (.pointer (some ⟨G,0,none⟩))):=by rw [hb5.cell];rfl
   have hf5:=hb5.free
   have p0:=he5.cellSome (fun e => e) g0
   have p3:=he5.cellSome (fun e => e) g3
   have hgb5:=(HGB.out.ext HE4.out (fun e => by rcases e with e | e;exact za.zg e.symm;exact hGR e)).ext he5 (fun e => e)
   have HSUM:=Lib.hid (sum32_any G (adler (L ++ cs)) w5 hgb5)
   have he25 : Ext (fun j => j = Z ∨ j = x.R) w2 w5:=HE4.out.trans (he5.mono (fun _ _ e => e.elim))
   have HE25:=Lib.hid he25
   have HS5:=Lib.hid (HS4.out.ext he5 (fun e => e) (fun e => e))
   have HB5':=Lib.hid hb5
   have hna:=nilAhead_sum32
   have hm:=method_sum32
   obtain ⟨nn,hnn⟩ : ∃ y,16777216 * t0.toNat + 65536 * t1.toNat + 256 * t2.toNat + t3.toNat = y:=⟨_,rfl⟩
   obtain ⟨aa,haa⟩ : ∃ y,adler (L ++ cs) = y:=⟨_,rfl⟩
   rw [haa] at HSUM
   rw [hnn]
   have HNN:=Lib.hid hnn;have HAA:=Lib.hid haa
   clear hb5 hgb5 he25 he5 q0 q1 q2 q3 g0 g3 g4 hnn haa
   by_cases hnum : nn = aa
   ·have d1 : ((nn : Int) != (aa : Int)) = false:=by simp;omega
    have HEND : Hid (∀ nq,ZRPost x g w Z G hA dA kA tl q L B bo n cur t (.returned (.tuple #[.int .i64 k,.iface 175 (.pointer (some x.A))])) (w5.drewN nq)):=Lib.hid (fun nq =>
     HFIN.out _ w2 _ t0 t1 t2 t3 HG2.out HR2.out HB2.out HE2.out (HB5'.out.drewN nq) (HE25.out.drewN nq) ⟨_,HS5.out.drewN nq⟩ (.eof t0 t1 t2 t3 _ HTL3.out HQ.out (by unfold num4;rw [HNN.out,HAA.out];exact hnum) H48.out _ (HS5.out.drewN nq) (by rw [HP4.out])))
    clear hnum
    go_wp2_with fail
    refine HSUM.out.mono ?_
    rintro e w6 ⟨rfl,rfl⟩
    go_wp2_with fail
    go_quiet (fail)
    go_wp2_with fail
    go_ret2
    exact HEND.out nq
   ·have d1 : ((nn : Int) != (aa : Int)) = true:=by simp;omega
    have HEND : Hid (∀ nq,ZRPost x g w Z G hA dA kA tl q L B bo n cur t (.returned (.tuple #[.int .i64 k,.iface 175 (.pointer (some kA))])) ((w5.setCell ⟨Z,3,none⟩ (.iface 175 (.pointer (some kA)))).drewN nq)):=Lib.hid (fun nq =>
     HFIN.out _ w2 _ t0 t1 t2 t3 HG2.out HR2.out HB2.out HE2.out ((zblk_set HB5'.out).drewN nq) ((HE25.out.setCell (p:=⟨Z,3,none⟩) (fun _ => .inl rfl) _).drewN nq) ⟨_,(HS5.out.ext ((Ext.refl (fun k => k = Z) w5).only _) (fun e => hZR e.symm) (fun e => za.zs e.symm)).drewN nq⟩ (.sum t0 t1 t2 t3 _ HTL3.out HQ.out (by unfold num4;rw [HNN.out,HAA.out];exact hnum) (p + 4) (by rw [HP4.out])))
    clear hnum
    go_wp2_with fail
    refine HSUM.out.mono ?_
    rintro e w6 ⟨rfl,rfl⟩
    go_wp2_with fail
    go_quiet (fail)
    go_wp2_with fail
    go_ret2
    exact HEND.out nq
 ·
  go_upto_region 5 with (fail)
  refine z_write Z B bo n dcap k G _ hkn hdc (by rw [(HZB1.out.set 3 _).cell];simp) _ (HWR.out.mono (fun e w' h => ⟨h.1,h.2⟩)) _ _ ?_
  rintro u31 u32 u33 u34 u35 u36 u37 u38 u39 u40 w2 ⟨hg2,he2⟩
  obtain ⟨hz2,hgl2,hrs2,hB2,hE2,hE12⟩:=HKEY.out w2 hg2 he2
  have hn:=fun n : Nat => run_neq_of_eql (run_eql_iface_types (P:=Tryz.prog) 159 175 (.int .i64 ze) (.pointer (some x.A)) Tryz.underlying47 (by decide) (w2.drewN n))
  have k3 : w2.cell? ⟨Z,3,none⟩ = some (.iface 159 (.int .i64 ze)):=by rw [hz2.cell];rfl
  have g0:=hgl2.eof.cell
  have hf2:=hz2.free
  have hEND : Hid (∀ na nb,ZRPost x g w Z G hA dA kA tl q L B bo n cur t (.returned (.tuple #[.int .i64 k,.iface 159 (.int .i64 ze)])) ((w2.drewN na).drewN nb)):=Lib.hid (fun na nb => HFIN.out _ w2 _ s0 s1 s2 s3 hgl2 hrs2 hB2 hE2 ((hz2.drewN na).drewN nb) (((Ext.refl _ w2).drewN na).drewN nb) (((hrs2.drewN na).drewN nb).fend.2) (.data ze hok))
  clear hz2 hgl2 hrs2 hB2 hE2 hE12 hg2 he2 hci hcmp hcj hcs
  go_upto_region 6 with (fail)
  go_quiet (fail)
  obtain ⟨na,rfl⟩ : ∃ n : Nat,n = nq:=⟨_,rfl⟩
  go_wp2_with fail
  go_quiet (fail)
  go_wp2_with fail
  go_ret2
  exact hEND.out na nq
 ·
  go_upto_region 5 with (fail)
  refine z_write Z B bo n dcap k G _ hkn hdc (by rw [(HZB1.out.set 3 _).cell];simp) _ (HWR.out.mono (fun e w' h => ⟨h.1,h.2⟩)) _ _ ?_
  rintro u31 u32 u33 u34 u35 u36 u37 u38 u39 u40 w2 ⟨hg2,he2⟩
  obtain ⟨hz2,hgl2,hrs2,hB2,hE2,hE12⟩:=HKEY.out w2 hg2 he2
  have hne:=hgl2.n1
  obtain ⟨cu,tu,hru⟩:=hgl2.early.row
  obtain ⟨ca,ta,hra⟩:=hgl2.eof.row
  have hn:=fun n : Nat => run_neq_of_eql (run_eql_iface_ptr_other (P:=Tryz.prog) (w2.drewN n) Tryz.underlying47 Tryz.underlying175 hci hcmp hcj (by omega) hne hru hra)
  have k3 : w2.cell? ⟨Z,3,none⟩ = some (.iface 175 (.pointer (some x.U))):=by rw [hz2.cell];rfl
  have g0:=hgl2.eof.cell
  have hf2:=hz2.free
  have hEND : Hid (∀ na nb,ZRPost x g w Z G hA dA kA tl q L B bo n cur t (.returned (.tuple #[.int .i64 k,.iface 175 (.pointer (some x.U))])) ((w2.drewN na).drewN nb)):=Lib.hid (fun na nb => HFIN.out _ w2 _ s0 s1 s2 s3 hgl2 hrs2 hB2 hE2 ((hz2.drewN na).drewN nb) (((Ext.refl _ w2).drewN na).drewN nb) (((hrs2.drewN na).drewN nb).fend.2) (.cut hext))
  clear hz2 hgl2 hrs2 hB2 hE2 hE12 hg2 he2 hci hcmp hcj hcs hru hra hne
  go_upto_region 6 with (fail)
  go_quiet (fail)
  obtain ⟨na,rfl⟩ : ∃ n : Nat,n = nq:=⟨_,rfl⟩
  go_wp2_with fail
  go_quiet (fail)
  go_wp2_with fail
  go_ret2
  exact hEND.out na nq
end Go.Proofs.YthpapbilhjobnaaGreatDoor
namespace Go.Proofs.YthpapbilhjobnaaGreatDoor
open Go.RowKit Pu
def lastOf (D : List UInt8) : List UInt8:=D.drop (D.length - 32768)
theorem Pu.Win.last {hs : List UInt8} {wr : Nat} {full : Bool} {D : List UInt8} (h : Win hs wr full D) : Win hs wr full (lastOf D):=by
 have hlen : (lastOf D).length = if D.length ≤ 32768 then D.length else 32768:=by
  unfold lastOf
  rw [List.length_drop]
  split <;> omega
 rcases Nat.lt_or_ge 32768 D.length with hd | hd
 ·rw [if_neg (by omega)] at hlen
  have hf : full = true:=by
   cases full
   ·have:=h.part rfl;have:=h.le;omega
   ·rfl
  subst hf
  refine ⟨h.size,h.le,fun e => by simp at e,fun _ => by omega,fun k h1 h2 => ?_⟩
  have h2' : k ≤ 32768:=by simpa [hsize] using h2
  rw [h.at_ k h1 h2]
  unfold lastOf
  rw [List.getElem?_drop,List.length_drop]
  have e : D.length - k = D.length - 32768 + (D.length - (D.length - 32768) - k):=by omega
  rw [← e]
 ·have : lastOf D = D:=by
   unfold lastOf
   rw [show D.length - 32768 = 0 by omega];rfl
  rw [this];exact h
structure Str (src ext : List UInt8) (p : Nat) (D' : List UInt8) (g : Blkc) (pk i : Nat) (tl : List UInt8) : Prop where
 Z : g.Z = List.replicate pk false ++ bitsOf tl
 pk : pk < 8
 tl : 4 ≤ tl.length
 bits : ∃ X,bitsOf (src.drop p ++ ext) = X ++ g.Z ∧ Ahead g.all 0 i X
 hist : HistOk g.ok g.all i (lastOf D')
 base : (lastOf D').length + g.e = i + g.d
theorem len0 (n wr : Nat) : n = n + ([] : List UInt8).length + (wr - wr):=by simp
theorem ZNew.start (x : Pl) (g : Blkc) (w : World) (Z G : Nat) (hA dA kA : Addr) (za : ZAp x Z G hA dA kA) (hO : ∀ k,x.O k → k = Z ∨ k = G) (p : Nat) (c : Array Value) (hs : List UInt8) (wr : Nat) (full : Bool) (D' : List UInt8) (h : ZNew w Z x.R x.sb x.so x.cap x.src p x.F x.Bb x.Cb x.hb G c hs wr full D')
  (hg : Glo w x.A hA dA kA x.U) (pk i : Nat) (tl : List UInt8) (hst : Str x.src x.ext p D' g pk i tl) :
  ∃ m,ZS x g w Z G hA dA kA (lastOf D').length m [] c []:=by
 obtain ⟨X,hX,hah⟩:=hst.bits
 have f:=h.f
 have hwl:=f.win.last
 have hhist:=hst.hist
 have hbase:=hst.base
 generalize lastOf D' = H at hwl hhist hbase ⊢
 have hw3 : W3 x w c H.length H hs wr wr full []:=⟨f.dd,hwl,f.lt,Or.inl ⟨rfl,f.out⟩,len0 _ _,rfl⟩
 have hbits : Bits c []:=⟨by rw [f.b];rfl,by rw [f.nb];rfl,⟨0,f.off⟩⟩
 have htk : Tak x w c (X ++ g.Z) w c [] p:=⟨f.dd.blk,Same.refl _ _,f.rdr,hbits,h.src,hg.ends,Ext.refl _ _,by rw [List.nil_append];exact hX⟩
 have hstd : Std x w c:=⟨f.nob,f.bp,f.cp,f.h5,f.h520,f.bb,f.cb,hg.g7,fun k hk => by
  rcases hO k hk with e | e
  ·obtain ⟨s0,s1,s2,s3,hz⟩:=h.z
   rw [e];exact hz.lt
  ·rw [e];exact h.g.lt⟩
 have h8 : (0 + (X ++ g.Z).length) % 8 = 0:=by
  rw [← hX,length_bitsOf];omega
 exact ⟨_,h.z,h.g,.next ⟨htk,hw3,f.sz⟩ (by simp) hah h8 hhist hbase f.step f.err hstd (.inl f.state),hg⟩
theorem zap_of (F R sb so cap hb Bb Cb Z G : Nat) (A hA dA kA U : Addr) (src ext : List UInt8) (n : Nat) (hR : R < n) (hs : sb < n) (hgl : ∀ k,GM A hA dA kA U k → k < n) (hne : sb ≠ R) (hGR : ¬ GM A hA dA kA U R) (room : src.length ≤ cap)
  (o0 : n ≤ Z) (o1 : Z < F) (o2 : F < Bb) (o3 : Bb < Cb) (o4 : Cb < hb) (o5 : hb < G) : ZAp ⟨F,R,sb,so,cap,hb,Bb,Cb,A,U,src,ext,fun k => k = Z ∨ k = G⟩ Z G hA dA kA:=by
 have hlow : ∀ k,GM A hA dA kA U k → k ≠ F ∧ k ≠ hb ∧ k ≠ Bb ∧ k ≠ Cb ∧ k ≠ Z ∧ k ≠ G:=fun k hk => by have:=hgl k hk;omega
 have hm : ∀ k,GM A hA dA kA U k → ¬ (k = F ∨ k = R ∨ k = hb ∨ k = Bb ∨ k = Cb):=fun k hk e => by
  have:=hlow k hk
  rcases e with e | e | e | e | e
  ·omega
  ·exact hGR (e ▸ hk)
  ·omega
  ·omega
  ·omega
 refine ⟨⟨?_,?_,?_,?_,?_,?_,?_,?_,?_,?_,?_,hne,?_,?_,?_,fun k hk => hm k (EM_GM hk),hm 7 (.inl (by omega)),?_,room⟩,?_,?_,?_,?_,?_,fun e => ?_,fun e => ?_,hm,.inl rfl,.inr rfl⟩
 case refine_21 => have:=hgl _ e;omega
 case refine_22 => have:=hgl _ e;omega
 all_goals first
  | (show (_ : Nat) ≠ _;simp only [];omega)
  | (show ¬ (_ ∨ _);simp only [];omega)
  | omega
end Go.Proofs.YthpapbilhjobnaaGreatDoor
namespace Go.Proofs.YthpapbilhjobnaaGreatDoor
open Go.RowKit
def IsU8 (v : Value) : Prop:=∃ z : Int,v = .int .u8 z
def AllU8 (w : World) (g : Nat) : Prop:=∀ o v,w.cell? ⟨g,o,none⟩ = some v → IsU8 v
theorem AllU8.ext {w w' : World} {g : Nat} {M : Nat → Prop} (h : AllU8 w g) (he : Ext M w w') (hg : g < w.heap.size) (hm : ¬ M g) : AllU8 w' g:=fun o v hv => h o v (by rw [← he.cell hg hm];exact hv)
theorem AllU8.blk {w : World} {g : Nat} {c : Array Value} {t : TypeId} (h : Blk w g c t) (hc : ∀ v ∈ c.toList,IsU8 v) : AllU8 w g:=fun o v hv => by
 rw [h.cell] at hv
 exact hc v (by rw [← Array.getElem?_toList] at hv;exact List.mem_of_getElem? hv)
theorem AllU8.cells {w : World} {g : Nat} {c : Array Value} {t : TypeId} (h : AllU8 w g) (hb : Blk w g c t) : ∀ v ∈ c.toList,IsU8 v:=fun v hv => by
 obtain ⟨j,hj⟩:=List.getElem?_of_mem hv
 exact h j v (by rw [hb.cell,← Array.getElem?_toList];exact hj)
theorem zeroCells_u8 (n : Nat) : ∀ v ∈ (Builtin.zeroCells #[.int .u8 0] n).toList,IsU8 v:=by
 intro v hv
 unfold Builtin.zeroCells at hv
 simp only [Array.toList_map,List.mem_map] at hv
 obtain ⟨k,_,rfl⟩:=hv
 refine ⟨0,?_⟩
 have : k % (#[Value.int .u8 0] : Array Value).size = 0:=by
  show k % 1 = 0
  exact Nat.mod_one k
 rw [this];rfl
section
variable {P : Program} (w : World)
theorem run_append_u8 (base : Nat) (t ty e : TypeId) (i : TypeInfo) (z : Value) (bytes : Nat) (ht : P.underlying t = some (.slice e)) (hi : P.info? e = some i) (hz : i.zero = some z)
  (hsize : i.size = 1) (hby : i.bytes = bytes) (hzs : z.cells = #[.int .u8 0])
  (v : Value) (xs : List Value) (hown : w.ownsRow base e 1 v xs.length xs) (sv : Value) (ys : List Value) (hr : Rd w sv ys) (h1 : ∀ u ∈ ys,u.oneCell' = true)
  (h63 : xs.length + ys.length ≤ maxLen) (hbytes : (xs.length + ys.length) * bytes ≤ 140737488355328) (hbase : base ≤ w.heap.size)
  (hxu : ∀ u ∈ xs,IsU8 u) (hyu : ∀ u ∈ ys,IsU8 u) (hall : ∀ g,v.ownBlock = some g → AllU8 w g) :
  ∃ v' w',(Builtin.append_ #[t,t] ty #[v,sv]).run P w = .ok v' w' ∧ Appended w base e v sv xs ys v' w' ∧ ∀ g,v'.ownBlock = some g → AllU8 w' g:=by
 obtain ⟨v',w',hrun,hA⟩:=run_append_rd (P:=P) w base t ty e i z bytes ht hi hz hsize hby (by rw [hzs];rfl) v xs hown sv ys hr h1 h63 hbytes hbase
 refine ⟨v',w',hrun,hA,?_⟩
 obtain ⟨cap,hc1,hc2,hr⟩:=hr
 have hsmall : xs.length + ys.length ≤ 9223372036854775807:=by simp only [maxLen] at h63;omega
 rcases hr with ⟨rfl,rfl⟩ | ⟨b,o,rfl,hcl⟩
 ·have hr2:=run_append_owned_none (P:=P) w base t ty e i 1 ht hi v _ xs hown
  rw [hr2] at hrun
  simp only [Result.ok.injEq] at hrun
  rw [← hrun.1,← hrun.2];exact hall
 ·have hcells : ∀ j u,ys[j]? = some u → w.cell? ((⟨b,o,none⟩ : Addr).add j) = some u:=by
   intro j u hu
   have:=hcl j u hu
   by_cases hj : j = 0
   ·subst hj;simpa [Addr.add] using this
   ·simpa [Addr.add,hj] using this
  have hlen : ys.length = ys.length * i.size:=by rw [hsize];omega
  rcases hown.2 with ⟨rfl,hx0⟩ | ⟨g,gcap,cur,rfl,hbg,hg,hnc,hcm,hcs,htake⟩
  ·have hx : xs = []:=List.eq_nil_of_length_eq_zero hx0
   subst hx
   by_cases hm : ys.length = 0
   ·have : ys = []:=List.eq_nil_of_length_eq_zero hm
    subst this
    have hnil : v' = .slice none 0 0:=by
     have h2:=hA.own
     rcases h2.2 with ⟨h,_⟩ | ⟨g,gcap,cur,rfl,hbg,hg,hnc,hcm,hcs,htake⟩
     ·exact h
     ·exfalso
      have hmv:=run_append_moved (P:=P) w base t ty e i z 1 bytes ht hi hz hsize hby (by rw [hzs];rfl) (by decide) (.slice none 0 0) 0 [] hown ⟨b,o,none⟩ 0 cap [] (by simp) hcells h1 (by simp [maxLen]) (by simp) hbase
      obtain ⟨v2,w2,e1,_,_,e2,_⟩:=hmv
      rw [show ([] : List Value).length = 0 by rfl] at hrun
      rw [e1] at hrun
      simp only [Result.ok.injEq] at hrun
      have:=e2.2 ⟨rfl,rfl⟩
      rw [this] at hrun
      exact absurd hrun.1 (by simp)
    rw [hnil]
    intro g hg
    cases hg
   ·have hr2:=run_append_nil (P:=P) w t ty e i z ht hi hz ⟨b,o,none⟩ ys.length cap ys hlen hcells (by omega) (by simp at hsmall;omega) (by rw [hby];have hb:=hbytes;simp only [List.length_nil,Nat.zero_add] at hb;omega)
    rw [hr2] at hrun
    simp only [Result.ok.injEq] at hrun
    rw [← hrun.1,← hrun.2]
    intro g hg
    injection hg with hg
    subst hg
    refine AllU8.blk (Blk.new w.drew _ _) fun v hv => ?_
    rw [Array.toList_append,List.mem_append] at hv
    rcases hv with hv | hv
    ·exact hyu v (by simpa using hv)
    ·rw [hzs] at hv;exact zeroCells_u8 _ v hv
  ·have hcell : ∀ v ∈ cur.toList,IsU8 v:=(hall g rfl).cells hg
   by_cases hroom : xs.length + ys.length ≤ gcap
   ·have hfit : xs.length * i.size + ys.length ≤ cur.size:=by rw [hsize,hcs];omega
    have hr2:=run_append_room (P:=P) w t ty e i ht hi g xs.length gcap cur hg ⟨b,o,none⟩ ys.length cap ys hlen hcells h1 hroom hfit
    rw [hr2] at hrun
    simp only [Result.ok.injEq] at hrun
    rw [← hrun.1,← hrun.2]
    intro g' hg'
    injection hg' with hg'
    subst hg'
    refine AllU8.blk (t:=e) (setRow_heap w g cur _ e (0,0) hg) fun v hv => ?_
    simp only [List.mem_append] at hv
    rcases hv with (hv | hv) | hv
    ·exact hcell v (List.mem_of_mem_take hv)
    ·exact hyu v hv
    ·exact hcell v (List.mem_of_mem_drop hv)
   ·have holds : ∀ j u,xs[j]? = some u → w.cell? ((⟨g,0,none⟩ : Addr).add j) = some u:=hown.cells (g:=g) rfl
    have hr2:=run_append_grow (P:=P) w t ty e i z ht hi hz ⟨g,0,none⟩ xs.length gcap xs (by rw [hsize];omega) holds ⟨b,o,none⟩ ys.length cap ys hlen hcells (by omega) (by omega) (growslice_fits (by omega) (by rw [hby];exact hbytes))
    rw [hr2] at hrun
    simp only [Result.ok.injEq] at hrun
    rw [← hrun.1,← hrun.2]
    intro g' hg'
    injection hg' with hg'
    subst hg'
    refine AllU8.blk (Blk.new w.drew _ _) fun v hv => ?_
    rw [Array.toList_append,List.mem_append,Array.toList_append,List.mem_append] at hv
    rcases hv with (hv | hv) | hv
    ·exact hxu v (by simpa using hv)
    ·exact hyu v (by simpa using hv)
    ·rw [hzs] at hv;exact zeroCells_u8 _ v hv
end
end Go.Proofs.YthpapbilhjobnaaGreatDoor
namespace Go.Proofs.YthpapbilhjobnaaGreatDoor
open Go.RowKit Pu
theorem nilAhead_zread (a : Addr) (w : World) : (nilAhead 319 84 (.pointer (some a)) "Read").run Tryz.prog w = .ok (some false) w := by kernel_rfl
theorem method_zread (a : Addr) (w : World) : (method 319 84 (.pointer (some a)) "Read").run Tryz.prog w = .ok (106, .pointer (some a)) w := by kernel_rfl
section
variable {x : Pl} {g : Blkc} {w w' : World} {Z G : Nat} {hA dA kA : Addr} {M : Nat → Prop}
theorem ZB.ext {v : Value} (h : ZB x w Z G v) (he : Ext M w w') (hm : ¬ M Z) : ZB x w' Z G v:=by
 obtain ⟨s0,s1,s2,s3,hb⟩:=h
 exact ⟨s0,s1,s2,s3,hb.ext he hm⟩
theorem ZWhy2.ext {tl L : List UInt8} {q : Nat} {c : Array Value} {v : Value} (h : ZWhy2 x g kA tl L q c w v) (he : Ext M w w') (h1 : ¬ M x.R) (h2 : ¬ M x.sb) : ZWhy2 x g kA tl L q c w' v:=by
 cases h with
 | data z h => exact .data z h
 | cut h => exact .cut h
 | sum t0 t1 t2 t3 r h hq hn p hp => exact .sum t0 t1 t2 t3 r h hq hn p hp
 | eof t0 t1 t2 t3 r h hq hn he' p hs hp => exact .eof t0 t1 t2 t3 r h hq hn he' p (hs.ext he h1 h2) hp
theorem ZWhy2.val {tl L : List UInt8} {q : Nat} {c : Array Value} {v : Value} (h : ZWhy2 x g kA tl L q c w v) : ∃ t u,v = .iface t u:=by
 cases h <;> exact ⟨_,_,rfl⟩
def ZLow (x : Pl) (Z G : Nat) (hA dA kA : Addr) (k : Nat) : Prop:=x.M k ∨ k = x.sb ∨ GM x.A hA dA kA x.U k ∨ k = Z ∨ k = G
theorem ZS.move {q m : Nat} {T : List UInt8} {c : Array Value} {L : List UInt8} (h : ZS x g w Z G hA dA kA q m T c L) (he : Ext M w w') (hlow : ∀ k,ZLow x Z G hA dA kA k → ¬ M k) (hu : ∀ k,M k → AllU8 w k) : ZS x g w' Z G hA dA kA q m T c L:=by
 refine ⟨h.zb.ext he (hlow _ (.inr (.inr (.inr (.inl rfl))))),h.gb.ext he (hlow _ (.inr (.inr (.inr (.inr rfl))))),h.rs.outer (Outer.of_ext he (fun k hk e => hlow k ?_ hk) (fun k hk => .inr (hu k hk))),h.glo.ext he (fun k hk e => hlow k (.inr (.inr (.inl hk))) e)⟩
 rcases e with e | e | e | e
 ·exact .inl e
 ·exact .inr (.inl e)
 ·exact .inr (.inr (.inl (EM_GM e)))
 ·exact .inr (.inr (.inl (.inl (by omega))))
end
def DPost (x : Pl) (g : Blkc) (w0 : World) (Z G : Nat) (hA dA kA : Addr) (tl : List UInt8) (q : Nat) (e : Ending) (w : World) : Prop :=
 ∃ vo L v c,e = .returned (.tuple #[vo,v]) ∧ w.ownsRow w0.heap.size 5 1 vo L.length (L.map U8) ∧ Ext (fun j => x.M j ∨ j = Z ∨ j = G) w0 w ∧ (g.ok → x.ext = [] → L = (g.all.drop q).take L.length) ∧
  ZB x w Z G v ∧ FEnd x w c ∧ (∃ p,Src w x.R x.sb x.so x.cap x.src p) ∧ Glo w x.A hA dA kA x.U ∧ q + L.length ≤ g.all.length + g.d ∧ ZWhy2 x g kA tl L (q + L.length) c w v
theorem wpList_append_run {P : Program} {w : World} {ops : Array Oper} {rest : List Oper} {o : Oper} {a : Act} {Q : Exit → Act → World → Prop} (hgd : o.guard = none) (s x : Operand) (t : TypeId)
  (ho : o.op = .call { callee:=.builtin .append,args:=#[s,x],argTypes:=#[t,t] }) (v sv v' : Value) (w' : World) (hs : a.eval s = v) (hx : a.eval x = sv) (hr2 : (Builtin.append_ #[t,t] o.type #[v,sv]).run P w = .ok v' w')
  (h : wpList P ops Q rest (a.put o.dst v') w') : wpList P ops Q (o::rest) a w:=by
 refine wpList_plain hgd fun K hK => ?_
 unfold Oper.wp execOp
 simp only [ho,resolve,invoke,builtin,Sem.run_bind,Sem.run_pure,Result.andThen_ok,List.map_toArray,List.map_cons,List.map_nil,hs,hx,hr2]
 exact hK _ _ h
theorem map_u8_is (l : List UInt8) : ∀ u ∈ l.map U8,IsU8 u:=by
 intro u hu
 obtain ⟨b,_,rfl⟩:=List.mem_map.1 hu
 exact ⟨_,rfl⟩
theorem map_u8_one (l : List UInt8) : ∀ u ∈ l.map U8,u.oneCell' = true:=by
 intro u hu
 obtain ⟨b,_,rfl⟩:=List.mem_map.1 hu
 rfl
set_option maxRecDepth 100000 in
set_option maxHeartbeats 16000000 in
theorem drain_any (x : Pl) (g : Blkc) (w : World) (Z G : Nat) (hA dA kA : Addr) (za : ZAp x Z G hA dA kA) (pk : Nat) (tl : List UInt8) (hZ : g.Z = List.replicate pk false ++ bitsOf tl) (hpk : pk < 8) (htl : 4 ≤ tl.length) (q m : Nat) (T : List UInt8) (c : Array Value) (h : ZS x g w Z G hA dA kA q m T c [])
  (sv : Value) (szs : List Nat) (hsz : ∀ s ∈ szs,1 ≤ s ∧ s ≤ 1000) (hsl : szs.length ≤ 1099511627776) (hs : Rd w sv (szs.map IV)) (hso : ∀ b,sv.ownBlock = some b → b < w.heap.size ∧ ¬ (x.M b ∨ b = Z ∨ b = G))
  (hlow : ∀ k,ZLow x Z G hA dA kA k → k < w.heap.size) (hbig : g.all.length + g.d ≤ q + 1073741824) :
  Calls Tryz.prog 25 #[.iface 84 (.pointer (some ⟨Z,0,none⟩)),sv] w (DPost x g w Z G hA dA kA tl q):=by
 obtain ⟨i0,hi0,hz0,hz1,hz2⟩:=info_parts Tryz.info5
 have HH:=Lib.hid h;have HS:=Lib.hid hs;have HSO:=Lib.hid hso;have HSZ:=Lib.hid hsz;have HZZ:=Lib.hid hZ;have HLOW:=Lib.hid hlow;have HBIG:=Lib.hid hbig
 have hna:=nilAhead_zread
 have hm:=method_zread
 obtain ⟨sa,scap,hsv⟩:=hs.len
 have hsv':=hsv
 rw [List.length_map] at hsv
 obtain ⟨sn,hsn⟩ : ∃ n,szs.length = n:=⟨_,rfl⟩
 rw [hsn] at hsv hsl
 subst hsv
 have HSN:=Lib.hid hsn
 clear h hs hso hsz hZ hlow hbig hsv' hsn
 go_enter Tryz.func25,Tryz.ntmps25
 go_upto_block 0 with (fail)
 refine wp_block ?_
 go_loopg [6,7] (g.all.length + g.d - q) (fun k s6 s7 wx => ∃ L m T c,ZS x g wx Z G hA dA kA (q + L.length) m T c L ∧ wx.ownsRow w.heap.size 5 1 s6 L.length (L.map U8) ∧ (∀ gb,s6.ownBlock = some gb → AllU8 wx gb) ∧ Ext (fun j => x.M j ∨ j = Z ∨ j = G) w wx ∧ (∃ i : Nat,s7 = .int .i64 i ∧ i ≤ L.length) ∧ (g.ok → x.ext = [] → L = (g.all.drop q).take L.length) ∧ k = g.all.length + g.d - (q + L.length))
 case atStart => exact ⟨[],m,T,c,HH.out,⟨by simp,.inl ⟨rfl,rfl⟩⟩,(fun gb hgb => by cases hgb),Ext.refl _ _,⟨0,rfl,by simp⟩,(fun _ _ => by simp),by simp⟩
 case round =>
  obtain ⟨L,m,T,c,hzs,hown,hau,hex,⟨i,rfl,hi⟩,hok,hk⟩:=hrel
  obtain ⟨wo,rfl⟩ : ∃ wo : World,wo = wr:=⟨_,rfl⟩
  have hqb:=hzs.rs.bound
  have HBIG2:=HBIG.out
  have hil : (i : Int) ≤ 1073741824:=by omega
  have HZS:=Lib.hid hzs;have HOWN:=Lib.hid hown;have HAU:=Lib.hid hau;have HEX:=Lib.hid hex;have HOK:=Lib.hid hok;have HK:=Lib.hid hk;have HI:=Lib.hid hi;have HQB:=Lib.hid hqb
  clear hzs hown hau hex hok hk hqb HBIG2 hi
  have hnow : ∃ n : Nat,1 ≤ n ∧ n ≤ 1000 ∧ ((sn = 0 ∧ (512 : Int) = (n : Int)) ∨ (0 < sn ∧ ∃ b o,sa = some ⟨b,o,none⟩ ∧ wo.cell? ⟨b,o + i % sn,none⟩ = some (.int .i64 n))):=by
   rcases Nat.eq_zero_or_pos sn with h0 | h0
   ·exact ⟨512,by omega,by omega,.inl ⟨h0,rfl⟩⟩
   ·have hj : i % sn < szs.length:=by rw [HSN.out];exact Nat.mod_lt _ h0
    obtain ⟨s1,s2⟩:=HSZ.out _ (List.getElem_mem hj)
    refine ⟨szs[i % sn],s1,s2,.inr ⟨h0,?_⟩⟩
    obtain ⟨cap',_,_,hr⟩:=HS.out.ext HEX.out (fun b hb => (HSO.out b hb).2)
    rcases hr with ⟨_,hr⟩ | ⟨b,o,hr,hc⟩
    ·have:=congrArg List.length hr
     rw [List.length_map,List.length_nil] at this
     have:=HSN.out
     omega
    ·injection hr with hr _ _
     exact ⟨b,o,hr,hc _ _ (by rw [List.getElem?_map,List.getElem?_eq_getElem hj];rfl)⟩
  obtain ⟨n,hn1,hn2,hnow⟩:=hnow
  have hmk : (Instr.makeSlice 22 (.int .i64 (n : Int)) (.int .i64 (n : Int))).run Tryz.prog wo = _:=make_u8 n (by omega) wo
  obtain ⟨Zc,hZc⟩ : ∃ y,((List.replicate n (0 : UInt8)).map U8).toArray = y:=⟨_,rfl⟩
  rw [hZc] at hmk
  obtain ⟨wb,hwb⟩ : ∃ y,wo.alloc (.cells Zc 5) = y:=⟨_,rfl⟩
  have hbn : Blk wb wo.heap.size Zc 5:=by rw [← hwb];exact Blk.new wo Zc 5
  have heb : Ext (fun _ => False) wo wb:=by rw [← hwb];exact (Ext.refl _ wo).alloc _
  have hwbs : wb.heap.size = wo.heap.size + 1:=by rw [← hwb];simp
  have hexs:=HEX.out.size
  have hL : ∀ k,ZLow x Z G hA dA kA k → k ≠ wo.heap.size:=fun k hk => by have:=HLOW.out k hk;omega
  have hzb : ZS x g wb Z G hA dA kA (q + L.length) m T c L:=HZS.out.move heb (fun _ _ e => e) (fun _ e => e.elim)
  have hQB:=HQB.out
  have hBIG3:=HBIG.out
  have HZR:=Lib.hid (zsread_any x g wb Z G hA dA kA za pk tl HZZ.out hpk htl (q + L.length) m T c L hzb wo.heap.size 0 n n Zc 5 (by omega) (by omega) (Nat.le_refl _) hbn (by rw [← hZc];simp)
   (fun o v hv => by
     rw [← hZc,List.getElem?_toArray,List.getElem?_map] at hv
     obtain ⟨b,_,rfl⟩:=Option.map_eq_some_iff.1 hv
     exact ⟨_,rfl⟩) (fun e => hL _ (.inl e) rfl) (fun e => hL _ (.inr (.inl e)) rfl) (fun e => hL _ (.inr (.inr (.inl e))) rfl) (fun e => hL _ (.inr (.inr (.inr (.inl e)))) rfl) (fun e => hL _ (.inr (.inr (.inr (.inr e)))) rfl) (by simp [maxLen];omega))
  have hend : ∀ k v cs c1 w1,cs.length = k → k ≤ n → Blk w1 wo.heap.size (splice Zc.toList 0 (cs.map U8)).toArray 5 → Ext (fun j => x.M j ∨ j = Z ∨ j = G ∨ j = wo.heap.size) wb w1 → (g.ok → x.ext = [] → cs = (g.all.drop (q + L.length)).take k) → q + L.length + k ≤ g.all.length + g.d →
    ∃ vo w2,(Builtin.append_ #[22,22] 22 #[u6,.slice (some ⟨wo.heap.size,0,none⟩) k n]).run Tryz.prog w1 = .ok vo w2 ∧ w2.ownsRow w.heap.size 5 1 vo (L ++ cs).length ((L ++ cs).map U8) ∧ (∀ gb,vo.ownBlock = some gb → AllU8 w2 gb) ∧ Ext (fun j => x.M j ∨ j = Z ∨ j = G) w w2 ∧ (g.ok → x.ext = [] → L ++ cs = (g.all.drop q).take (L ++ cs).length) ∧
    (∀ m1 T1,ZS x g w1 Z G hA dA kA (q + L.length + k) m1 T1 c1 (L ++ cs) → ZS x g w2 Z G hA dA kA (q + (L ++ cs).length) m1 T1 c1 (L ++ cs)) ∧
    (ZB x w1 Z G v → FEnd x w1 c1 → (∃ p,Src w1 x.R x.sb x.so x.cap x.src p) → Glo w1 x.A hA dA kA x.U → ZWhy2 x g kA tl (L ++ cs) (q + L.length + k) c1 w1 v → DPost x g w Z G hA dA kA tl q (.returned (.tuple #[vo,v])) w2):=by
   intro k v cs c1 w1 hcs hkn hB1 he1 hcs2 hqk
   have hown1 : w1.ownsRow w.heap.size 5 1 u6 L.length (L.map U8):=owns_ext (owns_ext HOWN.out heb (fun _ _ e => e)) he1 (fun b hb e => by
    have h1:=HOWN.out.lt b hb
    rcases e with e | e | e | e
    ·have:=HLOW.out b (.inl e);omega
    ·have:=HLOW.out b (.inr (.inr (.inr (.inl e))));omega
    ·have:=HLOW.out b (.inr (.inr (.inr (.inr e))));omega
    ·omega)
   have hall1 : ∀ gb,u6.ownBlock = some gb → AllU8 w1 gb:=fun gb hgb => by
    have h1:=HOWN.out.lt gb hgb
    refine ((HAU.out gb hgb).ext heb h1.2 (fun e => e)).ext he1 (by omega) (fun e => ?_)
    rcases e with e | e | e | e
    ·have:=HLOW.out gb (.inl e);omega
    ·have:=HLOW.out gb (.inr (.inr (.inr (.inl e))));omega
    ·have:=HLOW.out gb (.inr (.inr (.inr (.inr e))));omega
    ·omega
   have hRd : Rd w1 (.slice (some ⟨wo.heap.size,0,none⟩) k n) (cs.map U8):=⟨n,by rw [List.length_map];omega,by simp [maxLen];omega,.inr ⟨wo.heap.size,0,by rw [List.length_map,hcs],fun j y hy => by
    rw [hB1.cell]
    have:=(splice_same Zc 0 (cs.map U8) (by rw [List.length_map,← hZc];simp;omega)).2 j y hy
    exact this⟩⟩
   have hs1 : w.heap.size ≤ w1.heap.size:=by have:=he1.size;omega
   obtain ⟨vo,w2,hr,hAp,hau2⟩:=run_append_u8 (P:=Tryz.prog) w1 w.heap.size 22 22 5 i0 (.int .u8 0) 1 Tryz.underlying22 hi0 hz0 hz1 hz2 rfl u6 (L.map U8) (by rw [List.length_map];exact hown1) _ (cs.map U8) hRd (map_u8_one cs) (by simp [maxLen];omega) (by simp;omega) hs1 (map_u8_is L) (map_u8_is cs) hall1
   have hlen : (L ++ cs).length = L.length + k:=by rw [List.length_append,hcs]
   have hnl : ∀ k,ZLow x Z G hA dA kA k → ¬ u6.ownBlock = some k:=fun k hk e => by
    have h1:=HOWN.out.lt k e
    have:=HLOW.out k hk
    omega
   have hE1 : Ext (fun j => x.M j ∨ j = Z ∨ j = G) w w1:=(HEX.out.trans (heb.mono (fun _ _ e => e.elim))).trans' he1 (fun j hj e => by
    rcases e with e | e | e | e
    ·exact .inl e
    ·exact .inr (.inl e)
    ·exact .inr (.inr e)
    ·omega)
   have hE2 : Ext (fun j => x.M j ∨ j = Z ∨ j = G) w w2:=hE1.trans' hAp.grown (fun j hj e => by have:=HOWN.out.lt j e;omega)
   have hok2 : g.ok → x.ext = [] → L ++ cs = (g.all.drop q).take (L ++ cs).length:=fun o e => by
    rw [hlen]
    conv => lhs;rw [HOK.out o e,hcs2 o e]
    rw [← List.drop_drop,← List.take_add]
   have hown2 : w2.ownsRow w.heap.size 5 1 vo (L ++ cs).length ((L ++ cs).map U8):=by
    have:=hAp.own
    rw [← List.map_append,List.length_map] at this
    exact this
   refine ⟨vo,w2,hr,hown2,hau2,hE2,hok2,fun m1 T1 hzs1 => ?_,fun a1 a2 ⟨p,a3⟩ a4 a5 => ⟨vo,L ++ cs,v,c1,rfl,hown2,hE2,hok2,a1.ext hAp.grown (hnl _ (.inr (.inr (.inr (.inl rfl))))),a2.ext hAp.grown (hnl _ (.inl (.inl rfl))) (hnl _ (.inl (.inr (.inr (.inl rfl))))) (hnl _ (.inl (.inr (.inr (.inr (.inl rfl)))))) (hnl _ (.inl (.inr (.inr (.inr (.inr rfl)))))),
    ⟨p,a3.ext hAp.grown (hnl _ (.inl (.inr (.inl rfl)))) (hnl _ (.inr (.inl rfl)))⟩,a4.ext hAp.grown (fun j hj => hnl _ (.inr (.inr (.inl hj)))),by rw [hlen];omega,?_⟩⟩
   ·rw [hlen,← Nat.add_assoc]
    exact hzs1.move hAp.grown hnl (fun k hk => hall1 k hk)
   ·rw [hlen,← Nat.add_assoc]
    exact a5.ext hAp.grown (hnl _ (.inl (.inr (.inl rfl)))) (hnl _ (.inr (.inl rfl)))
  have HEND:=Lib.hid hend
  have HQB2:=Lib.hid hQB;have HZC:=Lib.hid hZc
  have hnl1 : (n : Int) ≤ 1000:=by omega
  have hnl0 : (1 : Int) ≤ n:=by omega
  clear hend hzb hL hbn heb hwbs hexs hQB hBIG3 hZc
  rcases hnow with ⟨rfl,hn512⟩ | ⟨hsn0,b,o,rfl,hcell⟩
  ·go_upto_region 7 with (fail)
   rw [hn512]
   clear hn512
   go_upto_region 8 with (fail)
   clear hmk hwb
   go_wp2_with fail
   refine HZR.out.mono ?_
   rintro e w1 ⟨k,v,cs,c1,T1,m1,rfl,hcs,hkn,hB1,he1,hcs2,hcase⟩
   have hqk : q + L.length + k ≤ g.all.length + g.d:=by
    rcases hcase with ⟨_,_,hz⟩ | ⟨_,_,_,_,hz,_⟩
    ·exact hz.rs.bound
    ·exact hz
   obtain ⟨vo,w2,hr,hown2,hau2,hE2,hok2,hm1,hm2⟩:=HEND.out k v cs c1 w1 hcs hkn hB1 he1 hcs2 hqk
   have hkni : (k : Int) ≤ n:=by omega
   have HR:=Lib.hid hr
   have HCS:=Lib.hid hcs;have HOWN2:=Lib.hid hown2;have HAU2:=Lib.hid hau2;have HE2:=Lib.hid hE2;have HOK2:=Lib.hid hok2;have HQK:=Lib.hid hqk
   rcases hcase with ⟨rfl,hk0,hzs1⟩ | ⟨a1,a2,a3,a4,a5,a6⟩
   ·have HZS2:=Lib.hid (hm1 m1 T1 hzs1)
    clear hr hB1 he1 hcs2 hqk hown2 hau2 hE2 hok2 hm1 hm2 hzs1 hcs
    go_wp2_with (refine wpList_append_run rfl _ _ 22 rfl _ _ _ _ rfl rfl HR.out ?_)
    go_roundg (g.all.length + g.d - (q + (L ++ cs).length))
    case measure =>
     have h1:=HK.out
     have h2:=HQK.out
     have h3:=HCS.out
     rw [List.length_append]
     omega
    case rel => exact ⟨L ++ cs,m1,T1,c1,HZS2.out,HOWN2.out,HAU2.out,HE2.out,⟨i + 1,by go_num,by have:=HI.out;have:=HCS.out;rw [List.length_append];omega⟩,HOK2.out,rfl⟩
   ·have HD:=Lib.hid (hm2 a1 a2 a3 a4 a6)
    obtain ⟨ty,pv,rfl⟩:=a6.val
    clear hr hB1 he1 hcs2 hqk hown2 hau2 hE2 hok2 hm1 hm2 hcs a1 a2 a3 a4 a5 a6
    go_wp2_with (refine wpList_append_run rfl _ _ 22 rfl _ _ _ _ rfl rfl HR.out ?_)
    go_ret2
    exact HD.out
  ·have hsni : (sn : Int) ≠ 0:=by omega
   have hsm0 : 0 ≤ (i : Int) % (sn : Int):=Int.emod_nonneg _ hsni
   have hsm1 : (i : Int) % (sn : Int) < (sn : Int):=Int.emod_lt_of_pos _ (by omega)
   go_upto_region 7 with (fail)
   clear hcell hsni hsm0 hsm1
   go_upto_region 8 with (fail)
   clear hmk hwb
   go_wp2_with fail
   refine HZR.out.mono ?_
   rintro e w1 ⟨k,v,cs,c1,T1,m1,rfl,hcs,hkn,hB1,he1,hcs2,hcase⟩
   have hqk : q + L.length + k ≤ g.all.length + g.d:=by
    rcases hcase with ⟨_,_,hz⟩ | ⟨_,_,_,_,hz,_⟩
    ·exact hz.rs.bound
    ·exact hz
   obtain ⟨vo,w2,hr,hown2,hau2,hE2,hok2,hm1,hm2⟩:=HEND.out k v cs c1 w1 hcs hkn hB1 he1 hcs2 hqk
   have hkni : (k : Int) ≤ n:=by omega
   have HR:=Lib.hid hr
   have HCS:=Lib.hid hcs;have HOWN2:=Lib.hid hown2;have HAU2:=Lib.hid hau2;have HE2:=Lib.hid hE2;have HOK2:=Lib.hid hok2;have HQK:=Lib.hid hqk
   rcases hcase with ⟨rfl,hk0,hzs1⟩ | ⟨a1,a2,a3,a4,a5,a6⟩
   ·have HZS2:=Lib.hid (hm1 m1 T1 hzs1)
    clear hr hB1 he1 hcs2 hqk hown2 hau2 hE2 hok2 hm1 hm2 hzs1 hcs
    go_wp2_with (refine wpList_append_run rfl _ _ 22 rfl _ _ _ _ rfl rfl HR.out ?_)
    go_roundg (g.all.length + g.d - (q + (L ++ cs).length))
    case measure =>
     have h1:=HK.out
     have h2:=HQK.out
     have h3:=HCS.out
     rw [List.length_append]
     omega
    case rel => exact ⟨L ++ cs,m1,T1,c1,HZS2.out,HOWN2.out,HAU2.out,HE2.out,⟨i + 1,by go_num,by have:=HI.out;have:=HCS.out;rw [List.length_append];omega⟩,HOK2.out,rfl⟩
   ·have HD:=Lib.hid (hm2 a1 a2 a3 a4 a6)
    obtain ⟨ty,pv,rfl⟩:=a6.val
    clear hr hB1 he1 hcs2 hqk hown2 hau2 hE2 hok2 hm1 hm2 hcs a1 a2 a3 a4 a5 a6
    go_wp2_with (refine wpList_append_run rfl _ _ 22 rfl _ _ _ _ rfl rfl HR.out ?_)
    go_ret2
    exact HD.out
end Go.Proofs.YthpapbilhjobnaaGreatDoor
namespace Go.Proofs.YthpapbilhjobnaaGreatDoor
open Go.RowKit Pu
inductive FaultIs (hA dA kA U : Addr) : Value → Nat → Prop
 | none : FaultIs hA dA kA U .nilIface 0
 | header : FaultIs hA dA kA U (.iface 175 (.pointer (some hA))) 1
 | dictionary : FaultIs hA dA kA U (.iface 175 (.pointer (some dA))) 2
 | sum : FaultIs hA dA kA U (.iface 175 (.pointer (some kA))) 3
 | early : FaultIs hA dA kA U (.iface 175 (.pointer (some U))) 4
 | data (z : Int) : FaultIs hA dA kA U (.iface 159 (.int .i64 z)) 4
set_option maxRecDepth 100000 in
set_option maxHeartbeats 4000000 in
theorem fault_any (A hA dA kA U : Addr) (w : World) (hG : Glo w A hA dA kA U) (v : Value) (n : Nat) (h : FaultIs hA dA kA U v n) :
  Calls Tryz.prog 24 #[v] w fun e w' => e = .returned (.int .i64 n) ∧ w = w':=by
 have g1:=hG.hdr.cell
 have g2:=hG.dic.cell
 have g3:=hG.sum.cell
 obtain ⟨c1,t1,r1⟩:=hG.hdr.row
 obtain ⟨c2,t2,r2⟩:=hG.dic.row
 obtain ⟨c3,t3,r3⟩:=hG.sum.row
 obtain ⟨c4,t4,r4⟩:=hG.early.row
 obtain ⟨n12,n13,n23⟩:=hG.n3
 obtain ⟨n1u,n2u,n3u⟩:=hG.n4
 clear hG
 cases h with
 | none =>
  clear r1 r2 r3 r4
  go_enter Tryz.func24,Tryz.ntmps24
  go_wp2_with fail
  go_ret
  exact ⟨rfl,rfl⟩
 | header =>
  have H1:=Lib.hid (is_same hA w)
  clear r1 r2 r3 r4
  go_enter Tryz.func24,Tryz.ntmps24
  go_wp2_with fail
  refine H1.out.mono ?_
  rintro e w' ⟨rfl,rfl⟩
  go_wp2_with fail
  go_ret
  exact ⟨rfl,rfl⟩
 | dictionary =>
  have H1:=Lib.hid (is_other dA hA _ _ _ _ w n12.symm r2 r1)
  have H2:=Lib.hid (is_same dA w)
  clear r1 r2 r3 r4
  go_enter Tryz.func24,Tryz.ntmps24
  go_wp2_with fail
  refine H1.out.mono ?_
  rintro e w' ⟨rfl,rfl⟩
  go_wp2_with fail
  refine H2.out.mono ?_
  rintro e w' ⟨rfl,rfl⟩
  go_wp2_with fail
  go_ret
  exact ⟨rfl,rfl⟩
 | sum =>
  have H1:=Lib.hid (is_other kA hA _ _ _ _ w n13.symm r3 r1)
  have H2:=Lib.hid (is_other kA dA _ _ _ _ w n23.symm r3 r2)
  have H3:=Lib.hid (is_same kA w)
  clear r1 r2 r3 r4
  go_enter Tryz.func24,Tryz.ntmps24
  go_wp2_with fail
  refine H1.out.mono ?_
  rintro e w' ⟨rfl,rfl⟩
  go_wp2_with fail
  refine H2.out.mono ?_
  rintro e w' ⟨rfl,rfl⟩
  go_wp2_with fail
  refine H3.out.mono ?_
  rintro e w' ⟨rfl,rfl⟩
  go_wp2_with fail
  go_ret
  exact ⟨rfl,rfl⟩
 | early =>
  have H1:=Lib.hid (is_other U hA _ _ _ _ w n1u.symm r4 r1)
  have H2:=Lib.hid (is_other U dA _ _ _ _ w n2u.symm r4 r2)
  have H3:=Lib.hid (is_other U kA _ _ _ _ w n3u.symm r4 r3)
  clear r1 r2 r3 r4
  go_enter Tryz.func24,Tryz.ntmps24
  go_wp2_with fail
  refine H1.out.mono ?_
  rintro e w' ⟨rfl,rfl⟩
  go_wp2_with fail
  refine H2.out.mono ?_
  rintro e w' ⟨rfl,rfl⟩
  go_wp2_with fail
  refine H3.out.mono ?_
  rintro e w' ⟨rfl,rfl⟩
  go_wp2_with fail
  go_ret
  exact ⟨rfl,rfl⟩
 | data z =>
  have H1:=Lib.hid (is_corrupt z hA w)
  have H2:=Lib.hid (is_corrupt z dA w)
  have H3:=Lib.hid (is_corrupt z kA w)
  clear r1 r2 r3 r4
  go_enter Tryz.func24,Tryz.ntmps24
  go_wp2_with fail
  refine H1.out.mono ?_
  rintro e w' ⟨rfl,rfl⟩
  go_wp2_with fail
  refine H2.out.mono ?_
  rintro e w' ⟨rfl,rfl⟩
  go_wp2_with fail
  refine H3.out.mono ?_
  rintro e w' ⟨rfl,rfl⟩
  go_wp2_with fail
  go_ret
  exact ⟨rfl,rfl⟩
theorem nilAhead_fclose (a : Addr) (w : World) : (nilAhead 319 151 (.pointer (some a)) "Close").run Tryz.prog w = .ok (some false) w := by kernel_rfl
theorem method_fclose (a : Addr) (w : World) : (method 319 151 (.pointer (some a)) "Close").run Tryz.prog w = .ok (127, .pointer (some a)) w := by kernel_rfl
set_option maxRecDepth 100000 in
set_option maxHeartbeats 4000000 in
theorem zclose_eof (Z R F G : Nat) (A : Addr) (s0 s1 s2 s3 : UInt8) (c : Array Value) (w : World) (hz : Blk w Z #[.iface 50 (.pointer (some ⟨R,0,none⟩)),.iface 151 (.pointer (some ⟨F,0,none⟩)),.iface 153 (.pointer (some ⟨G,0,none⟩)),.iface 175 (.pointer (some A)),U8 s0,U8 s1,U8 s2,U8 s3] 91)
  (hF : Blk w F c 147) (hA : Sent w 0 A) (hv : c[1048]? = some (.iface 175 (.pointer (some A)))) :
  Calls Tryz.prog 105 #[.pointer (some ⟨Z,0,none⟩)] w fun e w' => e = .returned .nilIface ∧ Ext (fun j => j = Z) w w':=by
 obtain ⟨ci,hci,hcmp⟩:=Option.map_eq_some_iff.1 Tryz.comp175
 obtain ⟨cj,hcj,hcs⟩:=Option.map_eq_some_iff.1 Tryz.size204
 have heqn:=fun w : World => run_neq_of_eql (run_eql_iface_ptr_same (P:=Tryz.prog) w A Tryz.underlying47 Tryz.underlying175 hci hcmp hcj)
 have k1 : w.cell? ⟨Z,1,none⟩ = some (.iface 151 (.pointer (some ⟨F,0,none⟩))):=by rw [hz.cell];rfl
 have k3 : w.cell? ⟨Z,3,none⟩ = some (.iface 175 (.pointer (some A))):=by rw [hz.cell];rfl
 have g0:=hA.cell
 have hf:=hz.free
 have hna:=nilAhead_fclose
 have hm:=method_fclose
 have HZ:=Lib.hid hz;have HF:=Lib.hid hF;have HA:=Lib.hid hA;have HV:=Lib.hid hv
 clear hz hF hA hv hci hcmp hcj hcs
 go_enter Tryz.func105,Tryz.ntmps105
 go_upto_region 1 with (fail)
 go_quiet (fail)
 obtain ⟨w1,hw1⟩ : ∃ y,w.drewN nq = y:=⟨_,rfl⟩
 have he1 : Ext (fun _ => False) w w1:=by rw [← hw1];exact (Ext.refl _ _).drewN _
 rw [hw1]
 have q1:=he1.cellSome (fun e => e) k1
 have HC:=Lib.hid (fclose_eof F c A w1 (HF.out.ext he1 (fun e => e)) (HA.out.ext he1 (fun e => e) (fun e => e)) HV.out)
 have HE1:=Lib.hid he1
 clear hw1 he1 k1 k3 g0 hf
 go_wp2_with fail
 refine HC.out.mono ?_
 rintro e w2 ⟨rfl,he2⟩
 have hz2:=(HZ.out.ext HE1.out (fun e => e)).ext he2 (fun e => e)
 have k3 : w2.cell? ⟨Z,3,none⟩ = some (.iface 175 (.pointer (some A))):=by rw [hz2.cell];rfl
 have hf2:=hz2.free
 have hE : Ext (fun j => j = Z) w (w2.setCell ⟨Z,3,none⟩ .nilIface):=((HE1.out.trans he2).mono (fun _ _ e => e.elim)).only _
 have HE:=Lib.hid hE
 clear he2 hz2 hE
 go_wp2_with fail
 go_ret
 exact ⟨rfl,HE.out⟩
end Go.Proofs.YthpapbilhjobnaaGreatDoor
