/-
  Parts of the proofs over the reader and the encoder of streams, joined: Zr Zn Is. Conditions: each theorem names its own.
-/
import Derived.Test.YthpapbilhjobnaaGreatDoorM02
import Derived.Test.YthpapbilhjobnaaGreatDoorM18
import Derived.LaidEql
import Derived.Stop.Asserts
set_option linter.unusedVariables false
set_option linter.unusedSimpArgs false
namespace Go.Proofs.YthpapbilhjobnaaGreatDoor
open Go.RowKit Pu
structure Glo (w : World) (A hA dA kA U : Addr) : Prop where
 eof : Sent w 0 A
 hdr : Sent w 1 hA
 dic : Sent w 2 dA
 sum : Sent w 3 kA
 early : Sent w 4 U
 g7 : G7 w
 n1 : U ≠ A
 n2 : hA ≠ A ∧ dA ≠ A ∧ kA ≠ A
 n3 : hA ≠ dA ∧ hA ≠ kA ∧ dA ≠ kA
 n4 : hA ≠ U ∧ dA ≠ U ∧ kA ≠ U
def GM (A hA dA kA U : Addr) (k : Nat) : Prop:=k ≤ 7 ∨ k = A.block ∨ k = hA.block ∨ k = dA.block ∨ k = kA.block ∨ k = U.block
section
variable {w w' : World} {A hA dA kA U : Addr} {M : Nat → Prop}
theorem Glo.ext (h : Glo w A hA dA kA U) (he : Ext M w w') (hm : ∀ k,GM A hA dA kA U k → ¬ M k) : Glo w' A hA dA kA U :=
 ⟨h.eof.ext he (hm _ (.inl (by omega))) (hm _ (.inr (.inl rfl))),h.hdr.ext he (hm _ (.inl (by omega))) (hm _ (.inr (.inr (.inl rfl)))),h.dic.ext he (hm _ (.inl (by omega))) (hm _ (.inr (.inr (.inr (.inl rfl))))),
  h.sum.ext he (hm _ (.inl (by omega))) (hm _ (.inr (.inr (.inr (.inr (.inl rfl)))))),h.early.ext he (hm _ (.inl (by omega))) (hm _ (.inr (.inr (.inr (.inr (.inr rfl)))))),h.g7.ext he (hm _ (.inl (by omega))),h.n1,h.n2,h.n3,h.n4⟩
theorem Glo.ends (h : Glo w A hA dA kA U) : Ends w A U:=⟨h.eof,h.early,h.n1⟩
theorem EM_GM {k : Nat} (h : EM A U k) : GM A hA dA kA U k:=by
 rcases h with h | h | h | h
 ·exact .inl (by omega)
 ·exact .inl (by omega)
 ·exact .inr (.inl h)
 ·exact .inr (.inr (.inr (.inr (.inr h))))
end
def zgood (a b : UInt8) : Prop:=a.toNat % 16 = 8 ∧ a.toNat / 16 ≤ 7 ∧ (256 * a.toNat + b.toNat) % 31 = 0
def fdict (b : UInt8) : Prop:=b.toNat / 32 % 2 = 1
def num4 (a b c d : UInt8) : Nat:=16777216 * a.toNat + 65536 * b.toNat + 256 * c.toNat + d.toNat
instance (a b : UInt8) : Decidable (zgood a b):=by unfold zgood;infer_instance
instance (b : UInt8) : Decidable (fdict b):=by unfold fdict;infer_instance
inductive ZWhy (src D : List UInt8) (hA dA U : Addr) : Addr → Prop
 | short (h : src.length < 2) : ZWhy src D hA dA U U
 | header (a b : UInt8) (s : List UInt8) (h : src = a::b::s) (hg : ¬ zgood a b) : ZWhy src D hA dA U hA
 | shortDict (a b : UInt8) (s : List UInt8) (h : src = a::b::s) (hg : zgood a b) (hf : fdict b) (hs : s.length < 4) : ZWhy src D hA dA U U
 | dict (a b c0 c1 c2 c3 : UInt8) (s : List UInt8) (h : src = a::b::c0::c1::c2::c3::s) (hg : zgood a b) (hf : fdict b) (hn : num4 c0 c1 c2 c3 ≠ adler D) : ZWhy src D hA dA U dA
inductive ZOk (src D : List UInt8) : Nat → List UInt8 → Prop
 | bare (a b : UInt8) (s : List UInt8) (h : src = a::b::s) (hg : zgood a b) (hf : ¬ fdict b) : ZOk src D 2 []
 | dict (a b c0 c1 c2 c3 : UInt8) (s : List UInt8) (h : src = a::b::c0::c1::c2::c3::s) (hg : zgood a b) (hf : fdict b) (hn : num4 c0 c1 c2 c3 = adler D) : ZOk src D 6 D
structure ZNew (w : World) (Z R sb so cap : Nat) (src : List UInt8) (p F Bb Cb hb G : Nat) (c : Array Value) (hs : List UInt8) (wr : Nat) (full : Bool) (D' : List UInt8) : Prop where
 z : ∃ s0 s1 s2 s3 : UInt8,Blk w Z #[.iface 50 (.pointer (some ⟨R,0,none⟩)),.iface 151 (.pointer (some ⟨F,0,none⟩)),.iface 153 (.pointer (some ⟨G,0,none⟩)),.nilIface,U8 s0,U8 s1,U8 s2,U8 s3] 91
 g : Blk w G #[.int .u32 (adler [])] 134
 src : Src w R sb so cap src p
 f : FreshR w F R Bb Cb hb c hs wr full D'
inductive ZPost (w : World) (Z R sb so cap : Nat) (src : List UInt8) (D : List UInt8) (hA dA U : Addr) (e : Ending) (w' : World) : Prop
 | err {er : Addr} {p : Nat} (he : e = .returned (.iface 175 (.pointer (some er)))) (hw : ZWhy src D hA dA U er) (hs : Src w' R sb so cap src p) (hx : Ext (fun k => k = Z ∨ k = R) w w')
 | ok {p F Bb Cb hb G : Nat} {c : Array Value} {hs : List UInt8} {wr : Nat} {full : Bool} {D' : List UInt8} (he : e = .returned .nilIface) (hw : ZOk src D p D') (hz : ZNew w' Z R sb so cap src p F Bb Cb hb G c hs wr full D') (hF : w.heap.size ≤ F) (h1 : F < Bb) (h2 : Bb < Cb) (h3 : Cb < hb) (h4 : hb < G) (hx : Ext (fun k => k = Z ∨ k = R) w w')
theorem FreshR.ext {w w' : World} {F R Bb Cb hb : Nat} {c : Array Value} {hs : List UInt8} {wr : Nat} {full : Bool} {D : List UInt8} {M : Nat → Prop} (h : FreshR w F R Bb Cb hb c hs wr full D) (he : Ext M w w') (h1 : ¬ M F) (h2 : ¬ M Bb) (h3 : ¬ M Cb) (h4 : ¬ M hb) : FreshR w' F R Bb Cb hb c hs wr full D:=by
 obtain ⟨f,hf⟩:=h.bb
 obtain ⟨g,hg⟩:=h.cb
 exact ⟨h.sz,h.dd.ext he h1 h4,h.win,h.lt,h.rdr,h.nob,h.off,h.b,h.nb,h.h5,h.h520,h.bp,h.cp,h.step,h.state,h.err,h.out,⟨f,hf.ext he h2⟩,⟨g,hg.ext he h3⟩⟩
theorem zblk_set {w : World} {Z : Nat} {a0 a1 a2 a3 a4 a5 a6 a7 v : Value} (h : Blk w Z #[a0,a1,a2,a3,a4,a5,a6,a7] 91) : Blk (w.setCell ⟨Z,3,none⟩ v) Z #[a0,a1,a2,v,a4,a5,a6,a7] 91:=by simpa using h.set 3 v
theorem zblk_set1 {w : World} {Z : Nat} {a0 a1 a2 a3 a4 a5 a6 a7 v : Value} (h : Blk w Z #[a0,a1,a2,a3,a4,a5,a6,a7] 91) : Blk (w.setCell ⟨Z,1,none⟩ v) Z #[a0,v,a2,a3,a4,a5,a6,a7] 91:=by simpa using h.set 1 v
theorem zblk_set2 {w : World} {Z : Nat} {a0 a1 a2 a3 a4 a5 a6 a7 v : Value} (h : Blk w Z #[a0,a1,a2,a3,a4,a5,a6,a7] 91) : Blk (w.setCell ⟨Z,2,none⟩ v) Z #[a0,a1,v,a3,a4,a5,a6,a7] 91:=by simpa using h.set 2 v
theorem ZRead.ev {Z R sb so cap : Nat} {src : List UInt8} {p n : Nat} {A U : Addr} {c : Array Value} {w w' : World} {v : Value} (h : ZRead Z R sb so cap src p n A U c w w' v) : v = .nilIface ∨ ∃ u,v = .iface 175 (.pointer (some u)):=by
 rcases h.1 with ⟨_,h,_⟩ | ⟨_,h,_⟩
 ·exact .inl h
 ·rcases h with h | h
  ·exact .inr ⟨_,h⟩
  ·exact .inr ⟨_,h⟩
theorem ZRead.cells {Z R sb so cap : Nat} {src : List UInt8} {p n : Nat} {A U : Addr} {c : Array Value} {w w' : World} {v : Value} (h : ZRead Z R sb so cap src p n A U c w w' v) (hc : 3 < c.size) : (∃ v,w'.cell? ⟨Z,3,none⟩ = some v) ∧ ∀ i,w'.frozen? ⟨Z,i,none⟩ = false:=by
 have key : ∀ l : List Value,Blk w' Z (splice c.toList 4 l).toArray 91 → (∃ v,w'.cell? ⟨Z,3,none⟩ = some v) ∧ ∀ i,w'.frozen? ⟨Z,i,none⟩ = false:=fun l hb => by
  refine ⟨?_,hb.free⟩
  have hs : 3 < (splice c.toList 4 l).toArray.size:=by simp [splice];omega
  exact ⟨(splice c.toList 4 l).toArray[3],by rw [hb.cell];exact Array.getElem?_eq_getElem hs⟩
 rcases h.1 with ⟨_,_,_,h⟩ | ⟨_,_,_,h⟩
 ·exact key _ h
 ·exact key _ h
theorem u8_low4 (a : Nat) (h : a < 256) : bits BinOp.and IntKind.u8 (a : Int) 15 = ((a % 16 : Nat) : Int):=by
 have:=u8_and_nat a 15 h (by omega)
 rw [show (15 : Nat) = 2 ^ 4 - 1 by rfl,Nat.and_two_pow_sub_one_eq_mod] at this
 exact this
theorem u8_bit5 (b : Nat) (h : b < 256) : bits BinOp.and IntKind.u8 (b : Int) 32 = ((32 * (b / 32 % 2) : Nat) : Int):=by
 have:=u8_and_nat b 32 h (by omega)
 have e : b &&& 32 = 32 * (b / 32 % 2):=by
  have h1 : ∀ b : Fin 256,(b.val &&& 32) = 32 * (b.val / 32 % 2):=by decide +kernel
  exact h1 ⟨b,h⟩
 rw [e] at this
 exact this
set_option maxRecDepth 100000 in
set_option maxHeartbeats 16000000 in
theorem zreset_fresh (Z R sb so cap : Nat) (src : List UInt8) (A hA dA kA U : Addr) (v : Value) (D : List UInt8) (w : World) (r0 g0 e0 y0 y1 y2 y3 : Value) (hb : Blk w Z #[r0,.nilIface,g0,e0,y0,y1,y2,y3] 91) (hS : Src w R sb so cap src 0) (hG : Glo w A hA dA kA U) (hv : Rd w v (D.map U8)) (hD : D.length ≤ 1099511627776) (hvs : ∀ b,v.ownBlock = some b → b < w.heap.size ∧ b ≠ Z ∧ b ≠ R)
  (hZR : Z ≠ R) (hZs : Z ≠ sb) (hGZ : ¬ GM A hA dA kA U Z) (hGR : ¬ GM A hA dA kA U R) (room : src.length ≤ cap) :
  Calls Tryz.prog 37 #[.pointer (some ⟨Z,0,none⟩),.iface 50 (.pointer (some ⟨R,0,none⟩)),v] w (ZPost w Z R sb so cap src D hA dA U):=by
 have HB:=Lib.hid hb;have HS:=Lib.hid hS;have HG:=Lib.hid hG;have HV:=Lib.hid hv;have HVS:=Lib.hid hvs
 have k0 : w.cell? ⟨Z,0,none⟩ = some r0:=by rw [hb.cell];rfl
 have k1 : w.cell? ⟨Z,1,none⟩ = some .nilIface:=by rw [hb.cell];rfl
 have k2 : w.cell? ⟨Z,2,none⟩ = some g0:=by rw [hb.cell];rfl
 have k3 : w.cell? ⟨Z,3,none⟩ = some e0:=by rw [hb.cell];rfl
 have k4 : w.cell? ⟨Z,4,none⟩ = some y0:=by rw [hb.cell];rfl
 have k5 : w.cell? ⟨Z,5,none⟩ = some y1:=by rw [hb.cell];rfl
 have k6 : w.cell? ⟨Z,6,none⟩ = some y2:=by rw [hb.cell];rfl
 have k7 : w.cell? ⟨Z,7,none⟩ = some y3:=by rw [hb.cell];rfl
 have hf:=hb.free
 have hta : ∀ (a : Addr) (w : World),(Instr.typeAssert (.iface 50 (.pointer (some a))) 78 86 true).run Tryz.prog w = .ok (.tuple #[.iface 50 (.pointer (some a)),.bool true]) w:=fun a w => by kernel_rfl
 clear hb hS hG hv hvs
 go_enter Tryz.func37,Tryz.ntmps37
 go_upto_region 6 with (fail)
 obtain ⟨w1,hw1⟩ : ∃ y,(((((((((w.setCell ⟨Z,0,none⟩ .nilIface).setCell ⟨Z,1,none⟩ .nilIface).setCell ⟨Z,2,none⟩ .nilIface).setCell ⟨Z,3,none⟩ .nilIface).setCell ⟨Z,4,none⟩ (.int .u8 0)).setCell ⟨Z,5,none⟩ (.int .u8 0)).setCell ⟨Z,6,none⟩ (.int .u8 0)).setCell ⟨Z,7,none⟩ (.int .u8 0)).setCell ⟨Z,0,none⟩ (.iface 50 (.pointer (some ⟨R,0,none⟩)))) = y:=⟨_,rfl⟩
 rw [hw1]
 have hb1 : Blk w1 Z #[.iface 50 (.pointer (some ⟨R,0,none⟩)),.nilIface,.nilIface,.nilIface,U8 0,U8 0,U8 0,U8 0] 91:=by
  rw [← hw1]
  simpa [U8] using (((((((((HB.out.set 0 .nilIface).set 1 .nilIface).set 2 .nilIface).set 3 .nilIface).set 4 (.int .u8 0)).set 5 (.int .u8 0)).set 6 (.int .u8 0)).set 7 (.int .u8 0)).set 0 (.iface 50 (.pointer (some ⟨R,0,none⟩))))
 have he1 : Ext (fun k => k = Z) w w1:=by rw [← hw1];exact (((((((((Ext.refl _ w).only _).only _).only _).only _).only _).only _).only _).only _).only _
 have hdr : Ext (fun k => k = Z) w w1.drew:=he1.drew
 have hGd:=HG.out.ext hdr (fun k hk e => hGZ (e ▸ hk))
 obtain ⟨nr,ev,hevv,hrd⟩:=zread_any Z R sb so cap src 0 2 A U _ w1.drew hb1.drew (by rfl) (HS.out.ext hdr (fun e => hZR e.symm) (fun e => hZs e.symm)) hGd.ends hZR hZs (fun h => hGZ (EM_GM h)) (fun h => hGR (EM_GM h)) (by omega) room
 have hc0 : w1.cell? ⟨Z,0,none⟩ = some (.iface 50 (.pointer (some ⟨R,0,none⟩))):=by rw [hb1.cell];rfl
 have HE1:=Lib.hid he1
 clear hw1 k0 k1 k2 k3 k4 k5 k6 k7 hf he1 hdr hGd
 refine z_read2 Z R w1 nr ev hevv _ hc0 hrd (fun w' h => h.cells (by show 3 < 8;decide)) _ _ ?_
 intro u35 u36 u37 u38 u39 u40 u41 u42 u43 u44 u45 u46 u47 u48 u49 w2 h2
 have HE2 : Hid (Ext (fun k => k = Z ∨ k = R) w w2):=Lib.hid (((HE1.out.drew).mono (fun _ _ e => .inl e)).trans h2.2)
 have HG2 : Hid (Glo w2 A hA dA kA U):=Lib.hid (HG.out.ext HE2.out (fun k hk e => by rcases e with e | e;exact hGZ (e ▸ hk);exact hGR (e ▸ hk)))
 have hz0 : (0 : Nat) ≠ Z:=fun e => hGZ (e ▸ .inl (by omega))
 have hz1 : (1 : Nat) ≠ Z:=fun e => hGZ (e ▸ .inl (by omega))
 have hz2 : (2 : Nat) ≠ Z:=fun e => hGZ (e ▸ .inl (by omega))
 have hz4 : (4 : Nat) ≠ Z:=fun e => hGZ (e ▸ .inl (by omega))
 have g0':=HG2.out.eof.cell
 have g1':=HG2.out.hdr.cell
 have g2':=HG2.out.dic.cell
 have g4':=HG2.out.early.cell
 rcases h2.1 with ⟨hp,rfl,hs2,hb2⟩ | ⟨hp,hevu,hs2,hb2⟩
 rotate_left
 ·
  have hb2' : ∃ x4 x5 x6 x7 : Value,Blk (w2.setCell ⟨Z,3,none⟩ ev) Z #[.iface 50 (.pointer (some ⟨R,0,none⟩)),.nilIface,.nilIface,ev,x4,x5,x6,x7] 91:=by
   rcases src with _ | ⟨a,_ | ⟨b,s⟩⟩
   ·exact ⟨U8 0,U8 0,U8 0,U8 0,zblk_set (by simpa [splice] using hb2)⟩
   ·exact ⟨U8 a,U8 0,U8 0,U8 0,zblk_set (by simpa [splice] using hb2)⟩
   ·simp at hp;omega
  obtain ⟨x4,x5,x6,x7,hb3⟩:=hb2'
  have HS3 : Hid (Src (w2.setCell ⟨Z,3,none⟩ ev) R sb so cap src src.length):=Lib.hid (hs2.ext ((Ext.refl (fun k => k = Z) w2).only _) (fun e => hZR e.symm) (fun e => hZs e.symm))
  have HE3 : Hid (Ext (fun k => k = Z ∨ k = R) w (w2.setCell ⟨Z,3,none⟩ ev)):=Lib.hid (HE2.out.setCell (p:=⟨Z,3,none⟩) (fun _ => .inl rfl) _)
  have k3 : (w2.setCell ⟨Z,3,none⟩ ev).cell? ⟨Z,3,none⟩ = some ev:=by rw [hb3.cell];rfl
  have hf3:=hb3.free
  have hw : ZWhy src D hA dA U U:=.short (by omega)
  obtain ⟨ci,hci,hcmp⟩:=Option.map_eq_some_iff.1 Tryz.comp175
  obtain ⟨cj,hcj,hcs⟩:=Option.map_eq_some_iff.1 Tryz.size204
  rcases hevu with rfl | rfl
  ·have heq:=fun w : World => run_eql_iface_ptr_same (P:=Tryz.prog) w A Tryz.underlying47 Tryz.underlying175 hci hcmp hcj
   clear h2 hs2 hb2 hb3 hci hcmp hcj hcs hc0 hrd hb1 hevv
   go_wp2_with fail
   go_quiet (fail)
   go_wp2_with fail
   go_ret
   exact .err rfl hw ((HS3.out.drewN nq).ext ((Ext.refl (fun k => k = Z) _).only _) (fun e => hZR e.symm) (fun e => hZs e.symm)) ((HE3.out.drewN nq).setCell (p:=⟨Z,3,none⟩) (fun _ => .inl rfl) _)
  ·have hG3 : Glo (w2.setCell ⟨Z,3,none⟩ (.iface 175 (.pointer (some U)))) A hA dA kA U:=HG2.out.ext (M:=fun k => k = Z) ((Ext.refl _ w2).only _) (fun k hk e => hGZ (e ▸ hk))
   obtain ⟨cu,tu,hru⟩:=hG3.early.row
   obtain ⟨ca,ta,hra⟩:=hG3.eof.row
   have hne:=hG3.n1
   have heq:=fun n : Nat => run_eql_iface_ptr_other (P:=Tryz.prog) ((w2.setCell ⟨Z,3,none⟩ (.iface 175 (.pointer (some U)))).drewN n) Tryz.underlying47 Tryz.underlying175 hci hcmp hcj (by omega) hne hru hra
   have gg0:=hG3.eof.cell
   clear h2 hs2 hb2 hb3 hci hcmp hcj hcs hc0 hrd hb1 hevv hru hra hG3 hne g0' g1' g2' g4'
   go_wp2_with fail
   go_quiet (fail)
   go_wp2_with fail
   go_ret
   exact .err rfl hw (HS3.out.drewN nq) (HE3.out.drewN nq)
 ·obtain ⟨a,b,s,rfl⟩ : ∃ a b s,src = a::b::s:=by
   rcases src with _ | ⟨a,_ | ⟨b,s⟩⟩
   ·simp at hp
   ·simp at hp
   ·exact ⟨a,b,s,rfl⟩
  have hb3 : Blk (w2.setCell ⟨Z,3,none⟩ .nilIface) Z #[.iface 50 (.pointer (some ⟨R,0,none⟩)),.nilIface,.nilIface,.nilIface,U8 a,U8 b,U8 0,U8 0] 91:=zblk_set (by simpa [splice] using hb2)
  have HS3 : Hid (Src (w2.setCell ⟨Z,3,none⟩ .nilIface) R sb so cap (a::b::s) 2):=Lib.hid ((by simpa using hs2 : Src w2 R sb so cap (a::b::s) 2).ext ((Ext.refl (fun k => k = Z) w2).only _) (fun e => hZR e.symm) (fun e => hZs e.symm))
  have HE3 : Hid (Ext (fun k => k = Z ∨ k = R) w (w2.setCell ⟨Z,3,none⟩ .nilIface)):=Lib.hid (HE2.out.setCell (p:=⟨Z,3,none⟩) (fun _ => .inl rfl) _)
  obtain ⟨w3,hw3⟩ : ∃ y,w2.setCell ⟨Z,3,none⟩ .nilIface = y:=⟨_,rfl⟩
  rw [hw3] at hb3 HS3 HE3 ⊢
  have k3 : w3.cell? ⟨Z,3,none⟩ = some .nilIface:=by rw [hb3.cell];rfl
  have k4 : w3.cell? ⟨Z,4,none⟩ = some (.int .u8 a.toNat):=by rw [hb3.cell];rfl
  have k5 : w3.cell? ⟨Z,5,none⟩ = some (.int .u8 b.toNat):=by rw [hb3.cell];rfl
  have HB3:=Lib.hid hb3
  have hG3 : Glo w3 A hA dA kA U:=HG.out.ext HE3.out (fun k hk e => by rcases e with e | e;exact hGZ (e ▸ hk);exact hGR (e ▸ hk))
  have HG3:=Lib.hid hG3
  clear h2 hs2 hb2 hb3 hc0 hrd hb1 hevv g0' g1' g2' g4' hw3 hG3
  go_upto_region 11 with (fail)
  refine z_num2 Z w3 a.toNat b.toNat a.toNat_lt b.toNat_lt k4 k5 _ _ ?_
  intro u9 u69 u70 u71 u72 u73 u74 w4 hu9 he4
  subst hu9
  have HS4:=Lib.hid (HS3.out.ext he4 (fun e => e) (fun e => e))
  have HE4:=Lib.hid (HE3.out.trans (he4.mono (fun _ _ e => e.elim)))
  have HG4:=Lib.hid (HG3.out.ext he4 (fun _ _ e => e))
  have hb4:=HB3.out.ext he4 (fun e => e)
  have HB4:=Lib.hid hb4
  have q1 : w4.cell? ⟨Z,1,none⟩ = some .nilIface:=by rw [hb4.cell];rfl
  have q2 : w4.cell? ⟨Z,2,none⟩ = some .nilIface:=by rw [hb4.cell];rfl
  have q0 : w4.cell? ⟨Z,0,none⟩ = some (.iface 50 (.pointer (some ⟨R,0,none⟩))):=by rw [hb4.cell];rfl
  have q3:=he4.cellSome (fun e => e) k3
  have q4:=he4.cellSome (fun e => e) k4
  have q5:=he4.cellSome (fun e => e) k5
  have hf4:=hb4.free
  have gg1:=HG4.out.hdr.cell
  obtain ⟨ta,hta'⟩ : ∃ y,a.toNat = y:=⟨_,rfl⟩
  obtain ⟨tb,htb'⟩ : ∃ y,b.toNat = y:=⟨_,rfl⟩
  have hla : ta < 256:=by rw [← hta'];exact a.toNat_lt
  have hlb : tb < 256:=by rw [← htb'];exact b.toNat_lt
  rw [hta'] at q4 ⊢
  rw [htb'] at q5 ⊢
  have HTA:=Lib.hid hta';have HTB:=Lib.hid htb'
  have l4:=u8_low4 ta hla
  have l5:=u8_bit5 tb hlb
  obtain ⟨m1,hm1⟩ : ∃ y,ta % 16 = y:=⟨_,rfl⟩
  obtain ⟨m2,hm2⟩ : ∃ y,ta / 16 = y:=⟨_,rfl⟩
  obtain ⟨m3,hm3⟩ : ∃ y,(256 * ta + tb) % 31 = y:=⟨_,rfl⟩
  obtain ⟨m4,hm4⟩ : ∃ y,256 * ta + tb = y:=⟨_,rfl⟩
  rw [hm4] at hm3 ⊢
  rw [hm1] at l4
  have e2 : (ta : Int) / 16 = (m2 : Int):=by omega
  have e3 : (m4 : Int) % 31 = (m3 : Int):=by omega
  have HM1:=Lib.hid hm1;have HM2:=Lib.hid hm2;have HM3:=Lib.hid hm3;have HM4:=Lib.hid hm4
  clear hta' htb' hm1 hm2 hm3 hm4 he4 hb4 k3 k4 k5
  by_cases hgood : zgood a b
  ·have hg:=hgood
   unfold zgood at hg
   rw [HTA.out,HTB.out] at hg
   obtain ⟨x1,x2,x3⟩:=hg
   have d1 : ((m1 : Int) != 8) = false:=by have:=HM1.out;simp;omega
   have d2 : ¬ ((7 : Int) < (m2 : Int)):=by have:=HM2.out;omega
   have d3 : ((m3 : Int) != 0) = false:=by have:=HM3.out;have:=HM4.out;simp;omega
   clear x1 x2 x3
   by_cases hfd : fdict b
   ·have hfd':=hfd
    unfold fdict at hfd'
    rw [HTB.out] at hfd'
    obtain ⟨m5,hm5⟩ : ∃ y,32 * (tb / 32 % 2) = y:=⟨_,rfl⟩
    rw [hm5] at l5
    have d4 : ((m5 : Int) != 0) = true:=by simp;omega
    clear hm5 hfd'
    have hsrc4 : Src w4 R sb so cap (a::b::s) 2:=HS4.out
    have hGd:=HG4.out.ext (M:=fun _ => False) (Ext.refl _ w4).drew (fun _ _ e => e)
    obtain ⟨nr4,ev4,hevv4,hrd4⟩:=zread_any Z R sb so cap (a::b::s) 2 4 A U _ w4.drew HB4.out.drew (by rfl) (hsrc4.ext ((Ext.refl (fun _ => False) w4).drew) (fun e => e) (fun e => e)) hGd.ends hZR hZs (fun h => hGZ (EM_GM h)) (fun h => hGR (EM_GM h)) (by omega) room
    clear hsrc4 hGd gg1
    go_upto_region 17 with (fail)
    refine z_read4 Z R w4 nr4 ev4 hevv4 _ q0 hrd4 (fun w' h => h.cells (by show 3 < 8;decide)) _ _ _ ?_
    intro u112 u113 u114 u115 u116 u117 u118 u119 u120 u121 u122 u123 u124 u125 u126 w5 h5
    have HE5 : Hid (Ext (fun k => k = Z ∨ k = R) w w5):=Lib.hid (HE4.out.trans (((Ext.refl _ w4).drew).trans h5.2))
    have HG5 : Hid (Glo w5 A hA dA kA U):=Lib.hid (HG.out.ext HE5.out (fun k hk e => by rcases e with e | e;exact hGZ (e ▸ hk);exact hGR (e ▸ hk)))
    rcases h5.1 with ⟨hp4,rfl,hs5,hb5⟩ | ⟨hp4,hevu,hs5,hb5⟩
    rotate_left
    ·have hb5' : ∃ x4 x5 x6 x7 : Value,Blk (w5.setCell ⟨Z,3,none⟩ ev4) Z #[.iface 50 (.pointer (some ⟨R,0,none⟩)),.nilIface,.nilIface,ev4,x4,x5,x6,x7] 91:=by
      rcases s with _ | ⟨c0,_ | ⟨c1,_ | ⟨c2,_ | ⟨c3,s⟩⟩⟩⟩
      ·exact ⟨U8 a,U8 b,U8 0,U8 0,zblk_set (by simpa [splice] using hb5)⟩
      ·exact ⟨U8 c0,U8 b,U8 0,U8 0,zblk_set (by simpa [splice] using hb5)⟩
      ·exact ⟨U8 c0,U8 c1,U8 0,U8 0,zblk_set (by simpa [splice] using hb5)⟩
      ·exact ⟨U8 c0,U8 c1,U8 c2,U8 0,zblk_set (by simpa [splice] using hb5)⟩
      ·simp at hp4;omega
     obtain ⟨x4,x5,x6,x7,hb6⟩:=hb5'
     have HS6 : Hid (Src (w5.setCell ⟨Z,3,none⟩ ev4) R sb so cap (a::b::s) (a::b::s).length):=Lib.hid (hs5.ext ((Ext.refl (fun k => k = Z) w5).only _) (fun e => hZR e.symm) (fun e => hZs e.symm))
     have HE6 : Hid (Ext (fun k => k = Z ∨ k = R) w (w5.setCell ⟨Z,3,none⟩ ev4)):=Lib.hid (HE5.out.setCell (p:=⟨Z,3,none⟩) (fun _ => .inl rfl) _)
     have k3 : (w5.setCell ⟨Z,3,none⟩ ev4).cell? ⟨Z,3,none⟩ = some ev4:=by rw [hb6.cell];rfl
     have hf6:=hb6.free
     have hw : ZWhy (a::b::s) D hA dA U U:=.shortDict a b s rfl hgood hfd (by simp at hp4;omega)
     have hG6 : Glo (w5.setCell ⟨Z,3,none⟩ ev4) A hA dA kA U:=HG5.out.ext (M:=fun k => k = Z) ((Ext.refl _ w5).only _) (fun k hk e => hGZ (e ▸ hk))
     have gg0:=hG6.eof.cell
     have gg4:=hG6.early.cell
     obtain ⟨ci,hci,hcmp⟩:=Option.map_eq_some_iff.1 Tryz.comp175
     obtain ⟨cj,hcj,hcs⟩:=Option.map_eq_some_iff.1 Tryz.size204
     obtain ⟨cu,tu,hru⟩:=hG6.early.row
     obtain ⟨ca,tA,hra⟩:=hG6.eof.row
     have hne:=hG6.n1
     rcases hevu with rfl | rfl
     ·have heq:=fun w : World => run_eql_iface_ptr_same (P:=Tryz.prog) w A Tryz.underlying47 Tryz.underlying175 hci hcmp hcj
      clear h5 hs5 hb5 hb6 hci hcmp hcj hcs hrd4 hevv4 hru hra hne hG6 q0 q1 q2 q3 q4 q5 hf4
      go_wp2_with fail
      go_quiet (fail)
      go_wp2_with fail
      go_ret
      exact .err rfl hw ((HS6.out.drewN nq).ext ((Ext.refl (fun k => k = Z) _).only _) (fun e => hZR e.symm) (fun e => hZs e.symm)) ((HE6.out.drewN nq).setCell (p:=⟨Z,3,none⟩) (fun _ => .inl rfl) _)
     ·have heq:=fun n : Nat => run_eql_iface_ptr_other (P:=Tryz.prog) ((w5.setCell ⟨Z,3,none⟩ (.iface 175 (.pointer (some U)))).drewN n) Tryz.underlying47 Tryz.underlying175 hci hcmp hcj (by omega) hne hru hra
      clear h5 hs5 hb5 hb6 hci hcmp hcj hcs hrd4 hevv4 hru hra hne hG6 q0 q1 q2 q3 q4 q5 hf4
      go_wp2_with fail
      go_quiet (fail)
      go_wp2_with fail
      go_ret
      exact .err rfl hw (HS6.out.drewN nq) (HE6.out.drewN nq)
    ·obtain ⟨c0,c1,c2,c3,s',rfl⟩ : ∃ c0 c1 c2 c3 s',s = c0::c1::c2::c3::s':=by
      rcases s with _ | ⟨c0,_ | ⟨c1,_ | ⟨c2,_ | ⟨c3,s⟩⟩⟩⟩
      ·simp at hp4
      ·simp at hp4
      ·simp at hp4
      ·simp at hp4
      ·exact ⟨c0,c1,c2,c3,s,rfl⟩
     have hb6 : Blk (w5.setCell ⟨Z,3,none⟩ .nilIface) Z #[.iface 50 (.pointer (some ⟨R,0,none⟩)),.nilIface,.nilIface,.nilIface,U8 c0,U8 c1,U8 c2,U8 c3] 91:=zblk_set (by simpa [splice] using hb5)
     have HS6 : Hid (Src (w5.setCell ⟨Z,3,none⟩ .nilIface) R sb so cap (a::b::c0::c1::c2::c3::s') 6):=Lib.hid (hs5.ext ((Ext.refl (fun k => k = Z) w5).only _) (fun e => hZR e.symm) (fun e => hZs e.symm))
     have HE6 : Hid (Ext (fun k => k = Z ∨ k = R) w (w5.setCell ⟨Z,3,none⟩ .nilIface)):=Lib.hid (HE5.out.setCell (p:=⟨Z,3,none⟩) (fun _ => .inl rfl) _)
     have hG6 : Glo (w5.setCell ⟨Z,3,none⟩ .nilIface) A hA dA kA U:=HG5.out.ext (M:=fun k => k = Z) ((Ext.refl _ w5).only _) (fun k hk e => hGZ (e ▸ hk))
     have HG6:=Lib.hid hG6
     obtain ⟨w6,hw6⟩ : ∃ y,w5.setCell ⟨Z,3,none⟩ .nilIface = y:=⟨_,rfl⟩
     rw [hw6] at hb6 HS6 HE6 HG6 ⊢
     have HB6:=Lib.hid hb6
     have k3 : w6.cell? ⟨Z,3,none⟩ = some .nilIface:=by rw [hb6.cell];rfl
     have k4 : w6.cell? ⟨Z,4,none⟩ = some (.int .u8 c0.toNat):=by rw [hb6.cell];rfl
     have k5 : w6.cell? ⟨Z,5,none⟩ = some (.int .u8 c1.toNat):=by rw [hb6.cell];rfl
     have k6 : w6.cell? ⟨Z,6,none⟩ = some (.int .u8 c2.toNat):=by rw [hb6.cell];rfl
     have k7 : w6.cell? ⟨Z,7,none⟩ = some (.int .u8 c3.toNat):=by rw [hb6.cell];rfl
     clear h5 hs5 hb5 hb6 hrd4 hevv4 hG6 hw6 q0 q1 q2 q3 q4 q5 hf4
     go_upto_region 22 with (fail)
     refine z_num4 Z w6 c0.toNat c1.toNat c2.toNat c3.toNat c0.toNat_lt c1.toNat_lt c2.toNat_lt c3.toNat_lt k4 k5 k6 k7 _ _ _ ?_
     intro u11 u146 u147 u148 u149 u150 u151 w7 hu11 he7
     subst hu11
     obtain ⟨N,hN⟩ : ∃ y,16777216 * c0.toNat + 65536 * c1.toNat + 256 * c2.toNat + c3.toNat = y:=⟨_,rfl⟩
     rw [hN]
     have HN : Hid (num4 c0 c1 c2 c3 = N):=Lib.hid hN
     have HE7:=Lib.hid (HE6.out.trans (he7.mono (fun _ _ e => e.elim)))
     have HCK:=Lib.hid (checksum_any D v w7 hD (HV.out.ext HE7.out (fun b hb e => by rcases e with e | e;exact (HVS.out b hb).2.1 e;exact (HVS.out b hb).2.2 e)))
     have HS7:=Lib.hid (HS6.out.ext he7 (fun e => e) (fun e => e))
     have HG7:=Lib.hid (HG6.out.ext he7 (fun _ _ e => e))
     have HB7:=Lib.hid (HB6.out.ext he7 (fun e => e))
     clear hN k3 k4 k5 k6 k7 he7
     go_wp2_with fail
     refine HCK.out.mono ?_
     rintro e w8 ⟨rfl,he8⟩
     have HE8:=Lib.hid (HE7.out.trans (he8.mono (fun _ _ e => e.elim)))
     have HS8:=Lib.hid (HS7.out.ext he8 (fun e => e) (fun e => e))
     have hG8:=HG7.out.ext he8 (fun _ _ e => e)
     have hb8:=HB7.out.ext he8 (fun e => e)
     have HB8:=Lib.hid hb8
     have gg2:=hG8.dic.cell
     have z0 : w8.cell? ⟨Z,0,none⟩ = some (.iface 50 (.pointer (some ⟨R,0,none⟩))):=by rw [hb8.cell];rfl
     have z1 : w8.cell? ⟨Z,1,none⟩ = some .nilIface:=by rw [hb8.cell];rfl
     have z2 : w8.cell? ⟨Z,2,none⟩ = some .nilIface:=by rw [hb8.cell];rfl
     have z3 : w8.cell? ⟨Z,3,none⟩ = some .nilIface:=by rw [hb8.cell];rfl
     have hf8:=hb8.free
     obtain ⟨AD,hAD⟩ : ∃ y,adler D = y:=⟨_,rfl⟩
     rw [hAD]
     have HAD:=Lib.hid hAD
     clear hAD he8 hb8 hG8
     by_cases hq : N = AD
     ·have hq1 : ((N : Int) != (AD : Int)) = false:=by simp;omega
      have HQ:=Lib.hid hq
      have HFN:=Lib.hid (fnew_dict R v D w8 (HV.out.ext HE8.out (fun b hb e => by rcases e with e | e;exact (HVS.out b hb).2.1 e;exact (HVS.out b hb).2.2 e)) hD (fun b hb => Nat.lt_of_lt_of_le (HVS.out b hb).1 HE8.out.size))
      clear hq
      go_wp2_with fail
      refine HFN.out.mono ?_
      rintro e w9 ⟨F,Bb,Cb,hb,c,hs,wr,full,rfl,f1,f2,f3,f4,hfr,he9⟩
      have hb9:=HB8.out.ext he9 (fun e => e)
      have t1 : w9.cell? ⟨Z,1,none⟩ = some .nilIface:=by rw [hb9.cell];rfl
      have t2 : w9.cell? ⟨Z,2,none⟩ = some .nilIface:=by rw [hb9.cell];rfl
      have hf9:=hb9.free
      have hZl:=HB8.out.lt
      have HDN:=Lib.hid (digest_new (w9.setCell ⟨Z,1,none⟩ (.iface 151 (.pointer (some ⟨F,0,none⟩)))))
      have HB9:=Lib.hid hb9;have HE9:=Lib.hid he9;have HFR:=Lib.hid hfr
      clear hb9 he9 hfr z0 z1 z2 z3
      go_wp2_with fail
      refine HDN.out.mono ?_
      rintro e wA ⟨G,rfl,hGl,hGb,heA⟩
      have hsz9 : (w9.setCell ⟨Z,1,none⟩ (.iface 151 (.pointer (some ⟨F,0,none⟩)))).heap.size = w9.heap.size:=by simp [World.setCell]
      have hbA:=(zblk_set1 (v:=.iface 151 (.pointer (some ⟨F,0,none⟩))) HB9.out).ext heA (fun e => e)
      have u2' : wA.cell? ⟨Z,2,none⟩ = some .nilIface:=by rw [hbA.cell];rfl
      have hfA:=hbA.free
      have hhl:=HFR.out.dd.hblk.lt
      have hEz : Ext (fun k => k = Z) w8 (wA.setCell ⟨Z,2,none⟩ (.iface 153 (.pointer (some ⟨G,0,none⟩)))):=(((HE9.out.mono (fun _ _ e => e.elim)).only _).trans (heA.mono (fun _ _ e => e.elim))).only _
      have hEz9 : Ext (fun k => k = Z) w9 (wA.setCell ⟨Z,2,none⟩ (.iface 153 (.pointer (some ⟨G,0,none⟩)))):=(((Ext.refl (fun k => k = Z) w9).only _).trans (heA.mono (fun _ _ e => e.elim))).only _
      have hEND : ZPost w Z R sb so cap (a::b::c0::c1::c2::c3::s') D hA dA U (.returned .nilIface) (wA.setCell ⟨Z,2,none⟩ (.iface 153 (.pointer (some ⟨G,0,none⟩)))) :=
       .ok (p:=6) (D':=D) (F:=F) (Bb:=Bb) (Cb:=Cb) (hb:=hb) (G:=G) (c:=c) (hs:=hs) (wr:=wr) (full:=full) rfl (.dict a b c0 c1 c2 c3 s' rfl hgood hfd (by rw [HN.out,HAD.out];exact HQ.out))
        ⟨⟨c0,c1,c2,c3,zblk_set2 hbA⟩,hGb.setOther _ _ (by simp;omega),HS8.out.ext hEz (fun e => hZR e.symm) (fun e => hZs e.symm),HFR.out.ext hEz9 (by omega) (by omega) (by omega) (by omega)⟩ (by have:=HE8.out.size;omega) f2 f3 f4 (by omega) (HE8.out.trans (hEz.mono (fun _ _ e => .inl e)))
      have HEND:=Lib.hid hEND
      clear hbA hEz hEz9 hEND hGb heA
      go_wp2_with fail
      go_ret
      exact HEND.out
     ·have hq1 : ((N : Int) != (AD : Int)) = true:=by simp;omega
      have HQ:=Lib.hid hq
      clear hq
      go_wp2_with fail
      go_ret
      exact .err rfl (.dict a b c0 c1 c2 c3 s' rfl hgood hfd (by rw [HN.out,HAD.out];exact HQ.out)) (HS8.out.ext ((Ext.refl (fun k => k = Z) _).only _) (fun e => hZR e.symm) (fun e => hZs e.symm)) (HE8.out.setCell (p:=⟨Z,3,none⟩) (fun _ => .inl rfl) _)
   ·have hfd':=hfd
    unfold fdict at hfd'
    rw [HTB.out] at hfd'
    obtain ⟨m5,hm5⟩ : ∃ y,32 * (tb / 32 % 2) = y:=⟨_,rfl⟩
    rw [hm5] at l5
    have d4 : ((m5 : Int) != 0) = false:=by simp;omega
    have HFN:=Lib.hid (fnew_none R w4)
    clear hm5 hfd' gg1
    go_wp2_with fail
    refine HFN.out.mono ?_
    rintro e w9 ⟨F,Bb,Cb,hb,c,hs,wr,full,rfl,f1,f2,f3,f4,hfr,he9⟩
    have hb9:=HB4.out.ext he9 (fun e => e)
    have t1 : w9.cell? ⟨Z,1,none⟩ = some .nilIface:=by rw [hb9.cell];rfl
    have t2 : w9.cell? ⟨Z,2,none⟩ = some .nilIface:=by rw [hb9.cell];rfl
    have hf9:=hb9.free
    have hZl:=HB4.out.lt
    have HDN:=Lib.hid (digest_new (w9.setCell ⟨Z,1,none⟩ (.iface 151 (.pointer (some ⟨F,0,none⟩)))))
    have HB9:=Lib.hid hb9;have HE9:=Lib.hid he9;have HFR:=Lib.hid hfr
    clear hb9 he9 hfr q0 q1 q2 q3 q4 q5 hf4
    go_wp2_with fail
    refine HDN.out.mono ?_
    rintro e wA ⟨G,rfl,hGl,hGb,heA⟩
    have hsz9 : (w9.setCell ⟨Z,1,none⟩ (.iface 151 (.pointer (some ⟨F,0,none⟩)))).heap.size = w9.heap.size:=by simp [World.setCell]
    have hbA:=(zblk_set1 (v:=.iface 151 (.pointer (some ⟨F,0,none⟩))) HB9.out).ext heA (fun e => e)
    have u2' : wA.cell? ⟨Z,2,none⟩ = some .nilIface:=by rw [hbA.cell];rfl
    have hfA:=hbA.free
    have hhl:=HFR.out.dd.hblk.lt
    have hEz : Ext (fun k => k = Z) w4 (wA.setCell ⟨Z,2,none⟩ (.iface 153 (.pointer (some ⟨G,0,none⟩)))):=(((HE9.out.mono (fun _ _ e => e.elim)).only _).trans (heA.mono (fun _ _ e => e.elim))).only _
    have hEz9 : Ext (fun k => k = Z) w9 (wA.setCell ⟨Z,2,none⟩ (.iface 153 (.pointer (some ⟨G,0,none⟩)))):=(((Ext.refl (fun k => k = Z) w9).only _).trans (heA.mono (fun _ _ e => e.elim))).only _
    have hEND : ZPost w Z R sb so cap (a::b::s) D hA dA U (.returned .nilIface) (wA.setCell ⟨Z,2,none⟩ (.iface 153 (.pointer (some ⟨G,0,none⟩)))) :=
     .ok (p:=2) (D':=[]) (F:=F) (Bb:=Bb) (Cb:=Cb) (hb:=hb) (G:=G) (c:=c) (hs:=hs) (wr:=wr) (full:=full) rfl (.bare a b s rfl hgood hfd)
      ⟨⟨a,b,0,0,zblk_set2 hbA⟩,hGb.setOther _ _ (by simp;omega),HS4.out.ext hEz (fun e => hZR e.symm) (fun e => hZs e.symm),HFR.out.ext hEz9 (by omega) (by omega) (by omega) (by omega)⟩ (by have:=HE4.out.size;omega) f2 f3 f4 (by omega) (HE4.out.trans (hEz.mono (fun _ _ e => .inl e)))
    have HEND:=Lib.hid hEND
    clear hbA hEz hEz9 hEND hGb heA
    go_wp2_with fail
    go_ret
    exact HEND.out
  ·have HERR : Hid (∀ n : Nat,ZPost w Z R sb so cap (a::b::s) D hA dA U (.returned (.iface 175 (.pointer (some hA)))) ((w4.drewN n).setCell ⟨Z,3,none⟩ (.iface 175 (.pointer (some hA))))):=Lib.hid (fun n =>
    .err rfl (.header a b s rfl hgood) ((HS4.out.drewN n).ext ((Ext.refl (fun k => k = Z) _).only _) (fun e => hZR e.symm) (fun e => hZs e.symm)) ((HE4.out.drewN n).setCell (p:=⟨Z,3,none⟩) (fun _ => .inl rfl) _))
   have hbad : m1 ≠ 8 ∨ 7 < m2 ∨ m3 ≠ 0:=by
    unfold zgood at hgood
    rw [HTA.out,HTB.out,HM1.out,HM2.out,HM4.out,HM3.out] at hgood
    omega
   by_cases b1 : m1 = 8
   ·have d1 : ((m1 : Int) != 8) = false:=by simp;omega
    by_cases b2 : 7 < m2
    ·have d2 : ((7 : Int) < (m2 : Int)):=by omega
     clear b1 b2 hbad
     go_wp2_with fail
     go_ret
     exact HERR.out 0
    ·have d2 : ¬ ((7 : Int) < (m2 : Int)):=by omega
     have d3 : ((m3 : Int) != 0) = true:=by simp;omega
     clear b1 b2 hbad
     go_wp2_with fail
     go_ret
     exact HERR.out 0
   ·have d1 : ((m1 : Int) != 8) = true:=by simp;omega
    clear b1 hbad
    go_wp2_with fail
    go_ret
    exact HERR.out 0
end Go.Proofs.YthpapbilhjobnaaGreatDoor
namespace Go.Proofs.YthpapbilhjobnaaGreatDoor
open Go.RowKit Pu
inductive NPost (w : World) (R sb so cap : Nat) (src : List UInt8) (D : List UInt8) (hA dA U : Addr) (e : Ending) (w' : World) : Prop
 | err {er : Addr} {p : Nat} (he : e = .returned (.tuple #[.nilIface,.iface 175 (.pointer (some er))])) (hw : ZWhy src D hA dA U er) (hs : Src w' R sb so cap src p) (hx : Ext (fun k => k = R) w w')
 | ok {p Z F Bb Cb hb G : Nat} {c : Array Value} {hs : List UInt8} {wr : Nat} {full : Bool} {D' : List UInt8} (he : e = .returned (.tuple #[.iface 84 (.pointer (some ⟨Z,0,none⟩)),.nilIface])) (hw : ZOk src D p D') (hz : ZNew w' Z R sb so cap src p F Bb Cb hb G c hs wr full D') (hZ : w.heap.size ≤ Z) (hF : Z < F) (h1 : F < Bb) (h2 : Bb < Cb) (h3 : Cb < hb) (h4 : hb < G) (hx : Ext (fun k => k = R) w w')
set_option maxRecDepth 100000 in
set_option maxHeartbeats 8000000 in
theorem znew_dict (R sb so cap : Nat) (src : List UInt8) (A hA dA kA U : Addr) (v : Value) (D : List UInt8) (w : World) (hS : Src w R sb so cap src 0) (hG : Glo w A hA dA kA U) (hGl : ∀ k,GM A hA dA kA U k → k < w.heap.size) (hv : Rd w v (D.map U8)) (hD : D.length ≤ 1099511627776) (hvs : ∀ b,v.ownBlock = some b → b < w.heap.size ∧ b ≠ R)
  (hsl : sb < w.heap.size) (hGR : ¬ GM A hA dA kA U R) (room : src.length ≤ cap) :
  Calls Tryz.prog 26 #[.iface 50 (.pointer (some ⟨R,0,none⟩)),v] w (NPost w R sb so cap src D hA dA U):=by
 have HS:=Lib.hid hS;have HG:=Lib.hid hG;have HGL:=Lib.hid hGl;have HV:=Lib.hid hv;have HVS:=Lib.hid hvs
 have hRl:=hS.blk.lt
 clear hS hG hGl hv hvs
 obtain ⟨Z,hZ⟩ : ∃ y,w.heap.size = y:=⟨_,rfl⟩
 have HZ:=Lib.hid hZ
 go_enter Tryz.func26,Tryz.ntmps26
 go_upto_region 2 with (fail)
 obtain ⟨w1,hw1⟩ : ∃ y,w.alloc (.cells #[.nilIface,.nilIface,.nilIface,.nilIface,.int .u8 0,.int .u8 0,.int .u8 0,.int .u8 0] 91) = y:=⟨_,rfl⟩
 rw [hw1]
 have hb1 : Blk w1 Z #[.nilIface,.nilIface,.nilIface,.nilIface,.int .u8 0,.int .u8 0,.int .u8 0,.int .u8 0] 91:=by rw [← hw1,← hZ];exact Blk.new w _ _
 have he1 : Ext (fun _ => False) w w1:=by rw [← hw1];exact (Ext.refl _ w).alloc _
 have hw1s : w1.heap.size = Z + 1:=by rw [← hw1,← hZ];simp
 have HZR:=Lib.hid (zreset_fresh Z R sb so cap src A hA dA kA U v D w1 _ _ _ _ _ _ _ hb1 (HS.out.ext he1 (fun e => e) (fun e => e)) (HG.out.ext he1 (fun _ _ e => e)) (HV.out.ext he1 (fun _ _ e => e)) hD (fun b hb => by have:=HVS.out b hb;exact ⟨by omega,by omega,this.2⟩) (by omega) (by omega) (fun h => by have:=HGL.out _ h;omega) hGR room)
 have HE1:=Lib.hid he1
 clear hw1 hb1 he1
 go_wp2_with fail
 refine HZR.out.mono ?_
 intro e w2 hp
 have hxx : ∀ {w' : World},Ext (fun k => k = Z ∨ k = R) w1 w' → Ext (fun k => k = R) w w':=fun hx => (HE1.out.mono (M':=fun k => k = R) (fun _ _ e => e.elim)).trans' hx (fun i hi e => by rcases e with e | e;omega;exact e)
 cases hp with
 | err he hw hs hx =>
  subst he
  have HEND:=Lib.hid (NPost.err (w:=w) (w':=w2) (e:=.returned (.tuple #[.nilIface,.iface 175 (.pointer (some _))])) rfl hw hs (hxx hx))
  clear hw hs hx hxx
  go_wp2_with fail
  go_ret2
  exact HEND.out
 | ok he hw hz hF h1 h2 h3 h4 hx =>
  subst he
  have HEND:=Lib.hid (NPost.ok (w:=w) (w':=w2) (hA:=hA) (dA:=dA) (U:=U) (e:=.returned (.tuple #[.iface 84 (.pointer (some ⟨Z,0,none⟩)),.nilIface])) rfl hw hz (by omega) (by omega) h1 h2 h3 h4 (hxx hx))
  clear hw hz hF h1 h2 h3 h4 hx hxx
  go_wp2_with fail
  go_ret2
  exact HEND.out
set_option maxRecDepth 100000 in
set_option maxHeartbeats 8000000 in
theorem znew_none (R sb so cap : Nat) (src : List UInt8) (A hA dA kA U : Addr) (w : World) (hS : Src w R sb so cap src 0) (hG : Glo w A hA dA kA U) (hGl : ∀ k,GM A hA dA kA U k → k < w.heap.size) (hsl : sb < w.heap.size) (hGR : ¬ GM A hA dA kA U R) (room : src.length ≤ cap) :
  Calls Tryz.prog 22 #[.iface 50 (.pointer (some ⟨R,0,none⟩))] w (NPost w R sb so cap src [] hA dA U):=by
 have HN:=Lib.hid (znew_dict R sb so cap src A hA dA kA U (.slice none 0 0) [] w hS hG hGl (Rd.nil w) (by simp) (by intro b h;cases h) hsl hGR room)
 clear hS hG hGl
 go_enter Tryz.func22,Tryz.ntmps22
 go_wp2_with fail
 refine HN.out.mono ?_
 intro e w2 hp
 cases hp with
 | err he hw hs hx =>
  subst he
  have HEND:=Lib.hid (NPost.err (w:=w) (w':=w2) (e:=.returned (.tuple #[.nilIface,.iface 175 (.pointer (some _))])) rfl hw hs hx)
  clear hw hs hx
  go_wp2_with fail
  go_ret2
  exact HEND.out
 | ok he hw hz hZ hF h1 h2 h3 h4 hx =>
  subst he
  have HEND:=Lib.hid (NPost.ok (w:=w) (w':=w2) (hA:=hA) (dA:=dA) (U:=U) rfl hw hz hZ hF h1 h2 h3 h4 hx)
  clear hw hz hZ hF h1 h2 h3 h4 hx
  go_wp2_with fail
  go_ret2
  exact HEND.out
end Go.Proofs.YthpapbilhjobnaaGreatDoor
namespace Go.Proofs.YthpapbilhjobnaaGreatDoor
open Go.RowKit Go.Extern.Stop Go.Stop Go.Extern
theorem run_neq_of_eql {P : Program} {t tx ty : TypeId} {x y : Value} {r : Bool} {w : World} (h : (binOp .eql t (.iface tx x) (.iface ty y)).run P w = .ok (.bool r) w) : (binOp .neq t (.iface tx x) (.iface ty y)).run P w = .ok (.bool (!r)) w:=by
 simp only [binOp] at h ⊢
 cases he : (Op.equal t (.iface tx x) (.iface ty y)).run P w <;> simp [he] at h ⊢
 exact h
theorem run_neq_of_eql0 {P : Program} {t ty : TypeId} {y : Value} {r : Bool} {w : World} (h : (binOp .eql t .nilIface (.iface ty y)).run P w = .ok (.bool r) w) : (binOp .neq t .nilIface (.iface ty y)).run P w = .ok (.bool (!r)) w:=by
 simp only [binOp] at h ⊢
 cases he : (Op.equal t .nilIface (.iface ty y)).run P w <;> simp [he] at h ⊢
 exact h
theorem call45 (v : Value) (w : World) : (callFunc 45 #[.iface 175 v]).run Tryz.prog w = .ok (Next.value (.iface 123 (.agg #[.pointer (some ⟨10,175,none⟩)]))) w:=by kernel_rfl
theorem call118 (w : World) : (callFunc 118 #[.agg #[.pointer (some ⟨10,175,none⟩)]]).run Tryz.prog w = .ok (Next.value (.bool true)) w:=by kernel_rfl
theorem isMethodComparable (v : Value) (w : World) : (Go.method 319 123 v "Comparable").run Tryz.prog w = .ok (118, v) w := by kernel_rfl
theorem noIsE (v : Value) (xT : TypeId) (w : World) : (Instr.typeAssert (.iface 175 v) xT 125 true).run Tryz.prog w = .ok (.tuple #[.nilIface,.bool false]) w:=run_typeAssert_lacksB Tryz.underlying125 (by kernel_rfl) (by kernel_rfl) v xT w
theorem noUnwrapE (v : Value) (xT : TypeId) (w : World) : (Instr.typeAssert (.iface 175 v) xT 128 true).run Tryz.prog w = .ok (.tuple #[.nilIface,.bool false]) w:=run_typeAssert_lacksB Tryz.underlying128 (by kernel_rfl) (by kernel_rfl) v xT w
theorem noUnwrapsE (v : Value) (xT : TypeId) (w : World) : (Instr.typeAssert (.iface 175 v) xT 129 true).run Tryz.prog w = .ok (.tuple #[.nilIface,.bool false]) w:=run_typeAssert_lacksB Tryz.underlying129 (by kernel_rfl) (by kernel_rfl) v xT w
theorem noIsC (v : Value) (xT : TypeId) (w : World) : (Instr.typeAssert (.iface 159 v) xT 125 true).run Tryz.prog w = .ok (.tuple #[.nilIface,.bool false]) w:=run_typeAssert_lacksB Tryz.underlying125 (by kernel_rfl) (by kernel_rfl) v xT w
theorem noUnwrapC (v : Value) (xT : TypeId) (w : World) : (Instr.typeAssert (.iface 159 v) xT 128 true).run Tryz.prog w = .ok (.tuple #[.nilIface,.bool false]) w:=run_typeAssert_lacksB Tryz.underlying128 (by kernel_rfl) (by kernel_rfl) v xT w
theorem noUnwrapsC (v : Value) (xT : TypeId) (w : World) : (Instr.typeAssert (.iface 159 v) xT 129 true).run Tryz.prog w = .ok (.tuple #[.nilIface,.bool false]) w:=run_typeAssert_lacksB Tryz.underlying129 (by kernel_rfl) (by kernel_rfl) v xT w
set_option maxRecDepth 100000 in
set_option maxHeartbeats 4000000 in
theorem is_same (a : Addr) (w : World) :
  Calls Tryz.prog 36 #[.iface 175 (.pointer (some a)),.iface 175 (.pointer (some a))] w fun e w' => e = .returned (.bool true) ∧ w = w':=by
 obtain ⟨i,hi,hcmp⟩:=Option.map_eq_some_iff.1 Tryz.comp175
 obtain ⟨j,hj,hjs⟩:=Option.map_eq_some_iff.1 Tryz.size204
 have h8:=call45
 have h32:=call118
 have mR:=isMethodComparable
 have heq:=run_eql_iface_ptr_same (P:=Tryz.prog) w a Tryz.underlying47 Tryz.underlying175 hi hcmp hj
 go_enter Tryz.func36,Tryz.ntmps36
 go_wp2
 refine wp_loop_rounds 1 ?_
 rw [rounds_succ]
 go_wp2
 go_ret
 exact ⟨rfl,rfl⟩
set_option maxRecDepth 100000 in
set_option maxHeartbeats 4000000 in
theorem is_other (a b : Addr) (ca cb : Array Value) (ta tb : TypeId) (w : World) (hne : a ≠ b) (ha : w.heap[a.block]? = some (.cells ca ta (0,0))) (hb : w.heap[b.block]? = some (.cells cb tb (0,0))) :
  Calls Tryz.prog 36 #[.iface 175 (.pointer (some a)),.iface 175 (.pointer (some b))] w fun e w' => e = .returned (.bool false) ∧ w = w':=by
 obtain ⟨i,hi,hcmp⟩:=Option.map_eq_some_iff.1 Tryz.comp175
 obtain ⟨j,hj,hjs⟩:=Option.map_eq_some_iff.1 Tryz.size204
 have h8:=call45
 have h32:=call118
 have mR:=isMethodComparable
 have nE:=noIsE
 have uE:=noUnwrapE
 have vE:=noUnwrapsE
 have heq:=run_eql_iface_ptr_other (P:=Tryz.prog) w Tryz.underlying47 Tryz.underlying175 hi hcmp hj (by rw [hjs];decide) hne ha hb
 go_enter Tryz.func36,Tryz.ntmps36
 go_wp2
 refine wp_loop_rounds 1 ?_
 rw [rounds_succ]
 go_wp2
 go_ret
 exact ⟨rfl,rfl⟩
set_option maxRecDepth 100000 in
set_option maxHeartbeats 4000000 in
theorem is_corrupt (z : Int) (b : Addr) (w : World) :
  Calls Tryz.prog 36 #[.iface 159 (.int .i64 z),.iface 175 (.pointer (some b))] w fun e w' => e = .returned (.bool false) ∧ w = w':=by
 have h8:=call45
 have h32:=call118
 have mR:=isMethodComparable
 have nE:=noIsC
 have uE:=noUnwrapC
 have vE:=noUnwrapsC
 have hty:=run_eql_iface_types (P:=Tryz.prog) 159 175 (.int .i64 z) (.pointer (some b)) Tryz.underlying47 (by decide) w
 go_enter Tryz.func36,Tryz.ntmps36
 go_wp2
 refine wp_loop_rounds 1 ?_
 rw [rounds_succ]
 go_wp2
 go_ret
 exact ⟨rfl,rfl⟩
end Go.Proofs.YthpapbilhjobnaaGreatDoor
