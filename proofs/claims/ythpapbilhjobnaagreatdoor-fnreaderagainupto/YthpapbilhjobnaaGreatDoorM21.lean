/-
  Parts of the proofs over the reader and the encoder of streams, joined: Up La. Conditions: each theorem names its own.
-/
import Derived.Test.YthpapbilhjobnaaGreatDoorM13
import Derived.Test.YthpapbilhjobnaaGreatDoorM20
import Derived.OwnWalk
import Derived.Laws.IdiomStrings
import Derived.Laws.BytesArg
set_option linter.unusedVariables false
set_option linter.unusedSimpArgs false
namespace Go.Proofs.YthpapbilhjobnaaGreatDoor
open Go.RowKit Pu
theorem nilAhead_zclose (a : Addr) (w : World) : (nilAhead 319 84 (.pointer (some a)) "Close").run Tryz.prog w = .ok (some false) w := by kernel_rfl
theorem method_zclose (a : Addr) (w : World) : (method 319 84 (.pointer (some a)) "Close").run Tryz.prog w = .ok (105, .pointer (some a)) w := by kernel_rfl
theorem ZWhy.fault {src D : List UInt8} {hA dA kA U er : Addr} (h : ZWhy src D hA dA U er) : ∃ n,FaultIs hA dA kA U (.iface 175 (.pointer (some er))) n:=by
 cases h with
 | short h => exact ⟨_,.early⟩
 | header a b s h hg => exact ⟨_,.header⟩
 | shortDict a b s h hg hf hs => exact ⟨_,.early⟩
 | dict a b c0 c1 c2 c3 s h hg hf hn => exact ⟨_,.dictionary⟩
inductive UEnd (src ext : List UInt8) (g : Blkc) (tl L : List UInt8) (q : Nat) : Nat → Nat → Prop
 | data (rest : Nat) (h : ¬ g.ok) : UEnd src ext g tl L q 4 rest
 | cut (rest : Nat) (h : ext ≠ []) : UEnd src ext g tl L q 4 rest
 | sum (rest : Nat) (t0 t1 t2 t3 : UInt8) (r : List UInt8) (h : tl = t0::t1::t2::t3::r) (hq : q + g.e = g.all.length + g.d) (hn : num4 t0 t1 t2 t3 ≠ adler L) (p : Nat) (hp : src.drop p ++ ext = r) : UEnd src ext g tl L q 3 rest
 | eof (t0 t1 t2 t3 : UInt8) (r : List UInt8) (h : tl = t0::t1::t2::t3::r) (hq : q + g.e = g.all.length + g.d) (hn : num4 t0 t1 t2 t3 = adler L) (p : Nat) (hp : src.drop p ++ ext = r) : UEnd src ext g tl L q 0 (src.length - p)
def UPost (src ext D0 : List UInt8) (hA dA kA U : Addr) (g : Blkc) (tl : List UInt8) (w0 : World) (e : Ending) (w : World) : Prop :=
 ∃ vo fault rest,e = .returned (.tuple #[vo,.int .i64 (fault : Nat),.int .i64 (rest : Nat)]) ∧ Ext (fun _ => False) w0 w ∧
  ((∃ er,ZWhy src D0 hA dA U er ∧ FaultIs hA dA kA U (.iface 175 (.pointer (some er))) fault ∧ vo = .slice none 0 0) ∨
   (∃ p D' L,ZOk src D0 p D' ∧ Rd w vo (L.map U8) ∧ (g.ok → ext = [] → L = (g.all.drop (lastOf D').length).take L.length) ∧ (lastOf D').length + L.length ≤ g.all.length + g.d ∧ UEnd src ext g tl L ((lastOf D').length + L.length) fault rest))
theorem GM_ne {A hA dA kA U : Addr} {n R : Nat} (h : ∀ k,GM A hA dA kA U k → k < n) (hR : n ≤ R) : ¬ GM A hA dA kA U R:=fun e => by have:=h _ e;omega
set_option maxRecDepth 100000 in
set_option maxHeartbeats 16000000 in
theorem unpack_any (sb so cap : Nat) (src ext : List UInt8) (A hA dA kA U : Addr) (dv : Value) (D : List UInt8) (has : Bool) (sv : Value) (szs : List Nat) (g : Blkc) (pk i : Nat) (tl : List UInt8) (w : World)
  (hsrc : ∀ j y,(src.map U8)[j]? = some y → w.cell? ⟨sb,so + j,none⟩ = some y) (hsml : src.length ≤ 1099511627776) (room : src.length ≤ cap) (hsb : sb < w.heap.size) (hG : Glo w A hA dA kA U) (hGl : ∀ k,GM A hA dA kA U k → k < w.heap.size)
  (hv : Rd w dv (D.map U8)) (hD : D.length ≤ 1099511627776) (hvs : ∀ b,dv.ownBlock = some b → b < w.heap.size) (hsz : ∀ s ∈ szs,1 ≤ s ∧ s ≤ 1000) (hsl : szs.length ≤ 1099511627776) (hs : Rd w sv (szs.map IV)) (hso : ∀ b,sv.ownBlock = some b → b < w.heap.size)
  (hstr : ∀ p D',ZOk src (if has then D else []) p D' → Str src ext p D' g pk i tl ∧ g.all.length + g.d ≤ (lastOf D').length + 1073741824) :
  Calls Tryz.prog 16 #[.slice (some ⟨sb,so,none⟩) src.length cap,dv,.bool has,sv] w (UPost src ext (if has then D else []) hA dA kA U g tl w):=by
 have HSRC:=Lib.hid hsrc;have HG:=Lib.hid hG;have HGL:=Lib.hid hGl;have HV:=Lib.hid hv;have HVS:=Lib.hid hvs;have HSZ:=Lib.hid hsz;have HS:=Lib.hid hs;have HSO:=Lib.hid hso;have HSTR:=Lib.hid hstr
 have hna:=nilAhead_zclose
 have hm:=method_zclose
 clear hsrc hG hGl hv hvs hsz hs hso hstr
 obtain ⟨R1,hR1⟩ : ∃ y,w.heap.size = y:=⟨_,rfl⟩
 obtain ⟨w1,hw1⟩ : ∃ y,w.alloc (.cells #[.slice (some ⟨sb,so,none⟩) src.length cap,.int .i64 0,.int .i64 (-1)] 80) = y:=⟨_,rfl⟩
 have he1 : Ext (fun _ => False) w w1:=by rw [← hw1];exact (Ext.refl _ w).alloc _
 have hs1 : w1.heap.size = R1 + 1:=by rw [← hw1,← hR1];simp
 have hS1 : Src w1 R1 sb so cap src 0:=⟨by rw [← hw1,← hR1];exact Blk.new w _ _,fun j y hy => he1.cellSome (fun e => e) (HSRC.out j y hy),Nat.zero_le _,hsml,by omega⟩
 have HN1:=Lib.hid (newReader_any (some ⟨sb,so,none⟩) src.length cap w)
 have HZ1:=Lib.hid (znew_none R1 sb so cap src A hA dA kA U w1 hS1 (HG.out.ext he1 (fun _ _ e => e)) (fun k hk => by have:=HGL.out k hk;omega) (by omega) (GM_ne HGL.out (by omega)) room)
 have HE1:=Lib.hid he1;have HS1:=Lib.hid hs1;have HW1:=Lib.hid hw1;have HR1:=Lib.hid hR1
 clear he1 hs1 hS1 hw1 hR1
 cases has with
 | false =>
  simp only [Bool.false_eq_true,if_false] at HSTR ⊢
  go_enter Tryz.func16,Tryz.ntmps16
  go_wp2_with fail
  refine HN1.out.mono ?_
  rintro e w1' ⟨rfl,hw1'⟩
  rw [HW1.out] at hw1'
  have hw1s:=hw1'.symm
  subst hw1s
  rw [HR1.out]
  go_wp2_with fail
  refine HZ1.out.mono ?_
  intro e w2 hp1
  cases hp1 with
  | err he hw hs hx =>
   rename_i er pe
   subst he
   obtain ⟨nf,hf⟩:=hw.fault (kA:=kA)
   have hE : Ext (fun _ => False) w w2:=HE1.out.trans' hx (fun b hb0 e => by have:=HR1.out;omega)
   have HF:=Lib.hid (fault_any A hA dA kA U w2 (HG.out.ext hE (fun _ _ e => e)) _ nf hf)
   have HL:=Lib.hid (readerLen_any _ sb so cap _ src w2 hs)
   have HEND : Hid (∀ rest w5,Ext (fun _ => False) w2 w5 → UPost src ext [] hA dA kA U g tl w (.returned (.tuple #[.slice none 0 0,.int .i64 nf,.int .i64 (rest : Nat)])) w5):=Lib.hid (fun rest w5 h5 => ⟨_,nf,rest,rfl,hE.trans h5,.inl ⟨_,hw,hf,rfl⟩⟩)
   clear hw hs hx hf hE
   go_wp2_with fail
   refine HF.out.mono ?_
   rintro e w5 ⟨rfl,rfl⟩
   go_wp2_with fail
   refine HL.out.mono ?_
   rintro e w5 ⟨rfl,he5⟩
   have HE5:=Lib.hid (HEND.out (src.length - pe) w5 he5)
   clear he5
   go_wp2_with fail
   go_ret3
   exact HE5.out
  | ok he hw hz hZ hF h1 h2 h3 h4 hx =>
   rename_i p4 Z F Bb Cb hb G c hs wr full D'
   subst he
   have hE : Ext (fun _ => False) w w2:=HE1.out.trans' hx (fun b hb0 e => by have:=HR1.out;omega)
   have hG4:=HG.out.ext hE (fun _ _ e => e)
   obtain ⟨hst,hbd⟩:=HSTR.out p4 D' hw
   have q1:=HS1.out
   have q2:=HR1.out
   have q3:=hE.size
   have za:=zap_of F R1 sb so cap hb Bb Cb Z G A hA dA kA U src ext w1.heap.size (by omega) (by omega) (fun k hk => by have:=HGL.out k hk;omega) (by omega) (GM_ne HGL.out (by omega)) room hZ hF h1 h2 h3 h4
   obtain ⟨x,hxx⟩ : ∃ y : Pl,(⟨F,R1,sb,so,cap,hb,Bb,Cb,A,U,src,ext,fun k => k = Z ∨ k = G⟩ : Pl) = y:=⟨_,rfl⟩
   rw [hxx] at za
   have xR : x.R = R1:=by rw [← hxx]
   have xsb : x.sb = sb:=by rw [← hxx]
   have xso : x.so = so:=by rw [← hxx]
   have xcap : x.cap = cap:=by rw [← hxx]
   have xsrc : x.src = src:=by rw [← hxx]
   have xext : x.ext = ext:=by rw [← hxx]
   have xA : x.A = A:=by rw [← hxx]
   have xU : x.U = U:=by rw [← hxx]
   obtain ⟨m4,hzs⟩:=ZNew.start x g w2 Z G hA dA kA za (by rw [← hxx];exact fun _ h => h) p4 c hs wr full D' (by rw [← hxx];exact hz) (by rw [xA,xU];exact hG4) pk i tl (by rw [xsrc,xext];exact hst)
   have hlow : ∀ k,ZLow x Z G hA dA kA k → k < w2.heap.size:=by
    have l1:=hz.f.dd.blk.lt
    have l2:=hz.f.dd.hblk.lt
    obtain ⟨_,l3⟩:=hz.f.bb
    obtain ⟨_,l4⟩:=hz.f.cb
    have l3:=l3.lt
    have l4:=l4.lt
    have l5:=hz.g.lt
    obtain ⟨_,_,_,_,l6⟩:=hz.z
    have l6:=l6.lt
    have l7:=hz.src.blk.lt
    have l8:=hE.size
    intro k hk
    rw [← hxx] at hk
    rcases hk with (e | e | e | e | e) | e | e | e | e
    ·rw [e];exact l1
    ·rw [e];exact l7
    ·rw [e];exact l2
    ·rw [e];exact l3
    ·rw [e];exact l4
    ·rw [e];show sb < _;omega
    ·have:=HGL.out k e;omega
    ·rw [e];exact l6
    ·rw [e];exact l5
   have hnotw : ∀ b,b < w.heap.size → ¬ (x.M b ∨ b = Z ∨ b = G):=by
    intro b hb0 hk
    have l8:=hE.size
    rw [← hxx] at hk
    rcases hk with (e | e | e | e | e) | e | e
    ·have e' : b = F:=e;omega
    ·have e' : b = R1:=e;omega
    ·have e' : b = hb:=e;omega
    ·have e' : b = Bb:=e;omega
    ·have e' : b = Cb:=e;omega
    ·omega
    ·omega
   have HZLT:=Lib.hid (hlow Z (.inr (.inr (.inr (.inl rfl)))))
   have HDR:=Lib.hid (drain_any x g w2 Z G hA dA kA za pk tl hst.Z hst.pk hst.tl _ m4 [] c hzs sv szs HSZ.out hsl (HS.out.ext hE (fun _ _ e => e)) (fun b hb0 => ⟨by have:=HSO.out b hb0;have:=hE.size;omega,hnotw b (HSO.out b hb0)⟩) hlow hbd)
   have HW:=Lib.hid hw;have HE4:=Lib.hid hE;have HNOT:=Lib.hid hnotw;have HXR:=Lib.hid xR;have HXS:=Lib.hid xsb;have HXO:=Lib.hid xso;have HXC:=Lib.hid xcap;have HXSR:=Lib.hid xsrc;have HXE:=Lib.hid xext;have HXA:=Lib.hid xA;have HXU:=Lib.hid xU
   have hZsb : Z ≠ x.sb:=za.zs
   have hZR : Z ≠ x.R:=fun e => za.zM (.inr (.inl e))
   have hFZ : x.F ≠ Z:=fun e => za.zM (.inl e.symm)
   clear hw hE hnotw hz hZ hF h1 h2 h3 h4 hx hxx xR xsb xso xcap xsrc xext xA xU hlow hzs hst hbd hG4 za q1 q2 q3
   go_wp2_with fail
   refine HDR.out.mono ?_
   rintro e w5 ⟨vo,L,v,c5,rfl,hown,hE5,hok5,hzb5,hfe5,⟨p5,hS5⟩,hgl5,hqb5,hwhy⟩
   rw [HXA.out,HXU.out] at hgl5
   have hE05 : Ext (fun _ => False) w w5:=HE4.out.trans' hE5 (fun b hb0 e => HNOT.out b hb0 e)
   have hRdo : Rd w5 vo (L.map U8):=Rd.of_owns hown
   have hok6 : g.ok → ext = [] → L = (g.all.drop (lastOf D').length).take L.length:=fun o e => hok5 o (by rw [HXE.out];exact e)
   rw [HXR.out,HXS.out,HXO.out,HXC.out,HXSR.out] at hS5
   obtain ⟨ci,hci,hcmp⟩:=Option.map_eq_some_iff.1 Tryz.comp175
   obtain ⟨cj,hcj,hcs⟩:=Option.map_eq_some_iff.1 Tryz.size204
   have hway : (∃ ty pv n,v = .iface ty pv ∧ FaultIs hA dA kA U v n ∧ (∀ rest,UEnd src ext g tl L ((lastOf D').length + L.length) n rest) ∧ (binOp .eql 47 v (.iface 175 (.pointer (some A)))).run Tryz.prog w5 = .ok (.bool false) w5) ∨
     (v = .iface 175 (.pointer (some A)) ∧ c5[1048]? = some (.iface 175 (.pointer (some A))) ∧ ∃ p6,Src w5 (R1) sb so cap src p6 ∧ UEnd src ext g tl L ((lastOf D').length + L.length) 0 (src.length - p6)):=by
    obtain ⟨cu,tu,hru⟩:=hgl5.early.row
    obtain ⟨ca,ta,hra⟩:=hgl5.eof.row
    obtain ⟨ck,tk,hrk⟩:=hgl5.sum.row
    cases hwhy with
    | data z h => exact .inl ⟨_,_,_,rfl,.data z,fun rest => .data rest h,run_eql_iface_types (P:=Tryz.prog) 159 175 (.int .i64 z) (.pointer (some A)) Tryz.underlying47 (by decide) w5⟩
    | cut h => exact .inl ⟨_,_,_,rfl,by rw [HXU.out];exact .early,fun rest => .cut rest (by rw [← HXE.out];exact h),by rw [HXU.out];exact run_eql_iface_ptr_other (P:=Tryz.prog) w5 Tryz.underlying47 Tryz.underlying175 hci hcmp hcj (by omega) hgl5.n1 hru hra⟩
    | sum t0 t1 t2 t3 r h hq hn p hp => exact .inl ⟨_,_,_,rfl,.sum,fun rest => .sum rest t0 t1 t2 t3 r h hq hn p (by rw [← HXSR.out,← HXE.out];exact hp),run_eql_iface_ptr_other (P:=Tryz.prog) w5 Tryz.underlying47 Tryz.underlying175 hci hcmp hcj (by omega) hgl5.n2.2.2 hrk hra⟩
    | eof t0 t1 t2 t3 r h hq hn he p hs hp => exact .inr ⟨by rw [HXA.out],by rw [he,HXA.out],p,by rw [← HXR.out,← HXS.out,← HXO.out,← HXC.out,← HXSR.out];exact hs,.eof t0 t1 t2 t3 r h hq hn p (by rw [← HXSR.out,← HXE.out];exact hp)⟩
   have hqb6 : (lastOf D').length + L.length ≤ g.all.length + g.d:=hqb5
   have g0:=hgl5.eof.cell
   rcases hway with ⟨ty,pv,nf,rfl,hf,hu,heq⟩ | ⟨rfl,h48,p6,hS6,hu⟩
   ·have HF:=Lib.hid (fault_any A hA dA kA U w5 hgl5 _ nf hf)
    have HL:=Lib.hid (readerLen_any _ sb so cap _ src w5 hS5)
    have HEND : Hid (∀ rest w6,Ext (fun _ => False) w5 w6 → UPost src ext [] hA dA kA U g tl w (.returned (.tuple #[vo,.int .i64 nf,.int .i64 (rest : Nat)])) w6):=Lib.hid (fun rest w6 h6 => ⟨_,nf,rest,rfl,hE05.trans h6,.inr ⟨p4,D',L,HW.out,hRdo.ext h6 (fun _ _ e => e),hok6,hqb6,hu rest⟩⟩)
    clear hown hE5 hok5 hzb5 hfe5 hS5 hgl5 hqb5 hwhy hE05 hRdo hok6 hqb6 hf hu hci hcmp hcj hcs
    go_wp2_with fail
    refine HF.out.mono ?_
    rintro e w6 ⟨rfl,rfl⟩
    go_wp2_with fail
    refine HL.out.mono ?_
    rintro e w6 ⟨rfl,he6⟩
    have HE6:=Lib.hid (HEND.out (src.length - p5) w6 he6)
    clear he6
    go_wp2_with fail
    go_ret3
    exact HE6.out
   ·have heq:=run_eql_iface_ptr_same (P:=Tryz.prog) w5 A Tryz.underlying47 Tryz.underlying175 hci hcmp hcj
    obtain ⟨s0,s1,s2,s3,hzb6⟩:=hzb5
    obtain ⟨_,_,_,_,hdd⟩:=hfe5.dd
    have HC:=Lib.hid (zclose_eof Z x.R x.F G A s0 s1 s2 s3 c5 w5 hzb6 hdd.blk hgl5.eof h48)
    have HG5:=Lib.hid hgl5
    have HOw1:=Lib.hid hown
    have HEND : Hid (∀ w6 w7,Ext (fun j => j = Z) w5 w6 → Ext (fun _ => False) w6 w7 → UPost src ext [] hA dA kA U g tl w (.returned (.tuple #[vo,.int .i64 (0 : Nat),.int .i64 ((src.length - p6 : Nat) : Int)])) w7):=Lib.hid (fun w6 w7 h6 h7 => ⟨_,0,_,rfl,(hE05.trans' h6 (fun b hb0 e => HNOT.out b hb0 (.inr (.inl e)))).trans h7,.inr ⟨p4,D',L,HW.out,(hRdo.ext h6 (fun b hb0 e => by have:=hown.lt b hb0;have:=HZLT.out;omega)).ext h7 (fun _ _ e => e),hok6,hqb6,hu⟩⟩)
    have HS6:=Lib.hid hS6
    have hzm : ∀ k,GM A hA dA kA U k → k ≠ Z:=fun k hk e => by have:=HGL.out k hk;exact HNOT.out k this (.inr (.inl e))
    have HZM:=Lib.hid hzm
    clear hown hE5 hok5 hzb6 hfe5 hS5 hgl5 hqb5 hwhy hE05 hRdo hok6 hqb6 hu hci hcmp hcj hcs hdd hS6 hzm
    go_wp2_with fail
    refine HC.out.mono ?_
    rintro e w6 ⟨rfl,he6⟩
    have HF:=Lib.hid (fault_any A hA dA kA U w6 (HG5.out.ext he6 HZM.out) .nilIface 0 .none)
    have HL:=Lib.hid (readerLen_any (R1) sb so cap p6 src w6 (HS6.out.ext he6 (by rw [← HXR.out];exact fun e => hZR e.symm) (by rw [← HXS.out];exact fun e => hZsb e.symm)))
    have HE6:=Lib.hid he6
    clear he6
    go_wp2_with fail
    refine HF.out.mono ?_
    rintro e w7 ⟨rfl,rfl⟩
    go_wp2_with fail
    refine HL.out.mono ?_
    rintro e w7 ⟨rfl,he7⟩
    have HE7:=Lib.hid (HEND.out _ w7 HE6.out he7)
    clear he7
    go_wp2_with fail
    go_ret3
    exact HE7.out
 | true =>
  simp only [if_true] at HSTR ⊢
  go_enter Tryz.func16,Tryz.ntmps16
  go_wp2_with fail
  refine HN1.out.mono ?_
  rintro e w1' ⟨rfl,hw1'⟩
  rw [HW1.out] at hw1'
  have hw1s:=hw1'.symm
  subst hw1s
  rw [HR1.out]
  go_wp2_with fail
  refine HZ1.out.mono ?_
  intro e w2 hp1
  have he1 : ∃ a b,e = .returned (.tuple #[a,b]):=by
   cases hp1 with
   | err he hw hs hx => exact ⟨_,_,he⟩
   | ok he hw hz hZ hF h1 h2 h3 h4 hx => exact ⟨_,_,he⟩
  have hx1 : Ext (fun k => k = R1) w1 w2:=by
   cases hp1 with
   | err he hw hs hx => exact hx
   | ok he hw hz hZ hF h1 h2 h3 h4 hx => exact hx
  obtain ⟨va,vb,rfl⟩:=he1
  have he2 : Ext (fun _ => False) w w2:=HE1.out.trans' hx1 (fun b hb0 e => by have:=HR1.out;omega)
  obtain ⟨R2,hR2⟩ : ∃ y,w2.heap.size = y:=⟨_,rfl⟩
  have hRle : w.heap.size ≤ R2:=by have:=he2.size;omega
  obtain ⟨w3,hw3⟩ : ∃ y,w2.alloc (.cells #[.slice (some ⟨sb,so,none⟩) src.length cap,.int .i64 0,.int .i64 (-1)] 80) = y:=⟨_,rfl⟩
  have he3 : Ext (fun _ => False) w w3:=by rw [← hw3];exact he2.alloc _
  have hs3 : w3.heap.size = R2 + 1:=by rw [← hw3,← hR2];simp
  have hS3 : Src w3 R2 sb so cap src 0:=⟨by rw [← hw3,← hR2];exact Blk.new w2 _ _,fun j y hy => he3.cellSome (fun e => e) (HSRC.out j y hy),Nat.zero_le _,hsml,by omega⟩
  have HN2:=Lib.hid (newReader_any (some ⟨sb,so,none⟩) src.length cap w2)
  have HZ2:=Lib.hid (znew_dict R2 sb so cap src A hA dA kA U dv D w3 hS3 (HG.out.ext he3 (fun _ _ e => e)) (fun k hk => by have:=HGL.out k hk;omega) (HV.out.ext he3 (fun _ _ e => e)) hD (fun b hb0 => by have:=HVS.out b hb0;omega) (by omega) (GM_ne HGL.out (by omega)) room)
  have HE3:=Lib.hid he3;have HS3:=Lib.hid hs3;have HW3:=Lib.hid hw3;have HR2:=Lib.hid hR2;have HRLE:=Lib.hid hRle
  clear hp1 hx1 he2 he3 hs3 hS3 hw3 hR2 hRle
  go_wp2_with fail
  refine HN2.out.mono ?_
  rintro e w3' ⟨rfl,hw3'⟩
  rw [HW3.out] at hw3'
  have hw3s:=hw3'.symm
  subst hw3s
  rw [HR2.out]
  go_wp2_with fail
  refine HZ2.out.mono ?_
  intro e w4 hp2
  cases hp2 with
  | err he hw hs hx =>
   rename_i er pe
   subst he
   obtain ⟨nf,hf⟩:=hw.fault (kA:=kA)
   have hE : Ext (fun _ => False) w w4:=HE3.out.trans' hx (fun b hb0 e => by have:=HRLE.out;omega)
   have HF:=Lib.hid (fault_any A hA dA kA U w4 (HG.out.ext hE (fun _ _ e => e)) _ nf hf)
   have HL:=Lib.hid (readerLen_any _ sb so cap _ src w4 hs)
   have HEND : Hid (∀ rest w5,Ext (fun _ => False) w4 w5 → UPost src ext D hA dA kA U g tl w (.returned (.tuple #[.slice none 0 0,.int .i64 nf,.int .i64 (rest : Nat)])) w5):=Lib.hid (fun rest w5 h5 => ⟨_,nf,rest,rfl,hE.trans h5,.inl ⟨_,hw,hf,rfl⟩⟩)
   clear hw hs hx hf hE
   go_wp2_with fail
   refine HF.out.mono ?_
   rintro e w5 ⟨rfl,rfl⟩
   go_wp2_with fail
   refine HL.out.mono ?_
   rintro e w5 ⟨rfl,he5⟩
   have HE5:=Lib.hid (HEND.out (src.length - pe) w5 he5)
   clear he5
   go_wp2_with fail
   go_ret3
   exact HE5.out
  | ok he hw hz hZ hF h1 h2 h3 h4 hx =>
   rename_i p4 Z F Bb Cb hb G c hs wr full D'
   subst he
   have hE : Ext (fun _ => False) w w4:=HE3.out.trans' hx (fun b hb0 e => by have:=HRLE.out;omega)
   have hG4:=HG.out.ext hE (fun _ _ e => e)
   obtain ⟨hst,hbd⟩:=HSTR.out p4 D' hw
   have q1:=HS3.out
   have q2:=HRLE.out
   have q3:=hE.size
   have za:=zap_of F R2 sb so cap hb Bb Cb Z G A hA dA kA U src ext w3.heap.size (by omega) (by omega) (fun k hk => by have:=HGL.out k hk;omega) (by omega) (GM_ne HGL.out (by omega)) room hZ hF h1 h2 h3 h4
   obtain ⟨x,hxx⟩ : ∃ y : Pl,(⟨F,R2,sb,so,cap,hb,Bb,Cb,A,U,src,ext,fun k => k = Z ∨ k = G⟩ : Pl) = y:=⟨_,rfl⟩
   rw [hxx] at za
   have xR : x.R = R2:=by rw [← hxx]
   have xsb : x.sb = sb:=by rw [← hxx]
   have xso : x.so = so:=by rw [← hxx]
   have xcap : x.cap = cap:=by rw [← hxx]
   have xsrc : x.src = src:=by rw [← hxx]
   have xext : x.ext = ext:=by rw [← hxx]
   have xA : x.A = A:=by rw [← hxx]
   have xU : x.U = U:=by rw [← hxx]
   obtain ⟨m4,hzs⟩:=ZNew.start x g w4 Z G hA dA kA za (by rw [← hxx];exact fun _ h => h) p4 c hs wr full D' (by rw [← hxx];exact hz) (by rw [xA,xU];exact hG4) pk i tl (by rw [xsrc,xext];exact hst)
   have hlow : ∀ k,ZLow x Z G hA dA kA k → k < w4.heap.size:=by
    have l1:=hz.f.dd.blk.lt
    have l2:=hz.f.dd.hblk.lt
    obtain ⟨_,l3⟩:=hz.f.bb
    obtain ⟨_,l4⟩:=hz.f.cb
    have l3:=l3.lt
    have l4:=l4.lt
    have l5:=hz.g.lt
    obtain ⟨_,_,_,_,l6⟩:=hz.z
    have l6:=l6.lt
    have l7:=hz.src.blk.lt
    have l8:=hE.size
    intro k hk
    rw [← hxx] at hk
    rcases hk with (e | e | e | e | e) | e | e | e | e
    ·rw [e];exact l1
    ·rw [e];exact l7
    ·rw [e];exact l2
    ·rw [e];exact l3
    ·rw [e];exact l4
    ·rw [e];show sb < _;omega
    ·have:=HGL.out k e;omega
    ·rw [e];exact l6
    ·rw [e];exact l5
   have hnotw : ∀ b,b < w.heap.size → ¬ (x.M b ∨ b = Z ∨ b = G):=by
    intro b hb0 hk
    have l8:=hE.size
    rw [← hxx] at hk
    rcases hk with (e | e | e | e | e) | e | e
    ·have e' : b = F:=e;omega
    ·have e' : b = R2:=e;omega
    ·have e' : b = hb:=e;omega
    ·have e' : b = Bb:=e;omega
    ·have e' : b = Cb:=e;omega
    ·omega
    ·omega
   have HZLT:=Lib.hid (hlow Z (.inr (.inr (.inr (.inl rfl)))))
   have HDR:=Lib.hid (drain_any x g w4 Z G hA dA kA za pk tl hst.Z hst.pk hst.tl _ m4 [] c hzs sv szs HSZ.out hsl (HS.out.ext hE (fun _ _ e => e)) (fun b hb0 => ⟨by have:=HSO.out b hb0;have:=hE.size;omega,hnotw b (HSO.out b hb0)⟩) hlow hbd)
   have HW:=Lib.hid hw;have HE4:=Lib.hid hE;have HNOT:=Lib.hid hnotw;have HXR:=Lib.hid xR;have HXS:=Lib.hid xsb;have HXO:=Lib.hid xso;have HXC:=Lib.hid xcap;have HXSR:=Lib.hid xsrc;have HXE:=Lib.hid xext;have HXA:=Lib.hid xA;have HXU:=Lib.hid xU
   have hZsb : Z ≠ x.sb:=za.zs
   have hZR : Z ≠ x.R:=fun e => za.zM (.inr (.inl e))
   have hFZ : x.F ≠ Z:=fun e => za.zM (.inl e.symm)
   clear hw hE hnotw hz hZ hF h1 h2 h3 h4 hx hxx xR xsb xso xcap xsrc xext xA xU hlow hzs hst hbd hG4 za q1 q2 q3
   go_wp2_with fail
   refine HDR.out.mono ?_
   rintro e w5 ⟨vo,L,v,c5,rfl,hown,hE5,hok5,hzb5,hfe5,⟨p5,hS5⟩,hgl5,hqb5,hwhy⟩
   rw [HXA.out,HXU.out] at hgl5
   have hE05 : Ext (fun _ => False) w w5:=HE4.out.trans' hE5 (fun b hb0 e => HNOT.out b hb0 e)
   have hRdo : Rd w5 vo (L.map U8):=Rd.of_owns hown
   have hok6 : g.ok → ext = [] → L = (g.all.drop (lastOf D').length).take L.length:=fun o e => hok5 o (by rw [HXE.out];exact e)
   rw [HXR.out,HXS.out,HXO.out,HXC.out,HXSR.out] at hS5
   obtain ⟨ci,hci,hcmp⟩:=Option.map_eq_some_iff.1 Tryz.comp175
   obtain ⟨cj,hcj,hcs⟩:=Option.map_eq_some_iff.1 Tryz.size204
   have hway : (∃ ty pv n,v = .iface ty pv ∧ FaultIs hA dA kA U v n ∧ (∀ rest,UEnd src ext g tl L ((lastOf D').length + L.length) n rest) ∧ (binOp .eql 47 v (.iface 175 (.pointer (some A)))).run Tryz.prog w5 = .ok (.bool false) w5) ∨
     (v = .iface 175 (.pointer (some A)) ∧ c5[1048]? = some (.iface 175 (.pointer (some A))) ∧ ∃ p6,Src w5 (R2) sb so cap src p6 ∧ UEnd src ext g tl L ((lastOf D').length + L.length) 0 (src.length - p6)):=by
    obtain ⟨cu,tu,hru⟩:=hgl5.early.row
    obtain ⟨ca,ta,hra⟩:=hgl5.eof.row
    obtain ⟨ck,tk,hrk⟩:=hgl5.sum.row
    cases hwhy with
    | data z h => exact .inl ⟨_,_,_,rfl,.data z,fun rest => .data rest h,run_eql_iface_types (P:=Tryz.prog) 159 175 (.int .i64 z) (.pointer (some A)) Tryz.underlying47 (by decide) w5⟩
    | cut h => exact .inl ⟨_,_,_,rfl,by rw [HXU.out];exact .early,fun rest => .cut rest (by rw [← HXE.out];exact h),by rw [HXU.out];exact run_eql_iface_ptr_other (P:=Tryz.prog) w5 Tryz.underlying47 Tryz.underlying175 hci hcmp hcj (by omega) hgl5.n1 hru hra⟩
    | sum t0 t1 t2 t3 r h hq hn p hp => exact .inl ⟨_,_,_,rfl,.sum,fun rest => .sum rest t0 t1 t2 t3 r h hq hn p (by rw [← HXSR.out,← HXE.out];exact hp),run_eql_iface_ptr_other (P:=Tryz.prog) w5 Tryz.underlying47 Tryz.underlying175 hci hcmp hcj (by omega) hgl5.n2.2.2 hrk hra⟩
    | eof t0 t1 t2 t3 r h hq hn he p hs hp => exact .inr ⟨by rw [HXA.out],by rw [he,HXA.out],p,by rw [← HXR.out,← HXS.out,← HXO.out,← HXC.out,← HXSR.out];exact hs,.eof t0 t1 t2 t3 r h hq hn p (by rw [← HXSR.out,← HXE.out];exact hp)⟩
   have hqb6 : (lastOf D').length + L.length ≤ g.all.length + g.d:=hqb5
   have g0:=hgl5.eof.cell
   rcases hway with ⟨ty,pv,nf,rfl,hf,hu,heq⟩ | ⟨rfl,h48,p6,hS6,hu⟩
   ·have HF:=Lib.hid (fault_any A hA dA kA U w5 hgl5 _ nf hf)
    have HL:=Lib.hid (readerLen_any _ sb so cap _ src w5 hS5)
    have HEND : Hid (∀ rest w6,Ext (fun _ => False) w5 w6 → UPost src ext D hA dA kA U g tl w (.returned (.tuple #[vo,.int .i64 nf,.int .i64 (rest : Nat)])) w6):=Lib.hid (fun rest w6 h6 => ⟨_,nf,rest,rfl,hE05.trans h6,.inr ⟨p4,D',L,HW.out,hRdo.ext h6 (fun _ _ e => e),hok6,hqb6,hu rest⟩⟩)
    clear hown hE5 hok5 hzb5 hfe5 hS5 hgl5 hqb5 hwhy hE05 hRdo hok6 hqb6 hf hu hci hcmp hcj hcs
    go_wp2_with fail
    refine HF.out.mono ?_
    rintro e w6 ⟨rfl,rfl⟩
    go_wp2_with fail
    refine HL.out.mono ?_
    rintro e w6 ⟨rfl,he6⟩
    have HE6:=Lib.hid (HEND.out (src.length - p5) w6 he6)
    clear he6
    go_wp2_with fail
    go_ret3
    exact HE6.out
   ·have heq:=run_eql_iface_ptr_same (P:=Tryz.prog) w5 A Tryz.underlying47 Tryz.underlying175 hci hcmp hcj
    obtain ⟨s0,s1,s2,s3,hzb6⟩:=hzb5
    obtain ⟨_,_,_,_,hdd⟩:=hfe5.dd
    have HC:=Lib.hid (zclose_eof Z x.R x.F G A s0 s1 s2 s3 c5 w5 hzb6 hdd.blk hgl5.eof h48)
    have HG5:=Lib.hid hgl5
    have HOw3:=Lib.hid hown
    have HEND : Hid (∀ w6 w7,Ext (fun j => j = Z) w5 w6 → Ext (fun _ => False) w6 w7 → UPost src ext D hA dA kA U g tl w (.returned (.tuple #[vo,.int .i64 (0 : Nat),.int .i64 ((src.length - p6 : Nat) : Int)])) w7):=Lib.hid (fun w6 w7 h6 h7 => ⟨_,0,_,rfl,(hE05.trans' h6 (fun b hb0 e => HNOT.out b hb0 (.inr (.inl e)))).trans h7,.inr ⟨p4,D',L,HW.out,(hRdo.ext h6 (fun b hb0 e => by have:=hown.lt b hb0;have:=HZLT.out;omega)).ext h7 (fun _ _ e => e),hok6,hqb6,hu⟩⟩)
    have HS6:=Lib.hid hS6
    have hzm : ∀ k,GM A hA dA kA U k → k ≠ Z:=fun k hk e => by have:=HGL.out k hk;exact HNOT.out k this (.inr (.inl e))
    have HZM:=Lib.hid hzm
    clear hown hE5 hok5 hzb6 hfe5 hS5 hgl5 hqb5 hwhy hE05 hRdo hok6 hqb6 hu hci hcmp hcj hcs hdd hS6 hzm
    go_wp2_with fail
    refine HC.out.mono ?_
    rintro e w6 ⟨rfl,he6⟩
    have HF:=Lib.hid (fault_any A hA dA kA U w6 (HG5.out.ext he6 HZM.out) .nilIface 0 .none)
    have HL:=Lib.hid (readerLen_any (R2) sb so cap p6 src w6 (HS6.out.ext he6 (by rw [← HXR.out];exact fun e => hZR e.symm) (by rw [← HXS.out];exact fun e => hZsb e.symm)))
    have HE6:=Lib.hid he6
    clear he6
    go_wp2_with fail
    refine HF.out.mono ?_
    rintro e w7 ⟨rfl,rfl⟩
    go_wp2_with fail
    refine HL.out.mono ?_
    rintro e w7 ⟨rfl,he7⟩
    have HE7:=Lib.hid (HEND.out _ w7 HE6.out he7)
    clear he7
    go_wp2_with fail
    go_ret3
    exact HE7.out
end Go.Proofs.YthpapbilhjobnaaGreatDoor
namespace Go.Proofs.YthpapbilhjobnaaGreatDoor
open Go.RowKit Pu
theorem rd_string {w : World} {v : Value} {l : List UInt8} (h : Rd w v (l.map U8)) : (convert 22 9 v).run Tryz.prog w = .ok (.string ⟨l.toArray⟩) w:=by
 obtain ⟨cap,h1,h2,h3⟩:=h
 rcases h3 with ⟨rfl,h3⟩ | ⟨b,o,rfl,h3⟩
 ·have : l = []:=by simpa using h3
  subst this
  exact run_convert_bytes_nil (P:=Tryz.prog) w 22 5 Tryz.underlying22 Tryz.underlying5 0 0 9 Tryz.underlying9
 ·rw [List.length_map]
  refine run_convert_bytes_back (P:=Tryz.prog) w 22 9 5 ⟨b,o,none⟩ cap l Tryz.underlying22 Tryz.underlying5 Tryz.underlying9 (fun j hj => ?_)
  have:=h3 j (U8 l[j]) (by rw [List.getElem?_map,List.getElem?_eq_getElem hj];rfl)
  by_cases hj0 : j = 0
  ·subst hj0;simpa [Addr.add,U8] using this
  ·simpa [Addr.add,hj0,U8] using this
theorem same_any (a b : Value) (l : List UInt8) (w : World) (ha : Rd w a (l.map U8)) (hb : Rd w b (l.map U8)) :
  Calls Tryz.prog 14 #[a,b] w fun e w' => e = .returned (.bool true) ∧ w = w':=by
 have h1:=rd_string ha
 have h2:=rd_string hb
 generalize (⟨l.toArray⟩ : ByteArray) = s at h1 h2
 clear ha hb
 go_enter Tryz.func14,Tryz.ntmps14
 go_wp2_with fail
 go_ret
 exact ⟨rfl,rfl⟩
set_option maxRecDepth 100000 in
set_option maxHeartbeats 4000000 in
theorem reads_any (sb so n cap : Nat) (dv wv : Value) (has : Bool) (l : List UInt8) (w : World) (hn : 0 < n) (hw : Rd w wv (l.map U8))
  (hU : Calls Tryz.prog 16 #[.slice (some ⟨sb,so,none⟩) n cap,dv,.bool has,.slice none 0 0] w fun e w' => ∃ vo,e = .returned (.tuple #[vo,.int .i64 0,.int .i64 0]) ∧ Rd w' vo (l.map U8) ∧ Ext (fun _ => False) w w') :
  Calls Tryz.prog 15 #[.slice (some ⟨sb,so,none⟩) n cap,dv,.bool has,wv] w fun e w' => e = .returned (.bool true) ∧ Ext (fun _ => False) w w':=by
 have HU:=Lib.hid hU;have HW:=Lib.hid hw
 have hni : (0 : Int) < (n : Int):=by omega
 clear hU hw
 go_enter Tryz.func15,Tryz.ntmps15
 go_wp2_with fail
 refine HU.out.mono ?_
 rintro e w1 ⟨vo,rfl,hr,he⟩
 have HS:=Lib.hid (same_any vo wv l w1 hr (HW.out.ext he (fun _ _ e => e)))
 have HE:=Lib.hid he
 clear hr he
 go_wp2_with fail
 refine HS.out.mono ?_
 rintro e w2 ⟨rfl,rfl⟩
 go_wp2_with fail
 go_ret
 exact ⟨rfl,HE.out⟩
def sizeOf1 (z : Int) : Nat:=(z % 1000).toNat + 1
theorem size_words (z : Int) : wrap64 (z.tmod 1000 + 1000) = z.tmod 1000 + 1000 ∧ (z.tmod 1000 + 1000).tmod 1000 = ((z % 1000).toNat : Int) ∧ (z % 1000).toNat ≤ 999:=by
 have h1:=Int.tmod_lt_of_pos z (show (0 : Int) < 1000 by omega)
 have h2 : -1000 < z.tmod 1000:=Int.lt_tmod_of_pos z (by omega)
 have h3:=Int.mul_tdiv_add_tmod z 1000
 refine ⟨IntWalk.wrap64_in _ ⟨by omega,by omega⟩,?_,by omega⟩
 rw [Int.tmod_eq_emod_of_nonneg (by omega)]
 generalize z.tdiv 1000 = q at h3
 omega
set_option maxRecDepth 100000 in
set_option maxHeartbeats 4000000 in
theorem sizes_any (v : Value) (zs : List Int) (w : World) (hz : zs.length ≤ 1099511627776) (hv : Rd w v (zs.map (.int .i64))) :
  Calls Tryz.prog 19 #[v] w fun e w' => ∃ vo,e = .returned vo ∧ w'.ownsRow w.heap.size 3 1 vo zs.length ((zs.map sizeOf1).map IV) ∧ Ext (fun _ => False) w w':=by
 obtain ⟨i0,hi,hz0,hz1,hz2⟩:=info_parts Tryz.info3
 obtain ⟨sa,scap,hsv⟩:=hv.len
 rw [List.length_map] at hsv
 obtain ⟨sn,hsn⟩ : ∃ n,zs.length = n:=⟨_,rfl⟩
 rw [hsn] at hsv hz ⊢
 subst hsv
 have HV:=Lib.hid hv;have HSN:=Lib.hid hsn
 clear hv hsn
 go_enter Tryz.func19,Tryz.ntmps19
 go_wp2_with fail
 go_loopg [3,8] sn (fun k s3 s8 wx => ∃ j : Nat,j ≤ sn ∧ s8 = .int .i64 j ∧ wx.ownsRow w.heap.size 3 1 s3 j (((zs.take j).map sizeOf1).map IV) ∧ Ext (fun _ => False) w wx ∧ k = sn - j)
 case atStart => exact ⟨0,by omega,rfl,World.ownsRow_nil _ _ _ _,Ext.refl _ _,by omega⟩
 case round =>
  obtain ⟨j,hj,rfl,hown,hext,hk⟩:=hrel
  obtain ⟨wo,rfl⟩ : ∃ wo : World,wo = wr:=⟨_,rfl⟩
  have H1:=Lib.hid hown;have H2:=Lib.hid hext;have HK:=Lib.hid hk
  clear hown hext hk
  rcases Nat.lt_or_ge j sn with hlt | hge
  ·have hjl : j < zs.length:=by rw [HSN.out];exact hlt
   obtain ⟨z,hzz⟩ : ∃ z,zs[j] = z:=⟨_,rfl⟩
   obtain ⟨b,o,rfl,hcell⟩ : ∃ b o,sa = some ⟨b,o,none⟩ ∧ wo.cell? ⟨b,o + j,none⟩ = some (.int .i64 z):=by
    obtain ⟨cap',_,_,hr⟩:=HV.out.ext H2.out (fun _ _ e => e)
    rcases hr with ⟨_,hr⟩ | ⟨b,o,hr,hc⟩
    ·have:=congrArg List.length hr
     rw [List.length_map,List.length_nil] at this
     omega
    ·injection hr with hr _ _
     exact ⟨b,o,hr,hc _ _ (by rw [List.getElem?_map,List.getElem?_eq_getElem hjl,hzz];rfl)⟩
   have hjn : (j : Int) < (sn : Int):=by omega
   have HZ:=Lib.hid hzz
   clear hzz
   obtain ⟨t1,t2,t3⟩:=size_words z
   obtain ⟨r,hr⟩ : ∃ r,(z % 1000).toNat = r:=⟨_,rfl⟩
   rw [hr] at t2 t3
   have HR:=Lib.hid hr
   have ht3 : (r : Int) ≤ 999:=by omega
   have hsz:=H2.out.size
   have hm : j + 1 ≤ maxLen:=by simp only [maxLen];omega
   clear hr
   go_wp2_with (at_builtin;refine wpList_append_own _ rfl _ _ 23 rfl w.heap.size 3 i0 (.int .i64 0) 1 8 Tryz.underlying23 hi hz0 hz1 hz2 rfl (by decide) _ _ _ rfl (H1.out.alloc _) ⟨wo.heap.size,0,none⟩ 1 1 [.int .i64 ((r : Int) + 1)] rfl rfl (cell_one_new _ _ _) (by simp [Value.oneCell']) hm (by omega) (by simp;omega) ?_;intro v' w1 ho hg _)
   have HE:=Lib.hid ((H2.out.alloc _).grown hg (fun k hk hlt => by have:=H1.out.lt k hk;omega))
   have ho2 : w1.ownsRow w.heap.size 3 1 v' (j + 1) (((zs.take (j + 1)).map sizeOf1).map IV):=by
    have e : ((zs.take (j + 1)).map sizeOf1).map IV = ((zs.take j).map sizeOf1).map IV ++ [.int .i64 ((r : Int) + 1)]:=by
     rw [List.take_succ_eq_append_getElem hjl,List.map_append,List.map_append]
     congr 1
     simp only [List.map_cons,List.map_nil,IV,sizeOf1]
     rw [HZ.out,HR.out]
     simp
    rw [e];exact ho
   have HO:=Lib.hid ho2
   clear ho hg ho2
   go_wp2_with fail
   go_roundg (sn - (j + 1))
   case measure => have:=HK.out;omega
   case rel => exact ⟨j + 1,by omega,by go_num,HO.out,HE.out,rfl⟩
  ·obtain rfl : j = sn:=by omega
   have HO : Hid (wo.ownsRow w.heap.size 3 1 u3 j ((zs.map sizeOf1).map IV)):=by
    have:=H1.out
    rw [List.take_of_length_le (by have:=HSN.out;omega)] at this
    exact Lib.hid this
   clear hge
   go_wp2_with fail
   go_ret
   exact ⟨_,rfl,HO.out,H2.out⟩
end Go.Proofs.YthpapbilhjobnaaGreatDoor
