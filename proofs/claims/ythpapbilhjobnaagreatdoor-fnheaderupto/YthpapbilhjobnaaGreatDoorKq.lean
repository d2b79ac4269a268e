/-
  The law FnHeader of the streams of zlib, where what it reads is of bulk at most 1048576: the walk of its code over the proved contracts of reader and encoder, its row and its card. Conditions: the row's own; what the package-level variables hold is tied to the program's text.
-/
import Derived.Test.YthpapbilhjobnaaGreatDoorM22
import Derived.Test.YthpapbilhjobnaaGreatDoorM23
set_option linter.unusedVariables false
set_option linter.unusedSimpArgs false
namespace Go.Proofs.YthpapbilhjobnaaGreatDoor
open Go.RowKit Pu
def True1 (w : World) (e : Ending) (w' : World) : Prop:=e = .returned (.bool true) ∧ Ext (fun _ => False) w w'
theorem reads_made {has : Bool} {dict data : List UInt8} {a b : Nat} {X : List Bool} {bs : List UInt8} {g cap : Nat} {w w1 : World} (h : Made w has dict data a b X bs g cap w1) (w2 : World) (he : Ext (fun _ => False) w1 w2)
  (A hA dA kA U : Addr) (hG : Given w2 A hA dA kA U) (dv : Value) (D : List UInt8) (hasU : Bool) (hv : Arg w2 dv D) (hD : D.length ≤ 1099511627776) (hDd : has = true → hasU = true ∧ D = dict) (wv : Value) (hw : Arg w2 wv data) (hd : data.length ≤ 2097152) (n : Nat) (hn : (streamOf a b has dict data bs).length = n) :
  Calls Tryz.prog 15 #[.slice (some ⟨g,0,none⟩) n cap,dv,.bool hasU,wv] w2 (True1 w2):=by
 have hl:=stream_len a b has dict data bs
 refine reads_any g 0 n cap dv wv hasU data w2 (by rw [← hn,hl];split <;> omega) hw.rd ?_
 rw [← hn]
 exact (unpack_all h.enc _ [] (by rw [List.append_nil]) g 0 cap w2 (h.held.1.ext he (fun e => e)) A hA dA kA U hG dv D hasU hv hD hDd (.slice none 0 0) [] (by simp) (by simp) (Rd.nil w2) (fun b hb => by cases hb) hd).mono (fun e w' ⟨vo,h1,h2,h3⟩ => ⟨vo,h1,h2,h3⟩)
set_option maxRecDepth 100000 in
set_option maxHeartbeats 4000000 in
theorem fnRead_core (dv fv wv : Value) (has : Bool) (win lvl : Int) (data dict : List UInt8) (zs : List Int) (w : World) (A hA dA kA U : Addr) (hG : Given w A hA dA kA U) (hd : Arg w dv data) (hf : Arg w fv dict) (hw : Num w wv zs) (hsz : data.length + dict.length ≤ 2097152) :
  Calls Tryz.prog 9 #[dv,fv,.bool has,.int .i64 win,.int .i64 lvl,wv] w (True1 w):=by
 have HZ:=Lib.hid (zlib_any dv fv wv has win lvl data dict zs w hd.rd hf.rd hw.rd hw.len hsz hw.low)
 have HG:=Lib.hid hG;have HD:=Lib.hid hd;have HF:=Lib.hid hf;have HSZ:=Lib.hid hsz
 clear hG hd hf hw hsz
 go_enter Tryz.func9,Tryz.ntmps9
 go_wp2_with fail
 refine HZ.out.mono ?_
 intro e w1 hp
 obtain ⟨a,b,X,bs,g,cap,rfl,hM⟩:=hp.made
 obtain ⟨n,hn⟩ : ∃ n,(streamOf a b has dict data bs).length = n:=⟨_,rfl⟩
 rw [hn]
 have HR:=Lib.hid (reads_made hM w1 (Ext.refl _ _) A hA dA kA U (HG.out.ext hM.ext) fv dict has (HF.out.ext hM.ext) (by have:=HSZ.out;omega) (fun h => ⟨h,rfl⟩) dv (HD.out.ext hM.ext) (by have:=HSZ.out;omega) n hn)
 have HE:=Lib.hid hM.ext
 clear hp hM hn
 go_wp2_with fail
 refine HR.out.mono ?_
 rintro e w2 ⟨rfl,he⟩
 have HE2:=Lib.hid (HE.out.trans he)
 clear he
 go_wp2_with fail
 go_ret
 exact ⟨rfl,HE2.out⟩
set_option maxRecDepth 100000 in
set_option maxHeartbeats 4000000 in
theorem fnIgnored_core (dv fv wv : Value) (data dict : List UInt8) (zs : List Int) (w : World) (A hA dA kA U : Addr) (hG : Given w A hA dA kA U) (hd : Arg w dv data) (hf : Arg w fv dict) (hw : Num w wv zs) (hsz : data.length + dict.length ≤ 2097152) :
  Calls Tryz.prog 7 #[dv,fv,wv] w (True1 w):=by
 have HZ:=Lib.hid (zlib_any dv (.slice none 0 0) wv false 7 1 data [] zs w hd.rd (Rd.nil w) hw.rd hw.len (by simp;omega) hw.low)
 have HG:=Lib.hid hG;have HD:=Lib.hid hd;have HF:=Lib.hid hf;have HSZ:=Lib.hid hsz
 clear hG hd hf hw hsz
 go_enter Tryz.func7,Tryz.ntmps7
 go_wp2_with fail
 refine HZ.out.mono ?_
 intro e w1 hp
 obtain ⟨a,b,X,bs,g,cap,rfl,hM⟩:=hp.made
 obtain ⟨n,hn⟩ : ∃ n,(streamOf a b false [] data bs).length = n:=⟨_,rfl⟩
 rw [hn]
 have HR:=Lib.hid (reads_made hM w1 (Ext.refl _ _) A hA dA kA U (HG.out.ext hM.ext) fv dict true (HF.out.ext hM.ext) (by have:=HSZ.out;omega) (fun h => by cases h) dv (HD.out.ext hM.ext) (by have:=HSZ.out;omega) n hn)
 have HE:=Lib.hid hM.ext
 clear hp hM hn
 go_wp2_with fail
 refine HR.out.mono ?_
 rintro e w2 ⟨rfl,he⟩
 have HE2:=Lib.hid (HE.out.trans he)
 clear he
 go_wp2_with fail
 go_ret
 exact ⟨rfl,HE2.out⟩
end Go.Proofs.YthpapbilhjobnaaGreatDoor
namespace Go.Proofs.YthpapbilhjobnaaGreatDoor
open Go.RowKit Pu
theorem FaultIs.early_four {hA dA kA U : Addr} {n : Nat} (h : FaultIs hA dA kA U (.iface 175 (.pointer (some U))) n) (h1 : hA ≠ U) (h2 : dA ≠ U) (h3 : kA ≠ U) : n = 4:=by
 generalize hv : Value.iface 175 (.pointer (some U)) = v at h
 cases h with
 | none => cases hv
 | header => simp only [Value.iface.injEq,Value.pointer.injEq,Option.some.injEq,true_and] at hv;exact absurd hv.symm h1
 | dictionary => simp only [Value.iface.injEq,Value.pointer.injEq,Option.some.injEq,true_and] at hv;exact absurd hv.symm h2
 | sum => simp only [Value.iface.injEq,Value.pointer.injEq,Option.some.injEq,true_and] at hv;exact absurd hv.symm h3
 | early => rfl
 | data z => simp at hv
theorem Enc.cut {dict data : List UInt8} {a b : Nat} {X : List Bool} {bs : List UInt8} (h : Enc false dict data a b X bs) (src ext : List UInt8) (hs : src ++ ext = streamOf a b false dict data bs) (hx : ext ≠ [])
  {A hA dA kA U : Addr} {w0 w w' : World} (hG : Glo w0 A hA dA kA U) {e : Ending} {g : Blkc} (hU : UPost src ext [] hA dA kA U g (fourB (adler data)) w e w') :
  ∃ (vo : Value) (z : Nat),e = .returned (.tuple #[vo,.int .i64 4,.int .i64 z]) ∧ Ext (fun _ => False) w w':=by
 obtain ⟨hg,hf⟩:=head_good h.head
 obtain ⟨vo,fault,rs,he,hE,hU⟩:=hU
 have key : fault = 4:=by
  rcases hU with ⟨er,hw,hfa,_⟩ | ⟨p,D',L,hz,hr,hok,hle,hend⟩
  ·cases hw with
   | short hl => exact hfa.early_four hG.n4.1 hG.n4.2.1 hG.n4.2.2
   | header x y s hxx hgx =>
    rw [hxx,stream_false] at hs
    simp only [List.cons_append,List.cons.injEq] at hs
    rw [hs.1,hs.2.1] at hgx
    exact absurd hg hgx
   | shortDict x y s hxx hgx hfx hl => exact hfa.early_four hG.n4.1 hG.n4.2.1 hG.n4.2.2
   | dict x y c0 c1 c2 c3 s hxx hgx hfx hn =>
    rw [hxx,stream_false] at hs
    simp only [List.cons_append,List.cons.injEq] at hs
    rw [hs.2.1] at hfx
    have:=hf.1 hfx
    cases this
  ·cases hend with
   | data rest hn => rfl
   | cut rest hn => rfl
   | sum rest t0 t1 t2 t3 r hh hqq hn p' hp =>
    exfalso
    have : r = []:=by
     have:=congrArg List.length hh
     simp [fourB] at this
     exact this
    rw [this] at hp
    exact hx (List.append_eq_nil_iff.1 hp).2
   | eof t0 t1 t2 t3 r hh hqq hn p' hp =>
    exfalso
    have : r = []:=by
     have:=congrArg List.length hh
     simp [fourB] at this
     exact this
    rw [this] at hp
    exact hx (List.append_eq_nil_iff.1 hp).2
 subst key
 exact ⟨vo,rs,he,hE⟩
set_option maxRecDepth 100000 in
set_option maxHeartbeats 8000000 in
theorem fnCut_core (dv wv : Value) (x : Int) (data : List UInt8) (zs : List Int) (w : World) (A hA dA kA U : Addr) (hG : Given w A hA dA kA U) (hd : Arg w dv data) (hw : Num w wv zs) (hwf : (Lit.int .i64 x).wf = true) (hsz : data.length ≤ 2097152) :
  Calls Tryz.prog 5 #[dv,.int .i64 x,wv] w (True1 w):=by
 have HZ:=Lib.hid (zlib_any dv (.slice none 0 0) wv false 7 1 data [] zs w hd.rd (Rd.nil w) hw.rd hw.len (by simp;omega) hw.low)
 have HG:=Lib.hid hG;have HD:=Lib.hid hd;have HSZ:=Lib.hid hsz
 clear hG hd hw hsz
 go_enter Tryz.func5,Tryz.ntmps5
 go_wp2_with fail
 refine HZ.out.mono ?_
 intro e w1 hp
 obtain ⟨a,b,X,bs,g,cap,rfl,hM⟩:=hp.made
 obtain ⟨n,hn⟩ : ∃ n,(streamOf a b false [] data bs).length = n:=⟨_,rfl⟩
 have hn0 : 0 < n:=by rw [← hn,stream_len];split <;> omega
 have hnb : n ≤ 1099511627776:=by rw [← hn];exact hM.held.1.small
 obtain ⟨hk0,hk1⟩:=tmod_in x (n : Int) (by omega) (by omega)
 obtain ⟨k,hk⟩:=Int.eq_ofNat_of_zero_le hk0
 rw [hk] at hk1
 have hkn : k < n:=by omega
 have hu:=unpack_enc hM.enc ((streamOf a b false [] data bs).take k) ((streamOf a b false [] data bs).drop k) (fourB (adler data)) (by simp [fourB]) (by rw [List.take_append_drop];exact stream_split a b false [] data bs) g 0 cap w1
  ⟨fun j y hy => hM.held.1.cells j y (by
    rw [List.getElem?_map,List.getElem?_take] at hy
    split at hy
    ·rw [List.getElem?_map];exact hy
    ·cases hy),by rw [List.length_take];omega,by rw [List.length_take];have:=hM.held.1.room;omega,hM.held.1.lt⟩
  A hA dA kA U (HG.out.ext hM.ext) (.slice none 0 0) [] false (Arg.nil w1) (by simp) (.slice none 0 0) [] (by simp) (by simp) (Rd.nil w1) (fun b hb => by cases hb) HSZ.out
 have hu2:=hu.mono (fun e w' h => hM.enc.cut _ _ (List.take_append_drop k _) (by
  intro e2
  have:=congrArg List.length e2
  rw [List.length_drop,hn] at this
  simp at this
  omega) (HG.out.ext hM.ext).glo h)
 rw [List.length_take,hn,Nat.min_eq_left (by omega)] at hu2
 have HU:=Lib.hid hu2
 rw [hn]
 have HM:=Lib.hid hM;have HN:=Lib.hid hn
 have hni : ¬ (n : Int) = 0:=by omega
 have hncap : n ≤ cap:=by rw [← hn];exact hM.held.1.room
 have hkc : k ≤ cap:=by omega
 have hkci : (k : Int) ≤ (cap : Int):=by omega
 clear hp hM hn hu hu2 hk0
 go_wp2_with fail
 refine HU.out.mono ?_
 rintro e w2 ⟨vo,z,rfl,he2⟩
 have hE2:=HM.out.ext.trans he2
 have HR:=Lib.hid (reads_made HM.out w2 he2 A hA dA kA U (HG.out.ext hE2) (.slice none 0 0) [] false (Arg.nil w2) (by simp) (fun h => by cases h) dv (HD.out.ext hE2) HSZ.out n HN.out)
 have HE2:=Lib.hid hE2
 clear he2 hE2
 go_wp2_with fail
 refine HR.out.mono ?_
 rintro e w3 ⟨rfl,he3⟩
 have HE3:=Lib.hid (HE2.out.trans he3)
 clear he3
 go_wp2_with fail
 go_ret
 exact ⟨rfl,HE3.out⟩
end Go.Proofs.YthpapbilhjobnaaGreatDoor
namespace Go.Proofs.YthpapbilhjobnaaGreatDoor
open Go.RowKit Pu
theorem not_0001 {all : List UInt8} {f : Nat} {X Y : List Bool} {s : List UInt8} (h : Whole all f X) (he : bitsOf (0::0::0::1::s) = X ++ Y) : False:=by
 have ha:=h.ahead
 obtain ⟨fin,B,X',i,j,rfl,hb⟩ : ∃ fin B X' i j,X = fin::(B ++ X') ∧ IsBlock all (0 + 1) i j B:=by
  cases ha with
  | last hb => exact ⟨true,_,[],_,_,by rw [List.append_nil],hb⟩
  | more hb h => exact ⟨false,_,_,_,_,rfl,hb⟩
 have e1 : bitsOf (0::0::0::1::s) = false::false::false::(List.replicate 5 false ++ (List.replicate 16 false ++ (true::false::(List.replicate 6 false ++ bitsOf s)))):=by
  have : bitsOf (0::0::0::1::s) = bitsOf [0,0,0,1] ++ bitsOf s:=by rw [← bitsOf_append];rfl
  rw [this]
  have e : bitsOf [0,0,0,1] = false::false::false::(List.replicate 5 false ++ (List.replicate 16 false ++ (true::false::List.replicate 6 false))):=by decide +kernel
  rw [e]
  simp only [List.cons_append,List.append_assoc]
 rw [e1] at he
 clear e1
 cases hb with
 | stored k hk hpos hij hj hn =>
  obtain rfl : k = 5:=by omega
  have e2 : lsb 0 2 = [false,false]:=rfl
  rw [e2] at he
  simp only [List.cons_append,List.append_assoc,List.nil_append,List.cons.injEq] at he
  obtain ⟨_,_,_,he⟩:=he
  have he:=List.append_cancel_left he
  have h16:=List.append_inj he (by simp)
  have hz : (j - i) % 2 ^ 16 = 0:=by
   have:=congrArg val h16.1
   rw [val_lsb] at this
   rw [← this]
   decide
  have hn0 : j - i = 0:=by omega
  rw [hn0] at h16
  have e3 : lsb (65535 - 0) 16 = true::true::List.replicate 14 true:=by decide
  have h2:=h16.2
  rw [e3] at h2
  simp at h2
 | fixed toks hfit =>
  have e2 : lsb 1 2 = [true,false]:=rfl
  rw [e2] at he
  simp at he
 | own toks lit dist lens nc rs hfit hh hc =>
  have e2 : lsb 2 2 = [false,true]:=rfl
  rw [e2] at he
  simp at he
theorem num4_one {a b c d : UInt8} (h : num4 a b c d = 1) : a = 0 ∧ b = 0 ∧ c = 0 ∧ d = 1:=by
 unfold num4 at h
 have h1 : a.toNat = 0:=by omega
 have h2 : b.toNat = 0:=by omega
 have h3 : c.toNat = 0:=by omega
 have h4 : d.toNat = 1:=by omega
 exact ⟨UInt8.toNat_inj.1 h1,UInt8.toNat_inj.1 h2,UInt8.toNat_inj.1 h3,UInt8.toNat_inj.1 h4⟩
theorem FaultIs.header_one {hA dA kA U : Addr} {n : Nat} (h : FaultIs hA dA kA U (.iface 175 (.pointer (some hA))) n) (h1 : hA ≠ dA) (h2 : hA ≠ kA) (h3 : hA ≠ U) : n = 1:=by
 generalize hv : Value.iface 175 (.pointer (some hA)) = v at h
 cases h with
 | none => cases hv
 | header => rfl
 | dictionary => simp only [Value.iface.injEq,Value.pointer.injEq,Option.some.injEq,true_and] at hv;exact absurd hv h1
 | sum => simp only [Value.iface.injEq,Value.pointer.injEq,Option.some.injEq,true_and] at hv;exact absurd hv h2
 | early => simp only [Value.iface.injEq,Value.pointer.injEq,Option.some.injEq,true_and] at hv;exact absurd hv h3
 | data z => simp at hv
theorem FaultIs.dict_two' {hA dA kA U : Addr} {n : Nat} (h : FaultIs hA dA kA U (.iface 175 (.pointer (some dA))) n) (h1 : hA ≠ dA) : n ≠ 1:=by
 generalize hv : Value.iface 175 (.pointer (some dA)) = v at h
 cases h with
 | none => cases hv
 | header => simp only [Value.iface.injEq,Value.pointer.injEq,Option.some.injEq,true_and] at hv;exact absurd hv.symm h1
 | dictionary => decide
 | sum => decide
 | early => decide
 | data z => simp at hv
theorem zgood_hdr (a b : Nat) (ha : a < 256) (hb : b < 256) : zgood (UInt8.ofNat a) (UInt8.ofNat b) ↔ hdrB a b = true:=by
 have ea : (UInt8.ofNat a).toNat = a:=by simp;omega
 have eb : (UInt8.ofNat b).toNat = b:=by simp;omega
 unfold zgood hdrB
 rw [ea,eb]
 simp only [Bool.and_eq_true,beq_iff_eq,decide_eq_true_eq,and_assoc]
 rw [Nat.mul_comm 256 a]
theorem fdict_bit (b : Nat) (hb : b < 256) : fdict (UInt8.ofNat b) ↔ b / 32 % 2 = 1:=by
 have eb : (UInt8.ofNat b).toNat = b:=by simp;omega
 unfold fdict
 rw [eb]
theorem head2_of {a b : Nat} (ha : a < 256) (hb : b < 256) (h : hdrB a b = true) (hf : ¬ b / 32 % 2 = 1) : Head2 a b false:=by
 have h':=h
 unfold hdrB at h'
 simp only [Bool.and_eq_true,beq_iff_eq,decide_eq_true_eq] at h'
 exact ⟨h,ha,hb,by simp;omega,h'.1.1,h'.1.2⟩
theorem Enc.hstr {data : List UInt8} {a b a0 b0 : Nat} {X : List Bool} {bs : List UInt8} (h : Enc false [] data a b X bs) (ha : a0 < 256) (hb : b0 < 256) (p : Nat) (D' : List UInt8) (hz : ZOk (streamOf a0 b0 false [] data bs) [] p D') :
  Enc false [] data a0 b0 X bs ∧ Str (streamOf a0 b0 false [] data bs) [] p D' (gOf false [] data [] (pkOf bs X) (fourB (adler data))) (pkOf bs X) (dictOf false []).length (fourB (adler data)) ∧ D' = []:=by
 cases hz with
 | bare x y s hx hg hf =>
  rw [stream_false] at hx
  simp only [List.cons.injEq] at hx
  rw [← hx.1,← hx.2.1] at hg
  rw [← hx.2.1] at hf
  have hE : Enc false [] data a0 b0 X bs:=⟨head2_of ha hb ((zgood_hdr a0 b0 ha hb).1 hg) (fun e => hf ((fdict_bit b0 hb).2 e)),h.whole,h.packed⟩
  obtain ⟨h1,h2,_⟩:=hE.str (streamOf a0 b0 false [] data bs) [] (fourB (adler data)) [] (by rw [List.append_nil];exact stream_split a0 b0 false [] data bs) (by simp [fourB]) 2 [] (.bare x y s (by rw [stream_false];simp only [List.cons.injEq];exact hx) (by rw [← hx.1,← hx.2.1];exact hg) (by rw [← hx.2.1];exact hf))
  exact ⟨hE,h2,rfl⟩
 | dict x y c0 c1 c2 c3 s hx hg hf hn =>
  exfalso
  rw [adler_nil_eq] at hn
  obtain ⟨rfl,rfl,rfl,rfl⟩:=num4_one hn
  rw [stream_false] at hx
  simp only [List.cons.injEq] at hx
  have hb4 : bitsOf (0::0::0::1::s) = X ++ (List.replicate (8 * bs.length - X.length) false ++ bitsOf (fourB (adler data))):=by
   rw [← hx.2.2,bitsOf_append,h.packed.2.2,List.append_assoc]
  exact not_0001 h.whole hb4
theorem Enc.hend {data : List UInt8} {a b a0 b0 : Nat} {X : List Bool} {bs : List UInt8} (h : Enc false [] data a b X bs) (ha : a0 < 256) (hb : b0 < 256) {A hA dA kA U : Addr} {w0 w w' : World} (hG : Glo w0 A hA dA kA U) {e : Ending}
  (hU : UPost (streamOf a0 b0 false [] data bs) [] [] hA dA kA U (gOf false [] data [] (pkOf bs X) (fourB (adler data))) (fourB (adler data)) w e w') :
  ∃ (vo : Value) (f z : Nat),e = .returned (.tuple #[vo,.int .i64 f,.int .i64 z]) ∧ Ext (fun _ => False) w w' ∧ (hdrB a0 b0 = false → f = 1) ∧ (hdrB a0 b0 = true → b0 / 32 % 2 ≠ 1 → f = 0 ∧ Rd w' vo (data.map U8)) ∧ (hdrB a0 b0 = true → b0 / 32 % 2 = 1 → f ≠ 1):=by
 have hU0:=hU
 obtain ⟨vo,fault,rs,he,hE,hU⟩:=hU
 have hl:=stream_len a0 b0 false [] data bs
 simp only [Bool.false_eq_true,if_false] at hl
 have hgz:=zgood_hdr a0 b0 ha hb
 have hfz:=fdict_bit b0 hb
 refine ⟨vo,fault,rs,he,hE,fun hn => ?_,fun hg hf => ?_,fun hg hf => ?_⟩
 ·have hng : ¬ zgood (UInt8.ofNat a0) (UInt8.ofNat b0):=fun e => by rw [hgz.1 e] at hn;cases hn
  rcases hU with ⟨er,hw,hfa,_⟩ | ⟨p,D',L,hz,_⟩
  ·cases hw with
   | short hl2 => omega
   | header x y s hxx hgx => exact hfa.header_one hG.n3.1 hG.n3.2.1 hG.n4.1
   | shortDict x y s hxx hgx hfx hl2 =>
    rw [stream_false] at hxx
    simp only [List.cons.injEq] at hxx
    rw [← hxx.1,← hxx.2.1] at hgx
    exact absurd hgx hng
   | dict x y c0 c1 c2 c3 s hxx hgx hfx hn2 =>
    rw [stream_false] at hxx
    simp only [List.cons.injEq] at hxx
    rw [← hxx.1,← hxx.2.1] at hgx
    exact absurd hgx hng
  ·have:=(h.hstr ha hb p D' hz).1.head.hdr
   rw [this] at hn;cases hn
 ·have hEn : Enc false [] data a0 b0 X bs:=⟨head2_of ha hb hg hf,h.whole,h.packed⟩
  obtain ⟨vo2,h1,h2,h3⟩:=hEn.read (streamOf a0 b0 false [] data bs) [] (fourB (adler data)) [] _ _ _ _ rfl (stream_split a0 b0 false [] data bs) (fun e => by cases e) hU0
  rcases h3 with ⟨_,h3⟩ | ⟨h3,_⟩
  ·rw [he] at h3
   simp only [Ending.returned.injEq,Value.tuple.injEq] at h3
   have h4:=congrArg Array.toList h3
   simp only [List.cons.injEq,Value.int.injEq,true_and,and_true] at h4
   obtain ⟨rfl,h5,_⟩:=h4
   exact ⟨by omega,h1⟩
  ·exact absurd (num4_four _ (adler_lt data)) h3
 ·have hgg:=hgz.2 hg
  have hff:=hfz.2 hf
  rcases hU with ⟨er,hw,hfa,_⟩ | ⟨p,D',L,hz,_⟩
  ·cases hw with
   | short hl2 => omega
   | header x y s hxx hgx =>
    rw [stream_false] at hxx
    simp only [List.cons.injEq] at hxx
    rw [← hxx.1,← hxx.2.1] at hgx
    exact absurd hgg hgx
   | shortDict x y s hxx hgx hfx hl2 =>
    have:=hfa.early_four hG.n4.1 hG.n4.2.1 hG.n4.2.2
    omega
   | dict x y c0 c1 c2 c3 s hxx hgx hfx hn2 => exact hfa.dict_two' hG.n3.1
  ·have h1:=(h.hstr ha hb p D' hz).1.head.ask
   simp at h1
   omega
end Go.Proofs.YthpapbilhjobnaaGreatDoor
namespace Go.Proofs.YthpapbilhjobnaaGreatDoor
open Go.RowKit Pu
set_option maxRecDepth 100000 in
set_option maxHeartbeats 16000000 in
theorem fnHeader_core (dv wv : Value) (x0 x1 : Int) (data : List UInt8) (zs : List Int) (w : World) (A hA dA kA U : Addr) (hG : Given w A hA dA kA U) (hw0 : (Lit.int .u8 x0).wf = true) (hw1 : (Lit.int .u8 x1).wf = true) (hd : Arg w dv data) (hw : Num w wv zs) (hsz : data.length ≤ 2097152) :
  Calls Tryz.prog 6 #[.int .u8 x0,.int .u8 x1,dv,wv] w (True1 w):=by
 have hx0 : 0 ≤ x0 ∧ x0 ≤ 255:=by simpa [Lit.wf,IntKind.min,IntKind.max,IntKind.signed,IntKind.bits] using hw0
 have hx1 : 0 ≤ x1 ∧ x1 ≤ 255:=by simpa [Lit.wf,IntKind.min,IntKind.max,IntKind.signed,IntKind.bits] using hw1
 obtain ⟨a0,rfl⟩:=Int.eq_ofNat_of_zero_le hx0.1
 obtain ⟨b0,rfl⟩:=Int.eq_ofNat_of_zero_le hx1.1
 have ha0 : a0 < 256:=by omega
 have hb0 : b0 < 256:=by omega
 have HZ:=Lib.hid (zlib_any dv (.slice none 0 0) wv false 7 1 data [] zs w hd.rd (Rd.nil w) hw.rd hw.len (by simp;omega) hw.low)
 have HG:=Lib.hid hG;have HD:=Lib.hid hd;have HSZ:=Lib.hid hsz
 clear hG hd hw hsz hw0 hw1 hx0 hx1
 go_enter Tryz.func6,Tryz.ntmps6
 go_wp2_with fail
 refine HZ.out.mono ?_
 intro e w1 hp
 obtain ⟨a,b,X,bs,g,cap,rfl,hM⟩:=hp.made
 obtain ⟨n,hn⟩ : ∃ n,(streamOf a b false [] data bs).length = n:=⟨_,rfl⟩
 have hnl:=stream_len a b false [] data bs
 have hnl0:=stream_len a0 b0 false [] data bs
 simp only [Bool.false_eq_true,if_false] at hnl hnl0
 have hn6 : 6 ≤ n:=by omega
 have hn0 : (streamOf a0 b0 false [] data bs).length = n:=by omega
 obtain ⟨cur,hb⟩ : ∃ cur,Blk w1 g cur 5:=by
  rcases hM.own.2 with ⟨h0,_⟩ | ⟨g',cap',cur,he,_,hb,_⟩
  ·cases h0
  ·injection he with he _ _
   injection he with he
   injection he with he _ _
   subst he
   exact ⟨cur,hb⟩
 have hcl:=hM.held.1.cells
 have hc0 : w1.cell? ⟨g,0,none⟩ = some (U8 (UInt8.ofNat a)):=hcl 0 _ rfl
 have hc1 : w1.cell? ⟨g,1,none⟩ = some (U8 (UInt8.ofNat b)):=hcl 1 _ rfl
 obtain ⟨w2,hw2⟩ : ∃ y,(w1.setCell ⟨g,0,none⟩ (.int .u8 a0)).setCell ⟨g,1,none⟩ (.int .u8 b0) = y:=⟨_,rfl⟩
 have hb2 : Blk w2 g ((cur.setIfInBounds 0 (.int .u8 a0)).setIfInBounds 1 (.int .u8 b0)) 5:=by rw [← hw2];exact (hb.set 0 _).set 1 _
 have hE2 : Ext (fun _ => False) w w2:=by
  rw [← hw2]
  have hge:=hM.held.2
  exact (hM.ext.setCell (p:=⟨g,0,none⟩) (fun h => by have h2 : g < w.heap.size:=h;omega) _).setCell (p:=⟨g,1,none⟩) (fun h => by have h2 : g < w.heap.size:=h;omega) _
 have hh2 : Held w2 g 0 cap (streamOf a0 b0 false [] data bs):=by
  have h1:=hM.held.1
  have hcz : cur[0]? = some (U8 (UInt8.ofNat a)):=by rw [← hb.cell];exact hc0
  have hco : cur[1]? = some (U8 (UInt8.ofNat b)):=by rw [← hb.cell];exact hc1
  refine ⟨fun j y hy => ?_,by rw [hn0,← hn];exact h1.small,by rw [hn0,← hn];exact h1.room,hb2.lt⟩
  rw [Nat.zero_add,hb2.cell]
  rw [stream_false] at hy
  rcases j with _ | _ | j
  ·have hy' : some (U8 (UInt8.ofNat a0)) = some y:=hy
   rw [set_ne _ _ (by omega),set_eq _ (get_lt hcz),← hy']
   have e : (UInt8.ofNat a0).toNat = a0:=by simp;omega
   unfold U8;rw [e]
  ·have hy' : some (U8 (UInt8.ofNat b0)) = some y:=hy
   rw [set_eq _ (by have:=get_lt hco;simpa using this),← hy']
   have e : (UInt8.ofNat b0).toNat = b0:=by simp;omega
   unfold U8;rw [e]
  ·rw [set_ne _ _ (by omega),set_ne _ _ (by omega),← hb.cell]
   have:=h1.cells (j + 1 + 1) y (by rw [stream_false];exact hy)
   rw [Nat.zero_add] at this
   exact this
 have hu:=(unpack_any g 0 cap (streamOf a0 b0 false [] data bs) [] A hA dA kA U (.slice none 0 0) [] false (.slice none 0 0) [] (gOf false [] data [] (pkOf bs X) (fourB (adler data))) (pkOf bs X) (dictOf false []).length (fourB (adler data)) w2 hh2.cells hh2.small hh2.room hh2.lt (HG.out.ext hE2).glo (HG.out.ext hE2).low (Rd.nil w2) (by simp) (fun b hb => by cases hb) (by simp) (by simp) (Rd.nil w2) (fun b hb => by cases hb)
  (fun p D' hz => by
    obtain ⟨h1,h2,h3⟩:=hM.enc.hstr ha0 hb0 p D' hz
    exact ⟨h2,gOf_small false [] data [] D' _ _ (by rw [h3];rfl) HSZ.out⟩)).mono (fun e w' h => hM.enc.hend ha0 hb0 (HG.out.ext hE2).glo h)
 rw [hn0] at hu
 rw [hn]
 have HU:=Lib.hid hu;have HE2:=Lib.hid hE2;have HW2:=Lib.hid hw2
 have hfr:=hb.free
 have hni : (6 : Int) ≤ n:=by omega
 have hne : g ≠ g → False:=fun h => h rfl
 clear hp hM hn hnl hnl0 hn0 hb hcl hb2 hE2 hh2 hu hw2 hne
 unfold U8 at hc0 hc1
 go_wp2_with fail
 rw [HW2.out]
 clear hc0 hc1 hfr
 refine HU.out.mono ?_
 rintro e w3 ⟨vo,f,z,rfl,he3,hf1,hf2,hf3⟩
 have hE3:=HE2.out.trans he3
 have HI:=Lib.hid (isHeader_any a0 b0 w3 ha0 hb0)
 have HDA:=Lib.hid (HD.out.rd.ext hE3 (fun _ _ e => e))
 have HE3:=Lib.hid hE3
 have h5:=u8_bit5 b0 hb0
 obtain ⟨hh,hhe⟩ : ∃ y,hdrB a0 b0 = y:=⟨_,rfl⟩
 rw [hhe] at HI hf1 hf2 hf3
 clear hE3 he3 hhe
 cases hh with
 | false =>
  obtain rfl:=hf1 rfl
  clear hf1 hf2 hf3 h5
  go_wp2_with fail
  refine HI.out.mono ?_
  rintro e w4 ⟨rfl,rfl⟩
  go_wp2_with fail
  go_ret
  exact ⟨rfl,HE3.out⟩
 | true =>
  rcases (by omega : b0 / 32 % 2 = 1 ∨ b0 / 32 % 2 = 0) with hbit | hbit
  ·have hf:=hf3 rfl hbit
   rw [hbit] at h5
   have d1 : ((f : Int) != 1) = true:=by simp;omega
   clear hf1 hf2 hf3 hf hbit
   go_wp2_with fail
   refine HI.out.mono ?_
   rintro e w4 ⟨rfl,rfl⟩
   go_wp2_with fail
   go_ret
   exact ⟨rfl,HE3.out⟩
  ·obtain ⟨rfl,hr⟩:=hf2 rfl (by omega)
   rw [hbit] at h5
   have HS:=Lib.hid (same_any vo dv data w3 hr HDA.out)
   clear hf1 hf2 hf3 hr hbit
   go_wp2_with fail
   refine HI.out.mono ?_
   rintro e w4 ⟨rfl,rfl⟩
   go_wp2_with fail
   refine HS.out.mono ?_
   rintro e w4 ⟨rfl,rfl⟩
   go_wp2_with fail
   go_ret
   exact ⟨rfl,HE3.out⟩
end Go.Proofs.YthpapbilhjobnaaGreatDoor
namespace Go.Proofs.YthpapbilhjobnaaGreatDoor.fnHeader
open Go.ChangeShapes Go.WideShapes Go.ChangeAt Go.RowKit
set_option maxRecDepth 100000 in
theorem contract (H : Type) (enc : TypeId × Value → H) (W : World) (base : Nat) (args : Array Value) (ds gs : List (DataW H)) (before : List MemPlace)
  (hval : ∀ (j : Nat) t v,Tryz.f6.params[j]? = some t → args[j]? = some v → Value.okWide Tryz.prog W .any base t v)
  (hW : DataW.Whole enc Tryz.prog Tryz.f6.params.toList Rows.fnHeaderSpec.vars false W args.toList ds gs before) (hk : Rows.uptoSmall H (ds ++ gs) = true) (hL : laidMetH Tryz.prog Rows.fnHeaderUptoRow.laid W) :
  Calls Tryz.prog 6 args W fun e W' => ∃ v,e = .returned v ∧ Rows.fnHeaderSpec.post enc Tryz.prog Tryz.f6 false true false false W args v W':=by
 have hW':=hW
 have hbk:=bulk_bound hk
 obtain ⟨p,q,hA0,hV,rfl,hfz,hnd⟩:=hW
 have hA1 : DataW.TrodAll enc Tryz.prog W 0 (fun _ => true) true Tryz.f6.params.toList args.toList ds p:=hA0
 rw [Tryz.params6] at hA1 hval
 obtain ⟨v0,vs0,d0,ds0,p0,q0,hargs,rfl,rfl,h0,r0⟩:=trodAll_cons hA1
 obtain ⟨v1,vs1,d1,ds1,p1,q1,rfl,rfl,rfl,h1,r1⟩:=trodAll_cons r0
 obtain ⟨v2,vs2,d2,ds2,p2,q2,rfl,rfl,rfl,h2,r2⟩:=trodAll_cons r1
 obtain ⟨v3,vs3,d3,ds3,p3,q3,rfl,rfl,rfl,h3,r3⟩:=trodAll_cons r2
 obtain ⟨rfl,rfl,rfl⟩:=trodAll_nil r3
 obtain rfl : args = #[v0,v1,v2,v3]:=by cases args;simp_all
 obtain ⟨rfl,rfl⟩:=trodVars_none hV
 simp only [List.append_nil,Rows.uptoBulkAll] at hbk
 obtain ⟨x0,rfl,rfl,rfl,w0⟩:=open_int Tryz.underlying5 (hval 0 5 v0 rfl rfl) h0
 obtain ⟨x1,rfl,rfl,rfl,w1⟩:=open_int Tryz.underlying5 (hval 1 5 v1 rfl rfl) h1
 obtain ⟨l2,a2,b2⟩:=arg_bytes (hval 2 22 v2 rfl rfl) h2
 obtain ⟨z3,a3⟩:=arg_nums (hval 3 23 v3 rfl rfl) h3 (by omega)
 obtain ⟨A,hA,dA,kA,U,hG⟩:=given_of_laid (W:=W) hL
 refine (fnHeader_core v2 v3 x0 x1 l2 z3 W A hA dA kA U hG w0 w1 a2 a3 (by omega)).mono fun e W' ⟨he,hx⟩ => ?_
 subst he
 exact ⟨_,rfl,post_true hW' hx (by kernel_rfl) rfl rfl (by rw [Tryz.params6];decide +kernel)⟩
set_option maxRecDepth 100000 in
theorem reads (os : Os) {H : Type} (enc : TypeId × Value → H) : ∃ places,DataW.whole enc Tryz.prog ((laidWorld os).forCall (fun _ _ => 0) ⟨#[],#[.int .u8 0,.int .u8 0,.slice none 0 0,.slice none 0 0],[]⟩).memory Tryz.f6.params.toList Rows.fnHeaderSpec.vars false (#[.int .u8 0,.int .u8 0,.slice none 0 0,.slice none 0 0] : Array Value).toList 8 = some ([.lit (.int .u8 0),.lit (.int .u8 0),.nil,.nil],[],places) :=
 ⟨[],by kernel_rfl⟩
set_option maxRecDepth 100000 in
theorem liftedUpto (os : Os) (started : os.Started) (H : Type) (enc : TypeId × Value → H) (F : Stop.Interp) :
  ReturnsInHanded {} Tryz.checked os 6 .any ((Rows.OpenSpec.upto Rows.fnHeaderSpec).preRow enc Tryz.prog Tryz.f6 Rows.fnHeaderUptoRow.domain false Rows.fnHeaderUptoRow.laid) (((Rows.OpenSpec.upto Rows.fnHeaderSpec).at F).post enc Tryz.prog Tryz.f6 false true false false):=by
 obtain ⟨places,hx⟩:=reads os enc
 refine returnsInHanded_of_row (C:=Tryz.checked) (s:=Rows.OpenSpec.upto Rows.fnHeaderSpec) own started (by kernel_rfl) Tryz.func6
  (witness_row_atRef (enc:=enc) (C:=Tryz.checked) false (laidWorld os) #[.int .u8 0,.int .u8 0,.slice none 0 0,.slice none 0 0] rfl (by kernel_rfl) (by kernel_rfl) (by kernel_rfl)
    (OpenSpec.preRow_of_cond 8 hx (by kernel_rfl) (fun k hk => by cases hk;kernel_rfl) (by kernel_rfl) (laid_met os _))) ?_
 intro W base args ds gs before hval hW _ hcond _ hL _ _
 exact contract H enc W base args ds gs before hval hW (hcond _ rfl) hL
set_option maxRecDepth 100000 in
theorem saidUpto : Rows.FnHeaderUptoSaid :=
 OpenClaim.holds_of_cond 6 Tryz.f6 rfl rfl rfl rfl rfl rfl rfl ⟨rfl,rfl,rfl,rfl,rfl⟩ rfl rfl rfl rfl rfl (by kernel_rfl) Tryz.func6 (by kernel_rfl)
  (of_decide_eq_true (by kernel_rfl)) (by unfold Func.isWrapper;first | (rw [if_pos (by decide +kernel)];kernel_rfl) | (rw [if_neg (by decide +kernel)];exact ⟨rfl,rfl⟩))
  (fun os started H enc _ F => by rw [OpenClaim.pre_eq_preRow];exact liftedUpto os started H enc F)
set_option maxRecDepth 100000 in
theorem plain (f : FuncId) (fn : Func) (hf : Tryz.pinned.checked.prog.funcNamed "cratestrap/laws.FnHeader" = some f) (hfn : Tryz.pinned.checked.prog.funcs[f]? = some fn) :
  true = Tryz.pinned.checked.prog.looks [] ∧ ∀ (j : Nat) t,fn.params[j]? = some t → Tryz.pinned.checked.prog.wantsStandIn t = false:=by
 obtain rfl : f = 6 := Option.some.inj ((show Tryz.prog.funcNamed "cratestrap/laws.FnHeader" = some 6 by kernel_rfl).symm.trans hf) |>.symm
 obtain rfl : fn = Tryz.f6:=(Option.some.inj (Tryz.func6.symm.trans hfn)).symm
 refine ⟨by kernel_rfl,fun j t ht => ?_⟩
 rw [Tryz.params6] at ht
 have hm : t ∈ [(5 : TypeId),5,22,23]:=by simpa using Array.mem_of_getElem? ht
 have key : ∀ t ∈ [(5 : TypeId),5,22,23],Tryz.prog.wantsStandIn t = false:=by decide +kernel
 exact key t hm
set_option maxRecDepth 100000 in
theorem cardUpto : Rows.FnHeaderUptoCardSaid :=
 Claim7.holds_tied_plain_at .later [] _ _ _ _ saidUpto (fun _ h => by cases h) (by kernel_rfl) (fun _ h => by cases h) fnHeaderUpto_row_tie rfl ⟨rfl,rfl⟩ (by kernel_rfl) rfl plain (by kernel_rfl)
end Go.Proofs.YthpapbilhjobnaaGreatDoor.fnHeader
namespace Go.Proofs.YthpapbilhjobnaaGreatDoor
theorem fnHeader_upto_card : Rows.FnHeaderUptoCardSaid:=fnHeader.cardUpto
end Go.Proofs.YthpapbilhjobnaaGreatDoor
