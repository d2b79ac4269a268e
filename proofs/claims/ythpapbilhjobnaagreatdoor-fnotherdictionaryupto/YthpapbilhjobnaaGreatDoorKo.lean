/-
  The law FnOtherDictionary of the streams of zlib, where what it reads is of bulk at most 1048576: the walk of its code over the proved contracts of reader and encoder, its row and its card. Conditions: the row's own; what the package-level variables hold is tied to the program's text.
-/
import Derived.Test.YthpapbilhjobnaaGreatDoorM22
import Derived.Test.YthpapbilhjobnaaGreatDoorM23
set_option linter.unusedVariables false
set_option linter.unusedSimpArgs false
namespace Go.Proofs.YthpapbilhjobnaaGreatDoor
open Go.RowKit Pu
def True1 (w : World) (e : Ending) (w' : World) : Prop:=e = .returned (.bool true) ∧ Ext (fun _ => False) w w'
theorem reads_made {has : Bool} {dict data : List UInt8} {a b : Nat} {X : List Bool} {bs : List UInt8} {g cap : Nat} {w w1 : World} (h : Made w has dict data a b X bs g cap w1) (w2 : World) (he : Ext (fun _ => False) w1 w2)
  (A hA dA kA U : Addr) (hG : Given w2 A hA dA kA U) (dv : Value) (D : List UInt8) (hasU : Bool) (hv : Arg w2 dv D) (hD : D.length ≤ 1099511627776) (hDd : has = true → hasU = true ∧ D = dict) (wv : Value) (hw : Arg w2 wv data) (hd : data.length ≤ 2097152) (n : Nat) (hn : (streamOf a b has dict data bs).length = n) :
  Calls Tryz.prog 15 #[.slice (some ⟨g,0,none⟩) n cap,dv,.bool hasU,wv] w2 (True1 w2):=by
 have hl:=stream_len a b has dict data bs
 refine reads_any g 0 n cap dv wv hasU data w2 (by rw [← hn,hl];split <;> omega) hw.rd ?_
 rw [← hn]
 exact (unpack_all h.enc _ [] (by rw [List.append_nil]) g 0 cap w2 (h.held.1.ext he (fun e => e)) A hA dA kA U hG dv D hasU hv hD hDd (.slice none 0 0) [] (by simp) (by simp) (Rd.nil w2) (fun b hb => by cases hb) hd).mono (fun e w' ⟨vo,h1,h2,h3⟩ => ⟨vo,h1,h2,h3⟩)
set_option maxRecDepth 100000 in
set_option maxHeartbeats 4000000 in
theorem fnRead_core (dv fv wv : Value) (has : Bool) (win lvl : Int) (data dict : List UInt8) (zs : List Int) (w : World) (A hA dA kA U : Addr) (hG : Given w A hA dA kA U) (hd : Arg w dv data) (hf : Arg w fv dict) (hw : Num w wv zs) (hsz : data.length + dict.length ≤ 2097152) :
  Calls Tryz.prog 9 #[dv,fv,.bool has,.int .i64 win,.int .i64 lvl,wv] w (True1 w):=by
 have HZ:=Lib.hid (zlib_any dv fv wv has win lvl data dict zs w hd.rd hf.rd hw.rd hw.len hsz hw.low)
 have HG:=Lib.hid hG;have HD:=Lib.hid hd;have HF:=Lib.hid hf;have HSZ:=Lib.hid hsz
 clear hG hd hf hw hsz
 go_enter Tryz.func9,Tryz.ntmps9
 go_wp2_with fail
 refine HZ.out.mono ?_
 intro e w1 hp
 obtain ⟨a,b,X,bs,g,cap,rfl,hM⟩:=hp.made
 obtain ⟨n,hn⟩ : ∃ n,(streamOf a b has dict data bs).length = n:=⟨_,rfl⟩
 rw [hn]
 have HR:=Lib.hid (reads_made hM w1 (Ext.refl _ _) A hA dA kA U (HG.out.ext hM.ext) fv dict has (HF.out.ext hM.ext) (by have:=HSZ.out;omega) (fun h => ⟨h,rfl⟩) dv (HD.out.ext hM.ext) (by have:=HSZ.out;omega) n hn)
 have HE:=Lib.hid hM.ext
 clear hp hM hn
 go_wp2_with fail
 refine HR.out.mono ?_
 rintro e w2 ⟨rfl,he⟩
 have HE2:=Lib.hid (HE.out.trans he)
 clear he
 go_wp2_with fail
 go_ret
 exact ⟨rfl,HE2.out⟩
set_option maxRecDepth 100000 in
set_option maxHeartbeats 4000000 in
theorem fnIgnored_core (dv fv wv : Value) (data dict : List UInt8) (zs : List Int) (w : World) (A hA dA kA U : Addr) (hG : Given w A hA dA kA U) (hd : Arg w dv data) (hf : Arg w fv dict) (hw : Num w wv zs) (hsz : data.length + dict.length ≤ 2097152) :
  Calls Tryz.prog 7 #[dv,fv,wv] w (True1 w):=by
 have HZ:=Lib.hid (zlib_any dv (.slice none 0 0) wv false 7 1 data [] zs w hd.rd (Rd.nil w) hw.rd hw.len (by simp;omega) hw.low)
 have HG:=Lib.hid hG;have HD:=Lib.hid hd;have HF:=Lib.hid hf;have HSZ:=Lib.hid hsz
 clear hG hd hf hw hsz
 go_enter Tryz.func7,Tryz.ntmps7
 go_wp2_with fail
 refine HZ.out.mono ?_
 intro e w1 hp
 obtain ⟨a,b,X,bs,g,cap,rfl,hM⟩:=hp.made
 obtain ⟨n,hn⟩ : ∃ n,(streamOf a b false [] data bs).length = n:=⟨_,rfl⟩
 rw [hn]
 have HR:=Lib.hid (reads_made hM w1 (Ext.refl _ _) A hA dA kA U (HG.out.ext hM.ext) fv dict true (HF.out.ext hM.ext) (by have:=HSZ.out;omega) (fun h => by cases h) dv (HD.out.ext hM.ext) (by have:=HSZ.out;omega) n hn)
 have HE:=Lib.hid hM.ext
 clear hp hM hn
 go_wp2_with fail
 refine HR.out.mono ?_
 rintro e w2 ⟨rfl,he⟩
 have HE2:=Lib.hid (HE.out.trans he)
 clear he
 go_wp2_with fail
 go_ret
 exact ⟨rfl,HE2.out⟩
end Go.Proofs.YthpapbilhjobnaaGreatDoor
namespace Go.Proofs.YthpapbilhjobnaaGreatDoor
open Go.RowKit Pu
theorem FaultIs.dict_two {hA dA kA U : Addr} {n : Nat} (h : FaultIs hA dA kA U (.iface 175 (.pointer (some dA))) n) (h1 : hA ≠ dA) (h2 : dA ≠ kA) (h3 : dA ≠ U) : n = 2:=by
 generalize hv : Value.iface 175 (.pointer (some dA)) = v at h
 cases h with
 | none => cases hv
 | header => simp only [Value.iface.injEq,Value.pointer.injEq,Option.some.injEq,true_and] at hv;exact absurd hv.symm h1
 | dictionary => rfl
 | sum => simp only [Value.iface.injEq,Value.pointer.injEq,Option.some.injEq,true_and] at hv;exact absurd hv h2
 | early => simp only [Value.iface.injEq,Value.pointer.injEq,Option.some.injEq,true_and] at hv;exact absurd hv h3
 | data z => simp at hv
theorem Enc.other {dict data : List UInt8} {a b : Nat} {X : List Bool} {bs : List UInt8} (h : Enc true dict data a b X bs) (D0 : List UInt8)
  {A hA dA kA U : Addr} {w0 w w' : World} (hG : Glo w0 A hA dA kA U) {e : Ending} {g : Blkc} (hU : UPost (streamOf a b true dict data bs) [] D0 hA dA kA U g (fourB (adler data)) w e w') :
  ∃ (vo : Value) (f z : Nat),e = .returned (.tuple #[vo,.int .i64 f,.int .i64 z]) ∧ Ext (fun _ => False) w w' ∧ (adler D0 ≠ adler dict → f = 2):=by
 obtain ⟨hg,hf⟩:=head_good h.head
 obtain ⟨vo,fault,rs,he,hE,hU⟩:=hU
 refine ⟨vo,fault,rs,he,hE,fun hne => ?_⟩
 rcases hU with ⟨er,hw,hfa,_⟩ | ⟨p,D',L,hz,hr,hok,hle,hend⟩
 ·have hl:=stream_len a b true dict data bs
  simp only [if_true] at hl
  cases hw with
  | short hl2 => omega
  | header x y s hxx hgx =>
   rw [stream_true] at hxx
   simp only [List.cons.injEq] at hxx
   rw [← hxx.1,← hxx.2.1] at hgx
   exact absurd hg hgx
  | shortDict x y s hxx hgx hfx hl2 =>
   rw [hxx] at hl
   simp only [List.length_cons] at hl
   omega
  | dict x y c0 c1 c2 c3 s hxx hgx hfx hn => exact hfa.dict_two hG.n3.1 hG.n3.2.2 hG.n4.2.1
 ·obtain ⟨_,_,h3⟩:=h.str (streamOf a b true dict data bs) [] (fourB (adler data)) D0 (by rw [List.append_nil];exact stream_split a b true dict data bs) (by simp [fourB]) p D' hz
  exact absurd (h3 rfl) hne
set_option maxRecDepth 100000 in
set_option maxHeartbeats 16000000 in
theorem fnOtherDictionary_core (dv fv ov wv : Value) (data dict other : List UInt8) (zs : List Int) (w : World) (A hA dA kA U : Addr) (hG : Given w A hA dA kA U) (hd : Arg w dv data) (hf : Arg w fv dict) (ho : Arg w ov other) (hw : Num w wv zs) (hsz : data.length + dict.length + other.length ≤ 2097152) :
  Calls Tryz.prog 8 #[dv,fv,ov,wv] w (True1 w):=by
 have HZ:=Lib.hid (zlib_any dv fv wv true 7 1 data dict zs w hd.rd hf.rd hw.rd hw.len (by omega) hw.low)
 have HG:=Lib.hid hG;have HD:=Lib.hid hd;have HF:=Lib.hid hf;have HO:=Lib.hid ho;have HSZ:=Lib.hid hsz
 clear hG hd hf ho hw hsz
 go_enter Tryz.func8,Tryz.ntmps8
 go_wp2_with fail
 refine HZ.out.mono ?_
 intro e w1 hp
 obtain ⟨a,b,X,bs,g,cap,rfl,hM⟩:=hp.made
 obtain ⟨n,hn⟩ : ∃ n,(streamOf a b true dict data bs).length = n:=⟨_,rfl⟩
 rw [hn]
 have HR:=Lib.hid (reads_made hM w1 (Ext.refl _ _) A hA dA kA U (HG.out.ext hM.ext) fv dict true (HF.out.ext hM.ext) (by have:=HSZ.out;omega) (fun h => ⟨h,rfl⟩) dv (HD.out.ext hM.ext) (by have:=HSZ.out;omega) n hn)
 have HM:=Lib.hid hM;have HN:=Lib.hid hn
 clear hp hM hn
 go_wp2_with fail
 refine HR.out.mono ?_
 rintro e w2 ⟨rfl,he2⟩
 have hE2:=HM.out.ext.trans he2
 have hu:=(unpack_enc HM.out.enc (streamOf a b true dict data bs) [] (fourB (adler data)) (by simp [fourB]) (by rw [List.append_nil];exact stream_split a b true dict data bs) g 0 cap w2 (HM.out.held.1.ext he2 (fun e => e)) A hA dA kA U (HG.out.ext hE2) ov other true (HO.out.ext hE2) (by have:=HSZ.out;omega) (.slice none 0 0) [] (by simp) (by simp) (Rd.nil w2) (fun b hb => by cases hb) (by have:=HSZ.out;omega)).mono (fun e w' h => HM.out.enc.other other (HG.out.ext hE2).glo h)
 rw [HN.out] at hu
 have HU:=Lib.hid hu;have HE2:=Lib.hid hE2;have HE12:=Lib.hid he2
 clear he2 hE2 hu
 go_wp2_with fail
 refine HU.out.mono ?_
 rintro e w3 ⟨vo,f1,z1,rfl,he3,hf1⟩
 have hE3:=HE2.out.trans he3
 have hu:=(unpack_enc HM.out.enc (streamOf a b true dict data bs) [] (fourB (adler data)) (by simp [fourB]) (by rw [List.append_nil];exact stream_split a b true dict data bs) g 0 cap w3 ((HM.out.held.1.ext HE12.out (fun e => e)).ext he3 (fun e => e)) A hA dA kA U (HG.out.ext hE3) (.slice none 0 0) [] false (Arg.nil w3) (by simp) (.slice none 0 0) [] (by simp) (by simp) (Rd.nil w3) (fun b hb => by cases hb) (by have:=HSZ.out;omega)).mono (fun e w' h => HM.out.enc.other [] (HG.out.ext hE3).glo h)
 rw [HN.out] at hu
 have HU2:=Lib.hid hu;have HE3:=Lib.hid hE3;have HF1:=Lib.hid hf1
 clear he3 hE3 hu hf1
 go_wp2_with fail
 refine HU2.out.mono ?_
 rintro e w4 ⟨vo2,f2,z2,rfl,he4,hf2⟩
 have hE4:=HE3.out.trans he4
 have HA1:=Lib.hid (adler_any ov other w4 (by have:=HSZ.out;omega) (HO.out.rd.ext hE4 (fun _ _ e => e)))
 have HA2:=Lib.hid (adler_any fv dict w4 (by have:=HSZ.out;omega) (HF.out.rd.ext hE4 (fun _ _ e => e)))
 have hf2' : adler dict ≠ 1 → f2 = 2:=fun h => hf2 (by rw [adler_nil_eq];exact Ne.symm h)
 have hf1':=HF1.out
 obtain ⟨ao,hao⟩ : ∃ y,adler other = y:=⟨_,rfl⟩
 obtain ⟨ad,had⟩ : ∃ y,adler dict = y:=⟨_,rfl⟩
 rw [hao,had] at hf1'
 rw [hao] at HA1
 rw [had] at HA2 hf2'
 have HE4:=Lib.hid hE4
 clear he4 hE4 hf2 hao had HF1
 have hend : ∀ b1 b2 : Bool,((ao : Int) == (ad : Int)) = b1 → ((ad : Int) == 1) = b2 → (b1 = false → f1 = 2) → (b2 = false → f2 = 2) → True:=fun _ _ _ _ _ _ => trivial
 by_cases h1 : ao = ad
 ·by_cases h2 : ad = 1
  ·have d1 : ((ao : Int) == (ad : Int)) = true:=by simp;omega
   have d2 : ((ad : Int) == 1) = true:=by simp;omega
   clear hf1' hf2' hend h1 h2
   go_wp2_with fail
   refine HA1.out.mono ?_
   rintro e w5 ⟨rfl,rfl⟩
   go_wp2_with fail
   refine HA2.out.mono ?_
   rintro e w5 ⟨rfl,rfl⟩
   go_wp2_with fail
   refine HA2.out.mono ?_
   rintro e w5 ⟨rfl,rfl⟩
   go_wp2_with fail
   go_ret
   exact ⟨rfl,HE4.out⟩
  ·obtain rfl:=hf2' h2
   have d1 : ((ao : Int) == (ad : Int)) = true:=by simp;omega
   have d2 : ((ad : Int) == 1) = false:=by simp;omega
   clear hf1' hf2' hend h1 h2
   go_wp2_with fail
   refine HA1.out.mono ?_
   rintro e w5 ⟨rfl,rfl⟩
   go_wp2_with fail
   refine HA2.out.mono ?_
   rintro e w5 ⟨rfl,rfl⟩
   go_wp2_with fail
   refine HA2.out.mono ?_
   rintro e w5 ⟨rfl,rfl⟩
   go_wp2_with fail
   go_ret
   exact ⟨rfl,HE4.out⟩
 ·obtain rfl:=hf1' h1
  have d1 : ((ao : Int) == (ad : Int)) = false:=by simp;omega
  by_cases h2 : ad = 1
  ·have d2 : ((ad : Int) == 1) = true:=by simp;omega
   clear hf1' hf2' hend h1 h2
   go_wp2_with fail
   refine HA1.out.mono ?_
   rintro e w5 ⟨rfl,rfl⟩
   go_wp2_with fail
   refine HA2.out.mono ?_
   rintro e w5 ⟨rfl,rfl⟩
   go_wp2_with fail
   refine HA2.out.mono ?_
   rintro e w5 ⟨rfl,rfl⟩
   go_wp2_with fail
   go_ret
   exact ⟨rfl,HE4.out⟩
  ·obtain rfl:=hf2' h2
   have d2 : ((ad : Int) == 1) = false:=by simp;omega
   clear hf1' hf2' hend h1 h2
   go_wp2_with fail
   refine HA1.out.mono ?_
   rintro e w5 ⟨rfl,rfl⟩
   go_wp2_with fail
   refine HA2.out.mono ?_
   rintro e w5 ⟨rfl,rfl⟩
   go_wp2_with fail
   refine HA2.out.mono ?_
   rintro e w5 ⟨rfl,rfl⟩
   go_wp2_with fail
   go_ret
   exact ⟨rfl,HE4.out⟩
end Go.Proofs.YthpapbilhjobnaaGreatDoor
namespace Go.Proofs.YthpapbilhjobnaaGreatDoor.fnOtherDictionary
open Go.ChangeShapes Go.WideShapes Go.ChangeAt Go.RowKit
set_option maxRecDepth 100000 in
theorem contract (H : Type) (enc : TypeId × Value → H) (W : World) (base : Nat) (args : Array Value) (ds gs : List (DataW H)) (before : List MemPlace)
  (hval : ∀ (j : Nat) t v,Tryz.f8.params[j]? = some t → args[j]? = some v → Value.okWide Tryz.prog W .any base t v)
  (hW : DataW.Whole enc Tryz.prog Tryz.f8.params.toList Rows.fnOtherDictionarySpec.vars false W args.toList ds gs before) (hk : Rows.uptoSmall H (ds ++ gs) = true) (hL : laidMetH Tryz.prog Rows.fnOtherDictionaryUptoRow.laid W) :
  Calls Tryz.prog 8 args W fun e W' => ∃ v,e = .returned v ∧ Rows.fnOtherDictionarySpec.post enc Tryz.prog Tryz.f8 false true false false W args v W':=by
 have hW':=hW
 have hbk:=bulk_bound hk
 obtain ⟨p,q,hA0,hV,rfl,hfz,hnd⟩:=hW
 have hA1 : DataW.TrodAll enc Tryz.prog W 0 (fun _ => true) true Tryz.f8.params.toList args.toList ds p:=hA0
 rw [Tryz.params8] at hA1 hval
 obtain ⟨v0,vs0,d0,ds0,p0,q0,hargs,rfl,rfl,h0,r0⟩:=trodAll_cons hA1
 obtain ⟨v1,vs1,d1,ds1,p1,q1,rfl,rfl,rfl,h1,r1⟩:=trodAll_cons r0
 obtain ⟨v2,vs2,d2,ds2,p2,q2,rfl,rfl,rfl,h2,r2⟩:=trodAll_cons r1
 obtain ⟨v3,vs3,d3,ds3,p3,q3,rfl,rfl,rfl,h3,r3⟩:=trodAll_cons r2
 obtain ⟨rfl,rfl,rfl⟩:=trodAll_nil r3
 obtain rfl : args = #[v0,v1,v2,v3]:=by cases args;simp_all
 obtain ⟨rfl,rfl⟩:=trodVars_none hV
 simp only [List.append_nil,Rows.uptoBulkAll] at hbk
 obtain ⟨l0,a0,b0⟩:=arg_bytes (hval 0 22 v0 rfl rfl) h0
 obtain ⟨l1,a1,b1⟩:=arg_bytes (hval 1 22 v1 rfl rfl) h1
 obtain ⟨l2,a2,b2⟩:=arg_bytes (hval 2 22 v2 rfl rfl) h2
 obtain ⟨z3,a3⟩:=arg_nums (hval 3 23 v3 rfl rfl) h3 (by omega)
 obtain ⟨A,hA,dA,kA,U,hG⟩:=given_of_laid (W:=W) hL
 refine (fnOtherDictionary_core v0 v1 v2 v3 l0 l1 l2 z3 W A hA dA kA U hG a0 a1 a2 a3 (by omega)).mono fun e W' ⟨he,hx⟩ => ?_
 subst he
 exact ⟨_,rfl,post_true hW' hx (by kernel_rfl) rfl rfl (by rw [Tryz.params8];decide +kernel)⟩
set_option maxRecDepth 100000 in
theorem reads (os : Os) {H : Type} (enc : TypeId × Value → H) : ∃ places,DataW.whole enc Tryz.prog ((laidWorld os).forCall (fun _ _ => 0) ⟨#[],#[.slice none 0 0,.slice none 0 0,.slice none 0 0,.slice none 0 0],[]⟩).memory Tryz.f8.params.toList Rows.fnOtherDictionarySpec.vars false (#[.slice none 0 0,.slice none 0 0,.slice none 0 0,.slice none 0 0] : Array Value).toList 8 = some ([.nil,.nil,.nil,.nil],[],places) :=
 ⟨[],by kernel_rfl⟩
set_option maxRecDepth 100000 in
theorem liftedUpto (os : Os) (started : os.Started) (H : Type) (enc : TypeId × Value → H) (F : Stop.Interp) :
  ReturnsInHanded {} Tryz.checked os 8 .any ((Rows.OpenSpec.upto Rows.fnOtherDictionarySpec).preRow enc Tryz.prog Tryz.f8 Rows.fnOtherDictionaryUptoRow.domain false Rows.fnOtherDictionaryUptoRow.laid) (((Rows.OpenSpec.upto Rows.fnOtherDictionarySpec).at F).post enc Tryz.prog Tryz.f8 false true false false):=by
 obtain ⟨places,hx⟩:=reads os enc
 refine returnsInHanded_of_row (C:=Tryz.checked) (s:=Rows.OpenSpec.upto Rows.fnOtherDictionarySpec) own started (by kernel_rfl) Tryz.func8
  (witness_row_atRef (enc:=enc) (C:=Tryz.checked) false (laidWorld os) #[.slice none 0 0,.slice none 0 0,.slice none 0 0,.slice none 0 0] rfl (by kernel_rfl) (by kernel_rfl) (by kernel_rfl)
    (OpenSpec.preRow_of_cond 8 hx (by kernel_rfl) (fun k hk => by cases hk;kernel_rfl) (by kernel_rfl) (laid_met os _))) ?_
 intro W base args ds gs before hval hW _ hcond _ hL _ _
 exact contract H enc W base args ds gs before hval hW (hcond _ rfl) hL
set_option maxRecDepth 100000 in
theorem saidUpto : Rows.FnOtherDictionaryUptoSaid :=
 OpenClaim.holds_of_cond 8 Tryz.f8 rfl rfl rfl rfl rfl rfl rfl ⟨rfl,rfl,rfl,rfl,rfl⟩ rfl rfl rfl rfl rfl (by kernel_rfl) Tryz.func8 (by kernel_rfl)
  (of_decide_eq_true (by kernel_rfl)) (by unfold Func.isWrapper;first | (rw [if_pos (by decide +kernel)];kernel_rfl) | (rw [if_neg (by decide +kernel)];exact ⟨rfl,rfl⟩))
  (fun os started H enc _ F => by rw [OpenClaim.pre_eq_preRow];exact liftedUpto os started H enc F)
set_option maxRecDepth 100000 in
theorem plain (f : FuncId) (fn : Func) (hf : Tryz.pinned.checked.prog.funcNamed "cratestrap/laws.FnOtherDictionary" = some f) (hfn : Tryz.pinned.checked.prog.funcs[f]? = some fn) :
  true = Tryz.pinned.checked.prog.looks [] ∧ ∀ (j : Nat) t,fn.params[j]? = some t → Tryz.pinned.checked.prog.wantsStandIn t = false:=by
 obtain rfl : f = 8 := Option.some.inj ((show Tryz.prog.funcNamed "cratestrap/laws.FnOtherDictionary" = some 8 by kernel_rfl).symm.trans hf) |>.symm
 obtain rfl : fn = Tryz.f8:=(Option.some.inj (Tryz.func8.symm.trans hfn)).symm
 refine ⟨by kernel_rfl,fun j t ht => ?_⟩
 rw [Tryz.params8] at ht
 have hm : t ∈ [(22 : TypeId),22,22,23]:=by simpa using Array.mem_of_getElem? ht
 have key : ∀ t ∈ [(22 : TypeId),22,22,23],Tryz.prog.wantsStandIn t = false:=by decide +kernel
 exact key t hm
set_option maxRecDepth 100000 in
theorem cardUpto : Rows.FnOtherDictionaryUptoCardSaid :=
 Claim7.holds_tied_plain_at .later [] _ _ _ _ saidUpto (fun _ h => by cases h) (by kernel_rfl) (fun _ h => by cases h) fnOtherDictionaryUpto_row_tie rfl ⟨rfl,rfl⟩ (by kernel_rfl) rfl plain (by kernel_rfl)
end Go.Proofs.YthpapbilhjobnaaGreatDoor.fnOtherDictionary
namespace Go.Proofs.YthpapbilhjobnaaGreatDoor
theorem fnOtherDictionary_upto_card : Rows.FnOtherDictionaryUptoCardSaid:=fnOtherDictionary.cardUpto
end Go.Proofs.YthpapbilhjobnaaGreatDoor
