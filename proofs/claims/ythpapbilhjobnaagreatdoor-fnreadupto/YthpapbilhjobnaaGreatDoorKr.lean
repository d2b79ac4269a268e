/-
  The law FnRead of the streams of zlib, where what it reads is of bulk at most 1048576: the walk of its code over the proved contracts of reader and encoder, its row and its card. Conditions: the row's own; what the package-level variables hold is tied to the program's text.
-/
import Derived.Test.YthpapbilhjobnaaGreatDoorM22
import Derived.Test.YthpapbilhjobnaaGreatDoorM23
set_option linter.unusedVariables false
set_option linter.unusedSimpArgs false
namespace Go.Proofs.YthpapbilhjobnaaGreatDoor
open Go.RowKit Pu
def True1 (w : World) (e : Ending) (w' : World) : Prop:=e = .returned (.bool true) ∧ Ext (fun _ => False) w w'
theorem reads_made {has : Bool} {dict data : List UInt8} {a b : Nat} {X : List Bool} {bs : List UInt8} {g cap : Nat} {w w1 : World} (h : Made w has dict data a b X bs g cap w1) (w2 : World) (he : Ext (fun _ => False) w1 w2)
  (A hA dA kA U : Addr) (hG : Given w2 A hA dA kA U) (dv : Value) (D : List UInt8) (hasU : Bool) (hv : Arg w2 dv D) (hD : D.length ≤ 1099511627776) (hDd : has = true → hasU = true ∧ D = dict) (wv : Value) (hw : Arg w2 wv data) (hd : data.length ≤ 2097152) (n : Nat) (hn : (streamOf a b has dict data bs).length = n) :
  Calls Tryz.prog 15 #[.slice (some ⟨g,0,none⟩) n cap,dv,.bool hasU,wv] w2 (True1 w2):=by
 have hl:=stream_len a b has dict data bs
 refine reads_any g 0 n cap dv wv hasU data w2 (by rw [← hn,hl];split <;> omega) hw.rd ?_
 rw [← hn]
 exact (unpack_all h.enc _ [] (by rw [List.append_nil]) g 0 cap w2 (h.held.1.ext he (fun e => e)) A hA dA kA U hG dv D hasU hv hD hDd (.slice none 0 0) [] (by simp) (by simp) (Rd.nil w2) (fun b hb => by cases hb) hd).mono (fun e w' ⟨vo,h1,h2,h3⟩ => ⟨vo,h1,h2,h3⟩)
set_option maxRecDepth 100000 in
set_option maxHeartbeats 4000000 in
theorem fnRead_core (dv fv wv : Value) (has : Bool) (win lvl : Int) (data dict : List UInt8) (zs : List Int) (w : World) (A hA dA kA U : Addr) (hG : Given w A hA dA kA U) (hd : Arg w dv data) (hf : Arg w fv dict) (hw : Num w wv zs) (hsz : data.length + dict.length ≤ 2097152) :
  Calls Tryz.prog 9 #[dv,fv,.bool has,.int .i64 win,.int .i64 lvl,wv] w (True1 w):=by
 have HZ:=Lib.hid (zlib_any dv fv wv has win lvl data dict zs w hd.rd hf.rd hw.rd hw.len hsz hw.low)
 have HG:=Lib.hid hG;have HD:=Lib.hid hd;have HF:=Lib.hid hf;have HSZ:=Lib.hid hsz
 clear hG hd hf hw hsz
 go_enter Tryz.func9,Tryz.ntmps9
 go_wp2_with fail
 refine HZ.out.mono ?_
 intro e w1 hp
 obtain ⟨a,b,X,bs,g,cap,rfl,hM⟩:=hp.made
 obtain ⟨n,hn⟩ : ∃ n,(streamOf a b has dict data bs).length = n:=⟨_,rfl⟩
 rw [hn]
 have HR:=Lib.hid (reads_made hM w1 (Ext.refl _ _) A hA dA kA U (HG.out.ext hM.ext) fv dict has (HF.out.ext hM.ext) (by have:=HSZ.out;omega) (fun h => ⟨h,rfl⟩) dv (HD.out.ext hM.ext) (by have:=HSZ.out;omega) n hn)
 have HE:=Lib.hid hM.ext
 clear hp hM hn
 go_wp2_with fail
 refine HR.out.mono ?_
 rintro e w2 ⟨rfl,he⟩
 have HE2:=Lib.hid (HE.out.trans he)
 clear he
 go_wp2_with fail
 go_ret
 exact ⟨rfl,HE2.out⟩
set_option maxRecDepth 100000 in
set_option maxHeartbeats 4000000 in
theorem fnIgnored_core (dv fv wv : Value) (data dict : List UInt8) (zs : List Int) (w : World) (A hA dA kA U : Addr) (hG : Given w A hA dA kA U) (hd : Arg w dv data) (hf : Arg w fv dict) (hw : Num w wv zs) (hsz : data.length + dict.length ≤ 2097152) :
  Calls Tryz.prog 7 #[dv,fv,wv] w (True1 w):=by
 have HZ:=Lib.hid (zlib_any dv (.slice none 0 0) wv false 7 1 data [] zs w hd.rd (Rd.nil w) hw.rd hw.len (by simp;omega) hw.low)
 have HG:=Lib.hid hG;have HD:=Lib.hid hd;have HF:=Lib.hid hf;have HSZ:=Lib.hid hsz
 clear hG hd hf hw hsz
 go_enter Tryz.func7,Tryz.ntmps7
 go_wp2_with fail
 refine HZ.out.mono ?_
 intro e w1 hp
 obtain ⟨a,b,X,bs,g,cap,rfl,hM⟩:=hp.made
 obtain ⟨n,hn⟩ : ∃ n,(streamOf a b false [] data bs).length = n:=⟨_,rfl⟩
 rw [hn]
 have HR:=Lib.hid (reads_made hM w1 (Ext.refl _ _) A hA dA kA U (HG.out.ext hM.ext) fv dict true (HF.out.ext hM.ext) (by have:=HSZ.out;omega) (fun h => by cases h) dv (HD.out.ext hM.ext) (by have:=HSZ.out;omega) n hn)
 have HE:=Lib.hid hM.ext
 clear hp hM hn
 go_wp2_with fail
 refine HR.out.mono ?_
 rintro e w2 ⟨rfl,he⟩
 have HE2:=Lib.hid (HE.out.trans he)
 clear he
 go_wp2_with fail
 go_ret
 exact ⟨rfl,HE2.out⟩
end Go.Proofs.YthpapbilhjobnaaGreatDoor
namespace Go.Proofs.YthpapbilhjobnaaGreatDoor.fnRead
open Go.ChangeShapes Go.WideShapes Go.ChangeAt Go.RowKit
set_option maxRecDepth 100000 in
theorem contract (H : Type) (enc : TypeId × Value → H) (W : World) (base : Nat) (args : Array Value) (ds gs : List (DataW H)) (before : List MemPlace)
  (hval : ∀ (j : Nat) t v,Tryz.f9.params[j]? = some t → args[j]? = some v → Value.okWide Tryz.prog W .any base t v)
  (hW : DataW.Whole enc Tryz.prog Tryz.f9.params.toList Rows.fnReadSpec.vars false W args.toList ds gs before) (hk : Rows.uptoSmall H (ds ++ gs) = true) (hL : laidMetH Tryz.prog Rows.fnReadUptoRow.laid W) :
  Calls Tryz.prog 9 args W fun e W' => ∃ v,e = .returned v ∧ Rows.fnReadSpec.post enc Tryz.prog Tryz.f9 false true false false W args v W':=by
 have hW':=hW
 have hbk:=bulk_bound hk
 obtain ⟨p,q,hA0,hV,rfl,hfz,hnd⟩:=hW
 have hA1 : DataW.TrodAll enc Tryz.prog W 0 (fun _ => true) true Tryz.f9.params.toList args.toList ds p:=hA0
 rw [Tryz.params9] at hA1 hval
 obtain ⟨v0,vs0,d0,ds0,p0,q0,hargs,rfl,rfl,h0,r0⟩:=trodAll_cons hA1
 obtain ⟨v1,vs1,d1,ds1,p1,q1,rfl,rfl,rfl,h1,r1⟩:=trodAll_cons r0
 obtain ⟨v2,vs2,d2,ds2,p2,q2,rfl,rfl,rfl,h2,r2⟩:=trodAll_cons r1
 obtain ⟨v3,vs3,d3,ds3,p3,q3,rfl,rfl,rfl,h3,r3⟩:=trodAll_cons r2
 obtain ⟨v4,vs4,d4,ds4,p4,q4,rfl,rfl,rfl,h4,r4⟩:=trodAll_cons r3
 obtain ⟨v5,vs5,d5,ds5,p5,q5,rfl,rfl,rfl,h5,r5⟩:=trodAll_cons r4
 obtain ⟨rfl,rfl,rfl⟩:=trodAll_nil r5
 obtain rfl : args = #[v0,v1,v2,v3,v4,v5]:=by cases args;simp_all
 obtain ⟨rfl,rfl⟩:=trodVars_none hV
 simp only [List.append_nil,Rows.uptoBulkAll] at hbk
 obtain ⟨l0,a0,b0⟩:=arg_bytes (hval 0 22 v0 rfl rfl) h0
 obtain ⟨l1,a1,b1⟩:=arg_bytes (hval 1 22 v1 rfl rfl) h1
 obtain ⟨x2,rfl,rfl,rfl⟩:=open_bool Tryz.underlying4 (hval 2 4 v2 rfl rfl) h2
 obtain ⟨x3,rfl,rfl,rfl,w3⟩:=open_int Tryz.underlying3 (hval 3 3 v3 rfl rfl) h3
 obtain ⟨x4,rfl,rfl,rfl,w4⟩:=open_int Tryz.underlying3 (hval 4 3 v4 rfl rfl) h4
 obtain ⟨z5,a5⟩:=arg_nums (hval 5 23 v5 rfl rfl) h5 (by omega)
 obtain ⟨A,hA,dA,kA,U,hG⟩:=given_of_laid (W:=W) hL
 refine (fnRead_core v0 v1 v5 x2 x3 x4 l0 l1 z5 W A hA dA kA U hG a0 a1 a5 (by omega)).mono fun e W' ⟨he,hx⟩ => ?_
 subst he
 exact ⟨_,rfl,post_true hW' hx (by kernel_rfl) rfl rfl (by rw [Tryz.params9];decide +kernel)⟩
set_option maxRecDepth 100000 in
theorem reads (os : Os) {H : Type} (enc : TypeId × Value → H) : ∃ places,DataW.whole enc Tryz.prog ((laidWorld os).forCall (fun _ _ => 0) ⟨#[],#[.slice none 0 0,.slice none 0 0,.bool false,.int .i64 0,.int .i64 0,.slice none 0 0],[]⟩).memory Tryz.f9.params.toList Rows.fnReadSpec.vars false (#[.slice none 0 0,.slice none 0 0,.bool false,.int .i64 0,.int .i64 0,.slice none 0 0] : Array Value).toList 8 = some ([.nil,.nil,.lit (.bool false),.lit (.int .i64 0),.lit (.int .i64 0),.nil],[],places) :=
 ⟨[],by kernel_rfl⟩
set_option maxRecDepth 100000 in
theorem liftedUpto (os : Os) (started : os.Started) (H : Type) (enc : TypeId × Value → H) (F : Stop.Interp) :
  ReturnsInHanded {} Tryz.checked os 9 .any ((Rows.OpenSpec.upto Rows.fnReadSpec).preRow enc Tryz.prog Tryz.f9 Rows.fnReadUptoRow.domain false Rows.fnReadUptoRow.laid) (((Rows.OpenSpec.upto Rows.fnReadSpec).at F).post enc Tryz.prog Tryz.f9 false true false false):=by
 obtain ⟨places,hx⟩:=reads os enc
 refine returnsInHanded_of_row (C:=Tryz.checked) (s:=Rows.OpenSpec.upto Rows.fnReadSpec) own started (by kernel_rfl) Tryz.func9
  (witness_row_atRef (enc:=enc) (C:=Tryz.checked) false (laidWorld os) #[.slice none 0 0,.slice none 0 0,.bool false,.int .i64 0,.int .i64 0,.slice none 0 0] rfl (by kernel_rfl) (by kernel_rfl) (by kernel_rfl)
    (OpenSpec.preRow_of_cond 8 hx (by kernel_rfl) (fun k hk => by cases hk;kernel_rfl) (by kernel_rfl) (laid_met os _))) ?_
 intro W base args ds gs before hval hW _ hcond _ hL _ _
 exact contract H enc W base args ds gs before hval hW (hcond _ rfl) hL
set_option maxRecDepth 100000 in
theorem saidUpto : Rows.FnReadUptoSaid :=
 OpenClaim.holds_of_cond 9 Tryz.f9 rfl rfl rfl rfl rfl rfl rfl ⟨rfl,rfl,rfl,rfl,rfl⟩ rfl rfl rfl rfl rfl (by kernel_rfl) Tryz.func9 (by kernel_rfl)
  (of_decide_eq_true (by kernel_rfl)) (by unfold Func.isWrapper;first | (rw [if_pos (by decide +kernel)];kernel_rfl) | (rw [if_neg (by decide +kernel)];exact ⟨rfl,rfl⟩))
  (fun os started H enc _ F => by rw [OpenClaim.pre_eq_preRow];exact liftedUpto os started H enc F)
set_option maxRecDepth 100000 in
theorem plain (f : FuncId) (fn : Func) (hf : Tryz.pinned.checked.prog.funcNamed "cratestrap/laws.FnRead" = some f) (hfn : Tryz.pinned.checked.prog.funcs[f]? = some fn) :
  true = Tryz.pinned.checked.prog.looks [] ∧ ∀ (j : Nat) t,fn.params[j]? = some t → Tryz.pinned.checked.prog.wantsStandIn t = false:=by
 obtain rfl : f = 9 := Option.some.inj ((show Tryz.prog.funcNamed "cratestrap/laws.FnRead" = some 9 by kernel_rfl).symm.trans hf) |>.symm
 obtain rfl : fn = Tryz.f9:=(Option.some.inj (Tryz.func9.symm.trans hfn)).symm
 refine ⟨by kernel_rfl,fun j t ht => ?_⟩
 rw [Tryz.params9] at ht
 have hm : t ∈ [(22 : TypeId),22,4,3,3,23]:=by simpa using Array.mem_of_getElem? ht
 have key : ∀ t ∈ [(22 : TypeId),22,4,3,3,23],Tryz.prog.wantsStandIn t = false:=by decide +kernel
 exact key t hm
set_option maxRecDepth 100000 in
theorem cardUpto : Rows.FnReadUptoCardSaid :=
 Claim7.holds_tied_plain_at .later [] _ _ _ _ saidUpto (fun _ h => by cases h) (by kernel_rfl) (fun _ h => by cases h) fnReadUpto_row_tie rfl ⟨rfl,rfl⟩ (by kernel_rfl) rfl plain (by kernel_rfl)
end Go.Proofs.YthpapbilhjobnaaGreatDoor.fnRead
namespace Go.Proofs.YthpapbilhjobnaaGreatDoor
theorem fnRead_upto_card : Rows.FnReadUptoCardSaid:=fnRead.cardUpto
end Go.Proofs.YthpapbilhjobnaaGreatDoor
