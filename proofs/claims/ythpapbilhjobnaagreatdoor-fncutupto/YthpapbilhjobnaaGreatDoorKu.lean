/-
  The law FnCut of the streams of zlib, where what it reads is of bulk at most 1048576: the walk of its code over the proved contracts of reader and encoder, its row and its card. Conditions: the row's own; what the package-level variables hold is tied to the program's text.
-/
import Derived.Test.YthpapbilhjobnaaGreatDoorM22
import Derived.Test.YthpapbilhjobnaaGreatDoorM23
set_option linter.unusedVariables false
set_option linter.unusedSimpArgs false
namespace Go.Proofs.YthpapbilhjobnaaGreatDoor
open Go.RowKit Pu
def True1 (w : World) (e : Ending) (w' : World) : Prop:=e = .returned (.bool true) ∧ Ext (fun _ => False) w w'
theorem reads_made {has : Bool} {dict data : List UInt8} {a b : Nat} {X : List Bool} {bs : List UInt8} {g cap : Nat} {w w1 : World} (h : Made w has dict data a b X bs g cap w1) (w2 : World) (he : Ext (fun _ => False) w1 w2)
  (A hA dA kA U : Addr) (hG : Given w2 A hA dA kA U) (dv : Value) (D : List UInt8) (hasU : Bool) (hv : Arg w2 dv D) (hD : D.length ≤ 1099511627776) (hDd : has = true → hasU = true ∧ D = dict) (wv : Value) (hw : Arg w2 wv data) (hd : data.length ≤ 2097152) (n : Nat) (hn : (streamOf a b has dict data bs).length = n) :
  Calls Tryz.prog 15 #[.slice (some ⟨g,0,none⟩) n cap,dv,.bool hasU,wv] w2 (True1 w2):=by
 have hl:=stream_len a b has dict data bs
 refine reads_any g 0 n cap dv wv hasU data w2 (by rw [← hn,hl];split <;> omega) hw.rd ?_
 rw [← hn]
 exact (unpack_all h.enc _ [] (by rw [List.append_nil]) g 0 cap w2 (h.held.1.ext he (fun e => e)) A hA dA kA U hG dv D hasU hv hD hDd (.slice none 0 0) [] (by simp) (by simp) (Rd.nil w2) (fun b hb => by cases hb) hd).mono (fun e w' ⟨vo,h1,h2,h3⟩ => ⟨vo,h1,h2,h3⟩)
set_option maxRecDepth 100000 in
set_option maxHeartbeats 4000000 in
theorem fnRead_core (dv fv wv : Value) (has : Bool) (win lvl : Int) (data dict : List UInt8) (zs : List Int) (w : World) (A hA dA kA U : Addr) (hG : Given w A hA dA kA U) (hd : Arg w dv data) (hf : Arg w fv dict) (hw : Num w wv zs) (hsz : data.length + dict.length ≤ 2097152) :
  Calls Tryz.prog 9 #[dv,fv,.bool has,.int .i64 win,.int .i64 lvl,wv] w (True1 w):=by
 have HZ:=Lib.hid (zlib_any dv fv wv has win lvl data dict zs w hd.rd hf.rd hw.rd hw.len hsz hw.low)
 have HG:=Lib.hid hG;have HD:=Lib.hid hd;have HF:=Lib.hid hf;have HSZ:=Lib.hid hsz
 clear hG hd hf hw hsz
 go_enter Tryz.func9,Tryz.ntmps9
 go_wp2_with fail
 refine HZ.out.mono ?_
 intro e w1 hp
 obtain ⟨a,b,X,bs,g,cap,rfl,hM⟩:=hp.made
 obtain ⟨n,hn⟩ : ∃ n,(streamOf a b has dict data bs).length = n:=⟨_,rfl⟩
 rw [hn]
 have HR:=Lib.hid (reads_made hM w1 (Ext.refl _ _) A hA dA kA U (HG.out.ext hM.ext) fv dict has (HF.out.ext hM.ext) (by have:=HSZ.out;omega) (fun h => ⟨h,rfl⟩) dv (HD.out.ext hM.ext) (by have:=HSZ.out;omega) n hn)
 have HE:=Lib.hid hM.ext
 clear hp hM hn
 go_wp2_with fail
 refine HR.out.mono ?_
 rintro e w2 ⟨rfl,he⟩
 have HE2:=Lib.hid (HE.out.trans he)
 clear he
 go_wp2_with fail
 go_ret
 exact ⟨rfl,HE2.out⟩
set_option maxRecDepth 100000 in
set_option maxHeartbeats 4000000 in
theorem fnIgnored_core (dv fv wv : Value) (data dict : List UInt8) (zs : List Int) (w : World) (A hA dA kA U : Addr) (hG : Given w A hA dA kA U) (hd : Arg w dv data) (hf : Arg w fv dict) (hw : Num w wv zs) (hsz : data.length + dict.length ≤ 2097152) :
  Calls Tryz.prog 7 #[dv,fv,wv] w (True1 w):=by
 have HZ:=Lib.hid (zlib_any dv (.slice none 0 0) wv false 7 1 data [] zs w hd.rd (Rd.nil w) hw.rd hw.len (by simp;omega) hw.low)
 have HG:=Lib.hid hG;have HD:=Lib.hid hd;have HF:=Lib.hid hf;have HSZ:=Lib.hid hsz
 clear hG hd hf hw hsz
 go_enter Tryz.func7,Tryz.ntmps7
 go_wp2_with fail
 refine HZ.out.mono ?_
 intro e w1 hp
 obtain ⟨a,b,X,bs,g,cap,rfl,hM⟩:=hp.made
 obtain ⟨n,hn⟩ : ∃ n,(streamOf a b false [] data bs).length = n:=⟨_,rfl⟩
 rw [hn]
 have HR:=Lib.hid (reads_made hM w1 (Ext.refl _ _) A hA dA kA U (HG.out.ext hM.ext) fv dict true (HF.out.ext hM.ext) (by have:=HSZ.out;omega) (fun h => by cases h) dv (HD.out.ext hM.ext) (by have:=HSZ.out;omega) n hn)
 have HE:=Lib.hid hM.ext
 clear hp hM hn
 go_wp2_with fail
 refine HR.out.mono ?_
 rintro e w2 ⟨rfl,he⟩
 have HE2:=Lib.hid (HE.out.trans he)
 clear he
 go_wp2_with fail
 go_ret
 exact ⟨rfl,HE2.out⟩
end Go.Proofs.YthpapbilhjobnaaGreatDoor
namespace Go.Proofs.YthpapbilhjobnaaGreatDoor
open Go.RowKit Pu
theorem FaultIs.early_four {hA dA kA U : Addr} {n : Nat} (h : FaultIs hA dA kA U (.iface 175 (.pointer (some U))) n) (h1 : hA ≠ U) (h2 : dA ≠ U) (h3 : kA ≠ U) : n = 4:=by
 generalize hv : Value.iface 175 (.pointer (some U)) = v at h
 cases h with
 | none => cases hv
 | header => simp only [Value.iface.injEq,Value.pointer.injEq,Option.some.injEq,true_and] at hv;exact absurd hv.symm h1
 | dictionary => simp only [Value.iface.injEq,Value.pointer.injEq,Option.some.injEq,true_and] at hv;exact absurd hv.symm h2
 | sum => simp only [Value.iface.injEq,Value.pointer.injEq,Option.some.injEq,true_and] at hv;exact absurd hv.symm h3
 | early => rfl
 | data z => simp at hv
theorem Enc.cut {dict data : List UInt8} {a b : Nat} {X : List Bool} {bs : List UInt8} (h : Enc false dict data a b X bs) (src ext : List UInt8) (hs : src ++ ext = streamOf a b false dict data bs) (hx : ext ≠ [])
  {A hA dA kA U : Addr} {w0 w w' : World} (hG : Glo w0 A hA dA kA U) {e : Ending} {g : Blkc} (hU : UPost src ext [] hA dA kA U g (fourB (adler data)) w e w') :
  ∃ (vo : Value) (z : Nat),e = .returned (.tuple #[vo,.int .i64 4,.int .i64 z]) ∧ Ext (fun _ => False) w w':=by
 obtain ⟨hg,hf⟩:=head_good h.head
 obtain ⟨vo,fault,rs,he,hE,hU⟩:=hU
 have key : fault = 4:=by
  rcases hU with ⟨er,hw,hfa,_⟩ | ⟨p,D',L,hz,hr,hok,hle,hend⟩
  ·cases hw with
   | short hl => exact hfa.early_four hG.n4.1 hG.n4.2.1 hG.n4.2.2
   | header x y s hxx hgx =>
    rw [hxx,stream_false] at hs
    simp only [List.cons_append,List.cons.injEq] at hs
    rw [hs.1,hs.2.1] at hgx
    exact absurd hg hgx
   | shortDict x y s hxx hgx hfx hl => exact hfa.early_four hG.n4.1 hG.n4.2.1 hG.n4.2.2
   | dict x y c0 c1 c2 c3 s hxx hgx hfx hn =>
    rw [hxx,stream_false] at hs
    simp only [List.cons_append,List.cons.injEq] at hs
    rw [hs.2.1] at hfx
    have:=hf.1 hfx
    cases this
  ·cases hend with
   | data rest hn => rfl
   | cut rest hn => rfl
   | sum rest t0 t1 t2 t3 r hh hqq hn p' hp =>
    exfalso
    have : r = []:=by
     have:=congrArg List.length hh
     simp [fourB] at this
     exact this
    rw [this] at hp
    exact hx (List.append_eq_nil_iff.1 hp).2
   | eof t0 t1 t2 t3 r hh hqq hn p' hp =>
    exfalso
    have : r = []:=by
     have:=congrArg List.length hh
     simp [fourB] at this
     exact this
    rw [this] at hp
    exact hx (List.append_eq_nil_iff.1 hp).2
 subst key
 exact ⟨vo,rs,he,hE⟩
set_option maxRecDepth 100000 in
set_option maxHeartbeats 8000000 in
theorem fnCut_core (dv wv : Value) (x : Int) (data : List UInt8) (zs : List Int) (w : World) (A hA dA kA U : Addr) (hG : Given w A hA dA kA U) (hd : Arg w dv data) (hw : Num w wv zs) (hwf : (Lit.int .i64 x).wf = true) (hsz : data.length ≤ 2097152) :
  Calls Tryz.prog 5 #[dv,.int .i64 x,wv] w (True1 w):=by
 have HZ:=Lib.hid (zlib_any dv (.slice none 0 0) wv false 7 1 data [] zs w hd.rd (Rd.nil w) hw.rd hw.len (by simp;omega) hw.low)
 have HG:=Lib.hid hG;have HD:=Lib.hid hd;have HSZ:=Lib.hid hsz
 clear hG hd hw hsz
 go_enter Tryz.func5,Tryz.ntmps5
 go_wp2_with fail
 refine HZ.out.mono ?_
 intro e w1 hp
 obtain ⟨a,b,X,bs,g,cap,rfl,hM⟩:=hp.made
 obtain ⟨n,hn⟩ : ∃ n,(streamOf a b false [] data bs).length = n:=⟨_,rfl⟩
 have hn0 : 0 < n:=by rw [← hn,stream_len];split <;> omega
 have hnb : n ≤ 1099511627776:=by rw [← hn];exact hM.held.1.small
 obtain ⟨hk0,hk1⟩:=tmod_in x (n : Int) (by omega) (by omega)
 obtain ⟨k,hk⟩:=Int.eq_ofNat_of_zero_le hk0
 rw [hk] at hk1
 have hkn : k < n:=by omega
 have hu:=unpack_enc hM.enc ((streamOf a b false [] data bs).take k) ((streamOf a b false [] data bs).drop k) (fourB (adler data)) (by simp [fourB]) (by rw [List.take_append_drop];exact stream_split a b false [] data bs) g 0 cap w1
  ⟨fun j y hy => hM.held.1.cells j y (by
    rw [List.getElem?_map,List.getElem?_take] at hy
    split at hy
    ·rw [List.getElem?_map];exact hy
    ·cases hy),by rw [List.length_take];omega,by rw [List.length_take];have:=hM.held.1.room;omega,hM.held.1.lt⟩
  A hA dA kA U (HG.out.ext hM.ext) (.slice none 0 0) [] false (Arg.nil w1) (by simp) (.slice none 0 0) [] (by simp) (by simp) (Rd.nil w1) (fun b hb => by cases hb) HSZ.out
 have hu2:=hu.mono (fun e w' h => hM.enc.cut _ _ (List.take_append_drop k _) (by
  intro e2
  have:=congrArg List.length e2
  rw [List.length_drop,hn] at this
  simp at this
  omega) (HG.out.ext hM.ext).glo h)
 rw [List.length_take,hn,Nat.min_eq_left (by omega)] at hu2
 have HU:=Lib.hid hu2
 rw [hn]
 have HM:=Lib.hid hM;have HN:=Lib.hid hn
 have hni : ¬ (n : Int) = 0:=by omega
 have hncap : n ≤ cap:=by rw [← hn];exact hM.held.1.room
 have hkc : k ≤ cap:=by omega
 have hkci : (k : Int) ≤ (cap : Int):=by omega
 clear hp hM hn hu hu2 hk0
 go_wp2_with fail
 refine HU.out.mono ?_
 rintro e w2 ⟨vo,z,rfl,he2⟩
 have hE2:=HM.out.ext.trans he2
 have HR:=Lib.hid (reads_made HM.out w2 he2 A hA dA kA U (HG.out.ext hE2) (.slice none 0 0) [] false (Arg.nil w2) (by simp) (fun h => by cases h) dv (HD.out.ext hE2) HSZ.out n HN.out)
 have HE2:=Lib.hid hE2
 clear he2 hE2
 go_wp2_with fail
 refine HR.out.mono ?_
 rintro e w3 ⟨rfl,he3⟩
 have HE3:=Lib.hid (HE2.out.trans he3)
 clear he3
 go_wp2_with fail
 go_ret
 exact ⟨rfl,HE3.out⟩
end Go.Proofs.YthpapbilhjobnaaGreatDoor
namespace Go.Proofs.YthpapbilhjobnaaGreatDoor.fnCut
open Go.ChangeShapes Go.WideShapes Go.ChangeAt Go.RowKit
set_option maxRecDepth 100000 in
theorem contract (H : Type) (enc : TypeId × Value → H) (W : World) (base : Nat) (args : Array Value) (ds gs : List (DataW H)) (before : List MemPlace)
  (hval : ∀ (j : Nat) t v,Tryz.f5.params[j]? = some t → args[j]? = some v → Value.okWide Tryz.prog W .any base t v)
  (hW : DataW.Whole enc Tryz.prog Tryz.f5.params.toList Rows.fnCutSpec.vars false W args.toList ds gs before) (hk : Rows.uptoSmall H (ds ++ gs) = true) (hL : laidMetH Tryz.prog Rows.fnCutUptoRow.laid W) :
  Calls Tryz.prog 5 args W fun e W' => ∃ v,e = .returned v ∧ Rows.fnCutSpec.post enc Tryz.prog Tryz.f5 false true false false W args v W':=by
 have hW':=hW
 have hbk:=bulk_bound hk
 obtain ⟨p,q,hA0,hV,rfl,hfz,hnd⟩:=hW
 have hA1 : DataW.TrodAll enc Tryz.prog W 0 (fun _ => true) true Tryz.f5.params.toList args.toList ds p:=hA0
 rw [Tryz.params5] at hA1 hval
 obtain ⟨v0,vs0,d0,ds0,p0,q0,hargs,rfl,rfl,h0,r0⟩:=trodAll_cons hA1
 obtain ⟨v1,vs1,d1,ds1,p1,q1,rfl,rfl,rfl,h1,r1⟩:=trodAll_cons r0
 obtain ⟨v2,vs2,d2,ds2,p2,q2,rfl,rfl,rfl,h2,r2⟩:=trodAll_cons r1
 obtain ⟨rfl,rfl,rfl⟩:=trodAll_nil r2
 obtain rfl : args = #[v0,v1,v2]:=by cases args;simp_all
 obtain ⟨rfl,rfl⟩:=trodVars_none hV
 simp only [List.append_nil,Rows.uptoBulkAll] at hbk
 obtain ⟨l0,a0,b0⟩:=arg_bytes (hval 0 22 v0 rfl rfl) h0
 obtain ⟨x1,rfl,rfl,rfl,w1⟩:=open_int Tryz.underlying3 (hval 1 3 v1 rfl rfl) h1
 obtain ⟨z2,a2⟩:=arg_nums (hval 2 23 v2 rfl rfl) h2 (by omega)
 obtain ⟨A,hA,dA,kA,U,hG⟩:=given_of_laid (W:=W) hL
 refine (fnCut_core v0 v2 x1 l0 z2 W A hA dA kA U hG a0 a2 w1 (by omega)).mono fun e W' ⟨he,hx⟩ => ?_
 subst he
 exact ⟨_,rfl,post_true hW' hx (by kernel_rfl) rfl rfl (by rw [Tryz.params5];decide +kernel)⟩
set_option maxRecDepth 100000 in
theorem reads (os : Os) {H : Type} (enc : TypeId × Value → H) : ∃ places,DataW.whole enc Tryz.prog ((laidWorld os).forCall (fun _ _ => 0) ⟨#[],#[.slice none 0 0,.int .i64 0,.slice none 0 0],[]⟩).memory Tryz.f5.params.toList Rows.fnCutSpec.vars false (#[.slice none 0 0,.int .i64 0,.slice none 0 0] : Array Value).toList 8 = some ([.nil,.lit (.int .i64 0),.nil],[],places) :=
 ⟨[],by kernel_rfl⟩
set_option maxRecDepth 100000 in
theorem liftedUpto (os : Os) (started : os.Started) (H : Type) (enc : TypeId × Value → H) (F : Stop.Interp) :
  ReturnsInHanded {} Tryz.checked os 5 .any ((Rows.OpenSpec.upto Rows.fnCutSpec).preRow enc Tryz.prog Tryz.f5 Rows.fnCutUptoRow.domain false Rows.fnCutUptoRow.laid) (((Rows.OpenSpec.upto Rows.fnCutSpec).at F).post enc Tryz.prog Tryz.f5 false true false false):=by
 obtain ⟨places,hx⟩:=reads os enc
 refine returnsInHanded_of_row (C:=Tryz.checked) (s:=Rows.OpenSpec.upto Rows.fnCutSpec) own started (by kernel_rfl) Tryz.func5
  (witness_row_atRef (enc:=enc) (C:=Tryz.checked) false (laidWorld os) #[.slice none 0 0,.int .i64 0,.slice none 0 0] rfl (by kernel_rfl) (by kernel_rfl) (by kernel_rfl)
    (OpenSpec.preRow_of_cond 8 hx (by kernel_rfl) (fun k hk => by cases hk;kernel_rfl) (by kernel_rfl) (laid_met os _))) ?_
 intro W base args ds gs before hval hW _ hcond _ hL _ _
 exact contract H enc W base args ds gs before hval hW (hcond _ rfl) hL
set_option maxRecDepth 100000 in
theorem saidUpto : Rows.FnCutUptoSaid :=
 OpenClaim.holds_of_cond 5 Tryz.f5 rfl rfl rfl rfl rfl rfl rfl ⟨rfl,rfl,rfl,rfl,rfl⟩ rfl rfl rfl rfl rfl (by kernel_rfl) Tryz.func5 (by kernel_rfl)
  (of_decide_eq_true (by kernel_rfl)) (by unfold Func.isWrapper;first | (rw [if_pos (by decide +kernel)];kernel_rfl) | (rw [if_neg (by decide +kernel)];exact ⟨rfl,rfl⟩))
  (fun os started H enc _ F => by rw [OpenClaim.pre_eq_preRow];exact liftedUpto os started H enc F)
set_option maxRecDepth 100000 in
theorem plain (f : FuncId) (fn : Func) (hf : Tryz.pinned.checked.prog.funcNamed "cratestrap/laws.FnCut" = some f) (hfn : Tryz.pinned.checked.prog.funcs[f]? = some fn) :
  true = Tryz.pinned.checked.prog.looks [] ∧ ∀ (j : Nat) t,fn.params[j]? = some t → Tryz.pinned.checked.prog.wantsStandIn t = false:=by
 obtain rfl : f = 5 := Option.some.inj ((show Tryz.prog.funcNamed "cratestrap/laws.FnCut" = some 5 by kernel_rfl).symm.trans hf) |>.symm
 obtain rfl : fn = Tryz.f5:=(Option.some.inj (Tryz.func5.symm.trans hfn)).symm
 refine ⟨by kernel_rfl,fun j t ht => ?_⟩
 rw [Tryz.params5] at ht
 have hm : t ∈ [(22 : TypeId),3,23]:=by simpa using Array.mem_of_getElem? ht
 have key : ∀ t ∈ [(22 : TypeId),3,23],Tryz.prog.wantsStandIn t = false:=by decide +kernel
 exact key t hm
set_option maxRecDepth 100000 in
theorem cardUpto : Rows.FnCutUptoCardSaid :=
 Claim7.holds_tied_plain_at .later [] _ _ _ _ saidUpto (fun _ h => by cases h) (by kernel_rfl) (fun _ h => by cases h) fnCutUpto_row_tie rfl ⟨rfl,rfl⟩ (by kernel_rfl) rfl plain (by kernel_rfl)
end Go.Proofs.YthpapbilhjobnaaGreatDoor.fnCut
namespace Go.Proofs.YthpapbilhjobnaaGreatDoor
theorem fnCut_upto_card : Rows.FnCutUptoCardSaid:=fnCut.cardUpto
end Go.Proofs.YthpapbilhjobnaaGreatDoor
