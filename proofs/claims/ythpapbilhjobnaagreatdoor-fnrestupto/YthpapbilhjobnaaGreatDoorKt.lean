/-
  The law FnRest of the streams of zlib, where what it reads is of bulk at most 1048576: the walk of its code over the proved contracts of reader and encoder, its row and its card. Conditions: the row's own; what the package-level variables hold is tied to the program's text.
-/
import Derived.Test.YthpapbilhjobnaaGreatDoorM22
import Derived.Test.YthpapbilhjobnaaGreatDoorM23
set_option linter.unusedVariables false
set_option linter.unusedSimpArgs false
namespace Go.Proofs.YthpapbilhjobnaaGreatDoor
open Go.RowKit Pu
def True1 (w : World) (e : Ending) (w' : World) : Prop:=e = .returned (.bool true) ∧ Ext (fun _ => False) w w'
theorem reads_made {has : Bool} {dict data : List UInt8} {a b : Nat} {X : List Bool} {bs : List UInt8} {g cap : Nat} {w w1 : World} (h : Made w has dict data a b X bs g cap w1) (w2 : World) (he : Ext (fun _ => False) w1 w2)
  (A hA dA kA U : Addr) (hG : Given w2 A hA dA kA U) (dv : Value) (D : List UInt8) (hasU : Bool) (hv : Arg w2 dv D) (hD : D.length ≤ 1099511627776) (hDd : has = true → hasU = true ∧ D = dict) (wv : Value) (hw : Arg w2 wv data) (hd : data.length ≤ 2097152) (n : Nat) (hn : (streamOf a b has dict data bs).length = n) :
  Calls Tryz.prog 15 #[.slice (some ⟨g,0,none⟩) n cap,dv,.bool hasU,wv] w2 (True1 w2):=by
 have hl:=stream_len a b has dict data bs
 refine reads_any g 0 n cap dv wv hasU data w2 (by rw [← hn,hl];split <;> omega) hw.rd ?_
 rw [← hn]
 exact (unpack_all h.enc _ [] (by rw [List.append_nil]) g 0 cap w2 (h.held.1.ext he (fun e => e)) A hA dA kA U hG dv D hasU hv hD hDd (.slice none 0 0) [] (by simp) (by simp) (Rd.nil w2) (fun b hb => by cases hb) hd).mono (fun e w' ⟨vo,h1,h2,h3⟩ => ⟨vo,h1,h2,h3⟩)
set_option maxRecDepth 100000 in
set_option maxHeartbeats 4000000 in
theorem fnRead_core (dv fv wv : Value) (has : Bool) (win lvl : Int) (data dict : List UInt8) (zs : List Int) (w : World) (A hA dA kA U : Addr) (hG : Given w A hA dA kA U) (hd : Arg w dv data) (hf : Arg w fv dict) (hw : Num w wv zs) (hsz : data.length + dict.length ≤ 2097152) :
  Calls Tryz.prog 9 #[dv,fv,.bool has,.int .i64 win,.int .i64 lvl,wv] w (True1 w):=by
 have HZ:=Lib.hid (zlib_any dv fv wv has win lvl data dict zs w hd.rd hf.rd hw.rd hw.len hsz hw.low)
 have HG:=Lib.hid hG;have HD:=Lib.hid hd;have HF:=Lib.hid hf;have HSZ:=Lib.hid hsz
 clear hG hd hf hw hsz
 go_enter Tryz.func9,Tryz.ntmps9
 go_wp2_with fail
 refine HZ.out.mono ?_
 intro e w1 hp
 obtain ⟨a,b,X,bs,g,cap,rfl,hM⟩:=hp.made
 obtain ⟨n,hn⟩ : ∃ n,(streamOf a b has dict data bs).length = n:=⟨_,rfl⟩
 rw [hn]
 have HR:=Lib.hid (reads_made hM w1 (Ext.refl _ _) A hA dA kA U (HG.out.ext hM.ext) fv dict has (HF.out.ext hM.ext) (by have:=HSZ.out;omega) (fun h => ⟨h,rfl⟩) dv (HD.out.ext hM.ext) (by have:=HSZ.out;omega) n hn)
 have HE:=Lib.hid hM.ext
 clear hp hM hn
 go_wp2_with fail
 refine HR.out.mono ?_
 rintro e w2 ⟨rfl,he⟩
 have HE2:=Lib.hid (HE.out.trans he)
 clear he
 go_wp2_with fail
 go_ret
 exact ⟨rfl,HE2.out⟩
set_option maxRecDepth 100000 in
set_option maxHeartbeats 4000000 in
theorem fnIgnored_core (dv fv wv : Value) (data dict : List UInt8) (zs : List Int) (w : World) (A hA dA kA U : Addr) (hG : Given w A hA dA kA U) (hd : Arg w dv data) (hf : Arg w fv dict) (hw : Num w wv zs) (hsz : data.length + dict.length ≤ 2097152) :
  Calls Tryz.prog 7 #[dv,fv,wv] w (True1 w):=by
 have HZ:=Lib.hid (zlib_any dv (.slice none 0 0) wv false 7 1 data [] zs w hd.rd (Rd.nil w) hw.rd hw.len (by simp;omega) hw.low)
 have HG:=Lib.hid hG;have HD:=Lib.hid hd;have HF:=Lib.hid hf;have HSZ:=Lib.hid hsz
 clear hG hd hf hw hsz
 go_enter Tryz.func7,Tryz.ntmps7
 go_wp2_with fail
 refine HZ.out.mono ?_
 intro e w1 hp
 obtain ⟨a,b,X,bs,g,cap,rfl,hM⟩:=hp.made
 obtain ⟨n,hn⟩ : ∃ n,(streamOf a b false [] data bs).length = n:=⟨_,rfl⟩
 rw [hn]
 have HR:=Lib.hid (reads_made hM w1 (Ext.refl _ _) A hA dA kA U (HG.out.ext hM.ext) fv dict true (HF.out.ext hM.ext) (by have:=HSZ.out;omega) (fun h => by cases h) dv (HD.out.ext hM.ext) (by have:=HSZ.out;omega) n hn)
 have HE:=Lib.hid hM.ext
 clear hp hM hn
 go_wp2_with fail
 refine HR.out.mono ?_
 rintro e w2 ⟨rfl,he⟩
 have HE2:=Lib.hid (HE.out.trans he)
 clear he
 go_wp2_with fail
 go_ret
 exact ⟨rfl,HE2.out⟩
end Go.Proofs.YthpapbilhjobnaaGreatDoor
namespace Go.Proofs.YthpapbilhjobnaaGreatDoor
open Go.RowKit Pu
theorem sizeOf1_in (zs : List Int) : ∀ s ∈ zs.map sizeOf1,1 ≤ s ∧ s ≤ 1000:=by
 intro s hs
 obtain ⟨z,_,rfl⟩:=List.mem_map.1 hs
 have:=(size_words z).2.2
 unfold sizeOf1
 omega
set_option maxRecDepth 100000 in
set_option maxHeartbeats 8000000 in
theorem fnSizes_core (dv wv lv : Value) (data : List UInt8) (zs ls : List Int) (w : World) (A hA dA kA U : Addr) (hG : Given w A hA dA kA U) (hd : Arg w dv data) (hw : Num w wv zs) (hl : Num w lv ls) (hsz : data.length ≤ 2097152) :
  Calls Tryz.prog 11 #[dv,wv,lv] w (True1 w):=by
 have HZ:=Lib.hid (zlib_any dv (.slice none 0 0) wv false 7 0 data [] zs w hd.rd (Rd.nil w) hw.rd hw.len (by simp;omega) hw.low)
 have HG:=Lib.hid hG;have HD:=Lib.hid hd;have HL:=Lib.hid hl;have HSZ:=Lib.hid hsz
 clear hG hd hw hl hsz
 go_enter Tryz.func11,Tryz.ntmps11
 go_wp2_with fail
 refine HZ.out.mono ?_
 intro e w1 hp
 obtain ⟨a,b,X,bs,g,cap,rfl,hM⟩:=hp.made
 obtain ⟨n,hn⟩ : ∃ n,(streamOf a b false [] data bs).length = n:=⟨_,rfl⟩
 have hn0 : 0 < n:=by rw [← hn,stream_len];split <;> omega
 rw [hn]
 have HS:=Lib.hid (sizes_any lv ls w1 HL.out.len (HL.out.rd.ext hM.ext (fun _ _ e => e)))
 have HM:=Lib.hid hM;have HN:=Lib.hid hn
 clear hp hM hn
 go_wp2_with fail
 refine HS.out.mono ?_
 rintro e w2 ⟨vo,rfl,hown,he2⟩
 have hE2:=HM.out.ext.trans he2
 have hu:=unpack_all HM.out.enc _ [] (by rw [List.append_nil]) g 0 cap w2 (HM.out.held.1.ext he2 (fun e => e)) A hA dA kA U (HG.out.ext hE2) (.slice none 0 0) [] false (Arg.nil w2) (by simp) (fun h => by cases h) vo (ls.map sizeOf1) (sizeOf1_in ls) (by rw [List.length_map];exact HL.out.len) (Rd.of_owns hown) (fun b hb => (hown.lt b hb).2) HSZ.out
 rw [HN.out] at hu
 have HU:=Lib.hid hu
 have HE2:=Lib.hid hE2;have he2':=Lib.hid he2
 clear hown he2 hE2 hu
 go_wp2_with fail
 refine HU.out.mono ?_
 rintro e w3 ⟨vr,rfl,hr,he3⟩
 have hE3:=HE2.out.trans he3
 have HA:=Lib.hid (same_any vr dv data w3 hr (HD.out.rd.ext hE3 (fun _ _ e => e)))
 have HR:=Lib.hid (reads_made HM.out w3 (he2'.out.trans he3) A hA dA kA U (HG.out.ext hE3) (.slice none 0 0) [] false (Arg.nil w3) (by simp) (fun h => by cases h) dv (HD.out.ext hE3) HSZ.out n HN.out)
 have HE3:=Lib.hid hE3
 have hni : (0 : Int) < (n : Int):=by omega
 clear hr he3 hE3
 go_wp2_with fail
 refine HA.out.mono ?_
 rintro e w4 ⟨rfl,rfl⟩
 go_wp2_with fail
 refine HR.out.mono ?_
 rintro e w4 ⟨rfl,he4⟩
 have HE4:=Lib.hid (HE3.out.trans he4)
 clear he4
 go_wp2_with fail
 go_ret
 exact ⟨rfl,HE4.out⟩
set_option maxRecDepth 100000 in
set_option maxHeartbeats 8000000 in
theorem fnRest_core (dv bv wv : Value) (data behind : List UInt8) (zs : List Int) (w : World) (A hA' dA kA U : Addr) (hG : Given w A hA' dA kA U) (hd : Arg w dv data) (hb : Arg w bv behind) (hw : Num w wv zs) (hsz : data.length + behind.length ≤ 2097152) :
  Calls Tryz.prog 10 #[dv,bv,wv] w (True1 w):=by
 obtain ⟨i0,hi0,hz0,hz1,hz2⟩:=info_parts Tryz.info5
 have HZ:=Lib.hid (zlib_any dv (.slice none 0 0) wv false 7 2 data [] zs w hd.rd (Rd.nil w) hw.rd hw.len (by simp;omega) hw.low)
 have HG:=Lib.hid hG;have HD:=Lib.hid hd;have HB:=Lib.hid hb;have HSZ:=Lib.hid hsz
 obtain ⟨ba,bcap,hbv⟩:=hb.rd.len
 rw [List.length_map] at hbv
 obtain ⟨m,hm⟩ : ∃ m,behind.length = m:=⟨_,rfl⟩
 rw [hm] at hbv hsz
 subst hbv
 have HM0:=Lib.hid hm
 clear hG hd hb hw hm
 go_enter Tryz.func10,Tryz.ntmps10
 go_wp2_with fail
 refine HZ.out.mono ?_
 intro e w1 hp
 obtain ⟨a,b,X,bs,g,cap,rfl,hM⟩:=hp.made
 obtain ⟨n,hn⟩ : ∃ n,(streamOf a b false [] data bs).length = n:=⟨_,rfl⟩
 have hnl:=stream_len a b false [] data bs
 have hbs:=hM.small
 rw [hn] at hnl
 simp only [Bool.false_eq_true,if_false] at hnl
 have hown:=hM.own
 rw [hn] at hown ⊢
 obtain ⟨v2,w2,hr2,hA⟩:=run_append_rd (P:=Tryz.prog) w1 w.heap.size 22 22 5 i0 (.int .u8 0) 1 Tryz.underlying22 hi0 hz0 hz1 hz2 rfl (.slice (some ⟨g,0,none⟩) n cap) ((streamOf a b false [] data bs).map U8) (by rw [List.length_map,hn];exact hown) (.slice ba m bcap) (behind.map U8) (HB.out.rd.ext hM.ext (fun _ _ e => e)) (map_u8_one behind)
  (by rw [List.length_map,List.length_map,hn];simp only [maxLen];have:=HM0.out;omega) (by rw [List.length_map,List.length_map,hn];have:=HM0.out;omega) hM.ext.size
 obtain ⟨g2,c2,rfl,hc2,hcells⟩:=hA.slice (by intro h;cases h)
 have hge:=hA.ge g2 rfl
 have hx12 : Ext (fun _ => False) w w2:=hM.ext.trans' hA.grown (fun i hi e => by have:=(hM.held).2;have e' : some g = some i:=e;injection e' with e';omega)
 have hlen : (List.map U8 (streamOf a b false [] data bs) ++ List.map U8 behind).length = n + m:=by rw [List.length_append,List.length_map,List.length_map,hn,HM0.out]
 rw [hlen] at hc2 hr2
 have hh2 : Held w2 g2 0 c2 (streamOf a b false [] data bs ++ behind):=⟨fun j y hy => by rw [Nat.zero_add];exact hcells j y (by rw [← List.map_append];exact hy),by rw [List.length_append,hn,HM0.out];omega,by rw [List.length_append,hn,HM0.out];exact hc2,hge.2⟩
 have hu:=unpack_all hM.enc _ behind rfl g2 0 c2 w2 hh2 A hA' dA kA U (HG.out.ext hx12) (.slice none 0 0) [] false (Arg.nil w2) (by simp) (fun h => by cases h) (.slice none 0 0) [] (by simp) (by simp) (Rd.nil w2) (fun b hb => by cases hb) (by omega)
 rw [List.length_append,hn,HM0.out] at hu
 have HU:=Lib.hid hu;have HX:=Lib.hid hx12;have HR2:=Lib.hid hr2
 clear hp hM hn hown hA hge hx12 hlen hcells hh2 hu hr2 hc2 hnl hbs
 go_wp2_with (refine wpList_append_run rfl _ _ 22 rfl _ _ _ _ rfl rfl HR2.out ?_)
 refine HU.out.mono ?_
 rintro e w3 ⟨vr,rfl,hr,he3⟩
 have hE3:=HX.out.trans he3
 have HA:=Lib.hid (same_any vr dv data w3 hr (HD.out.rd.ext hE3 (fun _ _ e => e)))
 have HZ2:=Lib.hid (zlib_any (.slice none 0 0) (.slice none 0 0) (.slice none 0 0) false 7 0 [] [] [] w3 (Rd.nil w3) (Rd.nil w3) (Rd.nil w3) (by simp) (by simp) (fun b hb => by cases hb))
 have HE3:=Lib.hid hE3
 clear hr he3 hE3
 go_wp2_with fail
 refine HA.out.mono ?_
 rintro e w4 ⟨rfl,rfl⟩
 go_wp2_with fail
 refine HZ2.out.mono ?_
 intro e w4 hp4
 obtain ⟨a4,b4,X4,bs4,g4,cap4,rfl,hM4⟩:=hp4.made
 obtain ⟨n4,hn4⟩ : ∃ n,(streamOf a4 b4 false [] [] bs4).length = n:=⟨_,rfl⟩
 rw [hn4]
 have hE4:=HE3.out.trans hM4.ext
 have HR:=Lib.hid (reads_made hM4 w4 (Ext.refl _ _) A hA' dA kA U (HG.out.ext hE4) (.slice none 0 0) [] false (Arg.nil w4) (by simp) (fun h => by cases h) (.slice none 0 0) (Arg.nil w4) (by simp) n4 hn4)
 have HE4:=Lib.hid hE4
 clear hp4 hM4 hn4 hE4
 go_wp2_with fail
 refine HR.out.mono ?_
 rintro e w5 ⟨rfl,he5⟩
 have HE5:=Lib.hid (HE4.out.trans he5)
 clear he5
 go_wp2_with fail
 go_ret
 exact ⟨rfl,HE5.out⟩
end Go.Proofs.YthpapbilhjobnaaGreatDoor
namespace Go.Proofs.YthpapbilhjobnaaGreatDoor.fnRest
open Go.ChangeShapes Go.WideShapes Go.ChangeAt Go.RowKit
set_option maxRecDepth 100000 in
theorem contract (H : Type) (enc : TypeId × Value → H) (W : World) (base : Nat) (args : Array Value) (ds gs : List (DataW H)) (before : List MemPlace)
  (hval : ∀ (j : Nat) t v,Tryz.f10.params[j]? = some t → args[j]? = some v → Value.okWide Tryz.prog W .any base t v)
  (hW : DataW.Whole enc Tryz.prog Tryz.f10.params.toList Rows.fnRestSpec.vars false W args.toList ds gs before) (hk : Rows.uptoSmall H (ds ++ gs) = true) (hL : laidMetH Tryz.prog Rows.fnRestUptoRow.laid W) :
  Calls Tryz.prog 10 args W fun e W' => ∃ v,e = .returned v ∧ Rows.fnRestSpec.post enc Tryz.prog Tryz.f10 false true false false W args v W':=by
 have hW':=hW
 have hbk:=bulk_bound hk
 obtain ⟨p,q,hA0,hV,rfl,hfz,hnd⟩:=hW
 have hA1 : DataW.TrodAll enc Tryz.prog W 0 (fun _ => true) true Tryz.f10.params.toList args.toList ds p:=hA0
 rw [Tryz.params10] at hA1 hval
 obtain ⟨v0,vs0,d0,ds0,p0,q0,hargs,rfl,rfl,h0,r0⟩:=trodAll_cons hA1
 obtain ⟨v1,vs1,d1,ds1,p1,q1,rfl,rfl,rfl,h1,r1⟩:=trodAll_cons r0
 obtain ⟨v2,vs2,d2,ds2,p2,q2,rfl,rfl,rfl,h2,r2⟩:=trodAll_cons r1
 obtain ⟨rfl,rfl,rfl⟩:=trodAll_nil r2
 obtain rfl : args = #[v0,v1,v2]:=by cases args;simp_all
 obtain ⟨rfl,rfl⟩:=trodVars_none hV
 simp only [List.append_nil,Rows.uptoBulkAll] at hbk
 obtain ⟨l0,a0,b0⟩:=arg_bytes (hval 0 22 v0 rfl rfl) h0
 obtain ⟨l1,a1,b1⟩:=arg_bytes (hval 1 22 v1 rfl rfl) h1
 obtain ⟨z2,a2⟩:=arg_nums (hval 2 23 v2 rfl rfl) h2 (by omega)
 obtain ⟨A,hA,dA,kA,U,hG⟩:=given_of_laid (W:=W) hL
 refine (fnRest_core v0 v1 v2 l0 l1 z2 W A hA dA kA U hG a0 a1 a2 (by omega)).mono fun e W' ⟨he,hx⟩ => ?_
 subst he
 exact ⟨_,rfl,post_true hW' hx (by kernel_rfl) rfl rfl (by rw [Tryz.params10];decide +kernel)⟩
set_option maxRecDepth 100000 in
theorem reads (os : Os) {H : Type} (enc : TypeId × Value → H) : ∃ places,DataW.whole enc Tryz.prog ((laidWorld os).forCall (fun _ _ => 0) ⟨#[],#[.slice none 0 0,.slice none 0 0,.slice none 0 0],[]⟩).memory Tryz.f10.params.toList Rows.fnRestSpec.vars false (#[.slice none 0 0,.slice none 0 0,.slice none 0 0] : Array Value).toList 8 = some ([.nil,.nil,.nil],[],places) :=
 ⟨[],by kernel_rfl⟩
set_option maxRecDepth 100000 in
theorem liftedUpto (os : Os) (started : os.Started) (H : Type) (enc : TypeId × Value → H) (F : Stop.Interp) :
  ReturnsInHanded {} Tryz.checked os 10 .any ((Rows.OpenSpec.upto Rows.fnRestSpec).preRow enc Tryz.prog Tryz.f10 Rows.fnRestUptoRow.domain false Rows.fnRestUptoRow.laid) (((Rows.OpenSpec.upto Rows.fnRestSpec).at F).post enc Tryz.prog Tryz.f10 false true false false):=by
 obtain ⟨places,hx⟩:=reads os enc
 refine returnsInHanded_of_row (C:=Tryz.checked) (s:=Rows.OpenSpec.upto Rows.fnRestSpec) own started (by kernel_rfl) Tryz.func10
  (witness_row_atRef (enc:=enc) (C:=Tryz.checked) false (laidWorld os) #[.slice none 0 0,.slice none 0 0,.slice none 0 0] rfl (by kernel_rfl) (by kernel_rfl) (by kernel_rfl)
    (OpenSpec.preRow_of_cond 8 hx (by kernel_rfl) (fun k hk => by cases hk;kernel_rfl) (by kernel_rfl) (laid_met os _))) ?_
 intro W base args ds gs before hval hW _ hcond _ hL _ _
 exact contract H enc W base args ds gs before hval hW (hcond _ rfl) hL
set_option maxRecDepth 100000 in
theorem saidUpto : Rows.FnRestUptoSaid :=
 OpenClaim.holds_of_cond 10 Tryz.f10 rfl rfl rfl rfl rfl rfl rfl ⟨rfl,rfl,rfl,rfl,rfl⟩ rfl rfl rfl rfl rfl (by kernel_rfl) Tryz.func10 (by kernel_rfl)
  (of_decide_eq_true (by kernel_rfl)) (by unfold Func.isWrapper;first | (rw [if_pos (by decide +kernel)];kernel_rfl) | (rw [if_neg (by decide +kernel)];exact ⟨rfl,rfl⟩))
  (fun os started H enc _ F => by rw [OpenClaim.pre_eq_preRow];exact liftedUpto os started H enc F)
set_option maxRecDepth 100000 in
theorem plain (f : FuncId) (fn : Func) (hf : Tryz.pinned.checked.prog.funcNamed "cratestrap/laws.FnRest" = some f) (hfn : Tryz.pinned.checked.prog.funcs[f]? = some fn) :
  true = Tryz.pinned.checked.prog.looks [] ∧ ∀ (j : Nat) t,fn.params[j]? = some t → Tryz.pinned.checked.prog.wantsStandIn t = false:=by
 obtain rfl : f = 10 := Option.some.inj ((show Tryz.prog.funcNamed "cratestrap/laws.FnRest" = some 10 by kernel_rfl).symm.trans hf) |>.symm
 obtain rfl : fn = Tryz.f10:=(Option.some.inj (Tryz.func10.symm.trans hfn)).symm
 refine ⟨by kernel_rfl,fun j t ht => ?_⟩
 rw [Tryz.params10] at ht
 have hm : t ∈ [(22 : TypeId),22,23]:=by simpa using Array.mem_of_getElem? ht
 have key : ∀ t ∈ [(22 : TypeId),22,23],Tryz.prog.wantsStandIn t = false:=by decide +kernel
 exact key t hm
set_option maxRecDepth 100000 in
theorem cardUpto : Rows.FnRestUptoCardSaid :=
 Claim7.holds_tied_plain_at .later [] _ _ _ _ saidUpto (fun _ h => by cases h) (by kernel_rfl) (fun _ h => by cases h) fnRestUpto_row_tie rfl ⟨rfl,rfl⟩ (by kernel_rfl) rfl plain (by kernel_rfl)
end Go.Proofs.YthpapbilhjobnaaGreatDoor.fnRest
namespace Go.Proofs.YthpapbilhjobnaaGreatDoor
theorem fnRest_upto_card : Rows.FnRestUptoCardSaid:=fnRest.cardUpto
end Go.Proofs.YthpapbilhjobnaaGreatDoor
