/-
  The law FnChecksum of the streams of zlib, where what it reads is of bulk at most 1048576: the walk of its code over the proved contracts of reader and encoder, its row and its card. Conditions: the row's own; what the package-level variables hold is tied to the program's text.
-/
import Derived.Test.YthpapbilhjobnaaGreatDoorM22
import Derived.Test.YthpapbilhjobnaaGreatDoorM23
set_option linter.unusedVariables false
set_option linter.unusedSimpArgs false
namespace Go.Proofs.YthpapbilhjobnaaGreatDoor
open Go.RowKit Pu
def True1 (w : World) (e : Ending) (w' : World) : Prop:=e = .returned (.bool true) ∧ Ext (fun _ => False) w w'
theorem reads_made {has : Bool} {dict data : List UInt8} {a b : Nat} {X : List Bool} {bs : List UInt8} {g cap : Nat} {w w1 : World} (h : Made w has dict data a b X bs g cap w1) (w2 : World) (he : Ext (fun _ => False) w1 w2)
  (A hA dA kA U : Addr) (hG : Given w2 A hA dA kA U) (dv : Value) (D : List UInt8) (hasU : Bool) (hv : Arg w2 dv D) (hD : D.length ≤ 1099511627776) (hDd : has = true → hasU = true ∧ D = dict) (wv : Value) (hw : Arg w2 wv data) (hd : data.length ≤ 2097152) (n : Nat) (hn : (streamOf a b has dict data bs).length = n) :
  Calls Tryz.prog 15 #[.slice (some ⟨g,0,none⟩) n cap,dv,.bool hasU,wv] w2 (True1 w2):=by
 have hl:=stream_len a b has dict data bs
 refine reads_any g 0 n cap dv wv hasU data w2 (by rw [← hn,hl];split <;> omega) hw.rd ?_
 rw [← hn]
 exact (unpack_all h.enc _ [] (by rw [List.append_nil]) g 0 cap w2 (h.held.1.ext he (fun e => e)) A hA dA kA U hG dv D hasU hv hD hDd (.slice none 0 0) [] (by simp) (by simp) (Rd.nil w2) (fun b hb => by cases hb) hd).mono (fun e w' ⟨vo,h1,h2,h3⟩ => ⟨vo,h1,h2,h3⟩)
set_option maxRecDepth 100000 in
set_option maxHeartbeats 4000000 in
theorem fnRead_core (dv fv wv : Value) (has : Bool) (win lvl : Int) (data dict : List UInt8) (zs : List Int) (w : World) (A hA dA kA U : Addr) (hG : Given w A hA dA kA U) (hd : Arg w dv data) (hf : Arg w fv dict) (hw : Num w wv zs) (hsz : data.length + dict.length ≤ 2097152) :
  Calls Tryz.prog 9 #[dv,fv,.bool has,.int .i64 win,.int .i64 lvl,wv] w (True1 w):=by
 have HZ:=Lib.hid (zlib_any dv fv wv has win lvl data dict zs w hd.rd hf.rd hw.rd hw.len hsz hw.low)
 have HG:=Lib.hid hG;have HD:=Lib.hid hd;have HF:=Lib.hid hf;have HSZ:=Lib.hid hsz
 clear hG hd hf hw hsz
 go_enter Tryz.func9,Tryz.ntmps9
 go_wp2_with fail
 refine HZ.out.mono ?_
 intro e w1 hp
 obtain ⟨a,b,X,bs,g,cap,rfl,hM⟩:=hp.made
 obtain ⟨n,hn⟩ : ∃ n,(streamOf a b has dict data bs).length = n:=⟨_,rfl⟩
 rw [hn]
 have HR:=Lib.hid (reads_made hM w1 (Ext.refl _ _) A hA dA kA U (HG.out.ext hM.ext) fv dict has (HF.out.ext hM.ext) (by have:=HSZ.out;omega) (fun h => ⟨h,rfl⟩) dv (HD.out.ext hM.ext) (by have:=HSZ.out;omega) n hn)
 have HE:=Lib.hid hM.ext
 clear hp hM hn
 go_wp2_with fail
 refine HR.out.mono ?_
 rintro e w2 ⟨rfl,he⟩
 have HE2:=Lib.hid (HE.out.trans he)
 clear he
 go_wp2_with fail
 go_ret
 exact ⟨rfl,HE2.out⟩
set_option maxRecDepth 100000 in
set_option maxHeartbeats 4000000 in
theorem fnIgnored_core (dv fv wv : Value) (data dict : List UInt8) (zs : List Int) (w : World) (A hA dA kA U : Addr) (hG : Given w A hA dA kA U) (hd : Arg w dv data) (hf : Arg w fv dict) (hw : Num w wv zs) (hsz : data.length + dict.length ≤ 2097152) :
  Calls Tryz.prog 7 #[dv,fv,wv] w (True1 w):=by
 have HZ:=Lib.hid (zlib_any dv (.slice none 0 0) wv false 7 1 data [] zs w hd.rd (Rd.nil w) hw.rd hw.len (by simp;omega) hw.low)
 have HG:=Lib.hid hG;have HD:=Lib.hid hd;have HF:=Lib.hid hf;have HSZ:=Lib.hid hsz
 clear hG hd hf hw hsz
 go_enter Tryz.func7,Tryz.ntmps7
 go_wp2_with fail
 refine HZ.out.mono ?_
 intro e w1 hp
 obtain ⟨a,b,X,bs,g,cap,rfl,hM⟩:=hp.made
 obtain ⟨n,hn⟩ : ∃ n,(streamOf a b false [] data bs).length = n:=⟨_,rfl⟩
 rw [hn]
 have HR:=Lib.hid (reads_made hM w1 (Ext.refl _ _) A hA dA kA U (HG.out.ext hM.ext) fv dict true (HF.out.ext hM.ext) (by have:=HSZ.out;omega) (fun h => by cases h) dv (HD.out.ext hM.ext) (by have:=HSZ.out;omega) n hn)
 have HE:=Lib.hid hM.ext
 clear hp hM hn
 go_wp2_with fail
 refine HR.out.mono ?_
 rintro e w2 ⟨rfl,he⟩
 have HE2:=Lib.hid (HE.out.trans he)
 clear he
 go_wp2_with fail
 go_ret
 exact ⟨rfl,HE2.out⟩
end Go.Proofs.YthpapbilhjobnaaGreatDoor
namespace Go.Proofs.YthpapbilhjobnaaGreatDoor
open Go.RowKit Pu
theorem flip_tail (ad q cx : Nat) (P : List UInt8) (c : UInt8) (hq : q < 4) (hc : (P ++ fourB ad)[P.length + 3 - q]? = some c) (hx : cx ≠ c.toNat) (hx2 : cx < 256) (had : ad < 4294967296) :
  ∃ t0 t1 t2 t3,(P ++ fourB ad).set (P.length + 3 - q) (UInt8.ofNat cx) = P ++ [t0,t1,t2,t3] ∧ num4 t0 t1 t2 t3 ≠ ad:=by
 have e : ∀ x,(UInt8.ofNat x).toNat = x % 256:=fun x => by simp
 have hs : ∀ j,j < 4 → (P ++ fourB ad).set (P.length + j) (UInt8.ofNat cx) = P ++ (fourB ad).set j (UInt8.ofNat cx):=fun j _ => by
  rw [List.set_append_right _ _ (by omega)]
  congr 2
  omega
 have hg : ∀ j,j < 4 → (P ++ fourB ad)[P.length + j]? = (fourB ad)[j]?:=fun j _ => by
  rw [List.getElem?_append_right (by omega)]
  congr 1
  omega
 rcases (by omega : q = 0 ∨ q = 1 ∨ q = 2 ∨ q = 3) with rfl | rfl | rfl | rfl
 ·rw [show P.length + 3 - 0 = P.length + 3 by omega] at hc ⊢
  rw [hg 3 (by omega)] at hc
  rw [hs 3 (by omega)]
  have hc' : c = UInt8.ofNat ad:=by simpa [fourB] using hc.symm
  refine ⟨_,_,_,_,rfl,?_⟩
  rw [hc',e] at hx
  unfold num4
  rw [e,e,e,e]
  omega
 ·rw [show P.length + 3 - 1 = P.length + 2 by omega] at hc ⊢
  rw [hg 2 (by omega)] at hc
  rw [hs 2 (by omega)]
  have hc' : c = UInt8.ofNat (ad / 256):=by simpa [fourB] using hc.symm
  refine ⟨_,_,_,_,rfl,?_⟩
  rw [hc',e] at hx
  unfold num4
  rw [e,e,e,e]
  omega
 ·rw [show P.length + 3 - 2 = P.length + 1 by omega] at hc ⊢
  rw [hg 1 (by omega)] at hc
  rw [hs 1 (by omega)]
  have hc' : c = UInt8.ofNat (ad / 65536):=by simpa [fourB] using hc.symm
  refine ⟨_,_,_,_,rfl,?_⟩
  rw [hc',e] at hx
  unfold num4
  rw [e,e,e,e]
  omega
 ·rw [show P.length + 3 - 3 = P.length + 0 by omega] at hc ⊢
  rw [hg 0 (by omega)] at hc
  rw [hs 0 (by omega)]
  have hc' : c = UInt8.ofNat (ad / 16777216):=by simpa [fourB] using hc.symm
  refine ⟨_,_,_,_,rfl,?_⟩
  rw [hc',e] at hx
  unfold num4
  rw [e,e,e,e]
  omega
theorem xor_one (c r : Nat) (hc : c < 256) (hr : r < 8) : bits BinOp.xor IntKind.u8 (c : Int) ((2 ^ r : Nat) : Int) = ((c ^^^ 2 ^ r : Nat) : Int) ∧ c ^^^ 2 ^ r ≠ c ∧ c ^^^ 2 ^ r < 256 ∧ IntKind.u8.wrap ((2 : Int) ^ r) = ((2 ^ r : Nat) : Int):=by
 have h : ∀ c : Fin 256,∀ r : Fin 8,bits BinOp.xor IntKind.u8 (c.val : Int) ((2 ^ r.val : Nat) : Int) = ((c.val ^^^ 2 ^ r.val : Nat) : Int) ∧ c.val ^^^ 2 ^ r.val ≠ c.val ∧ c.val ^^^ 2 ^ r.val < 256 ∧ IntKind.u8.wrap ((2 : Int) ^ r.val) = ((2 ^ r.val : Nat) : Int):=by decide +kernel
 exact h ⟨c,hc⟩ ⟨r,hr⟩
set_option maxRecDepth 100000 in
set_option maxHeartbeats 8000000 in
theorem fnChecksum_core (dv wv : Value) (x : Int) (data : List UInt8) (zs : List Int) (w : World) (A hA dA kA U : Addr) (hG : Given w A hA dA kA U) (hd : Arg w dv data) (hw : Num w wv zs) (hwf : (Lit.int .i64 x).wf = true) (hsz : data.length ≤ 2097152) :
  Calls Tryz.prog 4 #[dv,.int .i64 x,wv] w (True1 w):=by
 have HZ:=Lib.hid (zlib_any dv (.slice none 0 0) wv false 7 1 data [] zs w hd.rd (Rd.nil w) hw.rd hw.len (by simp;omega) hw.low)
 have HG:=Lib.hid hG;have HD:=Lib.hid hd;have HSZ:=Lib.hid hsz
 clear hG hd hw hsz
 go_enter Tryz.func4,Tryz.ntmps4
 go_wp2_with fail
 refine HZ.out.mono ?_
 intro e w1 hp
 obtain ⟨a,b,X,bs,g,cap,rfl,hM⟩:=hp.made
 obtain ⟨n,hn⟩ : ∃ n,(streamOf a b false [] data bs).length = n:=⟨_,rfl⟩
 have hnl:=stream_len a b false [] data bs
 simp only [Bool.false_eq_true,if_false] at hnl
 have hn6 : 6 ≤ n:=by omega
 have hnb : n ≤ 1099511627776:=by rw [← hn];exact hM.held.1.small
 obtain ⟨hk0,hk1⟩:=tmod_in x 32 (by omega) (by omega)
 obtain ⟨k,hk⟩:=Int.eq_ofNat_of_zero_le hk0
 rw [hk] at hk1
 have hk32 : (k : Int) < 32:=by omega
 rw [hn]
 have HM:=Lib.hid hM;have HN:=Lib.hid hn;have HNL:=Lib.hid hnl
 have hn6i : (6 : Int) ≤ n:=by omega
 have hnbi : (n : Int) ≤ 1099511627776:=by omega
 clear hp hM hn hk0 hk1 hnl
 obtain ⟨q,hq⟩ : ∃ q,k / 8 = q:=⟨_,rfl⟩
 obtain ⟨r,hr⟩ : ∃ r,k % 8 = r:=⟨_,rfl⟩
 have hq4 : q < 4:=by omega
 have hr8 : r < 8:=by omega
 obtain ⟨d,hd⟩ : ∃ d,n - 1 - q = d:=⟨_,rfl⟩
 have hdn : d < n:=by omega
 have hdl : d < (streamOf a b false [] data bs).length:=by rw [HN.out];exact hdn
 obtain ⟨c,hc⟩ : ∃ c,(streamOf a b false [] data bs)[d] = c:=⟨_,rfl⟩
 have hcell : w1.cell? ⟨g,d,none⟩ = some (.int .u8 c.toNat):=by
  have:=HM.out.held.1.cells d (U8 c) (by rw [List.getElem?_map,List.getElem?_eq_getElem hdl,hc];rfl)
  rw [Nat.zero_add] at this
  exact this
 obtain ⟨cc,hcc⟩ : ∃ cc,c.toNat = cc:=⟨_,rfl⟩
 have hc256 : cc < 256:=by rw [← hcc];exact c.toNat_lt
 rw [hcc] at hcell
 have e1 : (k : Int) / 8 = (q : Int):=by omega
 have e2 : (k : Int).tmod 8 = (r : Int):=by rw [Int.tmod_eq_emod_of_nonneg (by omega)];omega
 have e3 : (n : Int) - 1 - (q : Int) = (d : Int):=by omega
 have hfree : ∀ i,w1.frozen? ⟨g,i,none⟩ = false:=by
  rcases HM.out.own.2 with ⟨h0,_⟩ | ⟨g',cap',cur,he,_,hb,_⟩
  ·cases h0
  ·injection he with he _ _
   injection he with he
   injection he with he _ _
   subst he
   exact Blk.free hb
 have HQ:=Lib.hid hq;have HR:=Lib.hid hr;have HD2:=Lib.hid hd;have HC:=Lib.hid hc;have HCC:=Lib.hid hcc
 have hq4i : (q : Int) < 4:=by omega
 have hr8i : (r : Int) < 8:=by omega
 have hdni : (d : Int) < n:=by omega
 have v1 : IntKind.i64.wrap ((n : Int) - 1) = (n : Int) - 1:=IntWalk.i64_in _ (by omega)
 have v2 : IntKind.i64.wrap (q : Int) = (q : Int):=IntWalk.i64_in _ (by omega)
 have v3 : IntKind.i64.wrap ((n : Int) - 1 - (q : Int)) = (d : Int):=by rw [e3];exact IntWalk.i64_in _ (by omega)
 have v4 : IntKind.i64.wrap (r : Int) = (r : Int):=IntWalk.i64_in _ (by omega)
 obtain ⟨x1,x2,x3,x4⟩:=xor_one cc r hc256 hr8
 obtain ⟨pw,hpw⟩ : ∃ y,2 ^ r = y:=⟨_,rfl⟩
 rw [hpw] at x1 x2 x3 x4
 obtain ⟨cx,hcx⟩ : ∃ y,cc ^^^ pw = y:=⟨_,rfl⟩
 rw [hcx] at x1 x2 x3
 have HX2:=Lib.hid x2;have HX3:=Lib.hid x3
 clear hq hr hd hc hcc e3 x2 x3 hpw hcx
 go_upto_region 3 with (fail)
 refine region_tail2 14 (by kernel_rfl) (by kernel_rfl) ?_
 intro w2 hw2
 have he2 : Ext (fun _ => False) w1 w2:=by rw [hw2];exact (Ext.refl _ _).drew
 have hcell2:=he2.cellSome (fun e => e) hcell
 have hfree2 : ∀ i,w2.frozen? ⟨g,i,none⟩ = false:=fun i => by rw [he2.frozen (World.block_lt_of_cell? _ _ hcell) (fun e => e)];exact hfree i
 have HE2:=Lib.hid he2
 clear hw2 he2 hcell hfree
 simp only [List.take_succ_cons,List.take_zero,List.drop_succ_cons,List.drop_zero]
 iterate 14 still_step
 refine wpStill_nil ?_
 obtain ⟨vc,hvc⟩ : ∃ v,w2.cell? ⟨g,d,none⟩ = some v:=⟨_,hcell2⟩
 have hx23 : Ext (fun j => j = g) w1 (w2.setCell ⟨g,d,none⟩ (.int .u8 cx)):=(HE2.out.mono (fun _ _ e => e.elim)).only _
 obtain ⟨w3,hw3⟩ : ∃ y,w2.setCell ⟨g,d,none⟩ (.int .u8 cx) = y:=⟨_,rfl⟩
 have hset : ∀ j y,w1.cell? ⟨g,j,none⟩ = some y → w3.cell? ⟨g,j,none⟩ = some (if j = d then .int .u8 cx else y):=by
  intro j y hy
  obtain ⟨cur,hb⟩ : ∃ cur,Blk w1 g cur 5:=by
   rcases HM.out.own.2 with ⟨h0,_⟩ | ⟨g',cap',cur,he,_,hb,_⟩
   ·cases h0
   ·injection he with he _ _
    injection he with he
    injection he with he _ _
    subst he
    exact ⟨cur,hb⟩
  have hb3 : Blk w3 g (cur.setIfInBounds d (.int .u8 cx)) 5:=by rw [← hw3];exact (hb.ext HE2.out (fun e => e)).set d _
  rw [hb.cell] at hy
  rw [hb3.cell]
  by_cases hj : j = d
  ·subst hj
   rw [if_pos rfl]
   exact set_eq _ (get_lt hy)
  ·rw [if_neg hj,set_ne _ _ (Ne.symm hj)];exact hy
 have hsp:=stream_split a b false [] data bs
 simp only [Bool.false_eq_true,if_false] at hsp
 obtain ⟨P,hP⟩ : ∃ P,(streamOf a b false [] [] bs).take (2 + bs.length) = P:=⟨_,rfl⟩
 rw [hP] at hsp
 have hPl : P.length + 4 = n:=by
  have:=congrArg List.length hsp
  rw [HN.out,List.length_append] at this
  rw [this];rfl
 have hdq : d = P.length + 3 - q:=by have:=HD2.out;omega
 have hcd : (P ++ fourB (adler data))[P.length + 3 - q]? = some c:=by
  rw [← hsp,← hdq,List.getElem?_eq_getElem hdl,HC.out]
 obtain ⟨t0,t1,t2,t3,hT,hnum⟩:=flip_tail (adler data) q cx P c hq4 hcd (by rw [HCC.out];exact HX2.out) HX3.out (adler_lt data)
 have hh3 : Held w3 g 0 cap (P ++ [t0,t1,t2,t3]):=⟨fun j y hy => by
   rw [Nat.zero_add]
   rw [← hT,← hdq,List.getElem?_map,List.getElem?_set] at hy
   by_cases hj : d = j
   ·subst hj
    rw [if_pos rfl,if_pos (by rw [← hsp];exact hdl)] at hy
    have hy' : some (U8 (UInt8.ofNat cx)) = some y:=hy
    have h:=hset d _ (HM.out.held.1.cells d (U8 c) (by rw [List.getElem?_map,List.getElem?_eq_getElem hdl,HC.out];rfl) |> fun h => by rw [Nat.zero_add] at h;exact h)
    rw [if_pos rfl] at h
    rw [h,← hy']
    have e : (UInt8.ofNat cx).toNat = cx:=by have:=HX3.out;simp;omega
    unfold U8
    rw [e]
   ·rw [if_neg hj] at hy
    have h1:=HM.out.held.1.cells j y (by rw [hsp,List.getElem?_map];exact hy)
    rw [Nat.zero_add] at h1
    have h:=hset j y h1
    rw [if_neg (Ne.symm hj)] at h
    exact h,by rw [List.length_append];show P.length + 4 ≤ _;omega,by rw [List.length_append];show P.length + 4 ≤ _;have:=HM.out.held.1.room;rw [HN.out] at this;omega,by rw [← hw3];simp only [World.setCell,Array.size_modify];exact Nat.lt_of_lt_of_le HM.out.held.1.lt HE2.out.size⟩
 have hE3 : Ext (fun _ => False) w w3:=by rw [← hw3];exact (HM.out.ext.trans HE2.out).setCell (p:=⟨g,d,none⟩) (fun h => by have h1:=HM.out.held.2;have h2 : g < w.heap.size:=h;omega) _
 have hss : P ++ [t0,t1,t2,t3] = (streamOf a b false [] [] bs).take ((if false = true then 6 else 2) + bs.length) ++ [t0,t1,t2,t3]:=by
  simp only [Bool.false_eq_true,if_false];rw [hP]
 have hu:=unpack_enc HM.out.enc (P ++ [t0,t1,t2,t3]) [] [t0,t1,t2,t3] (by simp) (by rw [List.append_nil];exact hss) g 0 cap w3 hh3 A hA dA kA U (HG.out.ext hE3) (.slice none 0 0) [] false (Arg.nil w3) (by simp) (.slice none 0 0) [] (by simp) (by simp) (Rd.nil w3) (fun b hb => by cases hb) HSZ.out
 have hu2:=hu.mono (fun e w' h => HM.out.enc.read (P ++ [t0,t1,t2,t3]) [] [t0,t1,t2,t3] [] t0 t1 t2 t3 rfl hss (fun h => by cases h) h)
 rw [List.length_append,show P.length + [t0,t1,t2,t3].length = n from hPl] at hu2
 have HU:=Lib.hid hu2;have HE3:=Lib.hid hE3;have HNUM:=Lib.hid hnum;have HW3:=Lib.hid hw3
 have hfr2:=hfree2
 clear hx23 hw3 hset hsp hP hPl hdq hcd hT hnum hh3 hE3 hss hu hu2
 go_wp2_with fail
 rw [HW3.out]
 refine HU.out.mono ?_
 rintro e w4 ⟨vo,hr,he4,hcase⟩
 rcases hcase with ⟨h,_⟩ | ⟨_,z,rfl⟩
 ·exact absurd h HNUM.out
 have HS:=Lib.hid (same_any vo dv data w4 hr (HD.out.rd.ext (HE3.out.trans he4) (fun _ _ e => e)))
 have HE4:=Lib.hid (HE3.out.trans he4)
 clear hr he4
 go_wp2_with fail
 refine HS.out.mono ?_
 rintro e w5 ⟨rfl,rfl⟩
 go_wp2_with fail
 go_ret
 exact ⟨rfl,HE4.out⟩
end Go.Proofs.YthpapbilhjobnaaGreatDoor
namespace Go.Proofs.YthpapbilhjobnaaGreatDoor.fnChecksum
open Go.ChangeShapes Go.WideShapes Go.ChangeAt Go.RowKit
set_option maxRecDepth 100000 in
theorem contract (H : Type) (enc : TypeId × Value → H) (W : World) (base : Nat) (args : Array Value) (ds gs : List (DataW H)) (before : List MemPlace)
  (hval : ∀ (j : Nat) t v,Tryz.f4.params[j]? = some t → args[j]? = some v → Value.okWide Tryz.prog W .any base t v)
  (hW : DataW.Whole enc Tryz.prog Tryz.f4.params.toList Rows.fnChecksumSpec.vars false W args.toList ds gs before) (hk : Rows.uptoSmall H (ds ++ gs) = true) (hL : laidMetH Tryz.prog Rows.fnChecksumUptoRow.laid W) :
  Calls Tryz.prog 4 args W fun e W' => ∃ v,e = .returned v ∧ Rows.fnChecksumSpec.post enc Tryz.prog Tryz.f4 false true false false W args v W':=by
 have hW':=hW
 have hbk:=bulk_bound hk
 obtain ⟨p,q,hA0,hV,rfl,hfz,hnd⟩:=hW
 have hA1 : DataW.TrodAll enc Tryz.prog W 0 (fun _ => true) true Tryz.f4.params.toList args.toList ds p:=hA0
 rw [Tryz.params4] at hA1 hval
 obtain ⟨v0,vs0,d0,ds0,p0,q0,hargs,rfl,rfl,h0,r0⟩:=trodAll_cons hA1
 obtain ⟨v1,vs1,d1,ds1,p1,q1,rfl,rfl,rfl,h1,r1⟩:=trodAll_cons r0
 obtain ⟨v2,vs2,d2,ds2,p2,q2,rfl,rfl,rfl,h2,r2⟩:=trodAll_cons r1
 obtain ⟨rfl,rfl,rfl⟩:=trodAll_nil r2
 obtain rfl : args = #[v0,v1,v2]:=by cases args;simp_all
 obtain ⟨rfl,rfl⟩:=trodVars_none hV
 simp only [List.append_nil,Rows.uptoBulkAll] at hbk
 obtain ⟨l0,a0,b0⟩:=arg_bytes (hval 0 22 v0 rfl rfl) h0
 obtain ⟨x1,rfl,rfl,rfl,w1⟩:=open_int Tryz.underlying3 (hval 1 3 v1 rfl rfl) h1
 obtain ⟨z2,a2⟩:=arg_nums (hval 2 23 v2 rfl rfl) h2 (by omega)
 obtain ⟨A,hA,dA,kA,U,hG⟩:=given_of_laid (W:=W) hL
 refine (fnChecksum_core v0 v2 x1 l0 z2 W A hA dA kA U hG a0 a2 w1 (by omega)).mono fun e W' ⟨he,hx⟩ => ?_
 subst he
 exact ⟨_,rfl,post_true hW' hx (by kernel_rfl) rfl rfl (by rw [Tryz.params4];decide +kernel)⟩
set_option maxRecDepth 100000 in
theorem reads (os : Os) {H : Type} (enc : TypeId × Value → H) : ∃ places,DataW.whole enc Tryz.prog ((laidWorld os).forCall (fun _ _ => 0) ⟨#[],#[.slice none 0 0,.int .i64 0,.slice none 0 0],[]⟩).memory Tryz.f4.params.toList Rows.fnChecksumSpec.vars false (#[.slice none 0 0,.int .i64 0,.slice none 0 0] : Array Value).toList 8 = some ([.nil,.lit (.int .i64 0),.nil],[],places) :=
 ⟨[],by kernel_rfl⟩
set_option maxRecDepth 100000 in
theorem liftedUpto (os : Os) (started : os.Started) (H : Type) (enc : TypeId × Value → H) (F : Stop.Interp) :
  ReturnsInHanded {} Tryz.checked os 4 .any ((Rows.OpenSpec.upto Rows.fnChecksumSpec).preRow enc Tryz.prog Tryz.f4 Rows.fnChecksumUptoRow.domain false Rows.fnChecksumUptoRow.laid) (((Rows.OpenSpec.upto Rows.fnChecksumSpec).at F).post enc Tryz.prog Tryz.f4 false true false false):=by
 obtain ⟨places,hx⟩:=reads os enc
 refine returnsInHanded_of_row (C:=Tryz.checked) (s:=Rows.OpenSpec.upto Rows.fnChecksumSpec) own started (by kernel_rfl) Tryz.func4
  (witness_row_atRef (enc:=enc) (C:=Tryz.checked) false (laidWorld os) #[.slice none 0 0,.int .i64 0,.slice none 0 0] rfl (by kernel_rfl) (by kernel_rfl) (by kernel_rfl)
    (OpenSpec.preRow_of_cond 8 hx (by kernel_rfl) (fun k hk => by cases hk;kernel_rfl) (by kernel_rfl) (laid_met os _))) ?_
 intro W base args ds gs before hval hW _ hcond _ hL _ _
 exact contract H enc W base args ds gs before hval hW (hcond _ rfl) hL
set_option maxRecDepth 100000 in
theorem saidUpto : Rows.FnChecksumUptoSaid :=
 OpenClaim.holds_of_cond 4 Tryz.f4 rfl rfl rfl rfl rfl rfl rfl ⟨rfl,rfl,rfl,rfl,rfl⟩ rfl rfl rfl rfl rfl (by kernel_rfl) Tryz.func4 (by kernel_rfl)
  (of_decide_eq_true (by kernel_rfl)) (by unfold Func.isWrapper;first | (rw [if_pos (by decide +kernel)];kernel_rfl) | (rw [if_neg (by decide +kernel)];exact ⟨rfl,rfl⟩))
  (fun os started H enc _ F => by rw [OpenClaim.pre_eq_preRow];exact liftedUpto os started H enc F)
set_option maxRecDepth 100000 in
theorem plain (f : FuncId) (fn : Func) (hf : Tryz.pinned.checked.prog.funcNamed "cratestrap/laws.FnChecksum" = some f) (hfn : Tryz.pinned.checked.prog.funcs[f]? = some fn) :
  true = Tryz.pinned.checked.prog.looks [] ∧ ∀ (j : Nat) t,fn.params[j]? = some t → Tryz.pinned.checked.prog.wantsStandIn t = false:=by
 obtain rfl : f = 4 := Option.some.inj ((show Tryz.prog.funcNamed "cratestrap/laws.FnChecksum" = some 4 by kernel_rfl).symm.trans hf) |>.symm
 obtain rfl : fn = Tryz.f4:=(Option.some.inj (Tryz.func4.symm.trans hfn)).symm
 refine ⟨by kernel_rfl,fun j t ht => ?_⟩
 rw [Tryz.params4] at ht
 have hm : t ∈ [(22 : TypeId),3,23]:=by simpa using Array.mem_of_getElem? ht
 have key : ∀ t ∈ [(22 : TypeId),3,23],Tryz.prog.wantsStandIn t = false:=by decide +kernel
 exact key t hm
set_option maxRecDepth 100000 in
theorem cardUpto : Rows.FnChecksumUptoCardSaid :=
 Claim7.holds_tied_plain_at .later [] _ _ _ _ saidUpto (fun _ h => by cases h) (by kernel_rfl) (fun _ h => by cases h) fnChecksumUpto_row_tie rfl ⟨rfl,rfl⟩ (by kernel_rfl) rfl plain (by kernel_rfl)
end Go.Proofs.YthpapbilhjobnaaGreatDoor.fnChecksum
namespace Go.Proofs.YthpapbilhjobnaaGreatDoor
theorem fnChecksum_upto_card : Rows.FnChecksumUptoCardSaid:=fnChecksum.cardUpto
end Go.Proofs.YthpapbilhjobnaaGreatDoor
