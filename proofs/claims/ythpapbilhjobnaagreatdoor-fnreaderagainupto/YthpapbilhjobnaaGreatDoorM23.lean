/-
  Parts of the proofs over the reader and the encoder of streams, joined: Ld Le Lg. Conditions: each theorem names its own.
-/
import Derived.Test.YthpapbilhjobnaaGreatDoorM22
import Derived.Test.YthpapbilhjobnaaGreatDoorRows
import Derived.ProofKit
import Derived.OpenShut
import Derived.WideKeyArgs
import Derived.ChangeSlices
import Derived.Lib.LaidTab
import Derived.Stop.LaidErr
import Derived.Test.YthpapbilhjobnaaGreatDoorCards
import Derived.Test.YthpapbilhjobnaaGreatDoorTie
import Derived.Deep.DeepHandedRow
import Derived.Deep.DeepWitnessRowRef
set_option linter.unusedVariables false
set_option linter.unusedSimpArgs false
namespace Go.Proofs.YthpapbilhjobnaaGreatDoor
open Go.ChangeShapes Go.WideShapes Go.ChangeAt Go.RowKit Pu
theorem bulk_one {H : Type} (d : DataW H) : 1 ≤ Rows.uptoBulk d:=by
 cases d with
 | lit l => cases l <;> simp [Rows.uptoBulk]
 | nil => simp [Rows.uptoBulk]
 | ptr d => simp [Rows.uptoBulk]
 | slice elems spare => simp [Rows.uptoBulk]
 | agg parts => simp [Rows.uptoBulk]
 | iface t d => simp [Rows.uptoBulk]
 | map entries => simp [Rows.uptoBulk]
 | held h => simp [Rows.uptoBulk]
theorem bulk_length {H : Type} (l : List (DataW H)) : l.length ≤ Rows.uptoBulkAll l:=by
 induction l with
 | nil => simp [Rows.uptoBulkAll]
 | cons x r ih => have:=bulk_one x;simp only [Rows.uptoBulkAll,List.length_cons];omega
theorem bulk_slice {H : Type} (elems spare : List (DataW H)) : elems.length ≤ Rows.uptoBulk (.slice elems spare):=by
 have h1:=bulk_length elems
 simp only [Rows.uptoBulk]
 omega
theorem bulk_bound {H : Type} {l : List (DataW H)} (hk : Rows.uptoSmall H l = true) : Rows.uptoBulkAll l ≤ 1048576:=of_decide_eq_true hk
theorem cellsOf5 : Tryz.prog.cellsOf 5 = 1:=by kernel_rfl
theorem cellsOf3 : Tryz.prog.cellsOf 3 = 1:=by kernel_rfl
theorem shape_lt {w : World} {b : Nat} {x : TypeId × Nat} (h : w.shape? b = some x) : b < w.heap.size:=by
 rcases Nat.lt_or_ge b w.heap.size with h1 | h1
 ·exact h1
 ·exfalso
  simp [World.shape?,Array.getElem?_eq_none h1] at h
set_option maxRecDepth 100000 in
theorem has_slice {W : World} {base : Nat} {t e : TypeId} {a : Addr} {len cap : Nat} (ht : Tryz.prog.underlying t = some (.slice e)) (h : Value.okWide Tryz.prog W .any base t (.slice (some a) len cap)) : a.block < W.heap.size ∧ a.spot = none:=by
 simp only [Value.okWide,ht,Cell.okWide,Cell.ok,World.has] at h
 obtain ⟨_,_,_,h1,row,cells,h2,_⟩:=h
 exact ⟨shape_lt h2,h1⟩
section
variable {H : Type} {enc : TypeId × Value → H} {W : World} {base : Nat} {v : Value} {d : DataW H} {p : List MemPlace}
set_option maxRecDepth 100000 in
theorem arg_bytes (hval : Value.okWide Tryz.prog W .any base 22 v) (h : DataW.Trod enc Tryz.prog W 0 (fun _ => true) true 22 v d p) : ∃ l : List UInt8,Arg W v l ∧ l.length ≤ Rows.uptoBulk d:=by
 obtain ⟨a1,len,cap,rfl⟩:=okWide_slice Tryz.underlying22 hval
 obtain ⟨fuel,hf⟩:=h
 rcases open_ints Tryz.underlying22 Tryz.underlying5 cellsOf5 hf with ⟨hcs,hx⟩ | ⟨a,len',cap',zs,hcs,_,hl,hm,hz,hx,hcell,hwz⟩
 ·simp [Value.cells] at hcs
  obtain ⟨rfl,rfl,rfl⟩:=hcs
  exact ⟨[],Arg.nil W,by simp⟩
 ·simp [Value.cells] at hcs
  obtain ⟨rfl,rfl,rfl⟩:=hcs
  simp only [Prod.mk.injEq] at hx
  obtain ⟨rfl,rfl⟩:=hx
  simp only [if_true] at hz
  obtain ⟨hlt,hsp⟩:=has_slice Tryz.underlying22 hval
  obtain ⟨b,o,sp⟩:=a
  obtain rfl : sp = none:=hsp
  have hlen : ((zs.take len).map fun n => UInt8.ofNat n.toNat).length = len:=by simp;omega
  refine ⟨(zs.take len).map fun n => UInt8.ofNat n.toNat,⟨⟨cap,by rw [List.length_map,hlen];exact hl,hm,.inr ⟨b,o,by rw [List.length_map,hlen],fun j x hj => ?_⟩⟩,fun b' hb' => ?_⟩,?_⟩
  ·have hjl : j < len:=by
    have:=(List.getElem?_eq_some_iff.1 hj).1
    rw [List.length_map,hlen] at this
    exact this
   have hc:=hcell j (by omega)
   rw [Addr.add_lit] at hc
   rw [hc]
   simp only [List.map_map] at hj
   have hzj : zs[j]? = some (zs.getD j 0):=by simp [List.getD,List.getElem?_eq_getElem (show j < zs.length by omega)]
   have hw:=hwz (zs.getD j 0) (List.mem_of_getElem? hzj)
   have hx0 : 0 ≤ zs.getD j 0 ∧ zs.getD j 0 ≤ 255:=by simpa [Lit.wf,IntKind.min,IntKind.max,IntKind.signed,IntKind.bits] using hw
   rw [List.getElem?_map,List.getElem?_take,if_pos hjl,hzj] at hj
   simp only [Option.map_some,Function.comp_apply,Option.some.injEq] at hj
   rw [← hj]
   unfold U8
   congr 2
   generalize zs.getD j 0 = z at hx0 ⊢
   have : (UInt8.ofNat z.toNat).toNat = z.toNat:=by simp;omega
   rw [this]
   omega
  ·have e : some b = some b':=hb'
   injection e with e
   rw [← e];exact hlt
  ·rw [hlen]
   have:=bulk_slice (lits .u8 (zs.take len) : List (DataW H)) (lits .u8 (zs.drop len))
   have e : (lits .u8 (zs.take len) : List (DataW H)).length = len:=by simp [lits];omega
   omega
set_option maxRecDepth 100000 in
theorem arg_nums (hval : Value.okWide Tryz.prog W .any base 23 v) (h : DataW.Trod enc Tryz.prog W 0 (fun _ => true) true 23 v d p) (hd : Rows.uptoBulk d ≤ 1048576) : ∃ zs : List Int,Num W v zs:=by
 obtain ⟨a1,len,cap,rfl⟩:=okWide_slice Tryz.underlying23 hval
 obtain ⟨fuel,hf⟩:=h
 rcases open_ints Tryz.underlying23 Tryz.underlying3 cellsOf3 hf with ⟨hcs,hx⟩ | ⟨a,len',cap',zs,hcs,_,hl,hm,hz,hx,hcell,hwz⟩
 ·simp [Value.cells] at hcs
  obtain ⟨rfl,rfl,rfl⟩:=hcs
  exact ⟨[],Num.nil W⟩
 ·simp [Value.cells] at hcs
  obtain ⟨rfl,rfl,rfl⟩:=hcs
  simp only [Prod.mk.injEq] at hx
  obtain ⟨rfl,rfl⟩:=hx
  simp only [if_true] at hz
  obtain ⟨hlt,hsp⟩:=has_slice Tryz.underlying23 hval
  obtain ⟨b,o,sp⟩:=a
  obtain rfl : sp = none:=hsp
  have hlen : (zs.take len).length = len:=by simp;omega
  have hbk : len ≤ Rows.uptoBulk (.slice (lits .i64 (zs.take len)) (lits .i64 (zs.drop len)) : DataW H):=by
   have:=bulk_slice (lits .i64 (zs.take len) : List (DataW H)) (lits .i64 (zs.drop len))
   have e : (lits .i64 (zs.take len) : List (DataW H)).length = len:=by simp [lits];omega
   omega
  refine ⟨zs.take len,⟨⟨cap,by rw [List.length_map,hlen];exact hl,hm,.inr ⟨b,o,by rw [List.length_map,hlen],fun j x hj => ?_⟩⟩,fun b' hb' => ?_,by rw [hlen];omega⟩⟩
  ·have hjl : j < len:=by
    have:=(List.getElem?_eq_some_iff.1 hj).1
    rw [List.length_map,hlen] at this
    exact this
   have hc:=hcell j (by omega)
   rw [Addr.add_lit] at hc
   rw [hc]
   have hzj : zs[j]? = some (zs.getD j 0):=by simp [List.getD,List.getElem?_eq_getElem (show j < zs.length by omega)]
   rw [List.getElem?_map,List.getElem?_take,if_pos hjl,hzj] at hj
   exact hj
  ·have e : some b = some b':=hb'
   injection e with e
   rw [← e];exact hlt
end
theorem laidOut : laidOutB Tryz.prog = true:=by kernel_rfl
section
variable {H : Type} {enc : TypeId × Value → H} {W W' : World}
set_option maxRecDepth 100000 in
theorem trodAll_later (hx : Ext (fun _ => False) W W') (sp : Nat → Bool) : ∀ {ts : List TypeId} {vs : List Value} {ds : List (DataW H)} {ps : List MemPlace},(∀ t ∈ ts,Tryz.prog.readableRec t = true ∧ t < Tryz.prog.types.size) →
  DataW.TrodAll enc Tryz.prog W 0 (fun _ => true) true ts vs ds ps → (∀ p ∈ ps,p.block < W.heap.size) → (∀ p ∈ ps,sp p.block = true) → DataW.TrodAll enc Tryz.prog W' 0 sp true ts vs ds ps
 | [],[],[],_,_,h,_,_ => h
 | _::_,_::_,_::_,_,hT,⟨p,q,h1,h2,e⟩,hl,hs =>
  ⟨p,q,WideElems.Trod_stays laidOut (hT _ (List.mem_cons.2 (Or.inl rfl))).1 (hT _ (List.mem_cons.2 (Or.inl rfl))).2 h1 (fun x hx' => hx.below.same (hl x (by rw [e];exact List.mem_append_left _ hx'))) (fun x hx' => hs x (by rw [e];exact List.mem_append_left _ hx')),
   trodAll_later hx sp (fun t ht => hT t (List.mem_cons.2 (Or.inr ht))) h2 (fun x hx' => hl x (by rw [e];exact List.mem_append_right _ hx')) (fun x hx' => hs x (by rw [e];exact List.mem_append_right _ hx')),e⟩
theorem kept_of_ext (hx : Ext (fun _ => False) W W') (may : MemPlace → Prop) : W.keptBut W' may :=
 World.keptBut_mono (fun _ h => h.elim) (World.keptBut_none_iff.2 ⟨hx.os,hx.output,fun i hi => hx.block i hi (fun e => e)⟩)
set_option maxRecDepth 100000 in
theorem post_true {f : Func} {s : ChangeSpec} {args : Array Value} {ds gs : List (DataW H)} {before : List MemPlace} (hW : DataW.Whole enc Tryz.prog f.params.toList s.vars false W args.toList ds gs before) (hx : Ext (fun _ => False) W W') (hr : f.resultTypes = #[4]) (hv : s.vars = [])
  (hfn : s.fn H (ds ++ gs) = { results:=[.lit (.bool true)],args:=ds,vars:=[] }) (hts : ∀ t ∈ f.params.toList,Tryz.prog.readableRec t = true ∧ t < Tryz.prog.types.size) : s.post enc Tryz.prog f false true false false W args (.bool true) W':=by
 have hlt:=hW.lt
 have hW':=hW
 obtain ⟨p,q,hA,hV,rfl,hfz,hnd⟩:=hW
 rw [hv] at hV
 obtain ⟨rfl,rfl⟩:=trodVars_none hV
 refine ⟨ds,[],_,[],p,[],hW',?_,?_,?_,kept_of_ext hx _,fun h => by cases h⟩
 ·rw [hr,hfn]
  exact trodAll_cons_mk (shut_bool Tryz.underlying4 _) trodAll_mk0
 ·rw [hfn]
  exact trodAll_later hx _ hts hA (fun x hx' => hlt x (by simpa using hx')) (fun x hx' => by simpa using hlt x (by simpa using hx'))
 ·rw [hv,hfn]
  exact rfl
end
end Go.Proofs.YthpapbilhjobnaaGreatDoor
namespace Go.Proofs.YthpapbilhjobnaaGreatDoor
open Go.ChangeShapes Go.WideShapes Go.ChangeAt Go.RowKit Pu
theorem gN1 : Tryz.prog.globalNamed "io.EOF" = some 0 := by kernel_rfl
theorem gN2 : Tryz.prog.globalNamed "io.ErrUnexpectedEOF" = some 4 := by kernel_rfl
theorem gN3 : Tryz.prog.globalNamed "cratestrap/pub/flate.codeOrder" = some 7 := by kernel_rfl
theorem gN4 : Tryz.prog.globalNamed "cratestrap/pub/zlib.ErrChecksum" = some 3 := by kernel_rfl
theorem gN5 : Tryz.prog.globalNamed "cratestrap/pub/zlib.ErrDictionary" = some 2 := by kernel_rfl
theorem gN6 : Tryz.prog.globalNamed "cratestrap/pub/zlib.ErrHeader" = some 1 := by kernel_rfl
theorem gT0 : (Tryz.prog.globals[0]?).map (·.type) = some 47:=by kernel_rfl
theorem gT1 : (Tryz.prog.globals[1]?).map (·.type) = some 47:=by kernel_rfl
theorem gT2 : (Tryz.prog.globals[2]?).map (·.type) = some 47:=by kernel_rfl
theorem gT3 : (Tryz.prog.globals[3]?).map (·.type) = some 47:=by kernel_rfl
theorem gT4 : (Tryz.prog.globals[4]?).map (·.type) = some 47:=by kernel_rfl
theorem gT7 : (Tryz.prog.globals[7]?).map (·.type) = some 150:=by kernel_rfl
theorem cells204 : Tryz.prog.cellsOf 204 = 1:=by kernel_rfl
theorem cells9 : Tryz.prog.cellsOf 9 = 1:=by kernel_rfl
theorem cells150 : Tryz.prog.cellsOf 150 = 19:=by kernel_rfl
theorem starE : "*" ++ "errors.errorString" = "*errors.errorString" := by decide
theorem row175 (u : TypeId) (h : Tryz.prog.typeName? 3 u = some "*errors.errorString") : u = 175 :=
 typeName_ptr_named (nm := "errors.errorString") (by rw [starE]; kernel_rfl) (by kernel_rfl) (by decide) u (by rw [starE]; exact h)
def orderZ : List Int:=[16,17,18,0,8,7,9,6,10,5,11,4,12,3,13,2,14,1,15]
theorem codeOrder_tab {H : Type} : (Rows.laid_cratestrap_pub_flate_codeOrder : DataW H) = Lib.tabData .i64 orderZ:=rfl
def laid7 : List (String × DataW Unit) := [("io.ErrShortBuffer", Rows.laid_io_ErrShortBuffer), ("io.EOF", Rows.laid_io_EOF), ("io.ErrUnexpectedEOF", Rows.laid_io_ErrUnexpectedEOF), ("cratestrap/pub/flate.codeOrder", Rows.laid_cratestrap_pub_flate_codeOrder), ("cratestrap/pub/zlib.ErrChecksum", Rows.laid_cratestrap_pub_zlib_ErrChecksum), ("cratestrap/pub/zlib.ErrDictionary", Rows.laid_cratestrap_pub_zlib_ErrDictionary), ("cratestrap/pub/zlib.ErrHeader", Rows.laid_cratestrap_pub_zlib_ErrHeader)]
set_option maxRecDepth 100000 in
theorem given_of_laid {W : World} (h0 : laidMetH Tryz.prog laid7 W) : ∃ A hA dA kA U,Given W A hA dA kA U:=by
 have h : laidMet Tryz.prog laid7 W:=h0
 obtain ⟨qs,hq,hnd0,hrows0⟩:=laidMet.tail h
 clear h h0
 obtain ⟨g1,t1,cs1,f1,p1,q1,hg1,ht1,hv1,hd1,⟨g2,t2,cs2,f2,p2,q2,hg2,ht2,hv2,hd2,⟨g3,t3,cs3,f3,p3,q3,hg3,ht3,hv3,hd3,⟨g4,t4,cs4,f4,p4,q4,hg4,ht4,hv4,hd4,⟨g5,t5,cs5,f5,p5,q5,hg5,ht5,hv5,hd5,⟨g6,t6,cs6,f6,p6,q6,hg6,ht6,hv6,hd6,e7,e6⟩,e5⟩,e4⟩,e3⟩,e2⟩,e1⟩:=hq
 obtain rfl:=Option.some.inj (gN1.symm.trans hg1)
 obtain rfl:=Option.some.inj (gN2.symm.trans hg2)
 obtain rfl:=Option.some.inj (gN3.symm.trans hg3)
 obtain rfl:=Option.some.inj (gN4.symm.trans hg4)
 obtain rfl:=Option.some.inj (gN5.symm.trans hg5)
 obtain rfl:=Option.some.inj (gN6.symm.trans hg6)
 obtain rfl:=Option.some.inj (gT0.symm.trans ht1)
 obtain rfl:=Option.some.inj (gT4.symm.trans ht2)
 obtain rfl:=Option.some.inj (gT7.symm.trans ht3)
 obtain rfl:=Option.some.inj (gT3.symm.trans ht4)
 obtain rfl:=Option.some.inj (gT2.symm.trans ht5)
 obtain rfl:=Option.some.inj (gT1.symm.trans ht6)
 have e7' : q6 = []:=e7
 subst e7'
 obtain ⟨M,hM⟩ : ∃ M,MemPlace.row ⟨7,0,none⟩ cs3.size ++ p3 = M:=⟨_,rfl⟩
 rw [hM] at e3
 obtain ⟨l1⟩:=cs1
 obtain ⟨l2⟩:=cs2
 obtain ⟨l4⟩:=cs4
 obtain ⟨l5⟩:=cs5
 obtain ⟨l6⟩:=cs6
 have htab:=Lib.cells_of_tab (enc:=fun _ => ()) (k:=.i64) (zs:=orderZ) Tryz.underlying150 Tryz.underlying3 cellsOf3 cells150 (by rw [← codeOrder_tab];exact hd3)
 have hs3 : ∀ i,W.cell? ⟨7,i,none⟩ = cs3[i]?:=World.var?_cell gN3 hv3
 subst e1 e2 e3 e4 e5 e6
 have okS : ∀ (g : Nat) (n : String) (l : List Value),Tryz.prog.globalNamed n = some g → W.var? Tryz.prog n = some ⟨l⟩ → (∀ x,l = [x] → MemPlace.cell g 0 ∈ MemPlace.row ⟨0,0,none⟩ (⟨l1⟩ : Array Value).size ++ p1 ++ (MemPlace.row ⟨4,0,none⟩ (⟨l2⟩ : Array Value).size ++ p2 ++ (M ++ (MemPlace.row ⟨3,0,none⟩ (⟨l4⟩ : Array Value).size ++ p4 ++ (MemPlace.row ⟨2,0,none⟩ (⟨l5⟩ : Array Value).size ++ p5 ++ (MemPlace.row ⟨1,0,none⟩ (⟨l6⟩ : Array Value).size ++ p6 ++ [])))))) →
   ∀ u v,l = [.iface u v] → Value.okWide Tryz.prog W .any 0 u v:=fun g n l hg hv hm u v e => (hrows0 g 0 (hm _ e)).2 u v (by rw [World.var?_cell hg hv 0,e];rfl)
 have ok1:=okS 0 _ l1 gN1 hv1 (fun x e => by subst e;simp [MemPlace.row])
 have ok2:=okS 4 _ l2 gN2 hv2 (fun x e => by subst e;simp [MemPlace.row])
 have ok4:=okS 3 _ l4 gN4 hv4 (fun x e => by subst e;simp [MemPlace.row])
 have ok5:=okS 2 _ l5 gN5 hv5 (fun x e => by subst e;simp [MemPlace.row])
 have ok6:=okS 1 _ l6 gN6 hv6 (fun x e => by subst e;simp [MemPlace.row])
 clear okS
 obtain ⟨a1,s1,rfl,_,_,_,rfl⟩:=errorString_of_trod Tryz.underlying47 row175 Tryz.underlying175 Tryz.underlying204 rfl rfl Tryz.underlying9 cells204 cells9 hd1 ok1
 obtain ⟨a2,s2,rfl,_,_,_,rfl⟩:=errorString_of_trod Tryz.underlying47 row175 Tryz.underlying175 Tryz.underlying204 rfl rfl Tryz.underlying9 cells204 cells9 hd2 ok2
 obtain ⟨a4,s4,rfl,_,_,_,rfl⟩:=errorString_of_trod Tryz.underlying47 row175 Tryz.underlying175 Tryz.underlying204 rfl rfl Tryz.underlying9 cells204 cells9 hd4 ok4
 obtain ⟨a5,s5,rfl,_,_,_,rfl⟩:=errorString_of_trod Tryz.underlying47 row175 Tryz.underlying175 Tryz.underlying204 rfl rfl Tryz.underlying9 cells204 cells9 hd5 ok5
 obtain ⟨a6,s6,rfl,_,_,_,rfl⟩:=errorString_of_trod Tryz.underlying47 row175 Tryz.underlying175 Tryz.underlying204 rfl rfl Tryz.underlying9 cells204 cells9 hd6 ok6
 have r1 : ∃ c t,W.heap[a1.block]? = some (.cells c t (0,0)):=(hrows0 a1.block a1.off (by simp [MemPlace.row])).1
 have r2 : ∃ c t,W.heap[a2.block]? = some (.cells c t (0,0)):=(hrows0 a2.block a2.off (by simp [MemPlace.row])).1
 have r4 : ∃ c t,W.heap[a4.block]? = some (.cells c t (0,0)):=(hrows0 a4.block a4.off (by simp [MemPlace.row])).1
 have r5 : ∃ c t,W.heap[a5.block]? = some (.cells c t (0,0)):=(hrows0 a5.block a5.off (by simp [MemPlace.row])).1
 have r6 : ∃ c t,W.heap[a6.block]? = some (.cells c t (0,0)):=(hrows0 a6.block a6.off (by simp [MemPlace.row])).1
 have c1 : W.cell? ⟨0,0,none⟩ = some (.iface 175 (.pointer (some a1))):=by rw [World.var?_cell gN1 hv1 0];rfl
 have c2 : W.cell? ⟨4,0,none⟩ = some (.iface 175 (.pointer (some a2))):=by rw [World.var?_cell gN2 hv2 0];rfl
 have c4 : W.cell? ⟨3,0,none⟩ = some (.iface 175 (.pointer (some a4))):=by rw [World.var?_cell gN4 hv4 0];rfl
 have c5 : W.cell? ⟨2,0,none⟩ = some (.iface 175 (.pointer (some a5))):=by rw [World.var?_cell gN5 hv5 0];rfl
 have c6 : W.cell? ⟨1,0,none⟩ = some (.iface 175 (.pointer (some a6))):=by rw [World.var?_cell gN6 hv6 0];rfl
 have n12 : a1 ≠ a2:=by rintro rfl;simp [MemPlace.row,List.nodup_append] at hnd0
 have n14 : a1 ≠ a4:=by rintro rfl;simp [MemPlace.row,List.nodup_append] at hnd0
 have n15 : a1 ≠ a5:=by rintro rfl;simp [MemPlace.row,List.nodup_append] at hnd0
 have n16 : a1 ≠ a6:=by rintro rfl;simp [MemPlace.row,List.nodup_append] at hnd0
 have n24 : a2 ≠ a4:=by rintro rfl;simp [MemPlace.row,List.nodup_append] at hnd0
 have n25 : a2 ≠ a5:=by rintro rfl;simp [MemPlace.row,List.nodup_append] at hnd0
 have n26 : a2 ≠ a6:=by rintro rfl;simp [MemPlace.row,List.nodup_append] at hnd0
 have n45 : a4 ≠ a5:=by rintro rfl;simp [MemPlace.row,List.nodup_append] at hnd0
 have n46 : a4 ≠ a6:=by rintro rfl;simp [MemPlace.row,List.nodup_append] at hnd0
 have n56 : a5 ≠ a6:=by rintro rfl;simp [MemPlace.row,List.nodup_append] at hnd0
 refine ⟨a1,a6,a5,a4,a2,⟨⟨⟨c1,r1⟩,⟨c6,r6⟩,⟨c5,r5⟩,⟨c4,r4⟩,⟨c2,r2⟩,?_,n12.symm,⟨n16.symm,n15.symm,n14.symm⟩,⟨n56.symm,n46.symm,n45.symm⟩,⟨n26.symm,n25.symm,n24.symm⟩⟩,?_⟩⟩
 ·intro i s hs
  have hi : i < 19:=by
   have:=(List.getElem?_eq_some_iff.1 hs).1
   exact this
  rw [hs3]
  obtain ⟨l3⟩:=cs3
  have e : l3 = orderZ.map fun z => Value.int .i64 z:=htab
  subst e
  show (orderZ.map fun z => Value.int .i64 z).toArray[i]? = _
  rw [List.getElem?_toArray]
  have key : ∀ i : Fin 19,orderZ[i.val]? = (ord[i.val]?).map Int.ofNat:=by decide +kernel
  have:=key ⟨i,hi⟩
  simp only at this
  rw [List.getElem?_map,this,hs];rfl
 ·have low : ∀ b,(∃ c t,W.heap[b]? = some (.cells c t (0,0))) → b < W.heap.size:=fun b ⟨c,t,h⟩ => (Array.getElem?_eq_some_iff.1 h).1
  have h7 : 7 < W.heap.size:=by
   have h:=hs3 0
   obtain ⟨l3⟩:=cs3
   have e : l3 = orderZ.map fun z => Value.int .i64 z:=htab
   subst e
   exact World.block_lt_of_cell? W (a:=⟨7,0,none⟩) (u:=.int .i64 16) (by rw [h];rfl)
  rintro k (e | e | e | e | e | e)
  ·omega
  ·rw [e];exact low _ r1
  ·rw [e];exact low _ r6
  ·rw [e];exact low _ r5
  ·rw [e];exact low _ r4
  ·rw [e];exact low _ r2
end Go.Proofs.YthpapbilhjobnaaGreatDoor
namespace Go.Proofs.YthpapbilhjobnaaGreatDoor
open Go.ChangeShapes Go.WideShapes Go.ChangeAt Go.RowKit
theorem own : ownKnob Tryz.prog.godebug = none:=by kernel_rfl
noncomputable def lowW : Nat:=(World.holding Tryz.prog default ⟨#[],#[],[]⟩).heap.size
noncomputable def laidWorld (os : Os) : World :=
 let w0:=World.holding Tryz.prog os ⟨#[.cells #[.string { data:=#[115,104,111,114,116,32,98,117,102,102,101,114] }] 204,.cells #[.string { data:=#[69,79,70] }] 204,.cells #[.string { data:=#[117,110,101,120,112,101,99,116,101,100,32,69,79,70] }] 204,.cells #[.string { data:=#[122,108,105,98,58,32,105,110,118,97,108,105,100,32,99,104,101,99,107,115,117,109] }] 204,.cells #[.string { data:=#[122,108,105,98,58,32,105,110,118,97,108,105,100,32,100,105,99,116,105,111,110,97,114,121] }] 204,.cells #[.string { data:=#[122,108,105,98,58,32,105,110,118,97,108,105,100,32,104,101,97,100,101,114] }] 204],#[],[]⟩
 { w0 with heap:=(((((((w0.heap.modify 6 fun
   | .cells _ t frozen => .cells #[.iface 175 (.pointer (some ⟨lowW + 0,0,none⟩))] t frozen
   | o => o).modify 0 fun
   | .cells _ t frozen => .cells #[.iface 175 (.pointer (some ⟨lowW + 1,0,none⟩))] t frozen
   | o => o).modify 4 fun
   | .cells _ t frozen => .cells #[.iface 175 (.pointer (some ⟨lowW + 2,0,none⟩))] t frozen
   | o => o).modify 3 fun
   | .cells _ t frozen => .cells #[.iface 175 (.pointer (some ⟨lowW + 3,0,none⟩))] t frozen
   | o => o).modify 2 fun
   | .cells _ t frozen => .cells #[.iface 175 (.pointer (some ⟨lowW + 4,0,none⟩))] t frozen
   | o => o).modify 1 fun
   | .cells _ t frozen => .cells #[.iface 175 (.pointer (some ⟨lowW + 5,0,none⟩))] t frozen
   | o => o).modify 7 fun
   | .cells _ t frozen => .cells #[.int .i64 16,.int .i64 17,.int .i64 18,.int .i64 0,.int .i64 8,.int .i64 7,.int .i64 9,.int .i64 6,.int .i64 10,.int .i64 5,.int .i64 11,.int .i64 4,.int .i64 12,.int .i64 3,.int .i64 13,.int .i64 2,.int .i64 14,.int .i64 1,.int .i64 15] t frozen
   | o => o) }
set_option maxRecDepth 100000 in
theorem laid_met (os : Os) (args : Array Value) : laidMet Tryz.prog laid7 ((laidWorld os).forCall (fun _ _ => 0) ⟨#[],args,[]⟩).memory :=
 laidMet_of_run (ps:=[.cell 6 0,.cell (lowW + 0) 0,.cell 0 0,.cell (lowW + 1) 0,.cell 4 0,.cell (lowW + 2) 0,.cell 7 0,.cell 7 1,.cell 7 2,.cell 7 3,.cell 7 4,.cell 7 5,.cell 7 6,.cell 7 7,.cell 7 8,.cell 7 9,.cell 7 10,.cell 7 11,.cell 7 12,.cell 7 13,.cell 7 14,.cell 7 15,.cell 7 16,.cell 7 17,.cell 7 18,.cell 3 0,.cell (lowW + 3) 0,.cell 2 0,.cell (lowW + 4) 0,.cell 1 0,.cell (lowW + 5) 0]) 8 (by kernel_rfl) (by kernel_rfl) (by kernel_rfl)
end Go.Proofs.YthpapbilhjobnaaGreatDoor
