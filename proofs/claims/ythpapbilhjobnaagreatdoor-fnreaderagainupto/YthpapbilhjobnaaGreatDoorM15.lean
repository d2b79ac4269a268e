/-
  Parts of the proofs over the reader and the encoder of streams, joined: Dy Ar Dg. Conditions: each theorem names its own.
-/
import Derived.Test.YthpapbilhjobnaaGreatDoorM01
import Derived.Test.YthpapbilhjobnaaGreatDoorM12
import Derived.Test.YthpapbilhjobnaaGreatDoorM14
import Derived.Deep.CutBlock
import Derived.Outline
import Derived.Deep.RegionLaw
import Derived.Laws.AppendOwnNone
set_option linter.unusedVariables false
set_option linter.unusedSimpArgs false
namespace Go.Proofs.YthpapbilhjobnaaGreatDoor
open Go.RowKit Pu
theorem Blk.new1 (w : World) (o : Obj) (c : Array Value) (t : TypeId) : Blk ((w.alloc o).alloc (.cells c t)) (w.heap.size + 1) c t:=by
 have:=Blk.new (w.alloc o) c t
 simpa using this
def Marks (w : World) (b n : Nat) (us : List Bool) : Prop:=us.length = n ∧ Blk w b (us.map Value.bool).toArray 4
theorem Marks.cell {w : World} {b n : Nat} {us : List Bool} (h : Marks w b n us) {s : Nat} (hs : s < n) : ∃ x : Bool,us[s]? = some x ∧ w.cell? ⟨b,s,none⟩ = some (.bool x):=by
 have hl : s < us.length:=by rw [h.1];exact hs
 refine ⟨us[s],by simp [hl],?_⟩
 rw [h.2.cell]
 simp [hl]
theorem Marks.set {w : World} {b n : Nat} {us : List Bool} (h : Marks w b n us) (s : Nat) : Marks (w.setCell ⟨b,s,none⟩ (.bool true)) b n (us.set s true):=by
 refine ⟨by simpa using h.1,?_⟩
 have:=h.2.set s (.bool true)
 have e : (us.map Value.bool).toArray.setIfInBounds s (.bool true) = ((us.set s true).map Value.bool).toArray:=by
  simp [List.map_set]
 rw [e] at this
 exact this
theorem Marks.other {w : World} {b n : Nat} {us : List Bool} (h : Marks w b n us) (a : Addr) (v : Value) (hne : b ≠ a.block) : Marks (w.setCell a v) b n us:=⟨h.1,h.2.setOther a v hne⟩
theorem Marks.ext {w w' : World} {b n : Nat} {us : List Bool} {M : Nat → Prop} (h : Marks w b n us) (he : Ext M w w') (hm : ¬ M b) : Marks w' b n us:=⟨h.1,h.2.ext he hm⟩
theorem Marks.cells {w : World} {b n : Nat} {us : List Bool} (h : Marks w b n us) : ∀ j x,(us.map Value.bool)[j]? = some x → w.cell? ⟨b,0 + j,none⟩ = some x:=by
 intro j x hx
 rw [Nat.zero_add,h.2.cell]
 simpa using hx
def marked (ul ud : List Bool) (t : Tok) : Prop:=(t.far = 0 → ul[t.lit]? = some true) ∧ (t.far ≠ 0 → ul[lsym t.long]? = some true ∧ ud[dsym t.far]? = some true)
theorem get_set_true {us : List Bool} {s k : Nat} (h : us[k]? = some true) : (us.set s true)[k]? = some true:=by
 rw [List.getElem?_set]
 split
 ·rename_i e;subst e
  split
  ·rfl
  ·rename_i h2;rw [List.getElem?_eq_none (by omega)] at h;cases h
 ·exact h
theorem get_set_self {us : List Bool} {s : Nat} (h : s < us.length) : (us.set s true)[s]? = some true:=by simp [h]
theorem marked_mono {ul ud ul' ud' : List Bool} {t : Tok} (h : marked ul ud t) (h1 : ∀ k : Nat,ul[k]? = some true → ul'[k]? = some true) (h2 : ∀ k : Nat,ud[k]? = some true → ud'[k]? = some true) : marked ul' ud' t :=
 ⟨fun h0 => h1 _ (h.1 h0),fun h0 => ⟨h1 _ (h.2 h0).1,h2 _ (h.2 h0).2⟩⟩
structure DM (w : World) (lb db : Nat) (toks : List Tok) (k : Nat) (ul ud : List Bool) (wr : World) : Prop where
 ml : Marks wr lb 286 ul
 md : Marks wr db 30 ud
 ext : Ext (fun _ => False) w wr
 eob : ul[256]? = some true
 all : ∀ t ∈ toks.take k,marked ul ud t
theorem take_succ_mem {toks : List Tok} {k : Nat} {t : Tok} (hk : toks[k]? = some t) {P : Tok → Prop} (h : ∀ x ∈ toks.take k,P x) (ht : P t) : ∀ x ∈ toks.take (k + 1),P x:=by
 intro x hx
 have hlt : k < toks.length:=by
  rcases Nat.lt_or_ge k toks.length with h | h
  ·exact h
  ·rw [List.getElem?_eq_none h] at hk;cases hk
 rw [List.take_succ_eq_append_getElem hlt] at hx
 rcases List.mem_append.1 hx with h1 | h1
 ·exact h x h1
 ·simp at h1
  rw [List.getElem?_eq_getElem hlt] at hk
  simp at hk
  rw [h1,hk];exact ht
theorem DM.keep {w : World} {lb db : Nat} {toks : List Tok} {k : Nat} {ul ud : List Bool} {wr w' : World} (h : DM w lb db toks k ul ud wr) (he : Ext (fun _ => False) wr w') : DM w lb db toks k ul ud w' :=
 ⟨h.ml.ext he (fun h => h),h.md.ext he (fun h => h),h.ext.trans he,h.eob,h.all⟩
theorem DM.lit {w : World} {lb db : Nat} {toks : List Tok} {k : Nat} {ul ud : List Bool} {wr : World} (h : DM w lb db toks k ul ud wr) (hlb : w.heap.size ≤ lb) (hne : lb ≠ db) {t : Tok} (hk : toks[k]? = some t) (h0 : t.far = 0) (hl : t.lit ≤ 255) :
  DM w lb db toks (k + 1) (ul.set t.lit true) ud (wr.setCell ⟨lb,t.lit,none⟩ (.bool true)):=by
 refine ⟨h.ml.set _,h.md.other _ _ (Ne.symm hne),h.ext.setCell (fun e => absurd e (by show ¬ lb < _;omega)) _,get_set_true h.eob,?_⟩
 refine take_succ_mem hk (fun x hx => marked_mono (h.all x hx) (fun _ h => get_set_true h) (fun _ h => h)) ⟨fun _ => get_set_self (by rw [h.ml.1];omega),fun h1 => absurd h0 h1⟩
theorem DM.pair {w : World} {lb db : Nat} {toks : List Tok} {k : Nat} {ul ud : List Bool} {wr : World} (h : DM w lb db toks k ul ud wr) (hlb : w.heap.size ≤ lb) (hdb : w.heap.size ≤ db) (hne : lb ≠ db) {t : Tok} (hk : toks[k]? = some t)
  (h0 : t.far ≠ 0) {ls ds : Nat} (hls : lsym t.long = ls) (hds : dsym t.far = ds) (hl : ls < 286) (hd : ds < 30) :
  DM w lb db toks (k + 1) (ul.set ls true) (ud.set ds true) ((wr.setCell ⟨lb,ls,none⟩ (.bool true)).setCell ⟨db,ds,none⟩ (.bool true)):=by
 refine ⟨(h.ml.set _).other _ _ hne,(h.md.other _ _ (Ne.symm hne)).set _,(h.ext.setCell (fun e => absurd e (by show ¬ lb < _;omega)) _).setCell (fun e => absurd e (by show ¬ db < _;omega)) _,get_set_true h.eob,?_⟩
 refine take_succ_mem hk (fun x hx => marked_mono (h.all x hx) (fun _ h => get_set_true h) (fun _ h => get_set_true h)) ⟨fun h1 => absurd h1 h0,fun _ => ⟨?_,?_⟩⟩
 ·rw [hls];exact get_set_self (by rw [h.ml.1];exact hl)
 ·rw [hds];exact get_set_self (by rw [h.md.1];exact hd)
structure DN (w : World) (lb db : Nat) (toks : List Tok) (C : Nat) (lv : Value) (ul ud : List Bool) (at_ : Nat) (wr : World) : Prop where
 ml : Marks wr lb 286 ul
 md : Marks wr db 30 ud
 ext : Ext (CM C) w wr
 eob : ul[256]? = some true
 all : ∀ t ∈ toks,marked ul ud t
 cho : Cho wr C lv at_
structure CodesOk (toks : List Tok) (lit dist : List Nat) : Prop where
 nl : lit.length = 286
 nd : dist.length = 30
 glit : Pu.Good lit
 eob : 0 < len lit 256
 gdist : Pu.Good dist ∨ ∀ s,len dist s = 0
 lel : ∀ x ∈ lit,x ≤ 15
 led : ∀ x ∈ dist,x ≤ 15
 coded : ∀ t ∈ toks,t.coded lit dist
theorem CodesOk.of {toks : List Tok} {ul ud : List Bool} {lit dist : List Nat} (hl : ul.length = 286) (hd : ud.length = 30) (he : ul[256]? = some true) (ha : ∀ t ∈ toks,marked ul ud t) (h1 : TreePost ul lit 13) (h2 : TreePost ud dist 13) : CodesOk toks lit dist:=by
 have h0:=(h1.used 256).1 he
 refine ⟨by rw [h1.size,hl],by rw [h2.size,hd],?_,h0,h2.good,fun x hx => by have:=h1.le x hx;omega,fun x hx => by have:=h2.le x hx;omega,fun t ht => ⟨fun hf => (h1.used _).1 ((ha t ht).1 hf),fun hf => ⟨(h1.used _).1 ((ha t ht).2 hf).1,(h2.used _).1 ((ha t ht).2 hf).2⟩⟩⟩
 rcases h1.good with h | h
 ·exact h
 ·rw [h 256] at h0;omega
def Lst (w : World) (g : Nat) (l : List Nat) : Prop:=∀ j x,(l.map IV)[j]? = some x → w.cell? ⟨g,j,none⟩ = some x
theorem Lst.ext {w w' : World} {g : Nat} {l : List Nat} {M : Nat → Prop} (h : Lst w g l) (he : Ext M w w') (hm : ¬ M g) : Lst w' g l:=fun j x hx => he.cellSome hm (h j x hx)
theorem Lst.get {w : World} {g : Nat} {l : List Nat} (h : Lst w g l) {s : Nat} (hs : s < l.length) : w.cell? ⟨g,s,none⟩ = some (.int .i64 (len l s : Int)):=by
 have:=h s (IV (len l s)) (lens_get hs)
 exact this
theorem Lst.of_owns {w : World} {base e g n cap : Nat} {l : List Nat} (h : w.ownsRow base e 1 (.slice (some ⟨g,0,none⟩) n cap) n (l.map IV)) : Lst w g l:=by
 intro j x hx
 have:=h.cells (g:=g) rfl j x hx
 by_cases hj : j = 0
 ·subst hj;simpa [Addr.add] using this
 ·simpa [Addr.add,hj] using this
structure D3 (w : World) (C : Nat) (lv : Value) (toks : List Tok) (g1 g2 : Nat) (lit dist : List Nat) (at_ : Nat) (wr : World) : Prop where
 ext : Ext (CM C) w wr
 cho : Cho wr C lv at_
 l1 : Lst wr g1 lit
 l2 : Lst wr g2 dist
 b1 : w.heap.size ≤ g1 ∧ g1 < wr.heap.size
 b2 : w.heap.size ≤ g2 ∧ g2 < wr.heap.size
 ok : CodesOk toks lit dist
theorem step_append_moved {P : Program} {ops : Array Oper} {o : Oper} {a : Act} {w : World} {K : Act → World → Prop} {Q : Exit → Act → World → Prop} {E : Prop} (hgd : o.guard = none) (s x : Operand) (t : TypeId)
  (ho : o.op = .call { callee:=.builtin .append,args:=#[s,x],argTypes:=#[t,t] })
  (base : Nat) (e : TypeId) (i : TypeInfo) (z : Value) (size bytes : Nat) (ht : P.underlying t = some (.slice e)) (hi : P.info? e = some i) (hz : i.zero = some z)
  (hsize : i.size = size) (hby : i.bytes = bytes) (hzs : z.cells.size = size) (hsz : 0 < size)
  (v : Value) (n : Nat) (xs : List Value) (hs : a.eval s = v) (hown : w.ownsRow base e size v n xs)
  (ad : Addr) (m c : Nat) (news : List Value) (hx : a.eval x = .slice (some ad) m c) (hl : news.length = m * size) (hnews : ∀ j u,news[j]? = some u → w.cell? (ad.add j) = some u) (h1 : ∀ u ∈ news,u.oneCell' = true)
  (h63 : n + m ≤ maxLen) (hbytes : (n + m) * bytes ≤ 140737488355328) (hbase : base ≤ w.heap.size)
  (h : ∀ v' w',w'.ownsRow base e size v' (n + m) (xs ++ news) → w.grownBy w' v.ownBlock → Moved w v v' → K (a.put o.dst v') w') :
  if Region.wanted o (yielded ops a.tmps) = true then Oper.wp P o a w K Q else E:=by
 have hw : Region.wanted o (yielded ops a.tmps) = true:=by simp [Region.wanted,hgd]
 rw [if_pos hw]
 obtain ⟨v',w',hr,h2,h3,_,h5⟩:=run_append_moved (P:=P) w base t o.type e i z size bytes ht hi hz hsize hby hzs hsz v n xs hown ad m c news hl hnews h1 h63 hbytes hbase
 unfold Oper.wp
 simp [execOp,ho,resolve,invoke,builtin,hs,hx,hr,Result.andThen]
 exact h v' w' h2 h3 h5
theorem owns_empty (w : World) (e : TypeId) : (w.alloc (.cells #[] e)).drew.ownsRow w.heap.size e 1 (.slice (some ⟨w.heap.size,0,none⟩) 0 0) 0 [] :=
 ⟨rfl,.inr ⟨w.heap.size,0,#[],rfl,Nat.le_refl _,Blk.new w #[] e,Nat.le_refl _,by simp [maxLen],rfl,rfl⟩⟩
theorem Lst.add {w : World} {g : Nat} {l : List Nat} (h : Lst w g l) (k : Nat) : ∀ j u,((l.take k).map IV)[j]? = some u → w.cell? ((⟨g,0,none⟩ : Addr).add j) = some u:=by
 intro j u hu
 have e : ((⟨g,0,none⟩ : Addr).add j) = ⟨g,j,none⟩:=by
  by_cases h0 : j = 0
  ·subst h0;rfl
  ·simp [Addr.add,h0]
 rw [e]
 refine h j u ?_
 rw [List.map_take,List.getElem?_take] at hu
 split at hu
 ·exact hu
 ·simp at hu
theorem one_IV (l : List Nat) : ∀ u ∈ l.map IV,u.oneCell' = true:=by intro u hu;obtain ⟨y,_,rfl⟩:=List.mem_map.1 hu;rfl
theorem Moved.ge {w : World} {v v' : Value} {B : Nat} (h : Moved w v v') (hv : ∀ k,v.ownBlock = some k → B ≤ k) (hB : B ≤ w.heap.size) : ∀ k,v'.ownBlock = some k → B ≤ k:=by
 intro k hk
 rcases h with h | h
 ·exact hv k (h ▸ hk)
 ·have:=h k hk;omega
theorem take_succ_memR {rs : List Run} {k : Nat} {t : Run} (hk : rs[k]? = some t) {P : Run → Prop} (h : ∀ x ∈ rs.take k,P x) (ht : P t) : ∀ x ∈ rs.take (k + 1),P x:=by
 intro x hx
 have hlt : k < rs.length:=by
  rcases Nat.lt_or_ge k rs.length with h | h
  ·exact h
  ·rw [List.getElem?_eq_none h] at hk;cases hk
 rw [List.take_succ_eq_append_getElem hlt] at hx
 rcases List.mem_append.1 hx with h1 | h1
 ·exact h x h1
 ·simp at h1
  rw [List.getElem?_eq_getElem hlt] at hk
  simp at hk
  rw [h1,hk];exact ht
structure RC (w : World) (C : Nat) (lv : Value) (l : List Nat) (n g c : Nat) (rs : List Run) (at_ : Nat) (wr : World) : Prop where
 ext : Ext (CM C) w wr
 cho : Cho wr C lv at_
 cells : ∀ j x,(runsCells rs)[j]? = some x → wr.cell? ⟨g,j,none⟩ = some x
 b : w.heap.size ≤ g ∧ g < wr.heap.size
 cap : rs.length ≤ c
 fit : runsFit l 0 rs n
theorem RC.of_RI {w wB wr : World} {C : Nat} {lv : Value} {l : List Nat} {n at_ : Nat} {rs : List Run} {v : Value} (he : Ext (fun _ => False) w wB) (hC : C < w.heap.size) (hn : 0 < n) (h : RI wB C lv at_ l n rs v wr) :
  ∃ g c at',v = .slice (some ⟨g,0,none⟩) rs.length c ∧ at_ ≤ at' ∧ at' ≤ at_ + 3 * n ∧ RC w C lv l n g c rs at' wr:=by
 have h0 : rs ≠ []:=by
  intro e
  have hf:=h.fit
  rw [e] at hf
  have hf' : 0 = n:=hf
  omega
 obtain ⟨at',ha,ha',hch⟩:=h.cho
 have hsz:=he.size
 rcases h.own.2 with ⟨_,h2⟩ | ⟨g,cap,cur,rfl,hb,hg,hn',hc,hs,ht⟩
 ·exact absurd (List.eq_nil_of_length_eq_zero h2) h0
 ·have hcl:=h.own.cells (g:=g) rfl
  refine ⟨g,cap,at',rfl,ha,ha',(he.mono (fun _ _ h => h.elim)).trans h.ext,hch,fun j x hx => ?_,⟨by omega,lt_of_block hg⟩,hn',h.fit⟩
  have:=hcl j x hx
  by_cases hj : j = 0
  ·subst hj;simpa [Addr.add] using this
  ·simpa [Addr.add,hj] using this
theorem runsCells_get (rs : List Run) (k : Nat) (hk : k < rs.length) :
  (runsCells rs)[k * 3]? = some (.int .i64 (rs[k].sym : Int)) ∧ (runsCells rs)[k * 3 + 1]? = some (.int .i64 (rs[k].more : Int)) ∧ (runsCells rs)[k * 3 + 2]? = some (.int .i64 (rs[k].extra : Int)):=by
 have:=toksCells_get (rs.map runTok) k (by simpa using hk)
 simpa [runsCells,runTok] using this
theorem ord_none {lens : List Nat} : ∀ k s : Nat,19 ≤ k → ord[k]? = some s → len lens s = 0:=fun k s hk hs => by
 rw [List.getElem?_eq_none (by simp [ord];omega)] at hs;cases hs
theorem ord_small {k s : Nat} (h : ord[k]? = some s) : s < 19:=by
 have hk : k < ord.length:=by
  rcases Nat.lt_or_ge k ord.length with h1 | h1
  ·exact h1
  ·rw [List.getElem?_eq_none h1] at h;cases h
 have : ∀ x ∈ ord,x < 19:=by decide
 rw [List.getElem?_eq_getElem hk] at h
 cases h
 exact this _ (List.getElem_mem hk)
theorem ord_cell {k s : Nat} (h : ord[k]? = some s) : (orderL.map IV).toArray[k]? = some (.int .i64 (s : Int)):=by
 have : (orderL.map IV)[k]? = some (IV s):=by
  rw [List.getElem?_map,show orderL = ord from rfl,h];rfl
 simpa [IV] using this
theorem WM.moved {w : World} {W k : Nat} {v v' : Value} (hm : Moved w v v') (h : ¬ WM W v k) (hk : k < w.heap.size) : ¬ WM W v' k:=by
 intro e
 rcases e with e | e
 ·exact h (.inl e)
 ·rcases hm with hm | hm
  ·exact h (.inr (hm ▸ e))
  ·have:=hm k e;omega
theorem runsBits_take (lens : List Nat) (rs : List Run) (k : Nat) (h : k < rs.length) : runsBits lens (rs.take (k + 1)) = runsBits lens (rs.take k) ++ runBits lens rs[k]:=by
 rw [List.take_succ_eq_append_getElem h,runsBits_append];simp [runsBits]
theorem length_runsBits_le (lens : List Nat) (hl : ∀ n ∈ lens,n ≤ 15) (rs : List Run) (h : ∀ r ∈ rs,r.extra ≤ 7) : (runsBits lens rs).length ≤ 22 * rs.length:=by
 induction rs with
 | nil => simp [runsBits]
 | cons r rs ih =>
  have h1:=ih (fun x hx => h x (List.mem_cons_of_mem _ hx))
  have h2:=h r List.mem_cons_self
  have h3:=len_le hl r.sym
  simp only [runsBits,runBits,List.length_append,length_codeBits,length_lsb,List.length_cons]
  omega
theorem length_ordBits (lens l : List Nat) : (ordBits lens l).length = 3 * l.length:=by
 induction l with
 | nil => rfl
 | cons x l ih =>
  have : ordBits lens (x::l) = lsb (len lens x) 3 ++ ordBits lens l:=by simp [ordBits]
  rw [this,List.length_append,ih,length_lsb,List.length_cons];omega
theorem ordBits_take (lens l : List Nat) (k s : Nat) (h : l[k]? = some s) : ordBits lens (l.take (k + 1)) = ordBits lens (l.take k) ++ lsb (len lens s) 3:=by
 have hk : k < l.length:=by
  rcases Nat.lt_or_ge k l.length with h1 | h1
  ·exact h1
  ·rw [List.getElem?_eq_none h1] at h;cases h
 have e : l[k] = s:=by rw [List.getElem?_eq_getElem hk] at h;exact Option.some.inj h
 rw [List.take_succ_eq_append_getElem hk,e]
 simp [ordBits]
def DynPost (w : World) (W C : Nat) (lv : Value) (at0 : Nat) (L : List Bool) (v : Value) (toks : List Tok) (e : Ending) (w' : World) : Prop :=
 e = .returned (.tuple #[]) ∧ ∃ lit dist lens nc rs at',HeadOf lit dist lens nc rs ∧ (∀ t ∈ toks,t.coded lit dist) ∧ at0 ≤ at' ∧ at' ≤ at0 + 2000 ∧ Cho w' C lv at' ∧
  ∃ v',Wr w' W (L ++ headBits lit dist lens nc rs ++ toksBits lit dist toks ++ codeBits lit 256) v' ∧ Ext (fun k => WM W v k ∨ k = C) w w' ∧ Moved w v v'
set_option maxHeartbeats 8000000 in
set_option maxRecDepth 100000 in
theorem dynamic_some (W tb tcap C at0 : Nat) (ta : Option Addr) (lv : Value) (L : List Bool) (v : Value) (toks : List Tok) (w : World) (hw : Wr w W L v) (hcho : Cho w C lv at0) (hat : at0 ≤ 10000000)
  (hlv : ∀ b,lv.ownBlock = some b → b < w.heap.size ∧ ¬ WM W v b) (hCW : ¬ WM W v C) (htl : toks.length ≤ 65536) (hL : L.length + 64 * toks.length + 8000 ≤ 1099511627776) (hok : ∀ t ∈ toks,Tok.ok t)
  (hct : ∀ j x,(toksCells toks)[j]? = some x → w.cell? ⟨tb,j,none⟩ = some x) (hta : toks ≠ [] → ta = some ⟨tb,0,none⟩) (hnt : ¬ WM W v tb) (hnC : tb ≠ C) (htw : tb < w.heap.size) :
  Calls Tryz.prog 35 #[.pointer (some ⟨W,0,none⟩),.slice ta toks.length tcap,.pointer (some ⟨C,0,none⟩)] w
   (DynPost w W C lv at0 L v toks):=by
 have HW:=Lib.hid hw;have HCh:=Lib.hid hcho;have HLV:=Lib.hid hlv;have HCW:=Lib.hid hCW;have HK:=Lib.hid hok;have HCT:=Lib.hid hct;have HTA:=Lib.hid hta;have HNT:=Lib.hid hnt
 clear hw hcho hlv hCW hok hct hta hnt
 obtain ⟨nt,hnt⟩ : ∃ n,toks.length = n:=⟨_,rfl⟩
 have HTN:=Lib.hid hnt
 rw [hnt] at htl hL ⊢
 clear hnt
 obtain ⟨i0,hi,hz0,hz1,hz2⟩:=info_parts Tryz.info3
 obtain ⟨m286,hm286⟩ : ∃ m,((List.replicate 286 false).map Value.bool).toArray = m:=⟨_,rfl⟩
 obtain ⟨m30,hm30⟩ : ∃ m,((List.replicate 30 false).map Value.bool).toArray = m:=⟨_,rfl⟩
 have mk1 : ∀ w : World,(Instr.makeSlice 96 (.int .i64 286) (.int .i64 286)).run Tryz.prog w = .ok (.slice (some ⟨w.heap.size,0,none⟩) 286 286) (w.alloc (.cells m286 4)):=fun _ => by rw [← hm286];kernel_rfl
 have mk2 : ∀ w : World,(Instr.makeSlice 96 (.int .i64 30) (.int .i64 30)).run Tryz.prog w = .ok (.slice (some ⟨w.heap.size,0,none⟩) 30 30) (w.alloc (.cells m30 4)):=fun _ => by rw [← hm30];kernel_rfl
 have HM286:=Lib.hid hm286;have HM30:=Lib.hid hm30
 clear hm286 hm30
 go_enter Tryz.func35,Tryz.ntmps35
 go_upto_region 0 with (fail)
 go_cut [6,7] (fun a b wx => ∃ lb db,a = .slice (some ⟨lb,0,none⟩) 286 286 ∧ b = .slice (some ⟨db,0,none⟩) 30 30 ∧ w.heap.size ≤ lb ∧ w.heap.size ≤ db ∧ lb ≠ db ∧ Marks wx lb 286 (List.replicate 286 false) ∧ Marks wx db 30 (List.replicate 30 false) ∧ Ext (fun _ => False) w wx)
 case first =>
  go_region
  all_goals
   go_wp2_with fail
   go_meet
   case rel =>
    refine ⟨_,_,rfl,rfl,by omega,by omega,by omega,⟨by simp,?_⟩,⟨by simp,?_⟩,(((Ext.refl _ w).alloc _).alloc _).drew⟩
    ·rw [HM286.out];first | exact ((Blk.new w _ _).alloc _).drew | exact (Blk.new1 w _ _ _).drew
    ·rw [HM30.out];first | exact ((Blk.new w _ _).alloc _).drew | exact (Blk.new1 w _ _ _).drew
 obtain ⟨lb,db,rfl,rfl,hlb,hdb,hld,hml,hmd,hex⟩:=hcut
 clear mk1 mk2
 obtain ⟨w1,rfl⟩ : ∃ w1 : World,w1 = wc:=⟨_,rfl⟩
 have HM1 : Hid (DM w lb db toks 0 ((List.replicate 286 false).set 256 true) (List.replicate 30 false) (w1.setCell ⟨lb,256,none⟩ (.bool true))):=Lib.hid
  ⟨hml.set _,hmd.other _ _ (Ne.symm hld),hex.setCell (fun e => absurd e (by show ¬ lb < _;omega)) _,by decide,by simp⟩
 obtain ⟨x,_,hcx⟩:=hml.cell (s:=256) (by omega)
 have hfz:=hml.2.free
 clear hml hmd hex
 go_upto_block 0 with (fail)
 obtain ⟨w2,hw2⟩ : ∃ w2 : World,w1.setCell ⟨lb,256,none⟩ (.bool true) = w2:=⟨_,rfl⟩
 rw [hw2] at HM1 ⊢
 clear hw2 hcx hfz
 go_cut [] (fun wx => ∃ ul ud,DM w lb db toks nt ul ud wx)
 case first =>
  go_wp2_with fail
  go_loopw [34] (fun x wr => ∃ (k : Nat) (ul ud : List Bool),k ≤ nt ∧ x = .int .i64 k ∧ DM w lb db toks k ul ud wr) (fun x _ => nt - (intOf x).toNat)
  case atStart => exact ⟨0,_,_,Nat.zero_le _,rfl,HM1.out⟩
  case round =>
   obtain ⟨k,ul,ud,hk,rfl,hdm⟩:=hrel
   obtain ⟨wo,rfl⟩ : ∃ wo : World,wo = wr:=⟨_,rfl⟩
   have HD:=Lib.hid hdm
   clear hdm HM1
   rcases Nat.lt_or_ge k nt with hkn | hkn
   ·have hta:=HTA.out (fun e => by have:=HTN.out;rw [e] at this;simp at this;omega)
    obtain rfl:=hta
    have hkl : k < toks.length:=by rw [HTN.out];exact hkn
    obtain ⟨lt_,ft,gt_,hlt,_⟩ : ∃ a b c,toks[k] = ⟨a,b,c⟩ ∧ True:=⟨_,_,_,rfl,trivial⟩
    have hcell:=toksCells_get toks k hkl
    have hkok:=HK.out _ (List.getElem_mem hkl)
    have hkq : toks[k]? = some ⟨lt_,ft,gt_⟩:=by rw [List.getElem?_eq_getElem hkl,hlt]
    have HKQ:=Lib.hid hkq
    rw [hlt] at hcell hkok
    have hc0:=HD.out.ext.cellSome (fun h => h) (HCT.out _ _ hcell.1)
    have hc1:=HD.out.ext.cellSome (fun h => h) (HCT.out _ _ hcell.2.1)
    have hc2:=HD.out.ext.cellSome (fun h => h) (HCT.out _ _ hcell.2.2)
    clear hcell hlt hkq hkl
    go_upto_region 5 with (fail)
    obtain ⟨w3,hw3⟩ : ∃ w3 : World,wo.alloc (Obj.cells #[.int .i64 (lt_ : Int),.int .i64 (ft : Int),.int .i64 (gt_ : Int)] 93) = w3:=⟨_,rfl⟩
    rw [hw3]
    have he3 : Ext (fun _ => False) wo w3:=by rw [← hw3];exact ((Ext.refl _ wo).alloc _)
    have hb3 : Blk w3 wo.heap.size #[.int .i64 (lt_ : Int),.int .i64 (ft : Int),.int .i64 (gt_ : Int)] 93:=by rw [← hw3];exact Blk.new _ _ _
    have HD3:=Lib.hid (HD.out.keep he3)
    have hn0 : w3.cell? ⟨wo.heap.size,0,none⟩ = some (.int .i64 (lt_ : Int)):=by rw [hb3.cell];rfl
    have hn1 : w3.cell? ⟨wo.heap.size,1,none⟩ = some (.int .i64 (ft : Int)):=by rw [hb3.cell];rfl
    have hn2 : w3.cell? ⟨wo.heap.size,2,none⟩ = some (.int .i64 (gt_ : Int)):=by rw [hb3.cell];rfl
    have hne1 : lb ≠ wo.heap.size:=by have:=HD.out.ml.2.lt;omega
    have hne2 : wo.heap.size ≠ lb:=Ne.symm hne1
    have hld' : db ≠ lb:=Ne.symm hld
    have hfl:=HD3.out.ml.2.free
    have hfd:=HD3.out.md.2.free
    clear hw3 he3 hb3 hc0 hc1 hc2
    rcases hkok with ⟨hf,hl⟩ | ⟨hf0,hf1,hg0,hg1⟩
    ·have hb : ((ft : Int) == 0) = true:=by simp at hf;simp [hf]
     simp only at hl
     have HDL:=Lib.hid (HD3.out.lit hlb hld HKQ.out hf hl)
     obtain ⟨x,_,hcx⟩:=HD3.out.ml.cell (s:=lt_) (by omega)
     clear hf
     have hl286 : lt_ < 286:=by omega
     go_wp2_with fail
     go_roundw
     case rel => exact ⟨k + 1,_,_,by omega,by go_num,HDL.out⟩
     case measure => simp [intOf];omega
    ·have hb : ((ft : Int) == 0) = false:=by simp at hf0;simp;omega
     simp only at hf0 hf1 hg0 hg1
     have hls:=lsym_ok gt_ hg0 hg1
     have hds:=dsym_ok ft hf0 hf1
     obtain ⟨ls,hls'⟩ : ∃ x,lsym gt_ = x:=⟨_,rfl⟩
     obtain ⟨ds,hds'⟩ : ∃ x,dsym ft = x:=⟨_,rfl⟩
     have hLS:=lengthSymbol_any gt_
     have hDS:=distanceSymbol_any ft
     rw [hls'] at hls hLS
     rw [hds'] at hds hDS
     have hl286 : ls < 286:=by omega
     have hd30 : ds < 30:=by omega
     have HDL:=Lib.hid (HD3.out.pair hlb hdb hld HKQ.out (by show ft ≠ 0;omega) hls' hds' hl286 hd30)
     obtain ⟨x,_,hcx⟩:=HD3.out.ml.cell (s:=ls) hl286
     obtain ⟨y,_,hcy⟩:=HD3.out.md.cell (s:=ds) hd30
     have HLS:=Lib.hid hLS;have HDS:=Lib.hid hDS
     clear hls hds hls' hds' hLS hDS
     go_wp2_with fail
     refine (HLS.out _ hg0 hg1).mono ?_
     rintro e wa ⟨rfl,rfl⟩
     go_wp2_with fail
     refine (HDS.out _ hf0 hf1).mono ?_
     rintro e wa ⟨rfl,rfl⟩
     go_wp2_with fail
     go_roundw
     case rel => exact ⟨k + 1,_,_,by omega,by go_num,HDL.out⟩
     case measure => simp [intOf];omega
   ·have hb : decide ((k : Int) < (nt : Int)) = false:=by simp;omega
    obtain rfl : k = nt:=by omega
    go_wp2_with fail
    go_meet
    case rel => exact ⟨_,_,HD.out⟩
 obtain ⟨ul,ud,hdm⟩:=hcut
 obtain ⟨w3,rfl⟩ : ∃ w3 : World,w3 = wc:=⟨_,rfl⟩
 have HD:=Lib.hid hdm
 clear hdm HM1
 have HC3:=Lib.hid (HCh.out.ext HD.out.ext (fun h => h) (fun _ _ h => h))
 go_wp2_with fail
 refine (next_at _ 2 rfl C lv at0 w3 HC3.out (by omega) (by omega) (by omega)).mono ?_
 rintro e w4 ⟨r,hr,rfl,hch4,hx4,_⟩
 have hClt : C < w.heap.size:=HCh.out.blk.lt
 have HN4 : Hid (DN w lb db toks C lv ul ud (at0 + 1) w4):=Lib.hid (by
  have h:=HD.out
  refine ⟨h.ml.ext hx4 ?_,h.md.ext hx4 ?_,(h.ext.mono (fun _ _ h => h.elim)).trans hx4,h.eob,?_,hch4⟩
  ·unfold CM;omega
  ·unfold CM;omega
  ·have:=h.all;rw [← HTN.out,List.take_length] at this;exact this)
 clear hch4 hx4 HD HC3
 go_upto_if 68 with (fail)
 go_cut [] (fun wx => ∃ ul ud at2,at0 ≤ at2 ∧ at2 ≤ at0 + 2 ∧ DN w lb db toks C lv ul ud at2 wx)
 case first =>
  rcases Nat.lt_or_ge 0 r with h | h
  ·have hb : ((r : Int) == 0) = false:=by simp;omega
   go_wp2_with fail
   go_meet
   case rel => exact ⟨_,_,at0 + 1,by omega,by omega,HN4.out⟩
  ·have hb : ((r : Int) == 0) = true:=by simp;omega
   go_wp2_with fail
   refine (next_at _ 286 rfl C lv (at0 + 1) w4 HN4.out.cho (by omega) (by omega) (by omega)).mono ?_
   rintro e w5 ⟨s,hs,rfl,hch5,hx5,_⟩
   have hml5 : Marks w5 lb 286 ul:=HN4.out.ml.ext hx5 (by unfold CM;omega)
   have HN5 : Hid (DN w lb db toks C lv (ul.set s true) ud (at0 + 2) (w5.setCell ⟨lb,s,none⟩ (.bool true))):=Lib.hid (by
    have h:=HN4.out
    refine ⟨hml5.set s,(h.md.ext hx5 ?_).other _ _ (Ne.symm hld),(h.ext.trans hx5).setCell (fun e => absurd e (by show ¬ lb < _;omega)) _,get_set_true h.eob,fun t ht => marked_mono (h.all t ht) (fun _ h => get_set_true h) (fun _ h => h),?_⟩
    ·unfold CM;omega
    ·have he : Ext (fun k => k = lb) w5 (w5.setCell ⟨lb,s,none⟩ (.bool true)):=Ext.setCell (M:=fun k => k = lb) (p:=⟨lb,s,none⟩) (Ext.refl _ _) (fun _ => rfl) _
     exact hch5.ext he (by omega) (fun b hb e => by have:=(HLV.out b hb).1;omega))
   obtain ⟨x,_,hcx⟩:=hml5.cell (s:=s) hs
   have hfz:=hml5.2.free
   clear hml5 hch5 hx5
   go_wp2_with fail
   go_meet
   case rel => exact ⟨_,_,at0 + 2,by omega,by omega,HN5.out⟩
 obtain ⟨ul2,ud2,at2,hat2,hat2',hdn⟩:=hcut
 obtain ⟨w5,rfl⟩ : ∃ w5 : World,w5 = wc:=⟨_,rfl⟩
 have HN5:=Lib.hid hdn
 clear hdn HN4
 go_upto_region 14 with (fail)
 go_cut [13,14] (fun a b wx => ∃ g1 c1 g2 c2 lit dist at3,a = .slice (some ⟨g1,0,none⟩) 286 c1 ∧ b = .slice (some ⟨g2,0,none⟩) 30 c2 ∧ 286 ≤ c1 ∧ 30 ≤ c2 ∧ at0 ≤ at3 ∧ at3 ≤ at0 + 12 ∧ D3 w C lv toks g1 g2 lit dist at3 wx)
 case first =>
  have ht1:=tree_some lb 0 286 C lv at2 15 ul2 w5 HN5.out.cho (by rw [HN5.out.ml.1];omega) (by rw [HN5.out.ml.1];omega) (by omega) (by omega) (by omega) 13 (.inl rfl) HN5.out.ml.cells (by omega)
  rw [HN5.out.ml.1] at ht1
  have HT1:=Lib.hid ht1
  clear ht1
  go_wp2_with fail
  refine HT1.out.mono ?_
  rintro e w6 ⟨v1,lit,at3,rfl,ho1,hp1,hx1,ha1,ha1',hch6⟩
  have HP1:=Lib.hid hp1;have HX1:=Lib.hid hx1;have HC6:=Lib.hid hch6;have HO1:=Lib.hid ho1
  obtain ⟨g1,c1,rfl,hc1⟩:=owns_slice ho1 (by omega)
  have hmd6 : Marks w6 db 30 ud2:=HN5.out.md.ext hx1 (by unfold CM;omega)
  have ht2:=tree_some db 0 30 C lv at3 15 ud2 w6 hch6 (by rw [hmd6.1];omega) (by rw [hmd6.1];omega) (by omega) (by omega) (by omega) 13 (.inl rfl) hmd6.cells (by omega)
  rw [hmd6.1] at ht2
  have HT2:=Lib.hid ht2
  clear ht2 hp1 hx1 hch6 ho1 hmd6 HT1
  go_wp2_with fail
  refine HT2.out.mono ?_
  rintro e w7 ⟨v2,dist,at4,rfl,ho2,hp2,hx2,ha2,ha2',hch7⟩
  obtain ⟨g2,c2,rfl,hc2⟩:=owns_slice ho2 (by omega)
  have HD3 : Hid (D3 w C lv toks g1 g2 lit dist at4 w7):=Lib.hid (by
   have h:=HN5.out
   have hs5:=h.ext.size
   have hs6:=HX1.out.size
   have hs7:=hx2.size
   have h1:=HO1.out.lt g1 rfl
   have h2:=ho2.lt g2 rfl
   refine ⟨(h.ext.trans HX1.out).trans hx2,hch7,(Lst.of_owns HO1.out).ext hx2 ?_,Lst.of_owns ho2,⟨by omega,by omega⟩,⟨by omega,by omega⟩,CodesOk.of h.ml.1 h.md.1 h.eob h.all HP1.out hp2⟩
   unfold CM;omega)
  clear ho2 hp2 hx2 hch7 HT2
  go_wp2_with fail
  go_meet
  case rel => exact ⟨g1,c1,g2,c2,lit,dist,at4,rfl,rfl,hc1,hc2,by omega,by omega,HD3.out⟩
 obtain ⟨g1,c1,g2,c2,lit,dist,at3,rfl,rfl,hc1,hc2,hat3,hat3',hd3⟩:=hcut
 obtain ⟨w7,rfl⟩ : ∃ w7 : World,w7 = wc:=⟨_,rfl⟩
 have HD3:=Lib.hid hd3
 clear hd3 HN5
 have hgl : ∀ s,s < 286 → w7.cell? ⟨g1,s,none⟩ = some (.int .i64 (len lit s : Int)):=fun s hs => HD3.out.l1.get (by rw [HD3.out.ok.nl];exact hs)
 have hgd : ∀ s,s < 30 → w7.cell? ⟨g2,s,none⟩ = some (.int .i64 (len dist s : Int)):=fun s hs => HD3.out.l2.get (by rw [HD3.out.ok.nd];exact hs)
 have HGL:=Lib.hid hgl;have HGD:=Lib.hid hgd
 clear hgl hgd
 go_upto_block 2 with (fail)
 go_cut [15] (fun x wx => w7 = wx ∧ ∃ nl : Nat,x = .int .i64 nl ∧ 257 ≤ nl ∧ nl ≤ 286 ∧ ∀ s,nl ≤ s → len lit s = 0)
 case first =>
  go_wp2_with fail
  go_loop [15] (fun x => ∃ nl : Nat,x = .int .i64 nl ∧ 257 ≤ nl ∧ nl ≤ 286 ∧ ∀ s,nl ≤ s → len lit s = 0) (fun x => (intOf x).toNat)
  case atStart => exact ⟨286,rfl,by omega,by omega,fun s hs => by unfold len;rw [List.getElem?_eq_none (by rw [HD3.out.ok.nl];omega)];rfl⟩
  case round =>
   obtain ⟨nl,rfl,hn1,hn2,hn3⟩:=hrel
   have HZ:=Lib.hid hn3
   clear hn3
   rcases Nat.lt_or_ge 257 nl with h | h
   ·have hb1 : decide ((257 : Int) < (nl : Int)) = true:=by simp;omega
    have hcz:=HGL.out (nl - 1) (by omega)
    have ht1 : ((nl : Int) - 1).toNat = nl - 1:=by omega
    have hg1 : (0 : Int) ≤ (nl : Int) - 1:=by omega
    have hg2 : (nl : Int) - 1 < 286:=by omega
    have hg3 : (1 : Int) ≤ (nl : Int):=by omega
    have HL0 : Hid (len lit (nl - 1) = 0 → ∀ s,nl - 1 ≤ s → len lit s = 0):=Lib.hid (by
     intro h0 s hs
     rcases Nat.lt_or_ge s nl with h1 | h1
     ·rw [show s = nl - 1 by omega];exact h0
     ·exact HZ.out s h1)
    obtain ⟨z,hz⟩ : ∃ z,len lit (nl - 1) = z:=⟨_,rfl⟩
    rw [hz] at hcz HL0
    clear hz
    rcases Nat.lt_or_ge 0 z with hz | hz
    ·have hb2 : ((z : Int) == 0) = false:=by simp;omega
     go_wp2_with fail
     go_meet
     case rel => exact ⟨rfl,nl,rfl,hn1,hn2,HZ.out⟩
    ·have hb2 : ((z : Int) == 0) = true:=by simp;omega
     have HZ0:=Lib.hid (show z = 0 by omega)
     go_wp2_with fail
     go_round
     case rel => exact ⟨nl - 1,by go_num,by omega,by omega,HL0.out HZ0.out⟩
     case measure => simp [intOf];omega
   ·have hb1 : decide ((257 : Int) < (nl : Int)) = false:=by simp;omega
    go_wp2_with fail
    go_meet
    case rel => exact ⟨rfl,nl,rfl,hn1,hn2,HZ.out⟩
 obtain ⟨rfl,nl,rfl,hnl1,hnl2,hnl3⟩:=hcut
 have HNL:=Lib.hid hnl3
 clear hnl3
 go_upto_block 4 with (fail)
 go_cut [16] (fun x wx => w7 = wx ∧ ∃ nd : Nat,x = .int .i64 nd ∧ 1 ≤ nd ∧ nd ≤ 30 ∧ ∀ s,nd ≤ s → len dist s = 0)
 case first =>
  go_wp2_with fail
  go_loop [16] (fun x => ∃ nd : Nat,x = .int .i64 nd ∧ 1 ≤ nd ∧ nd ≤ 30 ∧ ∀ s,nd ≤ s → len dist s = 0) (fun x => (intOf x).toNat)
  case atStart => exact ⟨30,rfl,by omega,by omega,fun s hs => by unfold len;rw [List.getElem?_eq_none (by rw [HD3.out.ok.nd];omega)];rfl⟩
  case round =>
   obtain ⟨nd,rfl,hn1,hn2,hn3⟩:=hrel
   have HZ:=Lib.hid hn3
   clear hn3
   rcases Nat.lt_or_ge 1 nd with h | h
   ·have hb1 : decide ((1 : Int) < (nd : Int)) = true:=by simp;omega
    have hcz:=HGD.out (nd - 1) (by omega)
    have ht1 : ((nd : Int) - 1).toNat = nd - 1:=by omega
    have hg1 : (0 : Int) ≤ (nd : Int) - 1:=by omega
    have hg2 : (nd : Int) - 1 < 30:=by omega
    have hg3 : (1 : Int) ≤ (nd : Int):=by omega
    have HL0 : Hid (len dist (nd - 1) = 0 → ∀ s,nd - 1 ≤ s → len dist s = 0):=Lib.hid (by
     intro h0 s hs
     rcases Nat.lt_or_ge s nd with h1 | h1
     ·rw [show s = nd - 1 by omega];exact h0
     ·exact HZ.out s h1)
    obtain ⟨z,hz⟩ : ∃ z,len dist (nd - 1) = z:=⟨_,rfl⟩
    rw [hz] at hcz HL0
    clear hz
    rcases Nat.lt_or_ge 0 z with hz | hz
    ·have hb2 : ((z : Int) == 0) = false:=by simp;omega
     go_wp2_with fail
     go_meet
     case rel => exact ⟨rfl,nd,rfl,hn1,hn2,HZ.out⟩
    ·have hb2 : ((z : Int) == 0) = true:=by simp;omega
     have HZ0:=Lib.hid (show z = 0 by omega)
     go_wp2_with fail
     go_round
     case rel => exact ⟨nd - 1,by go_num,by omega,by omega,HL0.out HZ0.out⟩
     case measure => simp [intOf];omega
   ·have hb1 : decide ((1 : Int) < (nd : Int)) = false:=by simp;omega
    go_wp2_with fail
    go_meet
    case rel => exact ⟨rfl,nd,rfl,hn1,hn2,HZ.out⟩
 obtain ⟨rfl,nd,rfl,hnd1,hnd2,hnd3⟩:=hcut
 have HND:=Lib.hid hnd3
 clear hnd3
 go_upto_region 20 with (fail)
 have hnc1 : nl ≤ c1:=by omega
 have hnc2 : nd ≤ c2:=by omega
 have hll : (lit.take nl).length = nl:=by rw [List.length_take,HD3.out.ok.nl];omega
 have hdl : (dist.take nd).length = nd:=by rw [List.length_take,HD3.out.ok.nd];omega
 have HLL:=Lib.hid hll;have HDL:=Lib.hid hdl
 clear hll hdl
 go_cut [17] (fun x wx => ∃ g4 c4 rs at4,x = .slice (some ⟨g4,0,none⟩) rs.length c4 ∧ at3 ≤ at4 ∧ at4 ≤ at3 + 1000 ∧ RC w7 C lv (lit.take nl ++ dist.take nd) (nl + nd) g4 c4 rs at4 wx)
 case first =>
  go_region_law (first
   | (refine step_append_moved rfl (.tmp 103) (.tmp 106) 23 rfl w7.heap.size 3 i0 (.int .i64 0) 1 8 Tryz.underlying23 hi hz0 hz1 hz2 rfl (by decide) _ 0 [] rfl (owns_empty w7 3) ⟨g1,0,none⟩ nl c1 ((lit.take nl).map IV) rfl ?o2 ?o3 (one_IV _) ?o5 ?o6 ?o7 ?o8
      case o2 => rw [List.length_map,HLL.out,Nat.mul_one]
      case o3 => exact (HD3.out.l1.ext (((Ext.refl (fun _ => False) w7).alloc _).drew) (fun h => h)).add nl
      case o5 => (unfold maxLen;omega)
      case o6 => omega
      case o7 => simp
      intro v1 wA ho1 hg1 hmv1
      have HO1:=Lib.hid ho1
      have HE1:=Lib.hid (Ext.grown (((Ext.refl (fun _ => False) w7).alloc _).drew) hg1 (fun k hk hlt => by have hk' : some w7.heap.size = some k:=hk;simp only [Option.some.injEq] at hk';omega))
      have HV1:=Lib.hid (hmv1.ge (B:=w7.heap.size) (fun k hk => by have hk' : some w7.heap.size = some k:=hk;simp only [Option.some.injEq] at hk';omega) (by simp))
      clear ho1 hg1 hmv1)
   | (refine step_append_moved rfl (.tmp 107) (.tmp 110) 23 rfl w7.heap.size 3 i0 (.int .i64 0) 1 8 Tryz.underlying23 hi hz0 hz1 hz2 rfl (by decide) v1 (0 + nl) _ rfl HO1.out ⟨g2,0,none⟩ nd c2 ((dist.take nd).map IV) rfl ?p2 ?p3 (one_IV _) ?p5 ?p6 ?p7 ?p8
      case p2 => rw [List.length_map,HDL.out,Nat.mul_one]
      case p3 => exact (HD3.out.l2.ext HE1.out (fun h => h)).add nd
      case p5 => (unfold maxLen;omega)
      case p6 => omega
      case p7 => exact HE1.out.size
      intro v2 wB ho2 hg2 hmv2
      have HO2:=Lib.hid ho2
      have HE2:=Lib.hid (Ext.grown HE1.out hg2 (fun k hk hlt => by have:=HV1.out k hk;omega))
      have HV2:=Lib.hid (hmv2.ge (B:=w7.heap.size) HV1.out HE1.out.size)
      clear ho2 hg2 hmv2
      obtain ⟨g3,c3,rfl,hc3⟩:=owns_slice HO2.out (by omega)
      have HG3:=Lib.hid (HV2.out g3 rfl))
   | (go_simp
      go_at_call 43
      have hcn : (lit.take nl ++ dist.take nd).length = nl + nd:=by rw [List.length_append,HLL.out,HDL.out]
      have hl3 : Lst wB g3 (lit.take nl ++ dist.take nd):=Lst.of_owns (by rw [List.map_append];exact HO2.out)
      have h3C : g3 ≠ C:=by have:=HG3.out;have:=HD3.out.ext.size;omega
      have hch3 : Cho wB C lv at3:=HD3.out.cho.ext HE2.out (fun h => h) (fun _ _ h => h)
      have hrun:=runs_some g3 0 c3 C at3 lv (lit.take nl ++ dist.take nd) wB (by omega)
       (fun x hx => (List.mem_append.1 hx).elim (fun h => HD3.out.ok.lel x (List.mem_of_mem_take h)) (fun h => HD3.out.ok.led x (List.mem_of_mem_take h)))
       (fun j x hx => by rw [Nat.zero_add];exact hl3 j x hx) h3C hch3 (by omega) (fun b hb => by have:=(HLV.out b hb).1;have:=HD3.out.ext.size;have:=HE2.out.size;omega)
      rw [hcn] at hrun
      clear hl3 h3C hch3
      refine hrun.mono ?_
      rintro e wr ⟨vr,rs,rfl,hri⟩
      rw [hcn] at hri
      have HRI:=Lib.hid hri
      clear hri hrun hcn))
  obtain ⟨g4,c4,at4,rfl,ha1,ha2,hrc⟩:=RC.of_RI HE2.out (HD3.out.cho.blk.lt) (by omega) HRI.out
  have HRC:=Lib.hid hrc
  clear hrc HRI
  go_wp2_with fail
  go_meet
  case rel => exact ⟨g4,c4,rs,at4,rfl,by omega,by omega,HRC.out⟩
 obtain ⟨g4,c4,rs,at4,rfl,hat4,hat4',hrc⟩:=hcut
 obtain ⟨w8,rfl⟩ : ∃ w8 : World,w8 = wc:=⟨_,rfl⟩
 have HR8:=Lib.hid hrc
 clear hrc hi hz0 hz1 hz2
 obtain ⟨nr,hnr⟩ : ∃ n,rs.length = n:=⟨_,rfl⟩
 have hrl:=runsFit_le HR8.out.fit
 have HNR:=Lib.hid hnr
 rw [hnr] at hrl ⊢
 clear hnr
 obtain ⟨m19,hm19⟩ : ∃ m,((List.replicate 19 false).map Value.bool).toArray = m:=⟨_,rfl⟩
 have mk3 : ∀ w : World,(Instr.makeSlice 96 (.int .i64 19) (.int .i64 19)).run Tryz.prog w = .ok (.slice (some ⟨w.heap.size,0,none⟩) 19 19) (w.alloc (.cells m19 4)):=fun _ => by rw [← hm19];kernel_rfl
 have HM19:=Lib.hid hm19
 clear hm19
 obtain ⟨w9,hw9⟩ : ∃ w9 : World,w8.alloc (.cells m19 4) = w9:=⟨_,rfl⟩
 have hml : Marks w9 w8.heap.size 19 (List.replicate 19 false):=⟨by simp,by rw [HM19.out,← hw9];exact Blk.new _ _ _⟩
 have hx9 : Ext (fun _ => False) w8 w9:=by rw [← hw9];exact (Ext.refl _ _).alloc _
 go_upto_block 6 with (fail)
 obtain ⟨ub,hub⟩ : ∃ u,w8.heap.size = u:=⟨_,rfl⟩
 rw [hub] at hml ⊢
 have HML:=Lib.hid hml;have HX9:=Lib.hid hx9;have HUB:=Lib.hid hub
 clear hw9 hml hx9 hub mk3
 go_cut [] (fun wx => ∃ us,Marks wx ub 19 us ∧ Ext (fun _ => False) w8 wx ∧ ∀ r ∈ rs,us[r.sym]? = some true)
 case first =>
  go_wp2_with fail
  go_loopw [117] (fun x wr => ∃ (k : Nat) (us : List Bool),k ≤ nr ∧ x = .int .i64 k ∧ Marks wr ub 19 us ∧ Ext (fun _ => False) w8 wr ∧ ∀ r ∈ rs.take k,us[r.sym]? = some true) (fun x _ => nr - (intOf x).toNat)
  case atStart => exact ⟨0,_,Nat.zero_le _,rfl,HML.out,HX9.out,by simp⟩
  case round =>
   obtain ⟨k,us,hk,rfl,hml,hx,hall⟩:=hrel
   obtain ⟨wo,rfl⟩ : ∃ wo : World,wo = wr:=⟨_,rfl⟩
   have HML:=Lib.hid hml;have HX:=Lib.hid hx;have HALL:=Lib.hid hall
   clear hml hx hall
   rcases Nat.lt_or_ge k nr with hkn | hkn
   ·have hkl : k < rs.length:=by rw [HNR.out];exact hkn
    obtain ⟨sy,mo,ex,hlt,_⟩ : ∃ a b c,rs[k] = ⟨a,b,c⟩ ∧ True:=⟨_,_,_,rfl,trivial⟩
    have hcell:=runsCells_get rs k hkl
    have hfit:=runsFit_mem HR8.out.fit _ (List.getElem_mem hkl)
    have hkq : rs[k]? = some ⟨sy,mo,ex⟩:=by rw [List.getElem?_eq_getElem hkl,hlt]
    have HKQ:=Lib.hid hkq
    rw [hlt] at hcell hfit
    have hsy : sy ≤ 18:=by obtain ⟨q,hq⟩:=hfit;exact (Run.fits_le hq).2.2.1
    simp only at hcell
    have hc0:=HX.out.cellSome (fun h => h) (HR8.out.cells _ _ hcell.1)
    have hc1:=HX.out.cellSome (fun h => h) (HR8.out.cells _ _ hcell.2.1)
    have hc2:=HX.out.cellSome (fun h => h) (HR8.out.cells _ _ hcell.2.2)
    clear hcell hlt hfit hkq hkl
    go_upto_region 25 with (fail)
    obtain ⟨w3,hw3⟩ : ∃ w3 : World,wo.alloc (Obj.cells #[.int .i64 (sy : Int),.int .i64 (mo : Int),.int .i64 (ex : Int)] 101) = w3:=⟨_,rfl⟩
    rw [hw3]
    have he3 : Ext (fun _ => False) wo w3:=by rw [← hw3];exact ((Ext.refl _ wo).alloc _)
    have hb3 : Blk w3 wo.heap.size #[.int .i64 (sy : Int),.int .i64 (mo : Int),.int .i64 (ex : Int)] 101:=by rw [← hw3];exact Blk.new _ _ _
    have hml3:=HML.out.ext he3 (fun h => h)
    have hn0 : w3.cell? ⟨wo.heap.size,0,none⟩ = some (.int .i64 (sy : Int)):=by rw [hb3.cell];rfl
    have hfl:=hml3.2.free
    obtain ⟨x,_,hcx⟩:=hml3.cell (s:=sy) (by omega)
    have hne1 : ub ≠ wo.heap.size:=by have:=HML.out.2.lt;omega
    have hne2 : wo.heap.size ≠ ub:=Ne.symm hne1
    have HST : Hid (Marks (w3.setCell ⟨ub,sy,none⟩ (.bool true)) ub 19 (us.set sy true) ∧
      Ext (fun _ => False) w8 (w3.setCell ⟨ub,sy,none⟩ (.bool true)) ∧ ∀ r ∈ rs.take (k + 1),(us.set sy true)[r.sym]? = some true):=Lib.hid (by
     refine ⟨hml3.set sy,(HX.out.trans he3).setCell (fun e => absurd e (by have:=HUB.out;show ¬ ub < _;omega)) _,?_⟩
     exact take_succ_memR HKQ.out (fun r hr => get_set_true (HALL.out r hr)) (get_set_self (by rw [HML.out.1];omega)))
    clear hw3 he3 hb3 hml3 hc0 hc1 hc2
    have hs19 : sy < 19:=by omega
    go_wp2_with fail
    go_roundw
    case rel => exact ⟨k + 1,us.set sy true,by omega,by go_num,HST.out.1,HST.out.2.1,HST.out.2.2⟩
    case measure => simp [intOf];omega
   ·have hb : decide ((k : Int) < (nr : Int)) = false:=by simp;omega
    obtain rfl : k = nr:=by omega
    go_wp2_with fail
    go_meet
    case rel => exact ⟨us,HML.out,HX.out,by have:=HALL.out;rw [← HNR.out,List.take_length] at this;exact this⟩
 obtain ⟨us,hml,hx,hall⟩:=hcut
 obtain ⟨w10,rfl⟩ : ∃ w10 : World,w10 = wc:=⟨_,rfl⟩
 have HMU:=Lib.hid hml;have HX10:=Lib.hid hx;have HALL:=Lib.hid hall
 clear hml hx hall HML HX9
 go_wp2_with fail
 obtain ⟨w11,hw11⟩ : ∃ w11 : World,w10.alloc (Obj.cells #[.slice none 0 0,.int .i64 0] 64) = w11:=⟨_,rfl⟩
 rw [hw11]
 have he11 : Ext (fun _ => False) w10 w11:=by rw [← hw11];exact (Ext.refl _ _).alloc _
 have hch11 : Cho w11 w10.heap.size (.slice none 0 0) 0:=by
  refine ⟨by rw [← hw11];exact Blk.new _ _ _,⟨[],by simp,Rd.nil _⟩,?_⟩
  intro e;cases e
 have ht:=tree_some ub 0 19 w10.heap.size (.slice none 0 0) 0 7 us w11 hch11 (by rw [HMU.out.1];omega) (by rw [HMU.out.1];omega) (by omega) (by omega) (by omega) 5 (.inr ⟨by omega,by rw [HMU.out.1];omega,rfl⟩)
  (HMU.out.ext he11 (fun h => h)).cells (by have:=HMU.out.2.lt;omega)
 rw [HMU.out.1] at ht
 have HE11:=Lib.hid he11
 clear hw11 he11 hch11
 refine ht.mono ?_
 clear ht
 rintro e w12 ⟨v5,lens,at5,rfl,ho5,hp5,hx5,_,_,_⟩
 obtain ⟨g5,c5,rfl,hc5⟩:=owns_slice ho5 (by omega)
 have HL5:=Lib.hid (Lst.of_owns ho5)
 have HP5:=Lib.hid hp5
 have HB5 : Hid (w10.heap.size ≤ g5 ∧ g5 < w12.heap.size):=Lib.hid (by have:=ho5.lt g5 rfl;have:=HE11.out.size;omega)
 have HX12 : Hid (Ext (fun _ => False) w8 w12):=Lib.hid ((HX10.out.trans HE11.out).trans' hx5 (fun i hi e => by have:=HX10.out.size;unfold CM at e;omega))
 have hl19 : lens.length = 19:=by rw [hp5.size];exact HMU.out.1
 have HLL5:=Lib.hid hl19
 clear ho5 hp5 hx5 hl19
 go_upto_block 8 with (fail)
 go_cut [22] (fun x wx => ∃ nc : Nat,x = .int .i64 nc ∧ 4 ≤ nc ∧ nc ≤ 19 ∧ (∀ k s : Nat,nc ≤ k → ord[k]? = some s → len lens s = 0) ∧ Ext (fun _ => False) w12 wx)
 case first =>
  go_wp2_with fail
  go_loopw [22] (fun x wx => ∃ nc : Nat,x = .int .i64 nc ∧ 4 ≤ nc ∧ nc ≤ 19 ∧ (∀ k s : Nat,nc ≤ k → ord[k]? = some s → len lens s = 0) ∧ Ext (fun _ => False) w12 wx) (fun x _ => (intOf x).toNat)
  case atStart => exact ⟨19,rfl,by omega,by omega,ord_none,Ext.refl _ _⟩
  case round =>
   obtain ⟨nc,rfl,hn1,hn2,hn3,hx⟩:=hrel
   obtain ⟨wo,rfl⟩ : ∃ wo : World,wo = wr:=⟨_,rfl⟩
   have HZ:=Lib.hid hn3;have HX:=Lib.hid hx
   clear hn3 hx
   rcases Nat.lt_or_ge 4 nc with h | h
   ·have hb1 : decide ((4 : Int) < (nc : Int)) = true:=by simp;omega
    obtain ⟨s,hs⟩ : ∃ s,ord[nc - 1]? = some s:=⟨_,List.getElem?_eq_getElem (by simp [ord];omega)⟩
    have hs19 : s < 19:=ord_small hs
    have ht1 : ((nc : Int) - 1).toNat = nc - 1:=by omega
    have hg1 : (0 : Int) ≤ (nc : Int) - 1:=by omega
    have hg2 : (nc : Int) - 1 < 19:=by omega
    have hg3 : (1 : Int) ≤ (nc : Int):=by omega
    have HL0 : Hid (len lens s = 0 → ∀ k t : Nat,nc - 1 ≤ k → ord[k]? = some t → len lens t = 0):=Lib.hid (by
     intro h0 k t hk ht
     rcases Nat.lt_or_ge k nc with h1 | h1
     ·obtain rfl : k = nc - 1:=by omega
      rw [hs] at ht;cases ht;exact h0
     ·exact HZ.out k t h1 ht)
    have HS:=Lib.hid hs
    clear hs
    go_wp2_with fail
    refine (order_any wo).mono ?_
    rintro e w' ⟨rfl,rfl⟩
    obtain ⟨w3,hw3⟩ : ∃ w3 : World,wo.alloc (Obj.cells (orderL.map IV).toArray 3) = w3:=⟨_,rfl⟩
    rw [hw3]
    have he3 : Ext (fun _ => False) wo w3:=by rw [← hw3];exact (Ext.refl _ _).alloc _
    have hb3 : Blk w3 wo.heap.size (orderL.map IV).toArray 3:=by rw [← hw3];exact Blk.new _ _ _
    have hco : w3.cell? ⟨wo.heap.size,nc - 1,none⟩ = some (.int .i64 (s : Int)):=by rw [hb3.cell];exact ord_cell HS.out
    have hcl : w3.cell? ⟨g5,s,none⟩ = some (.int .i64 (len lens s : Int)):=((HL5.out.ext HX.out (fun h => h)).ext he3 (fun h => h)).get (by rw [HLL5.out];omega)
    have HX3:=Lib.hid (HX.out.trans he3)
    obtain ⟨z,hz⟩ : ∃ z,len lens s = z:=⟨_,rfl⟩
    rw [hz] at hcl HL0
    clear hz hw3 he3 hb3
    rcases Nat.lt_or_ge 0 z with hz | hz
    ·have hb2 : ((z : Int) == 0) = false:=by simp;omega
     go_wp2_with fail
     go_meet
     case rel => exact ⟨nc,rfl,hn1,hn2,HZ.out,HX3.out⟩
    ·have hb2 : ((z : Int) == 0) = true:=by simp;omega
     have HZ0:=Lib.hid (show z = 0 by omega)
     go_wp2_with fail
     go_roundw
     case rel => exact ⟨nc - 1,by go_num,by omega,by omega,HL0.out HZ0.out,HX3.out⟩
     case measure => simp [intOf];omega
   ·have hb1 : decide ((4 : Int) < (nc : Int)) = false:=by simp;omega
    go_wp2_with fail
    go_meet
    case rel => exact ⟨nc,rfl,hn1,hn2,HZ.out,HX.out⟩
 obtain ⟨nc,rfl,hnc1',hnc2',hnc3,hx⟩:=hcut
 obtain ⟨w13,rfl⟩ : ∃ w13 : World,w13 = wc:=⟨_,rfl⟩
 have HNC:=Lib.hid hnc3;have HX13:=Lib.hid hx
 clear hnc3 hx
 have HE13 : Hid (Ext (CM C) w w13):=Lib.hid ((HD3.out.ext.trans HR8.out.ext).trans ((HX12.out.trans HX13.out).mono (fun _ _ h => h.elim)))
 have HWR : Hid (Wr w13 W L v):=Lib.hid ⟨HW.out.blk.ext HE13.out (fun e => HCW.out (.inl e.symm)),by
  obtain ⟨bs,h1,h2⟩:=HW.out.row
  exact ⟨bs,owns_ext h1 HE13.out (fun b hb e => HCW.out (.inr (by rw [hb];exact congrArg some e))),h2⟩,HW.out.ne⟩
 have hsz : w.heap.size ≤ w7.heap.size ∧ w7.heap.size ≤ w8.heap.size ∧ w8.heap.size ≤ w10.heap.size ∧ w12.heap.size ≤ w13.heap.size ∧ w8.heap.size ≤ w12.heap.size:=by
  have:=HD3.out.ext.size;have:=HR8.out.ext.size;have:=HX10.out.size;have:=HX13.out.size;have:=HX12.out.size;omega
 have hown : ∀ k,WM W v k → k < w.heap.size:=fun k hk => HW.out.own_lt hk
 have HOWN:=Lib.hid hown
 clear hown
 have HG5 : Hid (¬ WM W v g5 ∧ g5 < w13.heap.size):=Lib.hid ⟨fun e => by have:=HOWN.out _ e;have:=HB5.out;omega,by have:=HB5.out;omega⟩
 have HG4 : Hid (¬ WM W v g4 ∧ g4 < w13.heap.size):=Lib.hid ⟨fun e => by have:=HOWN.out _ e;have:=HR8.out.b;omega,by have:=HR8.out.b;omega⟩
 have HG1 : Hid (¬ WM W v g1 ∧ g1 < w13.heap.size):=Lib.hid ⟨fun e => by have:=HOWN.out _ e;have:=HD3.out.b1;omega,by have:=HD3.out.b1;omega⟩
 have HG2 : Hid (¬ WM W v g2 ∧ g2 < w13.heap.size):=Lib.hid ⟨fun e => by have:=HOWN.out _ e;have:=HD3.out.b2;omega,by have:=HD3.out.b2;omega⟩
 go_wp2_with fail
 rw [show ((nl : Int) - 257) = ((nl - 257 : Nat) : Int) by omega]
 refine (bits_any W L v (nl - 257) 5 w13 HWR.out (by omega) (by omega) (by omega)).mono ?_
 rintro e w14 ⟨rfl,v14,hr,he,hm⟩
 have HR14:=Lib.hid hr;have HE14:=Lib.hid he;have HM14:=Lib.hid hm
 clear hr he hm
 go_wp2_with fail
 rw [show ((nd : Int) - 1) = ((nd - 1 : Nat) : Int) by omega]
 refine (bits_any W _ v14 (nd - 1) 5 w14 HR14.out (by simp only [List.length_append,length_lsb];omega) (by omega) (by omega)).mono ?_
 rintro e w15 ⟨rfl,hwr⟩
 obtain ⟨v15,hr,he,hm⟩:=Wrote.after HE14.out HM14.out hwr
 have HR15:=Lib.hid hr;have HE15:=Lib.hid he;have HM15:=Lib.hid hm
 clear hwr hr he hm HR14 HE14 HM14
 go_wp2_with fail
 rw [show ((nc : Int) - 4) = ((nc - 4 : Nat) : Int) by omega]
 refine (bits_any W _ v15 (nc - 4) 4 w15 HR15.out (by simp only [List.length_append,length_lsb];omega) (by omega) (by omega)).mono ?_
 rintro e w16 ⟨rfl,hwr⟩
 obtain ⟨v16,hr,he,hm⟩:=Wrote.after HE15.out HM15.out hwr
 have HR16:=Lib.hid hr;have HE16:=Lib.hid he;have HM16:=Lib.hid hm
 clear hwr hr he hm HR15 HE15 HM15
 obtain ⟨L3,hL3⟩ : ∃ X,L ++ lsb (nl - 257) 5 ++ lsb (nd - 1) 5 ++ lsb (nc - 4) 4 = X:=⟨_,rfl⟩
 have hl3 : L3.length = L.length + 14:=by rw [← hL3];simp only [List.length_append,length_lsb]
 rw [hL3] at HR16
 have HL3:=Lib.hid hL3;have HLEN3:=Lib.hid hl3
 clear hL3 hl3
 go_wp2_with fail
 refine (order_any w16).mono ?_
 rintro e w' ⟨rfl,rfl⟩
 obtain ⟨w17,hw17⟩ : ∃ w17 : World,w16.alloc (Obj.cells (orderL.map IV).toArray 3) = w17:=⟨_,rfl⟩
 rw [hw17]
 have he17 : Ext (fun _ => False) w16 w17:=by rw [← hw17];exact (Ext.refl _ _).alloc _
 have hb17 : Blk w17 w16.heap.size (orderL.map IV).toArray 3:=by rw [← hw17];exact Blk.new _ _ _
 have HE17:=Lib.hid he17;have HB17:=Lib.hid hb17
 have HR17:=Lib.hid (HR16.out.ext0 he17)
 have HT17 : Hid (¬ WM W v16 w16.heap.size):=Lib.hid fun h => by have:=HR16.out.own_lt h;omega
 have HT17' : Hid (¬ WM W v16 g5):=Lib.hid (WM.moved HM16.out HG5.out.1 HG5.out.2)
 obtain ⟨go_,hgo⟩ : ∃ g,w16.heap.size = g:=⟨_,rfl⟩
 rw [hgo] at hb17 HB17 HT17 ⊢
 clear hw17 he17 hb17 hgo
 have HL17 : Hid (Lst w17 g5 lens):=Lib.hid (((HL5.out.ext HX13.out (fun h => h)).ext HE16.out HG5.out.1).ext HE17.out (fun h => h))
 have HE1317 : Hid (Ext (WM W v) w13 w17):=Lib.hid (HE16.out.trans (HE17.out.mono (fun _ _ h => h.elim)))
 go_upto_block 10 with (fail)
 go_cut [] (fun wx => Wrote w17 W (L3 ++ ordBits lens (ord.take nc)) v16 wx)
 case first =>
  go_wp2_with fail
  go_loopw [161] (fun x wr => ∃ k : Nat,k ≤ nc ∧ x = .int .i64 k ∧ Wrote w17 W (L3 ++ ordBits lens (ord.take k)) v16 wr) (fun x _ => nc - (intOf x).toNat)
  case atStart => exact ⟨0,Nat.zero_le _,rfl,by simpa [ordBits] using Wrote.start HR17.out⟩
  case round =>
   obtain ⟨k,hk,rfl,vo,hr,he,hm⟩:=hrel
   obtain ⟨wo,rfl⟩ : ∃ wo : World,wo = wr:=⟨_,rfl⟩
   have HRO:=Lib.hid hr;have HEO:=Lib.hid he;have HMO:=Lib.hid hm
   clear hr he hm
   rcases Nat.lt_or_ge k nc with h | h
   ·obtain ⟨s,hs⟩ : ∃ s,ord[k]? = some s:=⟨_,List.getElem?_eq_getElem (by simp [ord];omega)⟩
    have hs19 : s < 19:=ord_small hs
    have hco : wo.cell? ⟨go_,k,none⟩ = some (.int .i64 (s : Int)):=HEO.out.cellSome HT17.out (by rw [HB17.out.cell];exact ord_cell hs)
    have hcl : wo.cell? ⟨g5,s,none⟩ = some (.int .i64 (len lens s : Int)):=(HL17.out.ext HEO.out HT17'.out).get (by rw [HLL5.out];omega)
    have hle:=HP5.out.le
    have hz5 : len lens s ≤ 5:=by
     have:=len_eq (lens:=lens) (s:=s) (by rw [HLL5.out];omega)
     rw [this];exact hle _ (List.getElem_mem _)
    have hto:=ordBits_take lens ord k s hs
    have hlk:=length_ordBits lens (ord.take k)
    rw [List.length_take] at hlk
    have HTO:=Lib.hid hto
    have HLK : Hid ((L3 ++ ordBits lens (ord.take k)).length + 8 ≤ 1099511627776):=Lib.hid (by rw [List.length_append,HLEN3.out];omega)
    obtain ⟨z,hz⟩ : ∃ z,len lens s = z:=⟨_,rfl⟩
    rw [hz] at hcl hz5 HTO
    clear hs hle hto hlk hz
    go_wp2_with fail
    refine (bits_any W _ vo z 3 wo HRO.out (by have:=HLK.out;omega) (by omega) (by omega)).mono ?_
    rintro e w3 ⟨rfl,hwr⟩
    have HWO:=Lib.hid (Wrote.after HEO.out HMO.out hwr)
    clear hwr hco hcl
    go_wp2_with fail
    go_roundw
    case rel => exact ⟨k + 1,by omega,by go_num,by rw [HTO.out,← List.append_assoc];exact HWO.out⟩
    case measure => simp [intOf];omega
   ·have hb : decide ((k : Int) < (nc : Int)) = false:=by simp;omega
    obtain rfl : k = nc:=by omega
    go_wp2_with fail
    go_meet
    case rel => exact ⟨vo,HRO.out,HEO.out,HMO.out⟩
 obtain ⟨w18,rfl⟩ : ∃ w18 : World,w18 = wc:=⟨_,rfl⟩
 obtain ⟨v18,hr,he,hm⟩:=Wrote.after HE1317.out HM16.out hcut
 have HR18:=Lib.hid hr;have HE18:=Lib.hid he;have HM18:=Lib.hid hm
 clear hr he hm hcut HR17 HR16 HE16 HM16 HE17 HB17 HT17 HT17' HL17 HE1317
 obtain ⟨L4,hL4⟩ : ∃ X,L3 ++ ordBits lens (ord.take nc) = X:=⟨_,rfl⟩
 have hl4 : L4.length ≤ L.length + 71:=by
  rw [← hL4,List.length_append,HLEN3.out,length_ordBits,List.length_take];omega
 rw [hL4] at HR18
 have HL4:=Lib.hid hL4
 clear hL4
 go_wp2_with fail
 have hl18 : Lst w18 g5 lens:=((HL5.out.ext HX13.out (fun h => h)).ext HE18.out HG5.out.1)
 have hcd:=codes_some g5 0 c5 lens w18 (by rw [HLL5.out];omega) (fun n hn => by have:=HP5.out.le n hn;omega) (fun j x hx => by rw [Nat.zero_add];exact hl18 j x hx)
 rw [HLL5.out] at hcd
 clear hl18
 refine hcd.mono ?_
 clear hcd
 rintro e w19 ⟨v6,rfl,ho6,hx6⟩
 obtain ⟨g6,c6,rfl,hc6⟩:=owns_slice ho6 (by simp [codesL,HLL5.out])
 have hcl6 : ((codesL lens).map IV).length = 19:=by simp [codesL,HLL5.out]
 rw [hcl6] at hc6 ⊢
 have HK6 : Hid (∀ s,s < 19 → w19.cell? ⟨g6,s,none⟩ = some (IV (cval lens s))):=Lib.hid fun s hs => by
  have:=ho6.cells (g:=g6) rfl s _ (codesL_get (by rw [HLL5.out];exact hs))
  by_cases h0 : s = 0 <;> simpa [Addr.add,h0] using this
 have HT6 : Hid (¬ WM W v18 g6):=Lib.hid fun h => by have:=HR18.out.own_lt h;have:=(ho6.lt g6 rfl).1;omega
 have HR19:=Lib.hid (HR18.out.ext0 hx6)
 have HE19 : Hid (Ext (WM W v) w13 w19):=Lib.hid (HE18.out.trans (hx6.mono (fun _ _ h => h.elim)))
 have HT5 : Hid (¬ WM W v18 g5):=Lib.hid (WM.moved HM18.out HG5.out.1 HG5.out.2)
 have HT4 : Hid (¬ WM W v18 g4):=Lib.hid (WM.moved HM18.out HG4.out.1 HG4.out.2)
 have HL19 : Hid (Lst w19 g5 lens):=Lib.hid (((HL5.out.ext HX13.out (fun h => h)).ext HE19.out HG5.out.1))
 have HC19 : Hid (∀ j x,(runsCells rs)[j]? = some x → w19.cell? ⟨g4,j,none⟩ = some x):=Lib.hid fun j x hx =>
  HE19.out.cellSome HG4.out.1 ((HX12.out.trans HX13.out).cellSome (fun h => h) (HR8.out.cells j x hx))
 have HLE15 : Hid (∀ n ∈ lens,n ≤ 15):=Lib.hid fun n hn => by have:=HP5.out.le n hn;omega
 clear ho6 hx6 hcl6
 go_upto_block 12 with (fail)
 go_cut [] (fun wx => Wrote w19 W (L4 ++ runsBits lens rs) v18 wx)
 case first =>
  go_wp2_with fail
  go_loopw [176] (fun x wr => ∃ k : Nat,k ≤ nr ∧ x = .int .i64 k ∧ Wrote w19 W (L4 ++ runsBits lens (rs.take k)) v18 wr) (fun x _ => nr - (intOf x).toNat)
  case atStart => exact ⟨0,Nat.zero_le _,rfl,by simpa [runsBits] using Wrote.start HR19.out⟩
  case round =>
   obtain ⟨k,hk,rfl,vo,hr,he,hm⟩:=hrel
   obtain ⟨wo,rfl⟩ : ∃ wo : World,wo = wr:=⟨_,rfl⟩
   have HRO:=Lib.hid hr;have HEO:=Lib.hid he;have HMO:=Lib.hid hm
   clear hr he hm
   rcases Nat.lt_or_ge k nr with hkn | hkn
   ·have hkl : k < rs.length:=by rw [HNR.out];exact hkn
    obtain ⟨sy,mo,ex,hlt,_⟩ : ∃ a b c,rs[k] = ⟨a,b,c⟩ ∧ True:=⟨_,_,_,rfl,trivial⟩
    have hcell:=runsCells_get rs k hkl
    have hfit:=runsFit_mem HR8.out.fit _ (List.getElem_mem hkl)
    have hrt:=runsBits_take lens rs k hkl
    have hrl':=length_runsBits_le lens HLE15.out (rs.take k) (fun r hr => by
     obtain ⟨q,hq⟩:=runsFit_mem HR8.out.fit r (List.mem_of_mem_take hr);exact (Run.fits_le hq).2.2.2.1)
    rw [List.length_take,HNR.out] at hrl'
    rw [hlt] at hcell hfit hrt
    have hrf : sy ≤ 18 ∧ ex ≤ 7 ∧ mo < 2 ^ ex:=by obtain ⟨q,hq⟩:=hfit;exact ⟨(Run.fits_le hq).2.2.1,(Run.fits_le hq).2.2.2.1,(Run.fits_le hq).2.2.2.2⟩
    have hmo : mo < 128:=by have:=Nat.pow_le_pow_right (n:=2) (by omega) hrf.2.1;omega
    have hsy:=hrf.1
    have hex:=hrf.2.1
    simp only at hcell
    have hc0:=HEO.out.cellSome HT4.out (HC19.out _ _ hcell.1)
    have hc1:=HEO.out.cellSome HT4.out (HC19.out _ _ hcell.2.1)
    have hc2:=HEO.out.cellSome HT4.out (HC19.out _ _ hcell.2.2)
    have HRT:=Lib.hid hrt
    have HLK : Hid ((L4 ++ runsBits lens (rs.take k)).length + 32 ≤ 1099511627776):=Lib.hid (by rw [List.length_append];omega)
    clear hcell hlt hfit hkl hrt hrl' hrf
    have hs19 : sy < 19:=by omega
    have hs19' : (sy : Int) < 19:=by omega
    go_upto_region 43 with (fail)
    obtain ⟨w3,hw3⟩ : ∃ w3 : World,wo.alloc (Obj.cells #[.int .i64 (sy : Int),.int .i64 (mo : Int),.int .i64 (ex : Int)] 101) = w3:=⟨_,rfl⟩
    rw [hw3]
    have he3 : Ext (fun _ => False) wo w3:=by rw [← hw3];exact ((Ext.refl _ wo).alloc _)
    have hb3 : Blk w3 wo.heap.size #[.int .i64 (sy : Int),.int .i64 (mo : Int),.int .i64 (ex : Int)] 101:=by rw [← hw3];exact Blk.new _ _ _
    have HB3:=Lib.hid hb3
    have HE3:=Lib.hid he3
    have HTX : Hid (¬ WM W vo wo.heap.size):=Lib.hid fun h => by have:=HRO.out.own_lt h;omega
    clear hw3 he3 hb3 hc0 hc1 hc2
    refine region_tail 11 (by kernel_rfl) (by kernel_rfl) ?_
    intro w4 hw4
    have he4 : Ext (fun _ => False) w3 w4:=by rw [hw4];exact (Ext.refl _ _).drew
    have HE4:=Lib.hid he4
    have HE34:=Lib.hid (HE3.out.trans he4)
    clear hw4 he4
    have hn0 : w4.cell? ⟨wo.heap.size,0,none⟩ = some (.int .i64 (sy : Int)):=HE4.out.cellSome (fun h => h) (by rw [HB3.out.cell];rfl)
    have hk1:=HE34.out.cellSome (fun h => h) (HEO.out.cellSome HT6.out (HK6.out sy hs19))
    have hk2:=HE34.out.cellSome (fun h => h) ((HL19.out.ext HEO.out HT5.out).get (s:=sy) (by rw [HLL5.out];omega))
    unfold IV at hk1
    simp only [List.take_succ_cons,List.take_zero,List.drop_succ_cons,List.drop_zero]
    repeat still_step
    refine wpStill_nil ?_
    clear hk1 hk2 hn0
    go_wp2_with fail
    have hlv:=len_le HLE15.out sy
    refine (code_any W _ vo (cval lens sy) (len lens sy) w4 (HRO.out.ext0 HE34.out) (by have:=HLK.out;omega) (cval_lt (by rw [HLL5.out];omega) HLE15.out _) (by omega)).mono ?_
    rintro e w5 ⟨rfl,hw5⟩
    rw [msb_codesL] at hw5
    obtain ⟨v5',hr5,he5,hm5⟩:=hw5
    have HR5:=Lib.hid hr5;have HE5:=Lib.hid he5;have HM5:=Lib.hid hm5
    have hn1 : w5.cell? ⟨wo.heap.size,1,none⟩ = some (.int .i64 (mo : Int)):=HE5.out.cellSome HTX.out (HE4.out.cellSome (fun h => h) (by rw [HB3.out.cell];rfl))
    have hn2 : w5.cell? ⟨wo.heap.size,2,none⟩ = some (.int .i64 (ex : Int)):=HE5.out.cellSome HTX.out (HE4.out.cellSome (fun h => h) (by rw [HB3.out.cell];rfl))
    clear hr5 he5 hm5
    go_wp2_with fail
    refine (bits_any W _ v5' mo ex w5 HR5.out (by have:=HLK.out;simp only [List.length_append,length_codeBits] at *;omega) (by omega) (by omega)).mono ?_
    rintro e w6 ⟨rfl,hw6⟩
    have HW6:=Lib.hid (Wrote.after (HEO.out.trans (HE34.out.mono (fun _ _ h => h.elim))) HMO.out (Wrote.after HE5.out HM5.out hw6))
    clear hw6 hn1 hn2 hlv
    go_wp2_with fail
    go_roundw
    case rel =>
     refine ⟨k + 1,by omega,by go_num,?_⟩
     have:=HW6.out
     rw [HRT.out]
     simpa [runBits,List.append_assoc] using this
    case measure => simp [intOf];omega
   ·have hb : decide ((k : Int) < (nr : Int)) = false:=by simp;omega
    obtain rfl : k = nr:=by omega
    go_wp2_with fail
    go_meet
    case rel => exact ⟨vo,by have:=HRO.out;rw [← HNR.out,List.take_length] at this;exact this,HEO.out,HMO.out⟩
 obtain ⟨w20,rfl⟩ : ∃ w20 : World,w20 = wc:=⟨_,rfl⟩
 obtain ⟨v20,hr,he,hm⟩:=Wrote.after HE19.out HM18.out hcut
 have HR20:=Lib.hid hr;have HE20:=Lib.hid he;have HM20:=Lib.hid hm
 clear hr he hm hcut HR19 HE19 HM18 HL19 HC19 HK6 HT6 HT5 HT4
 have hrl7:=length_runsBits_le lens HLE15.out rs (fun r hr => by
  obtain ⟨q,hq⟩:=runsFit_mem HR8.out.fit r hr;exact (Run.fits_le hq).2.2.2.1)
 rw [HNR.out] at hrl7
 go_wp2_with fail
 have hbd:=body_some W tb tcap g1 0 c1 g2 0 c2 ta (L4 ++ runsBits lens rs) v20 lit dist toks w20 HR20.out (by rw [HD3.out.ok.nl];omega) (by rw [HD3.out.ok.nl];omega) (by rw [HD3.out.ok.nd];omega) (by rw [HD3.out.ok.nd];omega)
  HD3.out.ok.lel HD3.out.ok.led (by rw [HTN.out];omega) (by rw [List.length_append,HTN.out];omega) HK.out
  (fun j x hx => HE20.out.cellSome HNT.out (HE13.out.cellSome hnC (HCT.out j x hx)))
  (fun j x hx => by rw [Nat.zero_add];exact HE20.out.cellSome HG1.out.1 (HX13.out.cellSome (fun h => h) (HX12.out.cellSome (fun h => h) (HR8.out.ext.cellSome (by have:=HD3.out.b1;unfold CM;omega) (HD3.out.l1 j x hx)))))
  (fun j x hx => by rw [Nat.zero_add];exact HE20.out.cellSome HG2.out.1 (HX13.out.cellSome (fun h => h) (HX12.out.cellSome (fun h => h) (HR8.out.ext.cellSome (by have:=HD3.out.b2;unfold CM;omega) (HD3.out.l2 j x hx)))))
  HTA.out (WM.moved HM20.out HNT.out (by omega)) (WM.moved HM20.out HG1.out.1 HG1.out.2) (WM.moved HM20.out HG2.out.1 HG2.out.2)
 rw [HTN.out,HD3.out.ok.nl,HD3.out.ok.nd] at hbd
 refine hbd.mono ?_
 clear hbd
 rintro e w21 ⟨rfl,hwr⟩
 have HW21:=Lib.hid (Wrote.after HE20.out HM20.out hwr)
 clear hwr
 go_wp2_with fail
 go_end0
 refine ⟨rfl,lit.take nl,dist.take nd,lens,nc,rs,at4,?_,?_,by omega,by omega,?_,?_⟩
 ·have hok:=HD3.out.ok
  have hgood : Pu.Good lens:=by
   rcases HP5.out.good with h | h
   ·exact h
   ·exfalso
    have h0 : 0 < rs.length:=by
     rcases Nat.eq_zero_or_pos rs.length with h0 | h0
     ·have hf:=HR8.out.fit
      rw [List.eq_nil_of_length_eq_zero h0] at hf
      have hf' : 0 = nl + nd:=hf
      omega
     ·exact h0
    have:=(HP5.out.used _).1 (HALL.out _ (List.getElem_mem h0))
    rw [h] at this;omega
  refine ⟨by rw [HLL.out];omega,by rw [HDL.out];omega,⟨by omega,by omega⟩,HLL5.out,hgood,fun x hx => by have:=HP5.out.le x hx;omega,HNC.out,?_,fun r hr => (HP5.out.used _).1 (HALL.out r hr),good_cut nl HNL.out hok.glit,?_,?_⟩
  ·rw [HLL.out,HDL.out];exact HR8.out.fit
  ·rw [len_cut lit nl _ HNL.out];exact hok.eob
  ·rcases hok.gdist with h | h
   ·exact .inl (good_cut nd HND.out h)
   ·exact .inr fun s => by rw [len_cut dist nd _ HND.out];exact h s
 ·exact fun t ht => coded_cut HNL.out HND.out (HD3.out.ok.coded t ht)
 ·obtain ⟨v21,hr,he,hm⟩:=HW21.out
  have h13 : Cho w13 C lv at4:=HR8.out.cho.ext (HX12.out.trans HX13.out) (fun h => h) (fun _ _ h => h)
  exact h13.ext he HCW.out (fun b hb => (HLV.out b hb).2)
 ·obtain ⟨v21,hr,he,hm⟩:=HW21.out
  refine ⟨v21,?_,(HE13.out.mono (fun _ _ h => .inr h)).trans (he.mono (fun _ _ h => .inl h)),?_⟩
  ·have e : L ++ headBits (lit.take nl) (dist.take nd) lens nc rs ++ toksBits (lit.take nl) (dist.take nd) toks ++ codeBits (lit.take nl) 256 = L4 ++ runsBits lens rs ++ toksBits lit dist toks ++ codeBits lit 256:=by
    rw [toksBits_cut lit dist nl nd HNL.out HND.out,codeBits_cut lit nl _ HNL.out]
    unfold headBits
    rw [HLL.out,HDL.out,← HL4.out,← HL3.out]
    simp only [List.append_assoc]
   rw [e];exact hr
  ·rcases hm with hm | hm
   ·exact .inl hm
   ·exact .inr fun k hk => by have:=hm k hk;omega
end Go.Proofs.YthpapbilhjobnaaGreatDoor
namespace Go.Proofs.YthpapbilhjobnaaGreatDoor
open Go.RowKit
structure Appended (w : World) (base : Nat) (e : TypeId) (v sv : Value) (xs ys : List Value) (v' : Value) (w' : World) : Prop where
 own : w'.ownsRow base e 1 v' (xs ++ ys).length (xs ++ ys)
 grown : Ext (fun k => v.ownBlock = some k) w w'
 moved : Moved w v v'
 nil : v' = .slice none 0 0 → v = .slice none 0 0
theorem Appended.ge {w w' : World} {base : Nat} {e : TypeId} {v sv v' : Value} {xs ys : List Value} (h : Appended w base e v sv xs ys v' w') : ∀ k,v'.ownBlock = some k → base ≤ k ∧ k < w'.heap.size:=by
 intro k hk
 have:=h.own.lt k hk
 exact this
theorem Appended.slice {w w' : World} {base : Nat} {e : TypeId} {v sv v' : Value} {xs ys : List Value} (h : Appended w base e v sv xs ys v' w') (hv : v ≠ .slice none 0 0) :
  ∃ g c,v' = .slice (some ⟨g,0,none⟩) (xs ++ ys).length c ∧ (xs ++ ys).length ≤ c ∧ ∀ j x,(xs ++ ys)[j]? = some x → w'.cell? ⟨g,j,none⟩ = some x:=by
 rcases h.own.2 with ⟨h1,_⟩ | ⟨g,cap,cur,rfl,hb,hg,hn,hc,hs,ht⟩
 ·exact absurd (h.nil h1) hv
 ·refine ⟨g,cap,rfl,hn,fun j x hx => ?_⟩
  have:=h.own.cells (g:=g) rfl j x hx
  by_cases hj : j = 0
  ·subst hj;simpa [Addr.add] using this
  ·simpa [Addr.add,hj] using this
section
variable {P : Program} (w : World)
theorem run_append_rd (base : Nat) (t ty e : TypeId) (i : TypeInfo) (z : Value) (bytes : Nat) (ht : P.underlying t = some (.slice e)) (hi : P.info? e = some i) (hz : i.zero = some z)
  (hsize : i.size = 1) (hby : i.bytes = bytes) (hzs : z.cells.size = 1)
  (v : Value) (xs : List Value) (hown : w.ownsRow base e 1 v xs.length xs) (sv : Value) (ys : List Value) (hr : Rd w sv ys) (h1 : ∀ u ∈ ys,u.oneCell' = true)
  (h63 : xs.length + ys.length ≤ maxLen) (hbytes : (xs.length + ys.length) * bytes ≤ 140737488355328) (hbase : base ≤ w.heap.size) :
  ∃ v' w',(Builtin.append_ #[t,t] ty #[v,sv]).run P w = .ok v' w' ∧ Appended w base e v sv xs ys v' w':=by
 obtain ⟨cap,hc1,hc2,hr⟩:=hr
 rcases hr with ⟨rfl,rfl⟩ | ⟨b,o,rfl,hcl⟩
 ·refine ⟨v,w,run_append_owned_none (P:=P) w base t ty e i 1 ht hi v _ xs hown,?_⟩
  refine ⟨by simpa using hown,Ext.refl _ _,.inl rfl,fun h => h⟩
 ·have hcells : ∀ j u,ys[j]? = some u → w.cell? ((⟨b,o,none⟩ : Addr).add j) = some u:=by
   intro j u hu
   have:=hcl j u hu
   by_cases hj : j = 0
   ·subst hj;simpa [Addr.add] using this
   ·simpa [Addr.add,hj] using this
  obtain ⟨v',w',hr2,h2,h3,h4,h5⟩:=run_append_moved (P:=P) w base t ty e i z 1 bytes ht hi hz hsize hby hzs (by decide) v _ xs hown ⟨b,o,none⟩ ys.length cap ys (by simp) hcells h1 h63 hbytes hbase
  refine ⟨v',w',hr2,⟨by rw [List.length_append];exact h2,⟨h3.os,h3.tape,h3.output,h3.size,fun k hk hn => h3.block k hk (fun e => hn e.symm)⟩,h5,fun h => (h4.1 h).1⟩⟩
theorem wpList_append_rd {ops : Array Oper} {rest : List Oper} {o : Oper} {a : Act} {Q : Exit → Act → World → Prop} (hgd : o.guard = none) (s x : Operand) (t : TypeId)
  (ho : o.op = .call { callee:=.builtin .append,args:=#[s,x],argTypes:=#[t,t] })
  (base : Nat) (e : TypeId) (i : TypeInfo) (z : Value) (bytes : Nat) (ht : P.underlying t = some (.slice e)) (hi : P.info? e = some i) (hz : i.zero = some z)
  (hsize : i.size = 1) (hby : i.bytes = bytes) (hzs : z.cells.size = 1)
  (v : Value) (xs : List Value) (hs : a.eval s = v) (hown : w.ownsRow base e 1 v xs.length xs) (sv : Value) (ys : List Value) (hx : a.eval x = sv) (hr : Rd w sv ys) (h1 : ∀ u ∈ ys,u.oneCell' = true)
  (h63 : xs.length + ys.length ≤ maxLen) (hbytes : (xs.length + ys.length) * bytes ≤ 140737488355328) (hbase : base ≤ w.heap.size)
  (h : ∀ v' w',Appended w base e v sv xs ys v' w' → wpList P ops Q rest (a.put o.dst v') w') : wpList P ops Q (o::rest) a w:=by
 refine wpList_plain hgd fun K hK => ?_
 obtain ⟨v',w',hr2,h2⟩:=run_append_rd (P:=P) w base t o.type e i z bytes ht hi hz hsize hby hzs v xs hown sv ys hr h1 h63 hbytes hbase
 unfold Oper.wp execOp
 simp only [ho,resolve,invoke,builtin,Sem.run_bind,Sem.run_pure,Result.andThen_ok,List.map_toArray,List.map_cons,List.map_nil,hs,hx,hr2]
 exact hK _ _ (h v' w' h2)
theorem step_append_rd {ops : Array Oper} {o : Oper} {a : Act} {K : Act → World → Prop} {Q : Exit → Act → World → Prop} {E : Prop} (hgd : o.guard = none) (s x : Operand) (t : TypeId)
  (ho : o.op = .call { callee:=.builtin .append,args:=#[s,x],argTypes:=#[t,t] })
  (base : Nat) (e : TypeId) (i : TypeInfo) (z : Value) (bytes : Nat) (ht : P.underlying t = some (.slice e)) (hi : P.info? e = some i) (hz : i.zero = some z)
  (hsize : i.size = 1) (hby : i.bytes = bytes) (hzs : z.cells.size = 1)
  (v : Value) (xs : List Value) (hs : a.eval s = v) (hown : w.ownsRow base e 1 v xs.length xs) (sv : Value) (ys : List Value) (hx : a.eval x = sv) (hr : Rd w sv ys) (h1 : ∀ u ∈ ys,u.oneCell' = true)
  (h63 : xs.length + ys.length ≤ maxLen) (hbytes : (xs.length + ys.length) * bytes ≤ 140737488355328) (hbase : base ≤ w.heap.size)
  (h : ∀ v' w',Appended w base e v sv xs ys v' w' → K (a.put o.dst v') w') :
  if Region.wanted o (yielded ops a.tmps) = true then Oper.wp P o a w K Q else E:=by
 have hw : Region.wanted o (yielded ops a.tmps) = true:=by simp [Region.wanted,hgd]
 rw [if_pos hw]
 obtain ⟨v',w',hr2,h2⟩:=run_append_rd (P:=P) w base t o.type e i z bytes ht hi hz hsize hby hzs v xs hown sv ys hr h1 h63 hbytes hbase
 unfold Oper.wp
 simp [execOp,ho,resolve,invoke,builtin,hs,hx,hr2,Result.andThen]
 exact h v' w' h2
end
end Go.Proofs.YthpapbilhjobnaaGreatDoor
namespace Go.Proofs.YthpapbilhjobnaaGreatDoor
open Go.RowKit Pu
def mu (N i at_ : Nat) (fresh : Bool) : Nat:=((N - i) / 65535 + 1) * 20010 + if fresh then 0 else 20003 - at_
theorem mu_le {N i at_ : Nat} {f : Bool} (h : N ≤ 2097152) : mu N i at_ f ≤ 700000:=by
 unfold mu
 split <;> omega
structure DF (w : World) (A : List UInt8) (f ab W i C : Nat) (lv : Value) (at_ : Nat) (L : List Bool) (v : Value) (k : Nat) (wr : World) : Prop where
 lo : f ≤ i
 hi : i ≤ A.length
 before : Before A f L i
 wrt : Wr wr W L v
 own : ∀ b,v.ownBlock = some b → w.heap.size ≤ b
 cho : Cho wr C lv at_
 new : w.heap.size ≤ C ∧ w.heap.size ≤ W ∧ w.heap.size ≤ ab
 lvb : ∀ b,lv.ownBlock = some b → b < w.heap.size
 cells : ∀ j x,(A.map U8)[j]? = some x → wr.cell? ⟨ab,j,none⟩ = some x
 lt : ab < wr.heap.size
 ne : ab ≠ C ∧ W ≠ C ∧ v.ownBlock ≠ some C ∧ ¬ WM W v ab
 ext : Ext (fun _ => False) w wr
 small : at_ ≤ 20000
 bits : L.length + 9000 * k + 72 * (A.length - i) ≤ 10000000000
 left : (k = mu A.length i at_ true ∧ lv = .slice none 0 0 ∧ at_ = 0) ∨ k = mu A.length i at_ false
theorem DF.wmC {w : World} {A : List UInt8} {f ab W i C : Nat} {lv : Value} {at_ : Nat} {L : List Bool} {v : Value} {k : Nat} {wr : World} (h : DF w A f ab W i C lv at_ L v k wr) : ¬ WM W v C:=by
 rintro (e | e)
 ·exact h.ne.2.1 e.symm
 ·exact h.ne.2.2.1 e
theorem DF.wmL {w : World} {A : List UInt8} {f ab W i C : Nat} {lv : Value} {at_ : Nat} {L : List Bool} {v : Value} {k : Nat} {wr : World} (h : DF w A f ab W i C lv at_ L v k wr) : ∀ b,lv.ownBlock = some b → b < wr.heap.size ∧ ¬ WM W v b:=by
 intro b hb
 have h1:=h.lvb b hb
 have h2:=h.ext.size
 refine ⟨by omega,?_⟩
 rintro (e | e)
 ·have:=h.new;omega
 ·have:=h.own b e;omega
def WC (W C : Nat) (v : Value) : Nat → Prop:=fun k => WM W v k ∨ k = C
structure BK (wo : World) (W C : Nat) (lv : Value) (v : Value) (at_ : Nat) (L : List Bool) (v' : Value) (wx : World) : Prop where
 wr : Wr wx W L v'
 ext : Ext (WC W C v) wo wx
 mov : Moved wo v v'
 cho : Cho wx C lv at_
structure BB (wo : World) (W C : Nat) (lv v : Value) : Prop where
 wmC : ¬ WM W v C
 wmL : ∀ b,lv.ownBlock = some b → b < wo.heap.size ∧ ¬ WM W v b
 lt : C < wo.heap.size
section
variable {wo : World} {W C : Nat} {lv v : Value} {at_ : Nat} {L : List Bool} {v' : Value} {wx : World}
theorem BK.start (hw : Wr wo W L v) (hc : Cho wo C lv at_) : BK wo W C lv v at_ L v wo:=⟨hw,Ext.refl _ _,.inl rfl,hc⟩
theorem BK.wm (h : BK wo W C lv v at_ L v' wx) (hb : BB wo W C lv v) : ¬ WM W v' C ∧ ∀ b,lv.ownBlock = some b → b < wx.heap.size ∧ ¬ WM W v' b:=by
 have hs:=h.ext.size
 refine ⟨WM.moved h.mov hb.wmC hb.lt,fun b hl => ?_⟩
 obtain ⟨h1,h2⟩:=hb.wmL b hl
 exact ⟨by omega,WM.moved h.mov h2 h1⟩
theorem BK.write (h : BK wo W C lv v at_ L v' wx) (hb : BB wo W C lv v) {L2 : List Bool} {w2 : World} (hw : Wrote wx W L2 v' w2) : ∃ v2,BK wo W C lv v at_ L2 v2 w2:=by
 obtain ⟨v2,hr,he,hm⟩:=hw
 obtain ⟨h1,h2⟩:=h.wm hb
 refine ⟨v2,⟨hr,h.ext.trans' he ?_,h.mov.trans hm h.ext.size,h.cho.ext he h1 (fun b hl => (h2 b hl).2)⟩⟩
 intro i hi e
 rcases e with e | e
 ·exact .inl (.inl e)
 ·rcases h.mov with hm | hm
  ·exact .inl (.inr (hm ▸ e))
  ·have:=hm i e;omega
theorem BK.choose (h : BK wo W C lv v at_ L v' wx) (hb : BB wo W C lv v) {at2 : Nat} {w2 : World} (hc : Cho w2 C lv at2) (he : Ext (CM C) wx w2) : BK wo W C lv v at2 L v' w2:=by
 obtain ⟨h1,h2⟩:=h.wm hb
 refine ⟨⟨h.wr.blk.ext he (fun e => h1 (.inl e.symm)),?_,h.wr.ne⟩,h.ext.trans (he.mono (fun _ _ e => .inr e)),h.mov,hc⟩
 obtain ⟨bs,h3,h4⟩:=h.wr.row
 exact ⟨bs,owns_ext h3 he (fun b hb2 e => h1 (.inr (by rw [hb2];exact congrArg some e))),h4⟩
theorem BK.more (h : BK wo W C lv v at_ L v' wx) {w2 : World} (he : Ext (fun _ => False) wx w2) : BK wo W C lv v at_ L v' w2 :=
 ⟨h.wr.ext0 he,h.ext.trans (he.mono (fun _ _ e => e.elim)),h.mov,h.cho.ext he (fun e => e) (fun _ _ e => e)⟩
theorem BK.both (h : BK wo W C lv v at_ L v' wx) {at2 : Nat} {L2 : List Bool} {w2 : World} (hw : ∃ v2,Wr w2 W L2 v2 ∧ Ext (fun k => WM W v' k ∨ k = C) wx w2 ∧ Moved wx v' v2) (hc : Cho w2 C lv at2) : ∃ v2,BK wo W C lv v at2 L2 v2 w2:=by
 obtain ⟨v2,hr,he,hm⟩:=hw
 refine ⟨v2,hr,h.ext.trans' he ?_,h.mov.trans hm h.ext.size,hc⟩
 intro i hi e
 rcases e with (e | e) | e
 ·exact .inl (.inl e)
 ·rcases h.mov with hm | hm
  ·exact .inl (.inr (hm ▸ e))
  ·have:=hm i e;omega
 ·exact .inr e
theorem BK.keep (h : BK wo W C lv v at_ L v' wx) {b : Nat} (h1 : ¬ WC W C v b) {o : Nat} {x : Value} (hc : wo.cell? ⟨b,o,none⟩ = some x) : wx.cell? ⟨b,o,none⟩ = some x:=h.ext.cellSome h1 hc
theorem BK.off (h : BK wo W C lv v at_ L v' wx) {b : Nat} (h1 : ¬ WC W C v b) (hb : b < wo.heap.size) : ¬ WM W v' b:=WM.moved h.mov (fun e => h1 (.inl e)) hb
end
theorem toks_value {w : World} {base : Nat} {v : Value} {toks : List Tok} (ab : Nat) (h : w.ownsRow base 93 3 v toks.length (toksCells toks)) (hab : ab < w.heap.size) :
  ∃ ta tb tcap,v = .slice ta toks.length tcap ∧ (toks ≠ [] → ta = some ⟨tb,0,none⟩) ∧ (∀ j x,(toksCells toks)[j]? = some x → w.cell? ⟨tb,j,none⟩ = some x) ∧ (tb = ab ∨ base ≤ tb) ∧ tb < w.heap.size:=by
 rcases h.2 with ⟨rfl,h2⟩ | ⟨g,cap,cur,rfl,hb,hg,hn,hc,hs,ht⟩
 ·have : toks = []:=List.eq_nil_of_length_eq_zero h2
  subst this
  exact ⟨none,ab,0,rfl,fun h => absurd rfl h,by simp [toksCells],.inl rfl,hab⟩
 ·refine ⟨some ⟨g,0,none⟩,g,cap,rfl,fun _ => rfl,fun j x hx => ?_,.inr hb,lt_of_block hg⟩
  have:=h.cells (g:=g) rfl j x hx
  by_cases hj : j = 0
  ·subst hj;simpa [Addr.add] using this
  ·simpa [Addr.add,hj] using this
def TokensVal (w : World) (C : Nat) (lv : Value) (at0 : Nat) (A : List UInt8) (from_ ab : Nat) (e : Ending) (w' : World) : Prop :=
 ∃ ta tb tcap toks at',e = .returned (.slice ta toks.length tcap) ∧ toksFit A from_ toks A.length ∧ Ext (CM C) w w' ∧ at0 ≤ at' ∧ at' ≤ at0 + 4 * (A.length - from_) ∧ Cho w' C lv at' ∧
  (toks ≠ [] → ta = some ⟨tb,0,none⟩) ∧ (∀ j x,(toksCells toks)[j]? = some x → w'.cell? ⟨tb,j,none⟩ = some x) ∧ (tb = ab ∨ w.heap.size ≤ tb) ∧ tb < w'.heap.size
theorem tokens_val (b o cap C from_ at0 : Nat) (lv : Value) (A : List UInt8) (w : World) (hA : A.length ≤ 4194304) (hfrom : from_ ≤ A.length)
  (hc : ∀ j x,(A.map U8)[j]? = some x → w.cell? ⟨b,o + j,none⟩ = some x) (hbC : b ≠ C) (hcho : Cho w C lv at0) (hat : at0 ≤ 100000000) (hlv : ∀ b,lv.ownBlock = some b → b < w.heap.size) (ab : Nat) (hab : ab < w.heap.size) :
  Calls Tryz.prog 31 #[.slice (some ⟨b,o,none⟩) A.length cap,.int .i64 from_,.pointer (some ⟨C,0,none⟩)] w (TokensVal w C lv at0 A from_ ab):=by
 refine (tokens_some b o cap C from_ at0 lv A w hA hfrom hc hbC hcho hat hlv).mono ?_
 rintro e w' ⟨v,toks,rfl,hti⟩
 obtain ⟨at',h1,h2,h3⟩:=hti.cho
 obtain ⟨ta,tb,tcap,hv,h4,h5,h6,h7⟩:=toks_value ab hti.own (by have:=hti.ext.size;omega)
 subst hv
 exact ⟨ta,tb,tcap,toks,at',rfl,hti.fit,hti.ext,h1,h2,h3,h4,h5,h6,h7⟩
theorem packed_bytes {bs ys : List UInt8} {L : List Bool} (h : Packed bs L) (h8 : L.length % 8 = 0) : bs.length * 8 = L.length ∧ Packed (bs ++ ys) (L ++ bitsOf ys):=by
 have h1:=h.1
 have h2:=h.2.2
 have hl : bs.length * 8 = L.length:=by omega
 have e : 8 * bs.length - L.length = 0:=by omega
 rw [e,List.replicate_zero,List.append_nil] at h2
 refine ⟨hl,?_,?_,?_⟩
 ·simp only [List.length_append,length_bitsOf];omega
 ·simp only [List.length_append,length_bitsOf];omega
 ·rw [bitsOf_append,h2]
  have : 8 * (bs ++ ys).length - (L ++ bitsOf ys).length = 0:=by simp only [List.length_append,length_bitsOf];omega
  rw [this,List.replicate_zero,List.append_nil]
theorem BK.stored {wo : World} {W C : Nat} {lv v : Value} {at_ : Nat} {L : List Bool} {v13 : Value} {w13 w13' w14 wx : World} {bs ys : List UInt8} {sv v14 : Value} (h : BK wo W C lv v at_ L v13 w13) (hb : BB wo W C lv v) (h8 : L.length % 8 = 0)
  (hp : Packed bs L) (he0 : Ext (fun _ => False) w13 w13') (hap : Appended w13' 0 5 v13 sv (bs.map U8) (ys.map U8) v14 w14) (he : Ext (fun k => k = W) w14 wx)
  (hblk : Blk wx W #[v14,.int .i64 ((8 * (bs.length + ys.length) : Nat) : Int)] 67) : BK wo W C lv v at_ (L ++ bitsOf ys) v14 wx:=by
 obtain ⟨hl,hp2⟩:=packed_bytes (ys:=ys) hp h8
 have hWlt:=h.wr.blk.lt
 have hs0:=he0.size
 have hs1:=hap.grown.size
 have hne : v14.ownBlock ≠ some W:=by
  intro e
  rcases hap.moved with hm | hm
  ·exact h.wr.ne (hm ▸ e)
  ·have:=hm W e;omega
 have hl2 : (L ++ bitsOf ys).length = 8 * (bs.length + ys.length):=by rw [List.length_append,length_bitsOf];omega
 obtain ⟨h1,h2⟩:=h.wm hb
 have hEx : Ext (WM W v13) w13 wx:=((he0.mono (fun _ _ e => e.elim)).trans (hap.grown.mono (fun _ _ e => .inr e))).trans' he (fun i hi e => .inl e)
 have hMv : Moved w13 v13 v14:=by
  rcases hap.moved with hm | hm
  ·exact .inl hm
  ·exact .inr fun k hk => by have:=hm k hk;omega
 refine ⟨⟨by rw [hl2];exact hblk,⟨bs ++ ys,?_,hp2⟩,hne⟩,h.ext.trans' hEx ?_,h.mov.trans hMv h.ext.size,h.cho.ext hEx h1 (fun b hl => (h2 b hl).2)⟩
 ·have:=hap.own
  rw [← List.map_append,List.length_map] at this
  exact owns_ext this he (fun b hb2 e => hne (by rw [hb2];exact congrArg some e))
 ·intro i hi e
  rcases e with e | e
  ·exact .inl (.inl e)
  ·rcases h.mov with hm | hm
   ·exact .inl (.inr (hm ▸ e))
   ·have:=hm i e;omega
section
variable {w : World} {A : List UInt8} {f ab W i C : Nat} {lv : Value} {at0 : Nat} {L : List Bool} {v : Value} {k : Nat} {wo : World}
theorem DF.nextParts (h : DF w A f ab W i C lv at0 L v k wo) {at7 : Nat} {L' : List Bool} {v11 : Value} {w11 : World} (hk : BK wo W C lv v at7 L' v11 w11) :
  (∀ b,v11.ownBlock = some b → w.heap.size ≤ b) ∧ (∀ j x,(A.map U8)[j]? = some x → w11.cell? ⟨ab,j,none⟩ = some x) ∧ ab < w11.heap.size ∧ v11.ownBlock ≠ some C ∧ ¬ WM W v11 ab ∧ Ext (fun _ => False) w w11:=by
 have hs:=h.ext.size
 have hs2:=hk.ext.size
 have hlt:=h.lt
 have hWC : ¬ WC W C v ab:=by
  rintro (e | e)
  ·exact h.ne.2.2.2 e
  ·exact h.ne.1 e
 refine ⟨fun b hb => ?_,fun j x hx => hk.keep hWC (h.cells j x hx),by omega,?_,hk.off hWC hlt,h.ext.trans' hk.ext ?_⟩
 ·rcases hk.mov with hm | hm
  ·exact h.own b (hm ▸ hb)
  ·have:=hm b hb;omega
 ·intro e
  rcases hk.mov with hm | hm
  ·exact h.ne.2.2.1 (hm ▸ e)
  ·have:=hm C e;have:=h.cho.blk.lt;omega
 ·intro j hj e
  rcases e with (e | e) | e
  ·have:=h.new;omega
  ·have:=h.own j e;omega
  ·have:=h.new;omega
theorem DF.next (h : DF w A f ab W i C lv at0 L v k wo) {at7 n : Nat} {B : List Bool} {v11 : Value} {w11 : World} (hk : BK wo W C lv v at7 (L ++ false::B) v11 w11) (hb : IsBlock A (L.length + 1) i (i + n) B) (hin : i + n ≤ A.length)
  (hB : B.length ≤ 8200 + 72 * n) (h7 : at7 ≤ 20000) (hlt : mu A.length (i + n) at7 false < k) : DF w A f ab W (i + n) C lv at7 (L ++ false::B) v11 (mu A.length (i + n) at7 false) w11:=by
 obtain ⟨h1,h2,h3,h4,h5,h6⟩:=h.nextParts hk
 have hbits:=h.bits
 have hlo:=h.lo
 exact ⟨by omega,hin,h.before.one hb,hk.wr,h1,hk.cho,h.new,h.lvb,h2,h3,⟨h.ne.1,h.ne.2.1,h4,h5⟩,h6,h7,by simp only [List.length_append,List.length_cons];omega,.inr rfl⟩
theorem DF.again (h : DF w A f ab W i C lv at0 L v k wo) {at7 n : Nat} {B : List Bool} {v11 : Value} {w11 : World} (hk : BK wo W C lv v at7 (L ++ false::B) v11 w11) (hb : IsBlock A (L.length + 1) i (i + n) B) (hin : i + n ≤ A.length)
  (hB : B.length ≤ 8200 + 72 * n) (hlt : mu A.length (i + n) 0 true < k) :
  DF w A f ab W (i + n) w11.heap.size (.slice none 0 0) 0 (L ++ false::B) v11 (mu A.length (i + n) 0 true) (w11.alloc (.cells #[.slice none 0 0,.int .i64 0] 64)):=by
 obtain ⟨h1,h2,h3,h4,h5,h6⟩:=h.nextParts hk
 have hbits:=h.bits
 have hlo:=h.lo
 have he : Ext (fun _ => False) w11 (w11.alloc (.cells #[.slice none 0 0,.int .i64 0] 64)):=(Ext.refl _ _).alloc _
 have hs:=h.ext.size
 have hs2:=hk.ext.size
 have hWlt:=hk.wr.blk.lt
 have hvl : ∀ b,v11.ownBlock = some b → b < w11.heap.size:=fun b hb => hk.wr.own_lt (.inr hb)
 refine ⟨by omega,hin,h.before.one hb,hk.wr.ext0 he,h1,⟨Blk.new _ _ _,⟨[],by simp,Rd.nil _⟩,(fun e => by cases e)⟩,⟨by omega,h.new.2⟩,(fun b e => by cases e),fun j x hx => he.cellSome (fun e => e) (h2 j x hx),by have:=he.size;omega,⟨by omega,by omega,fun e => by have:=hvl _ e;omega,h5⟩,h6.trans he,by omega,by simp only [List.length_append,List.length_cons];omega,.inl ⟨rfl,rfl,rfl⟩⟩
end
theorem mu_next {N i n at0 at7 k : Nat} (hin : i + n ≤ N) (ha : at0 < at7) (h0 : at0 ≤ 20000) (hl : (k = mu N i at0 true ∧ n = 65535) ∨ k = mu N i at0 false) :
  (at7 ≤ 20000 → mu N (i + n) at7 false < k) ∧ mu N (i + n) 0 true < k:=by
 unfold mu at *
 simp only [if_true,Bool.false_eq_true,if_false] at *
 rcases hl with ⟨rfl,rfl⟩ | rfl
 ·omega
 ·omega
theorem owns_base {w : World} {base b e size n : Nat} {v : Value} {xs : List Value} (h : w.ownsRow b e size v n xs) (hb : ∀ k,v.ownBlock = some k → base ≤ k) : w.ownsRow base e size v n xs:=by
 obtain ⟨h1,h2⟩:=h
 refine ⟨h1,?_⟩
 rcases h2 with h2 | ⟨g,cap,cur,rfl,hg,r⟩
 ·exact .inl h2
 ·exact .inr ⟨g,cap,cur,rfl,hb g rfl,r⟩
def DeflPost (w : World) (dict data : List UInt8) (e : Ending) (w' : World) : Prop :=
 ∃ v X bs,e = .returned v ∧ Whole (dict ++ data) dict.length X ∧ Packed bs X ∧ w'.ownsRow w.heap.size 5 1 v bs.length (bs.map U8) ∧ Ext (fun _ => False) w w' ∧ bs.length ≤ 68719476736
theorem fix_same : fixLits = fixLitsP ∧ fixDists = fixDistsP:=⟨rfl,rfl⟩
theorem xor_all (n : Nat) (h : n ≤ 65535) : bits BinOp.xor IntKind.i64 (n : Int) 65535 = ((65535 - n : Nat) : Int):=by
 have e : n ^^^ 65535 = 65535 - n:=by
  apply Nat.eq_of_testBit_eq
  intro i
  rw [Nat.testBit_xor]
  have h1 : (65535 : Nat) = 2 ^ 16 - 1:=by decide
  rw [h1,Nat.testBit_two_pow_sub_one]
  have h2 : 2 ^ 16 - 1 - n = 2 ^ 16 - (n + 1):=by omega
  rw [h2,Nat.testBit_two_pow_sub_succ (by omega)]
  by_cases hi : i < 16
  ·simp [hi]
  ·have : n.testBit i = false:=Nat.testBit_lt_two_pow (Nat.lt_of_lt_of_le (by omega : n < 2 ^ 16) (Nat.pow_le_pow_right (by omega) (by omega)))
   simp [hi,this]
 have h9 : bits .xor .i64 (n : Int) (65535 : Int) = ((n ^^^ 65535 : Nat) : Int):=by
  have hx : n ^^^ 65535 < 2 ^ 63:=Nat.xor_lt_two_pow (by omega) (by omega)
  have h0 : ∀ a : Nat,a < 9223372036854775808 → (BitVec.ofInt 64 (a : Int)).toNat = a:=by
   intro a ha
   rw [BitVec.ofInt_natCast,BitVec.toNat_ofNat];exact Nat.mod_eq_of_lt (by omega)
  show IntKind.i64.wrap ((BitVec.ofInt 64 (n : Int) ^^^ BitVec.ofInt 64 ((65535 : Nat) : Int)).toNat : Int) = _
  rw [BitVec.toNat_xor,h0 n (by omega),h0 65535 (by omega),IntKind.wrap_i64]
  omega
 rw [h9,e]
end Go.Proofs.YthpapbilhjobnaaGreatDoor
