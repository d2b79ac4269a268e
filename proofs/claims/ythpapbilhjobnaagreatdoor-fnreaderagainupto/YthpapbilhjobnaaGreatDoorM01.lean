/-
  Parts of the proofs over the reader and the encoder of streams, joined: Cb Cc Pu1 Pu2 Ba De1 Pu4 Pu5 Pu7 Pu6 Pu8 Pd1 Pd2 Pd3. Conditions: each theorem names its own.
-/
import Derived.Test.YthpapbilhjobnaaGreatDoorProg
import Derived.WalkKit
import Derived.WalkSpells
import Derived.WalkLawsBesides
import Derived.Deep.QuietTactic
import Derived.BigQuiet
import Derived.Lib.Hide
import Derived.LaidEql
import Derived.Deep.RegionWith
import Derived.Outline
set_option linter.unusedVariables false
set_option linter.unusedSimpArgs false
namespace Go.Proofs.YthpapbilhjobnaaGreatDoor
def blockOf (n : Nat) : Code → Option Code
 | .seq a b => match blockOf n a with
  | some c => some c
  | none => blockOf n b
 | .cond _ a b => match blockOf n a with
  | some c => some c
  | none => blockOf n b
 | .block m c => if m = n then some (.block m c) else blockOf n c
 | .loop c => blockOf n c
 | .scope c => blockOf n c
 | _ => none
noncomputable def blk75 (n : Nat) : Code:=(Tryz.f75.body.bind (blockOf n)).getD .skip
end Go.Proofs.YthpapbilhjobnaaGreatDoor
namespace Go.Proofs.YthpapbilhjobnaaGreatDoor
noncomputable def blk61 (n : Nat) : Code:=(Tryz.f61.body.bind (blockOf n)).getD .skip
noncomputable def blk69 (n : Nat) : Code:=(Tryz.f69.body.bind (blockOf n)).getD .skip
noncomputable def blk70 (n : Nat) : Code:=(Tryz.f70.body.bind (blockOf n)).getD .skip
end Go.Proofs.YthpapbilhjobnaaGreatDoor
namespace Go.Proofs.YthpapbilhjobnaaGreatDoor.Pu
def val : List Bool → Nat
 | [] => 0
 | b::l => b.toNat + 2 * val l
theorem val_lt (l : List Bool) : val l < 2 ^ l.length:=by
 induction l with
 | nil => simp [val]
 | cons b l ih =>
  simp only [val,List.length_cons,Nat.pow_succ]
  have : b.toNat ≤ 1:=by cases b <;> simp
  omega
theorem val_append (a b : List Bool) : val (a ++ b) = val a + 2 ^ a.length * val b:=by
 induction a with
 | nil => simp [val]
 | cons x a ih =>
  simp only [List.cons_append,val,ih,List.length_cons,Nat.pow_succ,Nat.mul_add]
  have : 2 * (2 ^ a.length * val b) = 2 ^ a.length * 2 * val b:=by
   rw [← Nat.mul_assoc,Nat.mul_comm 2]
  omega
theorem val_mod_append (a b : List Bool) : val (a ++ b) % 2 ^ a.length = val a:=by
 rw [val_append,Nat.add_mul_mod_self_left,Nat.mod_eq_of_lt (val_lt a)]
theorem val_div_append (a b : List Bool) : val (a ++ b) / 2 ^ a.length = val b:=by
 rw [val_append,Nat.add_mul_div_left _ _ (Nat.two_pow_pos _),Nat.div_eq_of_lt (val_lt a),Nat.zero_add]
theorem val_take (l : List Bool) (k : Nat) : val (l.take k) = val l % 2 ^ k:=by
 rcases Nat.le_total k l.length with h | h
 ·have e : l = l.take k ++ l.drop k:=(List.take_append_drop k l).symm
  have hl : (l.take k).length = k:=by simp [h]
  have:=val_mod_append (l.take k) (l.drop k)
  rw [hl,← e] at this
  exact this.symm
 ·rw [List.take_of_length_le h,Nat.mod_eq_of_lt]
  exact Nat.lt_of_lt_of_le (val_lt l) (Nat.pow_le_pow_right (by omega) h)
theorem val_drop (l : List Bool) (k : Nat) : val (l.drop k) = val l / 2 ^ k:=by
 rcases Nat.le_total k l.length with h | h
 ·have e : l = l.take k ++ l.drop k:=(List.take_append_drop k l).symm
  have hl : (l.take k).length = k:=by simp [h]
  have:=val_div_append (l.take k) (l.drop k)
  rw [hl,← e] at this
  exact this.symm
 ·rw [List.drop_of_length_le h,Nat.div_eq_of_lt]
  ·rfl
  ·exact Nat.lt_of_lt_of_le (val_lt l) (Nat.pow_le_pow_right (by omega) h)
def lsb (n : Nat) : Nat → List Bool
 | 0 => []
 | k + 1 => (n % 2 == 1)::lsb (n / 2) k
@[simp] theorem length_lsb (n k : Nat) : (lsb n k).length = k:=by
 induction k generalizing n with
 | zero => rfl
 | succ k ih => simp [lsb,ih]
theorem val_lsb (n k : Nat) : val (lsb n k) = n % 2 ^ k:=by
 induction k generalizing n with
 | zero => simp [lsb,val,Nat.mod_one]
 | succ k ih =>
  simp only [lsb,val,ih]
  have h2 : (n % 2 == 1).toNat = n % 2:=by
   rcases Nat.mod_two_eq_zero_or_one n with h | h <;> simp [h]
  rw [h2,Nat.pow_succ,Nat.mul_comm (2 ^ k) 2,Nat.mod_mul]
theorem lsb_val (l : List Bool) : lsb (val l) l.length = l:=by
 induction l with
 | nil => rfl
 | cons b l ih =>
  simp only [List.length_cons,lsb,val]
  have e1 : ((b.toNat + 2 * val l) % 2 == 1) = b:=by cases b <;> simp <;> omega
  have e2 : (b.toNat + 2 * val l) / 2 = val l:=by cases b <;> simp <;> omega
  rw [e1,e2,ih]
theorem val_inj {a b : List Bool} (hl : a.length = b.length) (h : val a = val b) : a = b:=by
 rw [← lsb_val a,← lsb_val b,h,hl]
theorem lsb_snoc (n k : Nat) : lsb n (k + 1) = lsb n k ++ [n / 2 ^ k % 2 == 1]:=by
 induction k generalizing n with
 | zero => simp [lsb]
 | succ k ih =>
  rw [lsb,ih]
  simp only [lsb,List.cons_append,Nat.pow_succ,Nat.div_div_eq_div_mul]
  rw [Nat.mul_comm 2]
def msb (n k : Nat) : List Bool:=(lsb n k).reverse
@[simp] theorem length_msb (n k : Nat) : (msb n k).length = k:=by simp [msb]
theorem msb_succ (n k : Nat) : msb n (k + 1) = (n / 2 ^ k % 2 == 1)::msb n k:=by
 simp [msb,lsb_snoc]
theorem msb_snoc (n k : Nat) : msb n (k + 1) = msb (n / 2) k ++ [n % 2 == 1]:=by
 simp [msb,lsb]
theorem msb_append (n j k : Nat) : msb n (j + k) = msb (n / 2 ^ k) j ++ msb n k:=by
 induction k generalizing n with
 | zero => simp [msb,lsb]
 | succ k ih =>
  rw [← Nat.add_assoc,msb_snoc,ih,msb_snoc,List.append_assoc,Nat.div_div_eq_div_mul,Nat.pow_succ,Nat.mul_comm 2]
theorem lsb_mod (n k : Nat) : lsb (n % 2 ^ k) k = lsb n k :=
 val_inj (by simp) (by simp [val_lsb])
theorem msb_mod (n k : Nat) : msb (n % 2 ^ k) k = msb n k:=by simp [msb,lsb_mod]
theorem lsb_inj {a b k : Nat} (ha : a < 2 ^ k) (hb : b < 2 ^ k) (h : lsb a k = lsb b k) : a = b:=by
 have:=congrArg val h
 rwa [val_lsb,val_lsb,Nat.mod_eq_of_lt ha,Nat.mod_eq_of_lt hb] at this
theorem msb_inj {a b k : Nat} (ha : a < 2 ^ k) (hb : b < 2 ^ k) (h : msb a k = msb b k) : a = b :=
 lsb_inj ha hb (List.reverse_inj.1 h)
def bitsOf : List UInt8 → List Bool
 | [] => []
 | b::l => lsb b.toNat 8 ++ bitsOf l
@[simp] theorem length_bitsOf (l : List UInt8) : (bitsOf l).length = 8 * l.length:=by
 induction l with
 | nil => rfl
 | cons b l ih => simp [bitsOf,ih];omega
theorem bitsOf_append (a b : List UInt8) : bitsOf (a ++ b) = bitsOf a ++ bitsOf b:=by
 induction a with
 | nil => rfl
 | cons x a ih => simp [bitsOf,ih]
theorem bitsOf_inj {a b : List UInt8} (hl : a.length = b.length) (h : bitsOf a = bitsOf b) : a = b:=by
 induction a generalizing b with
 | nil => cases b with
  | nil => rfl
  | cons y b => simp at hl
 | cons x a ih =>
  cases b with
  | nil => simp at hl
  | cons y b =>
   simp only [bitsOf] at h
   obtain ⟨h1,h2⟩:=List.append_inj h (by simp)
   have hx : x = y:=by
    have:=lsb_inj (k:=8) (by have:=x.toNat_lt;omega) (by have:=y.toNat_lt;omega) h1
    exact UInt8.toNat_inj.1 this
   rw [hx,ih (by simpa using hl) h2]
theorem val_zeros (k : Nat) : val (List.replicate k false) = 0:=by
 induction k with
 | zero => rfl
 | succ k ih => simp [List.replicate_succ,val,ih]
theorem val_append_zeros (l : List Bool) (k : Nat) : val (l ++ List.replicate k false) = val l:=by
 rw [val_append,val_zeros];omega
end Go.Proofs.YthpapbilhjobnaaGreatDoor.Pu
namespace Go.Proofs.YthpapbilhjobnaaGreatDoor.Pu
def cnt (lens : List Nat) (n : Nat) : Nat:=if n = 0 then 0 else lens.count n
def first (lens : List Nat) : Nat → Nat
 | 0 => 0
 | n + 1 => 2 * (first lens n + cnt lens n)
def len (lens : List Nat) (s : Nat) : Nat:=lens[s]?.getD 0
def rank (lens : List Nat) (s : Nat) : Nat:=(lens.take s).count (len lens s)
def codeOf (lens : List Nat) (s : Nat) : Nat:=first lens (len lens s) + rank lens s
def codeBits (lens : List Nat) (s : Nat) : List Bool:=msb (codeOf lens s) (len lens s)
@[simp] theorem length_codeBits (lens : List Nat) (s : Nat) : (codeBits lens s).length = len lens s:=by simp [codeBits]
theorem lt_of_len {lens : List Nat} {s : Nat} (h : 0 < len lens s) : s < lens.length:=by
 unfold len at h
 rcases Nat.lt_or_ge s lens.length with h1 | h1
 ·exact h1
 ·simp [List.getElem?_eq_none h1] at h
theorem len_eq {lens : List Nat} {s : Nat} (h : s < lens.length) : len lens s = lens[s]:=by simp [len,h]
theorem first_step (lens : List Nat) (n : Nat) : first lens (n + 1) = 2 * (first lens n + cnt lens n):=rfl
theorem first_mono (lens : List Nat) (n k : Nat) : (first lens n + cnt lens n) * 2 ^ (k + 1) ≤ first lens (n + k + 1):=by
 induction k with
 | zero => simp [first];omega
 | succ k ih =>
  have : first lens (n + (k + 1) + 1) = 2 * (first lens (n + k + 1) + cnt lens (n + k + 1)):=rfl
  rw [this,Nat.pow_succ,← Nat.mul_assoc]
  omega
theorem count_take_lt (lens : List Nat) (s : Nat) (hs : s < lens.length) : (lens.take s).count lens[s] < lens.count lens[s]:=by
 have e : lens = lens.take s ++ lens[s]::lens.drop (s + 1):=by
  rw [← List.drop_eq_getElem_cons hs,List.take_append_drop]
 have h1 : lens.count lens[s] = (lens.take s).count lens[s] + ((lens[s]::lens.drop (s + 1)).count lens[s]):=by
  rw [← List.count_append,← e]
 rw [h1,List.count_cons_self]
 omega
theorem rank_lt {lens : List Nat} {s : Nat} (h : 0 < len lens s) : rank lens s < cnt lens (len lens s):=by
 have hs:=lt_of_len h
 have e:=len_eq hs
 unfold rank cnt
 rw [if_neg (by omega),e]
 exact count_take_lt lens s hs
theorem code_lt_next {lens : List Nat} {s : Nat} (h : 0 < len lens s) : codeOf lens s < first lens (len lens s) + cnt lens (len lens s):=by
 have:=rank_lt h
 unfold codeOf
 omega
theorem code_order {lens : List Nat} {s t : Nat} (hs : 0 < len lens s) (hst : len lens s < len lens t) :
  (codeOf lens s + 1) * 2 ^ (len lens t - len lens s) ≤ codeOf lens t:=by
 have h1:=code_lt_next hs
 obtain ⟨k,hk⟩ : ∃ k,len lens t = len lens s + k + 1:=⟨len lens t - len lens s - 1,by omega⟩
 have h2:=first_mono lens (len lens s) k
 have h3 : first lens (len lens t) ≤ codeOf lens t:=by unfold codeOf;omega
 rw [hk] at h3
 have e : len lens t - len lens s = k + 1:=by omega
 rw [e]
 calc (codeOf lens s + 1) * 2 ^ (k + 1) ≤ (first lens (len lens s) + cnt lens (len lens s)) * 2 ^ (k + 1):=Nat.mul_le_mul_right _ (by omega)
  _ ≤ _:=h2
  _ ≤ _:=h3
theorem rank_inj {lens : List Nat} {s t : Nat} (hs : 0 < len lens s) (ht : 0 < len lens t) (hl : len lens s = len lens t) (h : rank lens s = rank lens t) : s = t:=by
 have key : ∀ a b,0 < len lens a → 0 < len lens b → len lens a = len lens b → a < b → rank lens a < rank lens b:=by
  intro a b ha hb hab hlt
  have ha':=lt_of_len ha
  have hb':=lt_of_len hb
  have h1 : rank lens b = (lens.take b).count (len lens a):=by unfold rank;rw [hab]
  have h2 : rank lens a = ((lens.take b).take a).count (len lens a):=by
   unfold rank;rw [List.take_take,Nat.min_eq_left (by omega)]
  have hb2 : a < (lens.take b).length:=by simp;omega
  have h3:=count_take_lt (lens.take b) a hb2
  have h4 : (lens.take b)[a] = len lens a:=by rw [len_eq ha'];simp
  rw [h4] at h3
  omega
 rcases Nat.lt_trichotomy s t with h1 | h1 | h1
 ·have:=key s t hs ht hl h1;omega
 ·exact h1
 ·have:=key t s ht hs hl.symm h1;omega
theorem prefix_free {lens : List Nat} {s t : Nat} (hs : 0 < len lens s) (ht : 0 < len lens t) (hst : len lens s ≤ len lens t)
  (h : codeOf lens t / 2 ^ (len lens t - len lens s) = codeOf lens s) : s = t:=by
 rcases Nat.lt_or_ge (len lens s) (len lens t) with h1 | h1
 ·have h2:=code_order hs h1
  have h3 : (codeOf lens s + 1) ≤ codeOf lens t / 2 ^ (len lens t - len lens s):=(Nat.le_div_iff_mul_le (Nat.two_pow_pos _)).2 h2
  omega
 ·have e : len lens s = len lens t:=by omega
  rw [e,Nat.sub_self,Nat.pow_zero,Nat.div_one] at h
  refine rank_inj hs ht e ?_
  unfold codeOf at h
  rw [e] at h
  omega
def Full (lens : List Nat) : Prop:=(∀ n ∈ lens,n ≤ 15) ∧ first lens 16 = 65536
def Lone (lens : List Nat) : Prop:=∃ s,s < lens.length ∧ ∀ t,len lens t = if t = s then 1 else 0
def Good (lens : List Nat) : Prop:=Full lens ∨ Lone lens
theorem len_le {lens : List Nat} (h : ∀ n ∈ lens,n ≤ 15) (s : Nat) : len lens s ≤ 15:=by
 unfold len
 rcases Nat.lt_or_ge s lens.length with h1 | h1
 ·simp only [List.getElem?_eq_getElem h1,Option.getD_some]
  exact h _ (List.getElem_mem h1)
 ·simp [List.getElem?_eq_none h1]
theorem Lone.mem {lens : List Nat} (h : Lone lens) : ∀ n ∈ lens,n ≤ 1:=by
 obtain ⟨s,hs,h⟩:=h
 intro n hn
 obtain ⟨t,ht,rfl⟩:=List.getElem_of_mem hn
 have:=h t
 rw [len_eq ht] at this
 rw [this]
 split <;> omega
theorem Good.mem {lens : List Nat} (h : Good lens) : ∀ n ∈ lens,n ≤ 15:=by
 rcases h with h | h
 ·exact h.1
 ·intro n hn;have:=h.mem n hn;omega
theorem code_lt_full {lens : List Nat} (h : Full lens) {s : Nat} (hs : 0 < len lens s) : codeOf lens s < 2 ^ len lens s:=by
 have h15:=len_le h.1 s
 have h1:=code_lt_next hs
 have h2:=first_mono lens (len lens s) (15 - len lens s)
 have e : len lens s + (15 - len lens s) + 1 = 16:=by omega
 have e2 : 15 - len lens s + 1 = 16 - len lens s:=by omega
 rw [e,e2,h.2] at h2
 have h3 : (codeOf lens s + 1) * 2 ^ (16 - len lens s) ≤ 65536:=Nat.le_trans (Nat.mul_le_mul_right _ (by omega)) h2
 have h4 : 2 ^ len lens s * 2 ^ (16 - len lens s) = 65536:=by rw [← Nat.pow_add];rw [show len lens s + (16 - len lens s) = 16 by omega]
 have h5 : (codeOf lens s + 1) * 2 ^ (16 - len lens s) ≤ 2 ^ len lens s * 2 ^ (16 - len lens s):=by omega
 have:=Nat.le_of_mul_le_mul_right h5 (Nat.two_pow_pos _)
 omega
theorem Lone.count {lens : List Nat} (h : Lone lens) : lens.count 1 = 1:=by
 obtain ⟨s,hs,h⟩:=h
 have e : lens = lens.take s ++ lens[s]::lens.drop (s + 1):=by
  rw [← List.drop_eq_getElem_cons hs,List.take_append_drop]
 have h1 : lens[s] = 1:=by have:=h s;rw [len_eq hs] at this;simpa using this
 have h2 : (lens.take s).count 1 = 0:=by
  rw [List.count_eq_zero]
  intro hm
  obtain ⟨t,ht,e⟩:=List.getElem_of_mem hm
  simp only [List.length_take] at ht
  have:=h t
  rw [len_eq (by omega)] at this
  simp only [List.getElem_take] at e
  rw [if_neg (by omega)] at this
  omega
 have h3 : (lens.drop (s + 1)).count 1 = 0:=by
  rw [List.count_eq_zero]
  intro hm
  obtain ⟨t,ht,e⟩:=List.getElem_of_mem hm
  simp only [List.length_drop] at ht
  have:=h (s + 1 + t)
  rw [len_eq (by omega)] at this
  simp only [List.getElem_drop] at e
  rw [if_neg (by omega)] at this
  omega
 rw [e,List.count_append,h1,List.count_cons_self,h2,h3]
theorem code_lt {lens : List Nat} (h : Good lens) {s : Nat} (hs : 0 < len lens s) : codeOf lens s < 2 ^ len lens s:=by
 rcases h with h | h
 ·exact code_lt_full h hs
 ·have hc:=h.count
  have h0:=h.mem
  have hsl:=lt_of_len hs
  have : len lens s = 1:=by
   have:=h0 _ (List.getElem_mem hsl)
   rw [← len_eq hsl] at this
   omega
  have h1:=code_lt_next hs
  rw [this] at h1 ⊢
  have e1 : first lens 1 = 0:=by simp [first,cnt]
  have e2 : cnt lens 1 = 1:=by simp [cnt,hc]
  rw [e1,e2] at h1
  omega
theorem nth_of_count (lens : List Nat) (n k : Nat) (h : k < lens.count n) : ∃ s,s < lens.length ∧ lens[s]? = some n ∧ (lens.take s).count n = k:=by
 induction lens generalizing k with
 | nil => simp at h
 | cons x l ih =>
  by_cases hx : x = n
  ·subst hx
   cases k with
   | zero => exact ⟨0,by simp,by simp,by simp⟩
   | succ k =>
    rw [List.count_cons_self] at h
    obtain ⟨s,h1,h2,h3⟩:=ih k (by omega)
    exact ⟨s + 1,by simp;omega,by simpa using h2,by simp [h3]⟩
  ·rw [List.count_cons_of_ne hx] at h
   obtain ⟨s,h1,h2,h3⟩:=ih k h
   exact ⟨s + 1,by simp;omega,by simpa using h2,by simp [List.count_cons_of_ne hx,h3]⟩
theorem covered (lens : List Nat) (n : Nat) (hn : n ≤ 15) (v : Nat) (hv : v < (first lens n + cnt lens n) * 2 ^ (15 - n)) :
  ∃ s,0 < len lens s ∧ len lens s ≤ n ∧ v / 2 ^ (15 - len lens s) = codeOf lens s:=by
 induction n with
 | zero => simp [first,cnt] at hv
 | succ n ih =>
  by_cases h : v < (first lens n + cnt lens n) * 2 ^ (15 - n)
  ·obtain ⟨s,h1,h2,h3⟩:=ih (by omega) h
   exact ⟨s,h1,by omega,h3⟩
  ·have e : 15 - n = (15 - (n + 1)) + 1:=by omega
   rw [e,Nat.pow_succ,Nat.mul_comm (2 ^ _) 2,← Nat.mul_assoc] at h
   have h1 : first lens (n + 1) * 2 ^ (15 - (n + 1)) ≤ v:=by rw [first_step,Nat.mul_comm 2];omega
   have h2 : first lens (n + 1) ≤ v / 2 ^ (15 - (n + 1)):=(Nat.le_div_iff_mul_le (Nat.two_pow_pos _)).2 h1
   have h3 : v / 2 ^ (15 - (n + 1)) < first lens (n + 1) + cnt lens (n + 1):=(Nat.div_lt_iff_lt_mul (Nat.two_pow_pos _)).2 hv
   have h4 : v / 2 ^ (15 - (n + 1)) - first lens (n + 1) < lens.count (n + 1):=by
    have : cnt lens (n + 1) = lens.count (n + 1):=by simp [cnt]
    omega
   obtain ⟨s,hs,hs1,hs2⟩:=nth_of_count lens (n + 1) _ h4
   have hl : len lens s = n + 1:=by simp [len,hs1]
   refine ⟨s,by omega,by omega,?_⟩
   unfold codeOf rank
   rw [hl,hs2]
   omega
theorem full_covered {lens : List Nat} (h : Full lens) (v : Nat) (hv : v < 2 ^ 15) : ∃ s,0 < len lens s ∧ v / 2 ^ (15 - len lens s) = codeOf lens s:=by
 have h2:=h.2
 have : first lens 16 = 2 * (first lens 15 + cnt lens 15):=rfl
 obtain ⟨s,h1,_,h3⟩:=covered lens 15 (by omega) v (by simp;omega)
 exact ⟨s,h1,h3⟩
def Hits (lens : List Nat) (x s : Nat) : Prop:=0 < len lens s ∧ x % 2 ^ len lens s = val (codeBits lens s)
theorem lsb_take (x : Nat) (n m : Nat) (h : n ≤ m) : (lsb x m).take n = lsb x n:=by
 refine val_inj (by simp;omega) ?_
 rw [val_take,val_lsb,val_lsb]
 exact Nat.mod_mod_of_dvd _ (Nat.pow_dvd_pow 2 h)
theorem lsb_of_mod {x n : Nat} {l : List Bool} (hl : l.length = n) (h : x % 2 ^ n = val l) : lsb x n = l :=
 val_inj (by simp [hl]) (by rw [val_lsb,h])
theorem hits_unique {lens : List Nat} (hg : Good lens) {x s t : Nat} (hs : Hits lens x s) (ht : Hits lens x t) : s = t:=by
 have key : ∀ a b,Hits lens x a → Hits lens x b → len lens a ≤ len lens b → a = b:=by
  intro a b ha hb hab
  have h1 : lsb x (len lens a) = codeBits lens a:=lsb_of_mod (by simp) ha.2
  have h2 : lsb x (len lens b) = codeBits lens b:=lsb_of_mod (by simp) hb.2
  have h3 : (codeBits lens b).take (len lens a) = codeBits lens a:=by rw [← h1,← h2,lsb_take _ _ _ hab]
  have e : len lens b = len lens a + (len lens b - len lens a):=by omega
  have h4 : codeBits lens b = msb (codeOf lens b / 2 ^ (len lens b - len lens a)) (len lens a) ++ msb (codeOf lens b) (len lens b - len lens a):=by
   unfold codeBits
   rw [← msb_append,← e]
  rw [h4,List.take_left' (by simp)] at h3
  have hlt : codeOf lens b / 2 ^ (len lens b - len lens a) < 2 ^ len lens a:=by
   rw [Nat.div_lt_iff_lt_mul (Nat.two_pow_pos _),← Nat.pow_add,← e]
   exact code_lt hg hb.1
  exact prefix_free ha.1 hb.1 hab (msb_inj hlt (code_lt hg ha.1) h3)
 rcases Nat.le_total (len lens s) (len lens t) with h | h
 ·exact key s t hs ht h
 ·exact (key t s ht hs h).symm
theorem hits_partial {lens : List Nat} (hg : Full lens) {s p : Nat} (hs : 0 < len lens s) (hp : p < len lens s) :
  ∃ t,Hits lens (val ((codeBits lens s).take p)) t ∧ p < len lens t ∧ len lens t ≤ len lens s:=by
 have h15:=len_le hg.1 s
 let c:=codeOf lens s / 2 ^ (len lens s - p)
 have hc : c < 2 ^ p:=by
  show codeOf lens s / 2 ^ (len lens s - p) < 2 ^ p
  rw [Nat.div_lt_iff_lt_mul (Nat.two_pow_pos _),← Nat.pow_add,show p + (len lens s - p) = len lens s by omega]
  exact code_lt_full hg hs
 have htake : (codeBits lens s).take p = msb c p:=by
  have e : len lens s = p + (len lens s - p):=by omega
  have h4 : codeBits lens s = msb c p ++ msb (codeOf lens s) (len lens s - p):=by
   unfold codeBits
   rw [← msb_append,← e]
  rw [h4,List.take_left' (by simp)]
 obtain ⟨t,ht,htc⟩:=full_covered hg (c * 2 ^ (15 - p)) (by
  have : 2 ^ 15 = 2 ^ p * 2 ^ (15 - p):=by rw [← Nat.pow_add,show p + (15 - p) = 15 by omega]
  rw [this]
  exact Nat.mul_lt_mul_of_pos_right hc (Nat.two_pow_pos _))
 have t15:=len_le hg.1 t
 have hgood : Good lens:=.inl hg
 have hlo : p < len lens t:=by
  rcases Nat.lt_or_ge p (len lens t) with h | h
  ·exact h
  ·exfalso
   have e1 : c * 2 ^ (15 - p) / 2 ^ (15 - len lens t) = codeOf lens s / 2 ^ (len lens s - len lens t):=by
    have : 15 - len lens t = (15 - p) + (p - len lens t):=by omega
    rw [this,Nat.pow_add,← Nat.div_div_eq_div_mul,Nat.mul_div_cancel _ (Nat.two_pow_pos _)]
    show codeOf lens s / 2 ^ (len lens s - p) / 2 ^ (p - len lens t) = _
    rw [Nat.div_div_eq_div_mul,← Nat.pow_add,show len lens s - p + (p - len lens t) = len lens s - len lens t by omega]
   rw [e1] at htc
   have:=prefix_free ht hs (by omega) htc
   subst this
   omega
 have hhi : len lens t ≤ len lens s:=by
  rcases Nat.lt_or_ge (len lens s) (len lens t) with h | h
  ·exfalso
   have ho:=code_order hs h
   have h1 : c * 2 ^ (15 - p) / 2 ^ (15 - len lens t) ≤ codeOf lens s * 2 ^ (len lens t - len lens s):=by
    have e : c * 2 ^ (15 - p) = c * 2 ^ (len lens t - p) * 2 ^ (15 - len lens t):=by
     rw [Nat.mul_assoc,← Nat.pow_add,show len lens t - p + (15 - len lens t) = 15 - p by omega]
    rw [e,Nat.mul_div_cancel _ (Nat.two_pow_pos _)]
    have e2 : len lens t - p = (len lens s - p) + (len lens t - len lens s):=by omega
    rw [e2,Nat.pow_add,← Nat.mul_assoc]
    exact Nat.mul_le_mul_right _ (Nat.div_mul_le_self _ _)
   have h2 : codeOf lens s * 2 ^ (len lens t - len lens s) < (codeOf lens s + 1) * 2 ^ (len lens t - len lens s) :=
    Nat.mul_lt_mul_of_pos_right (by omega) (Nat.two_pow_pos _)
   omega
  ·exact h
 refine ⟨t,⟨ht,?_⟩,hlo,hhi⟩
 have e : codeOf lens t = c * 2 ^ (len lens t - p):=by
  rw [← htc]
  have e : c * 2 ^ (15 - p) = c * 2 ^ (len lens t - p) * 2 ^ (15 - len lens t):=by
   rw [Nat.mul_assoc,← Nat.pow_add,show len lens t - p + (15 - len lens t) = 15 - p by omega]
  rw [e,Nat.mul_div_cancel _ (Nat.two_pow_pos _)]
 have e3 : codeBits lens t = msb c p ++ List.replicate (len lens t - p) false:=by
  unfold codeBits
  have e4 : len lens t = p + (len lens t - p):=by omega
  conv => lhs;rw [e4]
  rw [msb_append,e,Nat.mul_div_cancel _ (Nat.two_pow_pos _)]
  congr 1
  rw [← msb_mod,Nat.mul_mod_left]
  generalize len lens t - p = k
  induction k with
  | zero => rfl
  | succ k ih => rw [msb_succ,ih];simp [List.replicate_succ]
 rw [htake,e3,val_append_zeros,Nat.mod_eq_of_lt]
 have:=val_lt (msb c p)
 simp only [length_msb] at this
 exact Nat.lt_of_lt_of_le this (Nat.pow_le_pow_right (by omega) (by omega))
end Go.Proofs.YthpapbilhjobnaaGreatDoor.Pu
namespace Go.Proofs.YthpapbilhjobnaaGreatDoor
open Go.RowKit
structure Ext (M : Nat → Prop) (w w' : World) : Prop where
 os : w'.os = w.os
 tape : w'.tape = w.tape
 output : w'.output = w.output
 size : w.heap.size ≤ w'.heap.size
 block : ∀ k,k < w.heap.size → ¬ M k → w'.heap[k]? = w.heap[k]?
theorem Ext.refl (M : Nat → Prop) (w : World) : Ext M w w:=⟨rfl,rfl,rfl,Nat.le_refl _,fun _ _ _ => rfl⟩
theorem Ext.trans {M : Nat → Prop} {a b c : World} (h : Ext M a b) (k : Ext M b c) : Ext M a c :=
 ⟨k.os.trans h.os,k.tape.trans h.tape,k.output.trans h.output,Nat.le_trans h.size k.size,
  fun i hi hm => (k.block i (Nat.lt_of_lt_of_le hi h.size) hm).trans (h.block i hi hm)⟩
theorem Ext.trans' {M M' : Nat → Prop} {a b c : World} (h : Ext M a b) (k : Ext M' b c) (hm : ∀ i,i < a.heap.size → M' i → M i) : Ext M a c :=
 ⟨k.os.trans h.os,k.tape.trans h.tape,k.output.trans h.output,Nat.le_trans h.size k.size,
  fun i hi hn => (k.block i (Nat.lt_of_lt_of_le hi h.size) (fun hx => hn (hm i hi hx))).trans (h.block i hi hn)⟩
theorem Ext.mono {M M' : Nat → Prop} {a b : World} (h : Ext M a b) (hm : ∀ i,i < a.heap.size → M i → M' i) : Ext M' a b :=
 ⟨h.os,h.tape,h.output,h.size,fun i hi hn => h.block i hi (fun hx => hn (hm i hi hx))⟩
theorem Ext.drew {M : Nat → Prop} {a w : World} (h : Ext M a w) : Ext M a w.drew:=⟨h.os,h.tape,h.output,h.size,h.block⟩
theorem Ext.drewN {M : Nat → Prop} {a w : World} (h : Ext M a w) (n : Nat) : Ext M a (w.drewN n):=⟨h.os,h.tape,h.output,h.size,h.block⟩
theorem Ext.alloc {M : Nat → Prop} {a w : World} (h : Ext M a w) (o : Obj) : Ext M a (w.alloc o) :=
 h.trans ⟨rfl,rfl,rfl,by simp,fun k hk _ => Below.heap_alloc _ _ _ hk⟩
theorem Ext.setCell {M : Nat → Prop} {a w : World} (h : Ext M a w) {p : Addr} (hp : p.block < a.heap.size → M p.block) (u : Value) : Ext M a (w.setCell p u):=by
 refine h.trans' (M':=fun k => k = p.block) ⟨rfl,rfl,rfl,by simp [World.setCell],fun k hk hn => Below.heap_setCell _ _ _ _ hn⟩ ?_
 intro i hi e
 subst e
 exact hp hi
theorem Ext.grown {M : Nat → Prop} {a w w' : World} {row : Option Nat} (h : Ext M a w) (hg : w.grownBy w' row) (hr : ∀ k,row = some k → k < a.heap.size → M k) : Ext M a w' :=
 h.trans' (M':=fun k => row = some k) ⟨hg.os,hg.tape,hg.output,hg.size,fun k hk hn => hg.block k hk (fun e => hn e.symm)⟩ (fun i hi e => hr i e hi)
theorem Ext.cell {M : Nat → Prop} {w w' : World} (h : Ext M w w') {b o : Nat} (hb : b < w.heap.size) (hm : ¬ M b) : w'.cell? ⟨b,o,none⟩ = w.cell? ⟨b,o,none⟩ :=
 World.cell?_of_block (w:=w) (h.block b hb hm)
theorem Ext.frozen {M : Nat → Prop} {w w' : World} (h : Ext M w w') {b o : Nat} (hb : b < w.heap.size) (hm : ¬ M b) : w'.frozen? ⟨b,o,none⟩ = w.frozen? ⟨b,o,none⟩ :=
 World.frozen?_of_block (w:=w) (h.block b hb hm)
theorem Ext.cellSome {M : Nat → Prop} {w w' : World} (h : Ext M w w') {b o : Nat} {v : Value} (hm : ¬ M b) (hc : w.cell? ⟨b,o,none⟩ = some v) : w'.cell? ⟨b,o,none⟩ = some v:=by
 rw [h.cell (World.block_lt_of_cell? w _ hc) hm];exact hc
theorem Ext.below {w w' : World} (h : Ext (fun _ => False) w w') : Below w.heap.size w w' :=
 ⟨h.os,h.tape,h.output,h.size,fun k hk => h.block k hk (fun x => x)⟩
def Blk (w : World) (b : Nat) (c : Array Value) (t : TypeId) : Prop:=w.heap[b]? = some (.cells c t (0,0))
theorem Blk.cell {w : World} {b : Nat} {c : Array Value} {t : TypeId} (h : Blk w b c t) (i : Nat) : w.cell? ⟨b,i,none⟩ = c[i]?:=by
 simp [World.cell?,show w.heap[b]? = _ from h]
theorem Blk.free {w : World} {b : Nat} {c : Array Value} {t : TypeId} (h : Blk w b c t) (i : Nat) : w.frozen? ⟨b,i,none⟩ = false:=by
 simp [World.frozen?,show w.heap[b]? = _ from h]
theorem Blk.lt {w : World} {b : Nat} {c : Array Value} {t : TypeId} (h : Blk w b c t) : b < w.heap.size:=lt_of_block h
theorem Blk.ext {w w' : World} {b : Nat} {c : Array Value} {t : TypeId} {M : Nat → Prop} (h : Blk w b c t) (he : Ext M w w') (hm : ¬ M b) : Blk w' b c t:=by
 unfold Blk;rw [he.block b h.lt hm];exact h
theorem Blk.set {w : World} {b : Nat} {c : Array Value} {t : TypeId} (h : Blk w b c t) (i : Nat) (v : Value) : Blk (w.setCell ⟨b,i,none⟩ v) b (c.setIfInBounds i v) t:=by
 unfold Blk at *
 simp [World.setCell,Array.getElem?_modify,h]
theorem Blk.setOther {w : World} {b : Nat} {c : Array Value} {t : TypeId} (h : Blk w b c t) (a : Addr) (v : Value) (hne : b ≠ a.block) : Blk (w.setCell a v) b c t:=by
 unfold Blk at *
 rw [Below.heap_setCell _ _ _ _ hne];exact h
theorem Blk.new (w : World) (c : Array Value) (t : TypeId) : Blk (w.alloc (.cells c t)) w.heap.size c t:=by
 show (w.heap.push _)[w.heap.size]? = _
 simp
theorem Blk.alloc {w : World} {b : Nat} {c : Array Value} {t : TypeId} (h : Blk w b c t) (o : Obj) : Blk (w.alloc o) b c t:=by
 unfold Blk;rw [Below.heap_alloc _ _ _ h.lt];exact h
theorem Blk.drew {w : World} {b : Nat} {c : Array Value} {t : TypeId} (h : Blk w b c t) : Blk w.drew b c t:=h
theorem Blk.drewN {w : World} {b : Nat} {c : Array Value} {t : TypeId} (h : Blk w b c t) (n : Nat) : Blk (w.drewN n) b c t:=h
def U8 (b : UInt8) : Value:=.int .u8 b.toNat
def IV (n : Nat) : Value:=.int .i64 n
def Rd (w : World) (v : Value) (xs : List Value) : Prop :=
 ∃ cap,xs.length ≤ cap ∧ cap ≤ maxLen ∧
  ((v = .slice none 0 0 ∧ xs = []) ∨ ∃ b o,v = .slice (some ⟨b,o,none⟩) xs.length cap ∧ ∀ j x,xs[j]? = some x → w.cell? ⟨b,o + j,none⟩ = some x)
theorem Rd.nil (w : World) : Rd w (.slice none 0 0) []:=⟨0,by simp,by simp [maxLen],.inl ⟨rfl,rfl⟩⟩
theorem Rd.mono {w w' : World} {v : Value} {xs : List Value} (h : Rd w v xs)
  (hc : ∀ b o x,v.ownBlock = some b → w.cell? ⟨b,o,none⟩ = some x → w'.cell? ⟨b,o,none⟩ = some x) : Rd w' v xs:=by
 obtain ⟨cap,h1,h2,h3⟩:=h
 refine ⟨cap,h1,h2,?_⟩
 rcases h3 with h3 | ⟨b,o,rfl,h3⟩
 ·exact .inl h3
 ·exact .inr ⟨b,o,rfl,fun j x hx => hc b _ x rfl (h3 j x hx)⟩
theorem Rd.ext {w w' : World} {v : Value} {xs : List Value} {M : Nat → Prop} (h : Rd w v xs) (he : Ext M w w') (hm : ∀ b,v.ownBlock = some b → ¬ M b) : Rd w' v xs :=
 h.mono fun b _ _ hb hc => he.cellSome (hm b hb) hc
theorem Rd.len {w : World} {v : Value} {xs : List Value} (h : Rd w v xs) : ∃ a cap,v = .slice a xs.length cap:=by
 obtain ⟨cap,h1,h2,h3⟩:=h
 rcases h3 with ⟨rfl,rfl⟩ | ⟨b,o,rfl,h3⟩
 ·exact ⟨none,0,rfl⟩
 ·exact ⟨_,_,rfl⟩
theorem Rd.of_owns {w : World} {base : Nat} {e : TypeId} {v : Value} {n : Nat} {xs : List Value} (h : w.ownsRow base e 1 v n xs) : Rd w v xs:=by
 have h1 : xs.length = n:=by simpa using h.1
 subst h1
 rcases h.2 with ⟨rfl,h2⟩ | ⟨g,cap,cur,rfl,hb,hg,hn,hc,hs,ht⟩
 ·have : xs = []:=List.eq_nil_of_length_eq_zero h2
  subst this
  exact Rd.nil w
 ·refine ⟨cap,hn,hc,.inr ⟨g,0,rfl,fun j x hx => ?_⟩⟩
  have:=h.cells (g:=g) rfl j x hx
  by_cases hj : j = 0
  ·subst hj;simpa [Addr.add] using this
  ·simpa [Addr.add,hj] using this
theorem owns_ext {w w' : World} {base : Nat} {e size : Nat} {v : Value} {n : Nat} {xs : List Value} {M : Nat → Prop} (h : w.ownsRow base e size v n xs) (he : Ext M w w') (hm : ∀ b,v.ownBlock = some b → ¬ M b) :
  w'.ownsRow base e size v n xs:=by
 obtain ⟨h1,h2⟩:=h
 refine ⟨h1,?_⟩
 rcases h2 with h2 | ⟨g,cap,cur,rfl,hg,hh,r⟩
 ·exact .inl h2
 ·exact .inr ⟨g,cap,cur,rfl,hg,by rw [he.block g (lt_of_block hh) (hm g rfl)];exact hh,r⟩
theorem Tryz.info5 : (Tryz.prog.info? 5).map (fun i => (i.zero,i.size,i.bytes)) = some (some (.int .u8 0),1,1):=by kernel_rfl
theorem Tryz.info3 : (Tryz.prog.info? 3).map (fun i => (i.zero,i.size,i.bytes)) = some (some (.int .i64 0),1,8):=by kernel_rfl
end Go.Proofs.YthpapbilhjobnaaGreatDoor
namespace Go.Proofs.YthpapbilhjobnaaGreatDoor
open Go.RowKit Pu
theorem Ext.only {R o : Nat} {a w : World} (h : Ext (fun k => k = R) a w) (u : Value) : Ext (fun k => k = R) a (w.setCell ⟨R,o,none⟩ u):=h.setCell (p:=⟨R,o,none⟩) (fun _ => rfl) u
structure Sent (w : World) (g : Nat) (A : Addr) : Prop where
 cell : w.cell? ⟨g,0,none⟩ = some (.iface 175 (.pointer (some A)))
 row : ∃ c t,w.heap[A.block]? = some (.cells c t (0,0))
theorem Sent.ext {w w' : World} {g : Nat} {A : Addr} {M : Nat → Prop} (h : Sent w g A) (he : Ext M w w') (h1 : ¬ M g) (h2 : ¬ M A.block) : Sent w' g A:=by
 obtain ⟨h0,c,t,hr⟩:=h
 exact ⟨he.cellSome h1 h0,c,t,by rw [he.block _ (lt_of_block hr) h2];exact hr⟩
structure Src (w : World) (R sb so cap : Nat) (src : List UInt8) (p : Nat) : Prop where
 blk : Blk w R #[.slice (some ⟨sb,so,none⟩) src.length cap,.int .i64 p,.int .i64 (-1)] 80
 cells : ∀ j x,(src.map U8)[j]? = some x → w.cell? ⟨sb,so + j,none⟩ = some x
 le : p ≤ src.length
 small : src.length ≤ 1099511627776
 ne : sb ≠ R
theorem Src.ext {w w' : World} {R sb so cap : Nat} {src : List UInt8} {p : Nat} {M : Nat → Prop} (h : Src w R sb so cap src p) (he : Ext M w w') (h1 : ¬ M R) (h2 : ¬ M sb) : Src w' R sb so cap src p :=
 ⟨h.blk.ext he h1,fun j x hx => he.cellSome h2 (h.cells j x hx),h.le,h.small,h.ne⟩
theorem Src.drewN {w : World} {R sb so cap : Nat} {src : List UInt8} {p : Nat} (h : Src w R sb so cap src p) (n : Nat) : Src (w.drewN n) R sb so cap src p:=⟨h.blk,h.cells,h.le,h.small,h.ne⟩
theorem Src.at_ {w : World} {R sb so cap : Nat} {src : List UInt8} {p : Nat} (h : Src w R sb so cap src p) (hp : p < src.length) : w.cell? ⟨sb,so + p,none⟩ = some (.int .u8 (src[p].toNat : Int)) :=
 h.cells p (U8 src[p]) (by simp [hp])
theorem Src.next {w w' : World} {R sb so cap : Nat} {src : List UInt8} {p q : Nat} (h : Src w R sb so cap src p) (he : Ext (fun k => k = R) w w') (hb : Blk w' R #[.slice (some ⟨sb,so,none⟩) src.length cap,.int .i64 q,.int .i64 (-1)] 80) (hq : q ≤ src.length) :
  Src w' R sb so cap src q:=⟨hb,fun j x hx => he.cellSome (fun e => h.ne e) (h.cells j x hx),hq,h.small,h.ne⟩
set_option maxHeartbeats 1000000 in
theorem readByte_some (R sb so cap p : Nat) (src : List UInt8) (w : World) (h : Src w R sb so cap src p) (hp : p < src.length) :
  Calls Tryz.prog 103 #[.pointer (some ⟨R,0,none⟩)] w fun e w' => e = .returned (.tuple #[.int .u8 (src[p].toNat : Int),.nilIface]) ∧ Src w' R sb so cap src (p + 1) ∧ Ext (fun k => k = R) w w':=by
 have HS:=Lib.hid h
 have hc:=h.at_ hp
 have hne:=h.ne
 have hc0 : w.cell? ⟨R,0,none⟩ = some (.slice (some ⟨sb,so,none⟩) src.length cap):=by rw [h.blk.cell];rfl
 have hc1 : w.cell? ⟨R,1,none⟩ = some (.int .i64 p):=by rw [h.blk.cell];rfl
 have hc2 : w.cell? ⟨R,2,none⟩ = some (.int .i64 (-1)):=by rw [h.blk.cell];rfl
 have hf:=h.blk.free
 have hsm:=h.small
 obtain ⟨n,hn⟩ : ∃ n,src.length = n:=⟨_,rfl⟩
 obtain ⟨x,hx⟩ : ∃ x,src[p].toNat = x:=⟨_,rfl⟩
 rw [hn] at hc0 hp hsm
 rw [hx] at hc ⊢
 have HN:=Lib.hid hn
 clear h hn hx
 have hb1 : decide ((n : Int) ≤ (p : Int)) = false:=by simp;omega
 have hne' : R ≠ sb:=Ne.symm hne
 go_enter Tryz.func103,Tryz.ntmps103
 go_wp2
 go_quiet (fail)
 obtain ⟨na,rfl⟩ : ∃ n : Nat,n = nq:=⟨_,rfl⟩
 go_wp2
 go_quiet (fail)
 go_wp2
 go_ret2
 have hS:=HS.out
 have hB : Blk (((w.setCell ⟨R,2,none⟩ (.int .i64 (-1))).drewN (na + nq)).setCell ⟨R,1,none⟩ (.int .i64 ((p : Int) + 1))) R #[.slice (some ⟨sb,so,none⟩) src.length cap,.int .i64 ((p + 1 : Nat) : Int),.int .i64 (-1)] 80:=by
  simpa using ((hS.blk.set 2 (.int .i64 (-1))).drewN (na + nq)).set 1 (.int .i64 ((p : Int) + 1))
 have hE : Ext (fun k => k = R) w (((w.setCell ⟨R,2,none⟩ (.int .i64 (-1))).drewN (na + nq)).setCell ⟨R,1,none⟩ (.int .i64 ((p : Int) + 1))) :=
  (((Ext.refl _ w).only _).drewN _).only _
 exact ⟨rfl,hS.next hE hB (by have:=HN.out;omega),hE⟩
theorem readByte_end (R sb so cap : Nat) (src : List UInt8) (A : Addr) (w : World) (h : Src w R sb so cap src src.length) (hE : Sent w 0 A) (h0 : R ≠ 0) :
  Calls Tryz.prog 103 #[.pointer (some ⟨R,0,none⟩)] w fun e w' => e = .returned (.tuple #[.int .u8 0,.iface 175 (.pointer (some A))]) ∧ Src w' R sb so cap src src.length ∧ Ext (fun k => k = R) w w':=by
 have HS:=Lib.hid h
 have hc0 : w.cell? ⟨R,0,none⟩ = some (.slice (some ⟨sb,so,none⟩) src.length cap):=by rw [h.blk.cell];rfl
 have hc1 : w.cell? ⟨R,1,none⟩ = some (.int .i64 src.length):=by rw [h.blk.cell];rfl
 have hc2 : w.cell? ⟨R,2,none⟩ = some (.int .i64 (-1)):=by rw [h.blk.cell];rfl
 have hf:=h.blk.free
 have hsm:=h.small
 have hce:=hE.cell
 obtain ⟨n,hn⟩ : ∃ n,src.length = n:=⟨_,rfl⟩
 rw [hn] at hc0 hc1 hsm
 have HN:=Lib.hid hn
 clear h hn hE
 have h0' : (0 : Nat) ≠ R:=Ne.symm h0
 go_enter Tryz.func103,Tryz.ntmps103
 go_wp2
 go_quiet (fail)
 obtain ⟨na,rfl⟩ : ∃ n : Nat,n = nq:=⟨_,rfl⟩
 go_wp2
 go_quiet (fail)
 go_wp2
 go_ret2
 have hS:=HS.out
 have hE : Ext (fun k => k = R) w (((w.setCell ⟨R,2,none⟩ (.int .i64 (-1))).drewN na).drewN nq):=(((Ext.refl _ w).only _).drewN _).drewN _
 refine ⟨rfl,hS.next hE ?_ (Nat.le_refl _),hE⟩
 simpa using ((hS.blk.set 2 (.int .i64 (-1))).drewN na).drewN nq
end Go.Proofs.YthpapbilhjobnaaGreatDoor
namespace Go.Proofs.YthpapbilhjobnaaGreatDoor.Pu
def lextra (s : Nat) : Nat:=if s - 257 < 8 then 0 else if s - 257 = 28 then 0 else (s - 257) / 4 - 1
def lbase (s : Nat) : Nat:=if s - 257 < 8 then 3 + (s - 257) else if s - 257 = 28 then 258 else 3 + (4 + (s - 257) % 4) * 2 ^ ((s - 257) / 4 - 1)
def dextra (s : Nat) : Nat:=if s < 4 then 0 else s / 2 - 1
def dbase (s : Nat) : Nat:=if s < 4 then 1 + s else 1 + (2 + s % 2) * 2 ^ (s / 2 - 1)
def lsearch (long : Nat) : Nat → Nat
 | 0 => 257
 | k + 1 => if lbase (257 + (k + 1)) ≤ long then 257 + (k + 1) else lsearch long k
def lsym (long : Nat) : Nat:=if long = 258 then 285 else lsearch long 27
def dsearch (far : Nat) : Nat → Nat
 | 0 => 0
 | k + 1 => if dbase (k + 1) ≤ far then k + 1 else dsearch far k
def dsym (far : Nat) : Nat:=dsearch far 29
theorem lbase_succ (k : Nat) (h : k < 27) : lbase (257 + (k + 1)) = lbase (257 + k) + 2 ^ lextra (257 + k):=by
 revert k;decide
theorem dbase_succ (k : Nat) (h : k < 29) : dbase (k + 1) = dbase k + 2 ^ dextra k:=by
 revert k;decide
theorem lsearch_ok (long k : Nat) (h0 : 3 ≤ long) (hk : k ≤ 27) (h1 : long < lbase (257 + k) + 2 ^ lextra (257 + k)) :
  257 ≤ lsearch long k ∧ lsearch long k ≤ 257 + k ∧ lbase (lsearch long k) ≤ long ∧ long < lbase (lsearch long k) + 2 ^ lextra (lsearch long k):=by
 induction k with
 | zero => exact ⟨by simp [lsearch],by simp [lsearch],by simpa [lsearch,lbase] using h0,h1⟩
 | succ k ih =>
  simp only [lsearch]
  split
  ·rename_i h;exact ⟨by omega,by omega,h,h1⟩
  ·rename_i h
   have:=lbase_succ k (by omega)
   obtain ⟨a,b,c,d⟩:=ih (by omega) (by omega)
   exact ⟨a,by omega,c,d⟩
theorem dsearch_ok (far k : Nat) (h0 : 1 ≤ far) (hk : k ≤ 29) (h1 : far < dbase k + 2 ^ dextra k) :
  dsearch far k ≤ k ∧ dbase (dsearch far k) ≤ far ∧ far < dbase (dsearch far k) + 2 ^ dextra (dsearch far k):=by
 induction k with
 | zero => exact ⟨by simp [dsearch],by simpa [dsearch,dbase] using h0,h1⟩
 | succ k ih =>
  simp only [dsearch]
  split
  ·rename_i h;exact ⟨by omega,h,h1⟩
  ·rename_i h
   have:=dbase_succ k (by omega)
   obtain ⟨b,c,d⟩:=ih (by omega) (by omega)
   exact ⟨by omega,c,d⟩
theorem lsym_ok (long : Nat) (h0 : 3 ≤ long) (h1 : long ≤ 258) : 257 ≤ lsym long ∧ lsym long ≤ 285 ∧ lbase (lsym long) ≤ long ∧ long - lbase (lsym long) < 2 ^ lextra (lsym long):=by
 unfold lsym
 split
 ·rename_i h;subst h;decide
 ·obtain ⟨a,b,c,d⟩:=lsearch_ok long 27 h0 (by omega) (by rw [show lbase (257 + 27) + 2 ^ lextra (257 + 27) = 259 by decide];omega)
  exact ⟨a,by omega,c,by omega⟩
theorem dsym_ok (far : Nat) (h0 : 1 ≤ far) (h1 : far ≤ 32768) : dsym far ≤ 29 ∧ dbase (dsym far) ≤ far ∧ far - dbase (dsym far) < 2 ^ dextra (dsym far):=by
 obtain ⟨b,c,d⟩:=dsearch_ok far 29 h0 (by omega) (by rw [show dbase 29 + 2 ^ dextra 29 = 32769 by decide];omega)
 exact ⟨b,c,by unfold dsym;omega⟩
theorem lextra_le (s : Nat) (h : s ≤ 285) : lextra s ≤ 5:=by unfold lextra;split <;> (try split) <;> omega
theorem dextra_le (s : Nat) (h : s ≤ 29) : dextra s ≤ 13:=by unfold dextra;split <;> omega
theorem lbase_le (s : Nat) (h : s ≤ 285) : lbase s ≤ 258:=by
 rcases Nat.lt_or_ge s 257 with h1 | h1
 ·have : s - 257 = 0:=by omega
  simp [lbase,this]
 ·obtain ⟨k,rfl⟩ : ∃ k,s = 257 + k:=⟨s - 257,by omega⟩
  have hk : k < 29:=by omega
  revert hk;clear h h1;revert k;decide
theorem dbase_le (s : Nat) (h : s ≤ 29) : dbase s ≤ 32768:=by revert s;decide
end Go.Proofs.YthpapbilhjobnaaGreatDoor.Pu
namespace Go.Proofs.YthpapbilhjobnaaGreatDoor.Pu
structure Tok where
 lit : Nat
 far : Nat
 long : Nat
def Tok.step (t : Tok) : Nat:=if t.far = 0 then 1 else t.long
def Tok.fits (all : List UInt8) (i : Nat) (t : Tok) : Prop :=
 (t.far = 0 ∧ ∃ c : UInt8,all[i]? = some c ∧ t.lit = c.toNat) ∨
 (1 ≤ t.far ∧ t.far ≤ i ∧ t.far ≤ 32768 ∧ 3 ≤ t.long ∧ t.long ≤ 258 ∧ i + t.long ≤ all.length ∧ ∀ k,k < t.long → all[i + k]? = all[i + k - t.far]?)
def toksFit (all : List UInt8) : Nat → List Tok → Nat → Prop
 | i,[],j => i = j
 | i,t::l,j => t.fits all i ∧ toksFit all (i + t.step) l j
theorem toksFit_snoc {all : List UInt8} {l : List Tok} {t : Tok} {i j : Nat} (h : toksFit all i l j) (ht : t.fits all j) : toksFit all i (l ++ [t]) (j + t.step):=by
 induction l generalizing i with
 | nil =>
  have h' : i = j:=h
  subst h'
  exact ⟨ht,rfl⟩
 | cons x l ih => exact ⟨h.1,ih h.2⟩
theorem Tok.fits_le {all : List UInt8} {i : Nat} {t : Tok} (h : t.fits all i) : i + t.step ≤ all.length ∧ 1 ≤ t.step:=by
 rcases h with ⟨h1,c,h2,_⟩ | ⟨h1,h2,h3,h4,h5,h6,_⟩
 ·simp only [Tok.step,h1,if_true]
  have : i < all.length:=by
   rcases Nat.lt_or_ge i all.length with h | h
   ·exact h
   ·simp [List.getElem?_eq_none h] at h2
  omega
 ·have : ¬ t.far = 0:=by omega
  simp only [Tok.step,this,if_false]
  omega
theorem toksFit_le {all : List UInt8} {l : List Tok} {i j : Nat} (h : toksFit all i l j) : i + l.length ≤ j:=by
 induction l generalizing i with
 | nil => have h' : i = j:=h;simp [h']
 | cons x l ih =>
  have h1:=ih h.2
  have h2:=Tok.fits_le h.1
  simp only [List.length_cons]
  omega
theorem Tok.fits_take {all : List UInt8} {n i : Nat} {t : Tok} (h : t.fits (all.take n) i) : t.fits all i:=by
 rcases h with ⟨h1,c,h2,h3⟩ | ⟨h1,h2,h3,h4,h5,h6,h7⟩
 ·refine .inl ⟨h1,c,?_,h3⟩
  rw [List.getElem?_take] at h2
  split at h2
  ·exact h2
  ·simp at h2
 ·have hl : (all.take n).length ≤ all.length:=by simp;omega
  have hn : (all.take n).length ≤ n:=by simp;omega
  refine .inr ⟨h1,h2,h3,h4,h5,by omega,fun k hk => ?_⟩
  have:=h7 k hk
  rw [List.getElem?_take,List.getElem?_take,if_pos (by omega),if_pos (by omega)] at this
  exact this
theorem toksFit_take {all : List UInt8} {n : Nat} {l : List Tok} {i j : Nat} (h : toksFit (all.take n) i l j) : toksFit all i l j:=by
 induction l generalizing i with
 | nil => exact h
 | cons x l ih => exact ⟨Tok.fits_take h.1,ih h.2⟩
def tokBits (lit dist : List Nat) (t : Tok) : List Bool :=
 if t.far = 0 then codeBits lit t.lit
 else codeBits lit (lsym t.long) ++ lsb (t.long - lbase (lsym t.long)) (lextra (lsym t.long)) ++ codeBits dist (dsym t.far) ++ lsb (t.far - dbase (dsym t.far)) (dextra (dsym t.far))
def toksBits (lit dist : List Nat) : List Tok → List Bool
 | [] => []
 | t::l => tokBits lit dist t ++ toksBits lit dist l
theorem toksBits_append (lit dist : List Nat) (a b : List Tok) : toksBits lit dist (a ++ b) = toksBits lit dist a ++ toksBits lit dist b:=by
 induction a with
 | nil => rfl
 | cons x a ih => simp [toksBits,ih]
def Tok.coded (lit dist : List Nat) (t : Tok) : Prop :=
 (t.far = 0 → 0 < len lit t.lit) ∧ (t.far ≠ 0 → 0 < len lit (lsym t.long) ∧ 0 < len dist (dsym t.far))
end Go.Proofs.YthpapbilhjobnaaGreatDoor.Pu
namespace Go.Proofs.YthpapbilhjobnaaGreatDoor.Pu
structure Run where
 sym : Nat
 more : Nat
 extra : Nat
def Run.step (r : Run) : Nat:=if r.sym < 16 then 1 else if r.sym = 18 then 11 + r.more else 3 + r.more
def Run.fits (l : List Nat) (i : Nat) (r : Run) : Prop :=
 (r.sym ≤ 15 ∧ r.more = 0 ∧ r.extra = 0 ∧ l[i]? = some r.sym) ∨
 (r.sym = 16 ∧ r.more < 4 ∧ r.extra = 2 ∧ 1 ≤ i ∧ i + 3 + r.more ≤ l.length ∧ ∀ k,k < 3 + r.more → l[i + k]? = l[i - 1]?) ∨
 (r.sym = 17 ∧ r.more < 8 ∧ r.extra = 3 ∧ i + 3 + r.more ≤ l.length ∧ ∀ k,k < 3 + r.more → l[i + k]? = some 0) ∨
 (r.sym = 18 ∧ r.more < 128 ∧ r.extra = 7 ∧ i + 11 + r.more ≤ l.length ∧ ∀ k,k < 11 + r.more → l[i + k]? = some 0)
def runsFit (l : List Nat) : Nat → List Run → Nat → Prop
 | i,[],j => i = j
 | i,r::t,j => r.fits l i ∧ runsFit l (i + r.step) t j
theorem runsFit_snoc {l : List Nat} {rs : List Run} {r : Run} {i j : Nat} (h : runsFit l i rs j) (hr : r.fits l j) : runsFit l i (rs ++ [r]) (j + r.step):=by
 induction rs generalizing i with
 | nil =>
  have h' : i = j:=h
  subst h'
  exact ⟨hr,rfl⟩
 | cons x rs ih => exact ⟨h.1,ih h.2⟩
theorem Run.fits_le {l : List Nat} {i : Nat} {r : Run} (h : r.fits l i) : i + r.step ≤ l.length ∧ 1 ≤ r.step ∧ r.sym ≤ 18 ∧ r.extra ≤ 7 ∧ r.more < 2 ^ r.extra:=by
 unfold Run.step
 rcases h with ⟨h1,h2,h3,h4⟩ | ⟨h1,h2,h3,h4,h5,_⟩ | ⟨h1,h2,h3,h4,_⟩ | ⟨h1,h2,h3,h4,_⟩
 ·have : i < l.length:=by
   rcases Nat.lt_or_ge i l.length with h | h
   ·exact h
   ·simp [List.getElem?_eq_none h] at h4
  rw [if_pos (by omega),h2,h3]
  refine ⟨by omega,by omega,by omega,by omega,by decide⟩
 all_goals
  rw [h1,h3]
  refine ⟨?_,?_,by omega,by omega,by omega⟩ <;> simp <;> omega
theorem runsFit_le {l : List Nat} {rs : List Run} {i j : Nat} (h : runsFit l i rs j) : i + rs.length ≤ j:=by
 induction rs generalizing i with
 | nil =>
  have h' : i = j:=h
  simp;omega
 | cons x rs ih =>
  have h1:=Run.fits_le h.1
  have h2:=ih h.2
  simp only [List.length_cons]
  omega
theorem runsFit_mem {l : List Nat} {rs : List Run} {i j : Nat} (h : runsFit l i rs j) : ∀ r ∈ rs,∃ k,r.fits l k:=by
 induction rs generalizing i with
 | nil => simp
 | cons x rs ih =>
  intro r hr
  rcases List.mem_cons.1 hr with rfl | hr
  ·exact ⟨i,h.1⟩
  ·exact ih h.2 r hr
def runBits (lens : List Nat) (r : Run) : List Bool:=codeBits lens r.sym ++ lsb r.more r.extra
def runsBits (lens : List Nat) : List Run → List Bool
 | [] => []
 | r::l => runBits lens r ++ runsBits lens l
theorem runsBits_append (lens : List Nat) (a b : List Run) : runsBits lens (a ++ b) = runsBits lens a ++ runsBits lens b:=by
 induction a with
 | nil => rfl
 | cons x a ih => simp [runsBits,ih]
end Go.Proofs.YthpapbilhjobnaaGreatDoor.Pu
namespace Go.Proofs.YthpapbilhjobnaaGreatDoor.Pu
def wt (x : Nat) : Nat:=if x = 0 then 0 else 2 ^ (16 - x)
def kraft (l : List Nat) : Nat:=(l.map wt).sum
def part (n x : Nat) : Nat:=if x = 0 then 0 else if x < n then 2 ^ (n - x) else 0
theorem part_step (l : List Nat) (n : Nat) : (l.map (part (n + 1))).sum = 2 * ((l.map (part n)).sum + cnt l n):=by
 induction l with
 | nil => simp [cnt]
 | cons x l ih =>
  simp only [List.map_cons,List.sum_cons,ih]
  have hc : cnt (x::l) n = cnt l n + if n = 0 then 0 else if x = n then 1 else 0:=by
   unfold cnt
   by_cases hn : n = 0
   ·simp [hn]
   ·simp only [hn,if_false,List.count_cons,beq_iff_eq]
  rw [hc]
  have hx : part (n + 1) x = 2 * (part n x + if n = 0 then 0 else if x = n then 1 else 0):=by
   unfold part
   by_cases h0 : x = 0
   ·subst h0
    by_cases hn : n = 0
    ·simp [hn]
    ·simp [hn,show ¬ 0 = n by omega]
   ·simp only [h0,if_false]
    rcases Nat.lt_trichotomy x n with h | h | h
    ·have e : n + 1 - x = (n - x) + 1:=by omega
     rw [if_pos (by omega),if_pos h,if_neg (by omega),if_neg (by omega),e,Nat.pow_succ];omega
    ·subst h
     rw [if_pos (by omega),if_neg (by omega),if_neg h0,if_pos rfl]
     simp
    ·rw [if_neg (by omega),if_neg (by omega)]
     by_cases hn : n = 0
     ·simp [hn]
     ·rw [if_neg hn,if_neg (by omega)]
  rw [hx];omega
theorem first_part (l : List Nat) (n : Nat) : first l n = (l.map (part n)).sum:=by
 induction n with
 | zero =>
  have : (fun x => part 0 x) = fun _ => 0:=by funext x;simp [part]
  have h : part 0 = fun _ => 0:=this
  rw [h]
  induction l with
  | nil => rfl
  | cons x l ih => simpa [first] using ih
 | succ n ih => rw [part_step,← ih];rfl
theorem first_kraft {l : List Nat} (h : ∀ x ∈ l,x ≤ 15) : first l 16 = kraft l:=by
 rw [first_part]
 unfold kraft
 congr 1
 refine List.map_congr_left fun x hx => ?_
 have:=h x hx
 unfold part wt
 split
 ·rfl
 ·rw [if_pos (by omega)]
theorem kraft_set (l : List Nat) (s x : Nat) (h : l[s]? = some 0) : kraft (l.set s x) = kraft l + wt x:=by
 induction l generalizing s with
 | nil => simp at h
 | cons y l ih =>
  cases s with
  | zero =>
   simp at h
   subst h
   simp [kraft,wt];omega
  | succ s =>
   have:=ih s (by simpa using h)
   simp only [kraft,List.set_cons_succ,List.map_cons,List.sum_cons] at this ⊢
   omega
theorem kraft_zeros (n : Nat) : kraft (List.replicate n 0) = 0:=by
 induction n with
 | zero => rfl
 | succ n ih => simp only [List.replicate_succ,kraft,List.map_cons,List.sum_cons] at ih ⊢;simp [wt,ih]
theorem len_set (l : List Nat) (s x t : Nat) (h : s < l.length) : len (l.set s x) t = if t = s then x else len l t:=by
 unfold len
 rw [List.getElem?_set]
 by_cases e : s = t
 ·subst e;simp [h]
 ·rw [if_neg e,if_neg (fun h => e h.symm)]
theorem get_of_len {l : List Nat} {s : Nat} (h : s < l.length) (h0 : len l s = 0) : l[s]? = some 0:=by
 unfold len at h0
 rw [List.getElem?_eq_getElem h] at h0 ⊢
 simpa using h0
structure Skew (us : List Bool) (l o : List Nat) (long : Nat) : Prop where
 size : o.length = us.length
 nodup : l.Nodup
 zero : ∀ s ∈ l,s < us.length ∧ len o s = 0
 used : ∀ s,us[s]? = some true ↔ s ∈ l ∨ len o s ≠ 0
 sum : kraft o + 2 ^ (16 - long) = 65536
 le : ∀ x ∈ o,x ≤ long
 small : long ≤ 4
 ne : 0 < long → l ≠ []
theorem mem_set_le {l : List Nat} {s x b : Nat} (h : ∀ y ∈ l,y ≤ b) (hx : x ≤ b) : ∀ y ∈ l.set s x,y ≤ b:=by
 intro y hy
 rcases List.mem_or_eq_of_mem_set hy with h1 | h1
 ·exact h y h1
 ·omega
theorem nodup_eraseIdx_mem {l : List Nat} (h : l.Nodup) (k : Nat) (hk : k < l.length) (s : Nat) : s ∈ l ↔ s = l[k] ∨ s ∈ l.eraseIdx k:=by
 induction l generalizing k with
 | nil => simp at hk
 | cons x l ih =>
  cases k with
  | zero => simp
  | succ k =>
   have:=ih (List.nodup_cons.1 h).2 k (by simpa using hk)
   simp only [List.mem_cons,List.getElem_cons_succ,List.eraseIdx_cons_succ,this]
   constructor
   ·rintro (h | h | h)
    ·exact .inr (.inl h)
    ·exact .inl h
    ·exact .inr (.inr h)
   ·rintro (h | h | h)
    ·exact .inr (.inl h)
    ·exact .inl h
    ·exact .inr (.inr h)
theorem nodup_eraseIdx_ne {l : List Nat} (h : l.Nodup) (k : Nat) (hk : k < l.length) : l[k] ∉ l.eraseIdx k:=by
 induction l generalizing k with
 | nil => simp at hk
 | cons x l ih =>
  have h2:=List.nodup_cons.1 h
  cases k with
  | zero => simpa using h2.1
  | succ k =>
   have:=ih h2.2 k (by simpa using hk)
   simp only [List.getElem_cons_succ,List.eraseIdx_cons_succ,List.mem_cons,not_or]
   refine ⟨fun e => h2.1 ?_,this⟩
   rw [← e]
   exact List.getElem_mem _
theorem Skew.step {us : List Bool} {l o : List Nat} {long : Nat} (h : Skew us l o long) (k : Nat) (hk : k < l.length) (h2 : 1 < l.length) (h4 : long < 4) :
  Skew us (l.eraseIdx k) (o.set l[k] (long + 1)) (long + 1):=by
 have hz:=h.zero l[k] (List.getElem_mem hk)
 have hlt : l[k] < o.length:=by rw [h.size];exact hz.1
 refine ⟨by simp [h.size],h.nodup.sublist (List.eraseIdx_sublist _ _),fun s hs => ?_,fun s => ?_,?_,?_,h4,fun _ => ?_⟩
 ·have h1:=(nodup_eraseIdx_mem h.nodup k hk s).2 (.inr hs)
  refine ⟨(h.zero s h1).1,?_⟩
  rw [len_set _ _ _ _ hlt,if_neg (by intro e;rw [e] at hs;exact nodup_eraseIdx_ne h.nodup k hk hs)]
  exact (h.zero s h1).2
 ·rw [h.used s,nodup_eraseIdx_mem h.nodup k hk s,len_set _ _ _ _ hlt]
  by_cases e : s = l[k]
  ·simp [e]
  ·simp [e]
 ·rw [kraft_set _ _ _ (get_of_len hlt hz.2)]
  have hs:=h.sum
  have e : 16 - long = (16 - (long + 1)) + 1:=by omega
  rw [e,Nat.pow_succ] at hs
  unfold wt
  rw [if_neg (by omega)]
  omega
 ·exact mem_set_le (fun y hy => by have:=h.le y hy;omega) (Nat.le_refl _)
 ·intro e
  have:=congrArg List.length e
  rw [List.length_eraseIdx_of_lt hk] at this
  simp at this
  omega
structure Flat (us : List Bool) (l : List Nat) (o0 : List Nat) (long deep short i : Nat) (o : List Nat) : Prop where
 size : o.length = us.length
 zero : ∀ s ∈ l.drop i,s < us.length ∧ len o s = 0
 used : ∀ s,us[s]? = some true ↔ s ∈ l.drop i ∨ len o s ≠ 0
 sum : kraft o + 2 ^ (16 - long) = 65536 + (i + min i short) * 2 ^ (16 - (long + deep))
 le : ∀ x ∈ o,x ≤ long + deep
theorem Skew.flat {us : List Bool} {l o : List Nat} {long : Nat} (h : Skew us l o long) (deep short : Nat) : Flat us l o long deep short 0 o :=
 ⟨h.size,by simpa using h.zero,by simpa using h.used,by simpa using h.sum,fun x hx => by have:=h.le x hx;omega⟩
theorem Flat.step {us : List Bool} {l o0 o : List Nat} {long deep short i : Nat} (h : Flat us l o0 long deep short i o) (hn : l.Nodup) (hi : i < l.length)
  (hb : long + deep ≤ 15) (h1 : 0 < long + deep) (h2 : 0 < short → 1 < long + deep) :
  Flat us l o0 long deep short (i + 1) (o.set l[i] (if i < short then long + deep - 1 else long + deep)):=by
 have hd : l.drop i = l[i]::l.drop (i + 1):=List.drop_eq_getElem_cons hi
 have hz:=h.zero l[i] (by rw [hd];exact List.mem_cons_self)
 have hlt : l[i] < o.length:=by rw [h.size];exact hz.1
 have hne : l[i] ∉ l.drop (i + 1):=by
  have:=hn.sublist (List.drop_sublist i l)
  rw [hd] at this
  exact (List.nodup_cons.1 this).1
 refine ⟨by simp [h.size],fun s hs => ?_,fun s => ?_,?_,?_⟩
 ·have hm:=h.zero s (by rw [hd];exact List.mem_cons_of_mem _ hs)
  refine ⟨hm.1,?_⟩
  rw [len_set _ _ _ _ hlt,if_neg (by intro e;rw [e] at hs;exact hne hs)]
  exact hm.2
 ·rw [h.used s,hd,len_set _ _ _ _ hlt,List.mem_cons]
  by_cases e : s = l[i]
  ·rw [if_pos e]
   constructor
   ·intro _
    right
    split
    ·have:=h2 (by omega);omega
    ·omega
   ·intro _
    exact .inl (.inl e)
  ·rw [if_neg e]
   constructor
   ·rintro ((h | h) | h)
    ·exact absurd h e
    ·exact .inl h
    ·exact .inr h
   ·rintro (h | h)
    ·exact .inl (.inr h)
    ·exact .inr h
 ·rw [kraft_set _ _ _ (get_of_len hlt hz.2)]
  have hs:=h.sum
  unfold wt
  by_cases hsh : i < short
  ·have:=h2 (by omega)
   rw [if_pos hsh,if_neg (by omega)]
   have e : 16 - (long + deep - 1) = (16 - (long + deep)) + 1:=by omega
   rw [e,Nat.pow_succ]
   have e2 : i + min i short = i + i:=by omega
   have e3 : i + 1 + min (i + 1) short = i + i + 2:=by omega
   rw [e2] at hs
   rw [e3,Nat.add_mul]
   omega
  ·rw [if_neg hsh,if_neg (by omega)]
   have e2 : i + min i short = i + short:=by omega
   have e3 : i + 1 + min (i + 1) short = i + short + 1:=by omega
   rw [e2] at hs
   rw [e3,Nat.add_mul]
   omega
 ·refine mem_set_le h.le ?_
  split <;> omega
structure TreePost (us : List Bool) (o : List Nat) (b : Nat) : Prop where
 size : o.length = us.length
 used : ∀ s,us[s]? = some true ↔ 0 < len o s
 good : Good o ∨ ∀ s,len o s = 0
 le : ∀ x ∈ o,x ≤ b
theorem Flat.done {us : List Bool} {l o0 o : List Nat} {long deep short : Nat} (h : Flat us l o0 long deep short l.length o) (hs : short + l.length = 2 ^ deep) (hs2 : short ≤ l.length) (hb : long + deep ≤ 15) :
  TreePost us o (long + deep):=by
 refine ⟨h.size,fun s => ?_,.inl (.inl ⟨fun x hx => by have:=h.le x hx;omega,?_⟩),h.le⟩
 ·rw [h.used s]
  simp
  omega
 ·rw [first_kraft (fun x hx => by have:=h.le x hx;omega)]
  have:=h.sum
  have e : l.length + min l.length short = 2 ^ deep:=by omega
  have e2 : 2 ^ (16 - long) = 2 ^ deep * 2 ^ (16 - (long + deep)):=by rw [← Nat.pow_add];congr 1;omega
  rw [e,← e2] at this
  omega
theorem Skew.lone {us : List Bool} {o : List Nat} {x : Nat} (h : Skew us [x] o 0) : TreePost us (o.set x 1) 1:=by
 have hz:=h.zero x (by simp)
 have hlt : x < o.length:=by rw [h.size];exact hz.1
 have h0 : ∀ s,len o s = 0:=by
  intro s
  unfold len
  rcases Nat.lt_or_ge s o.length with h1 | h1
  ·have:=h.le o[s] (List.getElem_mem h1)
   simp [h1];omega
  ·simp [List.getElem?_eq_none h1]
 refine ⟨by simp [h.size],fun s => ?_,.inl (.inr ⟨x,by simpa using hlt,fun t => ?_⟩),mem_set_le (fun y hy => by have:=h.le y hy;omega) (Nat.le_refl _)⟩
 ·rw [h.used s,len_set _ _ _ _ hlt]
  have:=h0 s
  by_cases e : s = x <;> simp [e,h0]
 ·rw [len_set _ _ _ _ hlt]
  by_cases e : t = x <;> simp [e,h0]
theorem Skew.none {us : List Bool} {o : List Nat} (h : Skew us [] o 0) : TreePost us o 0:=by
 have h0 : ∀ s,len o s = 0:=by
  intro s
  unfold len
  rcases Nat.lt_or_ge s o.length with h1 | h1
  ·have:=h.le o[s] (List.getElem_mem h1)
   simp [h1];omega
  ·simp [List.getElem?_eq_none h1]
 refine ⟨h.size,fun s => ?_,.inr h0,h.le⟩
 rw [h.used s]
 simp [h0]
def idx (us : List Bool) (i : Nat) : List Nat:=(List.range i).filter fun s => us[s]? == some true
theorem idx_succ (us : List Bool) (i : Nat) (h : i < us.length) : idx us (i + 1) = idx us i ++ if us[i] then [i] else []:=by
 unfold idx
 rw [List.range_succ,List.filter_append]
 congr 1
 by_cases e : us[i] = true
 ·simp [e,h]
 ·simp [e,h]
theorem idx_nodup (us : List Bool) (i : Nat) : (idx us i).Nodup:=List.nodup_range.sublist List.filter_sublist
theorem idx_mem (us : List Bool) (s : Nat) : s ∈ idx us us.length ↔ us[s]? = some true:=by
 unfold idx
 simp only [List.mem_filter,List.mem_range,beq_iff_eq]
 constructor
 ·exact fun h => h.2
 ·intro h
  refine ⟨?_,h⟩
  rcases Nat.lt_or_ge s us.length with h1 | h1
  ·exact h1
  ·simp [List.getElem?_eq_none h1] at h
theorem idx_length (us : List Bool) (i : Nat) : (idx us i).length ≤ i:=by
 have:=List.length_filter_le (fun s => us[s]? == some true) (List.range i)
 simpa [idx] using this
theorem len_replicate (n s : Nat) : len (List.replicate n 0) s = 0:=by
 unfold len
 rcases Nat.lt_or_ge s n with h | h
 ·simp [h]
 ·simp [List.getElem?_eq_none,h]
theorem Skew.start (us : List Bool) : Skew us (idx us us.length) (List.replicate us.length 0) 0:=by
 refine ⟨by simp,idx_nodup _ _,fun s hs => ⟨?_,len_replicate _ _⟩,fun s => ?_,?_,?_,by omega,by omega⟩
 ·have:=(idx_mem us s).1 hs
  rcases Nat.lt_or_ge s us.length with h1 | h1
  ·exact h1
  ·simp [List.getElem?_eq_none h1] at this
 ·rw [idx_mem,len_replicate];simp
 ·rw [kraft_zeros]
 ·intro x hx
  have:=List.eq_of_mem_replicate hx
  omega
end Go.Proofs.YthpapbilhjobnaaGreatDoor.Pu
namespace Go.Proofs.YthpapbilhjobnaaGreatDoor.Pu
theorem count_cut (l : List Nat) (m x : Nat) (hz : ∀ s,m ≤ s → len l s = 0) (hx : x ≠ 0) : (l.take m).count x = l.count x:=by
 conv => rhs;rw [← List.take_append_drop m l]
 rw [List.count_append]
 have : (l.drop m).count x = 0:=by
  refine List.count_eq_zero.2 fun h => ?_
  obtain ⟨j,hj,he⟩:=List.getElem_of_mem h
  have hlt : m + j < l.length:=by simp at hj;omega
  have:=hz (m + j) (by omega)
  rw [len_eq hlt] at this
  rw [List.getElem_drop] at he
  omega
 omega
theorem cnt_cut (l : List Nat) (m n : Nat) (hz : ∀ s,m ≤ s → len l s = 0) : cnt (l.take m) n = cnt l n:=by
 unfold cnt
 split
 ·rfl
 ·rename_i h;exact count_cut l m n hz h
theorem first_cut (l : List Nat) (m n : Nat) (hz : ∀ s,m ≤ s → len l s = 0) : first (l.take m) n = first l n:=by
 induction n with
 | zero => rfl
 | succ n ih => rw [first_step,first_step,ih,cnt_cut l m n hz]
theorem len_cut (l : List Nat) (m s : Nat) (hz : ∀ s,m ≤ s → len l s = 0) : len (l.take m) s = len l s:=by
 rcases Nat.lt_or_ge s m with h | h
 ·unfold len;rw [List.getElem?_take,if_pos h]
 ·rw [hz s h]
  unfold len
  rw [List.getElem?_take,if_neg (by omega)]
  rfl
theorem codeBits_cut (l : List Nat) (m s : Nat) (hz : ∀ s,m ≤ s → len l s = 0) : codeBits (l.take m) s = codeBits l s:=by
 rcases Nat.lt_or_ge s m with h | h
 ·unfold codeBits codeOf rank
  rw [len_cut l m s hz,first_cut l m _ hz,List.take_take,Nat.min_eq_left (by omega)]
 ·unfold codeBits
  rw [len_cut l m s hz,hz s h]
  rfl
theorem good_cut {l : List Nat} (m : Nat) (hz : ∀ s,m ≤ s → len l s = 0) (h : Good l) : Good (l.take m):=by
 rcases h with ⟨h1,h2⟩ | ⟨s,h1,h2⟩
 ·exact .inl ⟨fun n hn => h1 n (List.mem_of_mem_take hn),by rw [first_cut l m _ hz];exact h2⟩
 ·refine .inr ⟨s,?_,fun t => by rw [len_cut l m t hz];exact h2 t⟩
  have:=h2 s
  rw [if_pos rfl] at this
  rcases Nat.lt_or_ge s m with h | h
  ·simp;omega
  ·rw [hz s h] at this;omega
theorem toksBits_cut (lit dist : List Nat) (nl nd : Nat) (hl : ∀ s,nl ≤ s → len lit s = 0) (hd : ∀ s,nd ≤ s → len dist s = 0) (toks : List Tok) : toksBits (lit.take nl) (dist.take nd) toks = toksBits lit dist toks:=by
 induction toks with
 | nil => rfl
 | cons t l ih => simp only [toksBits,tokBits,ih,codeBits_cut lit nl _ hl,codeBits_cut dist nd _ hd]
theorem coded_cut {lit dist : List Nat} {nl nd : Nat} (hl : ∀ s,nl ≤ s → len lit s = 0) (hd : ∀ s,nd ≤ s → len dist s = 0) {t : Tok} (h : Tok.coded lit dist t) : Tok.coded (lit.take nl) (dist.take nd) t:=by
 unfold Tok.coded at *
 rw [len_cut lit nl _ hl,len_cut lit nl _ hl,len_cut dist nd _ hd]
 exact h
def ord : List Nat:=[16,17,18,0,8,7,9,6,10,5,11,4,12,3,13,2,14,1,15]
structure HeadOf (lit dist lens : List Nat) (nc : Nat) (rs : List Run) : Prop where
 hnl : 257 ≤ lit.length ∧ lit.length ≤ 286
 hnd : 1 ≤ dist.length ∧ dist.length ≤ 30
 hnc : 4 ≤ nc ∧ nc ≤ 19
 size : lens.length = 19
 good : Good lens
 le : ∀ x ∈ lens,x ≤ 7
 rest : ∀ k s : Nat,nc ≤ k → ord[k]? = some s → len lens s = 0
 fit : runsFit (lit ++ dist) 0 rs (lit.length + dist.length)
 coded : ∀ r ∈ rs,0 < len lens r.sym
 glit : Good lit
 eob : 0 < len lit 256
 gdist : Good dist ∨ ∀ s,len dist s = 0
def ordBits (lens : List Nat) (l : List Nat) : List Bool:=(l.map fun s => lsb (len lens s) 3).flatten
def headBits (lit dist lens : List Nat) (nc : Nat) (rs : List Run) : List Bool :=
 lsb (lit.length - 257) 5 ++ lsb (dist.length - 1) 5 ++ lsb (nc - 4) 4 ++ ordBits lens (ord.take nc) ++ runsBits lens rs
def fixLenP (i : Nat) : Nat:=if i < 144 then 8 else if i < 256 then 9 else if i < 280 then 7 else 8
def fixLitsP : List Nat:=(List.range 288).map fixLenP
def fixDistsP : List Nat:=List.replicate 32 5
inductive IsBlock (all : List UInt8) (pos i j : Nat) : List Bool → Prop
 | stored (k : Nat) (hk : k < 8) (hpos : (pos + 2 + k) % 8 = 0) (hij : i ≤ j) (hj : j ≤ all.length) (hn : j - i ≤ 65535) :
   IsBlock all pos i j (lsb 0 2 ++ List.replicate k false ++ lsb (j - i) 16 ++ lsb (65535 - (j - i)) 16 ++ bitsOf ((all.take j).drop i))
 | fixed (toks : List Tok) (hfit : toksFit all i toks j) : IsBlock all pos i j (lsb 1 2 ++ toksBits fixLitsP fixDistsP toks ++ codeBits fixLitsP 256)
 | own (toks : List Tok) (lit dist lens : List Nat) (nc : Nat) (rs : List Run) (hfit : toksFit all i toks j) (hh : HeadOf lit dist lens nc rs) (hc : ∀ t ∈ toks,t.coded lit dist) :
   IsBlock all pos i j (lsb 2 2 ++ headBits lit dist lens nc rs ++ toksBits lit dist toks ++ codeBits lit 256)
inductive Before (all : List UInt8) (f : Nat) : List Bool → Nat → Prop
 | none : Before all f [] f
 | one {L B : List Bool} {i j : Nat} (h : Before all f L i) (hb : IsBlock all (L.length + 1) i j B) : Before all f (L ++ false::B) j
def Whole (all : List UInt8) (f : Nat) (X : List Bool) : Prop:=∃ L B i,Before all f L i ∧ IsBlock all (L.length + 1) i all.length B ∧ X = L ++ true::B
inductive Ahead (all : List UInt8) : Nat → Nat → List Bool → Prop
 | last {pos i : Nat} {B : List Bool} (hb : IsBlock all (pos + 1) i all.length B) : Ahead all pos i (true::B)
 | more {pos i j : Nat} {B X : List Bool} (hb : IsBlock all (pos + 1) i j B) (h : Ahead all (pos + 1 + B.length) j X) : Ahead all pos i (false::(B ++ X))
theorem Before.ahead {all : List UInt8} {f : Nat} {L : List Bool} {i : Nat} (h : Before all f L i) : ∀ X,Ahead all L.length i X → Ahead all 0 f (L ++ X):=by
 induction h with
 | none => intro X hX;exact hX
 | one h hb ih =>
  rename_i L B i j
  intro X hX
  have:=ih (false::(B ++ X)) (.more hb (by
   have e : (L ++ false::B).length = L.length + 1 + B.length:=by simp;omega
   rw [← e];exact hX))
  simpa using this
theorem Whole.ahead {all : List UInt8} {f : Nat} {X : List Bool} (h : Whole all f X) : Ahead all 0 f X:=by
 obtain ⟨L,B,i,h1,h2,rfl⟩:=h
 exact h1.ahead _ (.last h2)
end Go.Proofs.YthpapbilhjobnaaGreatDoor.Pu
namespace Go.Proofs.YthpapbilhjobnaaGreatDoor.Pu
def grow (H : List UInt8) (far : Nat) : Nat → List UInt8
 | 0 => H
 | n + 1 => grow H far n ++ [(grow H far n)[(grow H far n).length - far]?.getD 0]
@[simp] theorem length_grow (H : List UInt8) (far n : Nat) : (grow H far n).length = H.length + n:=by
 induction n with
 | zero => rfl
 | succ n ih => simp [grow,ih];omega
theorem grow_add (H : List UInt8) (far a b : Nat) : grow H far (a + b) = grow (grow H far a) far b:=by
 induction b with
 | zero => rfl
 | succ b ih => rw [Nat.add_succ];simp only [grow];rw [ih]
theorem grow_old (H : List UInt8) (far n j : Nat) (h : j < H.length) : (grow H far n)[j]? = H[j]?:=by
 induction n with
 | zero => rfl
 | succ n ih => rw [grow,List.getElem?_append_left (by simp;omega),ih]
theorem grow_new (H : List UInt8) (far n j : Nat) (h1 : 1 ≤ far) (h2 : far ≤ H.length) (hj : j < n) : (grow H far n)[H.length + j]? = (grow H far n)[H.length + j - far]?:=by
 induction n with
 | zero => omega
 | succ n ih =>
  rw [grow]
  rcases Nat.lt_or_ge j n with h | h
  ·rw [List.getElem?_append_left (by simp;omega),List.getElem?_append_left (by simp;omega),ih h]
  ·obtain rfl : j = n:=by omega
   rw [List.getElem?_append_right (by simp),List.getElem?_append_left (by simp;omega)]
   simp only [length_grow,Nat.sub_self,List.getElem?_cons_zero]
   have : H.length + j - far < (grow H far j).length:=by simp;omega
   rw [List.getElem?_eq_getElem this]
   rfl
theorem grow_unique (H G : List UInt8) (far n : Nat) (h1 : 1 ≤ far) (h2 : far ≤ H.length) (hl : G.length = H.length + n) (ho : ∀ j,j < H.length → G[j]? = H[j]?)
  (hn : ∀ j,j < n → G[H.length + j]? = G[H.length + j - far]?) : G = grow H far n:=by
 refine List.ext_getElem? fun i => ?_
 induction i using Nat.strongRecOn with
 | ind i ih =>
  rcases Nat.lt_or_ge i H.length with h | h
  ·rw [ho i h,grow_old H far n i h]
  ·rcases Nat.lt_or_ge i (H.length + n) with hi | hi
   ·obtain ⟨j,rfl⟩ : ∃ j,i = H.length + j:=⟨i - H.length,by omega⟩
    rw [hn j (by omega),grow_new H far n j h1 h2 (by omega),ih _ (by omega)]
   ·rw [List.getElem?_eq_none (by omega),List.getElem?_eq_none (by simp;omega)]
def Tok.can (t : Tok) (H : List UInt8) : Prop:=t.far = 0 ∨ t.far ≤ H.length
def Tok.run (t : Tok) (H : List UInt8) : List UInt8:=if t.far = 0 then H ++ [UInt8.ofNat t.lit] else grow H t.far t.long
theorem Tok.run_fits {all : List UInt8} {i : Nat} {t : Tok} (h : t.fits all i) : t.can (all.take i) ∧ t.run (all.take i) = all.take (i + t.step):=by
 rcases h with ⟨h1,c,h2,h3⟩ | ⟨h1,h2,h3,h4,h5,h6,h7⟩
 ·refine ⟨.inl h1,?_⟩
  have hi : i < all.length:=by
   rcases Nat.lt_or_ge i all.length with h | h
   ·exact h
   ·simp [List.getElem?_eq_none h] at h2
  have hc : c = all[i]:=by simpa [List.getElem?_eq_getElem hi] using h2.symm
  simp only [Tok.run,Tok.step,h1,if_true,h3,UInt8.ofNat_toNat]
  rw [List.take_succ_eq_append_getElem hi,hc]
 ·have h0 : ¬ t.far = 0:=by omega
  have hl : (all.take i).length = i:=by simp;omega
  refine ⟨.inr (by rw [hl];exact h2),?_⟩
  simp only [Tok.run,Tok.step,h0,if_false]
  refine (grow_unique (all.take i) (all.take (i + t.long)) t.far t.long h1 (by rw [hl];exact h2) (by simp;omega) ?_ ?_).symm
  ·intro j hj
   rw [hl] at hj
   rw [List.getElem?_take,List.getElem?_take,if_pos (by omega),if_pos hj]
  ·intro j hj
   rw [hl,List.getElem?_take,List.getElem?_take,if_pos (by omega),if_pos (by omega)]
   exact h7 j hj
def runToks : List Tok → List UInt8 → List UInt8
 | [],H => H
 | t::l,H => runToks l (t.run H)
def canToks : List Tok → List UInt8 → Prop
 | [],_ => True
 | t::l,H => t.can H ∧ canToks l (t.run H)
def Tok.okT (t : Tok) : Prop:=(t.far = 0 ∧ t.lit ≤ 255) ∨ (1 ≤ t.far ∧ t.far ≤ 32768 ∧ 3 ≤ t.long ∧ t.long ≤ 258)
theorem Tok.fits_okT {all : List UInt8} {i : Nat} {t : Tok} (h : t.fits all i) : t.okT:=by
 rcases h with ⟨h1,c,h2,h3⟩ | ⟨h1,h2,h3,h4,h5,h6,h7⟩
 ·exact .inl ⟨h1,by have:=c.toNat_lt;omega⟩
 ·exact .inr ⟨h1,h3,h4,h5⟩
theorem toksFit_okT {all : List UInt8} {toks : List Tok} {i j : Nat} (h : toksFit all i toks j) : ∀ t ∈ toks,t.okT:=by
 induction toks generalizing i with
 | nil => simp
 | cons t l ih =>
  intro x hx
  rcases List.mem_cons.1 hx with rfl | hx
  ·exact Tok.fits_okT h.1
  ·exact ih h.2 x hx
theorem grow_prefix (H : List UInt8) (far n : Nat) : ∃ R,grow H far n = H ++ R ∧ R.length = n:=by
 refine ⟨(grow H far n).drop H.length,?_,by simp⟩
 have : (grow H far n).take H.length = H:=by
  refine List.ext_getElem? fun i => ?_
  rw [List.getElem?_take]
  split
  ·rename_i h;exact grow_old H far n i h
  ·rename_i h;rw [List.getElem?_eq_none (by omega)]
 conv => lhs;rw [← List.take_append_drop H.length (grow H far n),this]
end Go.Proofs.YthpapbilhjobnaaGreatDoor.Pu
namespace Go.Proofs.YthpapbilhjobnaaGreatDoor.Pu
def hsize (wr : Nat) (full : Bool) : Nat:=if full then 32768 else wr
structure Win (hs : List UInt8) (wr : Nat) (full : Bool) (H : List UInt8) : Prop where
 size : hs.length = 32768
 le : wr ≤ 32768
 part : full = false → H.length = wr
 whole : full = true → 32768 ≤ H.length
 at_ : ∀ k,1 ≤ k → k ≤ hsize wr full → hs[(wr + 32768 - k) % 32768]? = H[H.length - k]?
theorem Win.hsize_le {hs : List UInt8} {wr : Nat} {full : Bool} {H : List UInt8} (h : Win hs wr full H) : hsize wr full ≤ 32768 ∧ hsize wr full ≤ H.length ∧ wr ≤ hsize wr full:=by
 have h1:=h.le;have h2:=h.part;have h3:=h.whole
 unfold hsize
 cases full
 ·have:=h2 rfl;simp;omega
 ·have:=h3 rfl;simp;omega
theorem Win.far {hs : List UInt8} {wr : Nat} {full : Bool} {H : List UInt8} (h : Win hs wr full H) {d : Nat} (hd : d ≤ 32768) : d ≤ hsize wr full ↔ d ≤ H.length:=by
 have h2:=h.part;have h3:=h.whole
 unfold hsize
 cases full
 ·have:=h2 rfl;simp;omega
 ·have:=h3 rfl;simp;omega
theorem Win.byte {hs : List UInt8} {wr : Nat} {full : Bool} {H : List UInt8} (h : Win hs wr full H) (hw : wr < 32768) (c : UInt8) : Win (hs.set wr c) (wr + 1) full (H ++ [c]):=by
 have hs0:=h.size
 refine ⟨by simpa using hs0,by omega,fun e => by simp [h.part e],fun e => by have:=h.whole e;simp;omega,fun k h1 h2 => ?_⟩
 have hk : k ≤ 32768:=by unfold hsize at h2;split at h2 <;> omega
 rcases Nat.lt_or_ge 1 k with h3 | h3
 ·have hl : k - 1 ≤ hsize wr full:=by unfold hsize at *;split at h2 <;> simp_all <;> omega
  have:=h.at_ (k - 1) (by omega) hl
  have hle:=h.hsize_le
  rw [List.getElem?_set_ne (by omega),List.getElem?_append_left (by simp;omega)]
  have e1 : (wr + 1 + 32768 - k) % 32768 = (wr + 32768 - (k - 1)) % 32768:=by congr 1;omega
  have e2 : (H ++ [c]).length - k = H.length - (k - 1):=by simp;omega
  rw [e1,e2,this]
 ·obtain rfl : k = 1:=by omega
  have e1 : (wr + 1 + 32768 - 1) % 32768 = wr:=by omega
  rw [e1]
  simp [hs0,hw]
theorem Win.turn {hs : List UInt8} {full : Bool} {H : List UInt8} (h : Win hs 32768 full H) : Win hs 0 true H:=by
 refine ⟨h.size,by omega,fun e => by simp at e,fun _ => ?_,fun k h1 h2 => ?_⟩
 ·cases full
  ·have:=h.part rfl;omega
  ·exact h.whole rfl
 ·have hk : k ≤ 32768:=by simpa [hsize] using h2
  have:=h.at_ k h1 (by unfold hsize;split <;> omega)
  rw [← this]
  congr 1;omega
def lay (hs : List UInt8) (wr : Nat) : List UInt8 → List UInt8
 | [] => hs
 | c::l => lay (hs.set wr c) (wr + 1) l
@[simp] theorem length_lay (hs : List UInt8) (wr : Nat) (l : List UInt8) : (lay hs wr l).length = hs.length:=by
 induction l generalizing hs wr with
 | nil => rfl
 | cons c l ih => simp [lay,ih]
theorem lay_get (hs : List UInt8) (wr : Nat) (l : List UInt8) (hl : wr + l.length ≤ hs.length) (i : Nat) :
  (lay hs wr l)[i]? = if wr ≤ i ∧ i < wr + l.length then l[i - wr]? else hs[i]?:=by
 induction l generalizing hs wr with
 | nil => simp [lay];omega
 | cons c l ih =>
  simp only [List.length_cons] at hl
  rw [lay,ih (hs.set wr c) (wr + 1) (by simp;omega)]
  rcases Nat.lt_trichotomy i wr with h | h | h
  ·rw [if_neg (by omega),if_neg (by omega),List.getElem?_set_ne (by omega)]
  ·subst h
   rw [if_neg (by omega),if_pos (by simp)]
   simp [show i < hs.length by omega]
  ·simp only [List.length_cons]
   rw [List.getElem?_set_ne (by omega)]
   by_cases h2 : i < wr + 1 + l.length
   ·rw [if_pos (by omega),if_pos (by omega),show i - wr = (i - (wr + 1)) + 1 by omega,List.getElem?_cons_succ]
   ·rw [if_neg (by omega),if_neg (by omega)]
theorem Win.lay {hs : List UInt8} {wr : Nat} {full : Bool} {H : List UInt8} (h : Win hs wr full H) (l : List UInt8) (hw : wr + l.length ≤ 32768) : Win (lay hs wr l) (wr + l.length) full (H ++ l):=by
 induction l generalizing hs wr H with
 | nil => simpa [Pu.lay] using h
 | cons c l ih =>
  simp only [List.length_cons] at hw
  have:=ih (h.byte (by omega) c) (by omega)
  simp only [Pu.lay,List.length_cons]
  rw [show wr + (l.length + 1) = wr + 1 + l.length by omega,show H ++ c::l = H ++ [c] ++ l by simp]
  exact this
theorem Win.over {hs hs' : List UInt8} {wr : Nat} {full : Bool} {H : List UInt8} (h : Win hs wr full H) (l : List UInt8) (hw : wr + l.length ≤ 32768) (hl : hs'.length = hs.length)
  (hn : ∀ j,j < l.length → hs'[wr + j]? = l[j]?) (ho : ∀ i,i < wr ∨ wr + l.length ≤ i → hs'[i]? = hs[i]?) : Win hs' (wr + l.length) full (H ++ l):=by
 have : hs' = Pu.lay hs wr l:=by
  refine List.ext_getElem? fun i => ?_
  rw [lay_get hs wr l (by rw [h.size];exact hw)]
  split
  ·rename_i h1
   have:=hn (i - wr) (by omega)
   rw [show wr + (i - wr) = i by omega] at this
   exact this
  ·rename_i h1;exact ho i (by omega)
 rw [this];exact h.lay l hw
theorem Win.copy {hs hs' : List UInt8} {wr : Nat} {full : Bool} {H : List UInt8} (h : Win hs wr full H) (dist n : Nat) (hd1 : 1 ≤ dist) (hd2 : dist ≤ hsize wr full) (hw : wr + n ≤ 32768) (hl : hs'.length = hs.length)
  (hn : ∀ j,j < n → hs'[wr + j]? = if dist ≤ wr + j then hs'[wr + j - dist]? else hs[wr + j + 32768 - dist]?) (ho : ∀ i,i < wr ∨ wr + n ≤ i → hs'[i]? = hs[i]?) : Win hs' (wr + n) full (grow H dist n):=by
 have hle:=h.hsize_le
 have hsz:=h.size
 obtain ⟨l,hl'⟩ : ∃ l,(hs'.drop wr).take n = l:=⟨_,rfl⟩
 have hll : l.length = n:=by rw [← hl'];simp;omega
 have hlg : ∀ j,j < n → hs'[wr + j]? = l[j]?:=by
  intro j hj
  rw [← hl',List.getElem?_take,if_pos hj,List.getElem?_drop]
 have hW:=h.over (hs':=hs') l (by omega) hl (by rw [hll];exact hlg) (by rw [hll];exact ho)
 rw [hll] at hW
 have : H ++ l = grow H dist n:=by
  refine grow_unique H (H ++ l) dist n hd1 (by omega) (by simp [hll]) (fun j hj => List.getElem?_append_left hj) fun j hj => ?_
  rw [List.getElem?_append_right (by omega),show H.length + j - H.length = j by omega,← hlg j hj,hn j hj]
  rcases Nat.lt_or_ge j dist with hjd | hjd
  ·
   rw [List.getElem?_append_left (by omega)]
   have hk:=h.at_ (dist - j) (by omega) (by omega)
   rw [show H.length - (dist - j) = H.length + j - dist by omega] at hk
   rw [← hk]
   split
   ·rename_i h1
    rw [ho _ (.inl (by omega))]
    congr 1;omega
   ·rename_i h1
    congr 1;omega
  ·rw [List.getElem?_append_right (by omega),if_pos (by omega),show H.length + j - dist - H.length = j - dist by omega,← hlg _ (by omega)]
   congr 1;omega
 rw [← this];exact hW
theorem Win.tail {hs : List UInt8} {wr : Nat} {full : Bool} {H : List UInt8} (h : Win hs wr full H) (rd : Nat) (hr : rd ≤ wr) : (hs.take wr).drop rd = H.drop (H.length - (wr - rd)):=by
 have hle:=h.hsize_le
 have hsz:=h.size
 refine List.ext_getElem? fun i => ?_
 rw [List.getElem?_drop,List.getElem?_drop,List.getElem?_take]
 split
 ·rename_i h1
  have:=h.at_ (wr - (rd + i)) (by omega) (by omega)
  rw [show (wr + 32768 - (wr - (rd + i))) % 32768 = rd + i by omega] at this
  rw [this]
  congr 1;omega
 ·rename_i h1;rw [List.getElem?_eq_none (by omega)]
theorem Win.start {hs : List UInt8} (D : List UInt8) (hs0 : hs.length = 32768) (hD : D.length ≤ 32768) (hg : ∀ j,j < D.length → hs[j]? = D[j]?) : Win hs D.length false D:=by
 refine ⟨hs0,hD,fun _ => rfl,fun e => by simp at e,fun k h1 h2 => ?_⟩
 have hk : k ≤ D.length:=by simpa [hsize] using h2
 rw [show (D.length + 32768 - k) % 32768 = D.length - k by omega]
 exact hg _ (by omega)
theorem period {hs0 hs : List UInt8} {src dist e : Nat} (hd : 1 ≤ dist) (h : ∀ t,src + t < e → hs[src + t]? = hs0[src + t % dist]?) : ∀ j,src + dist ≤ j → j < e → hs[j]? = hs[j - dist]?:=by
 intro j h1 h2
 have a:=h (j - src) (by omega)
 have b:=h (j - src - dist) (by omega)
 rw [show src + (j - src) = j by omega] at a
 rw [show src + (j - src - dist) = j - dist by omega] at b
 rw [a,b]
 congr 2
 have : j - src = (j - src - dist) + dist:=by omega
 conv => lhs;rw [this]
 rw [Nat.add_mod_right]
end Go.Proofs.YthpapbilhjobnaaGreatDoor.Pu
namespace Go.Proofs.YthpapbilhjobnaaGreatDoor.Pu
theorem Lone.code {lens : List Nat} (h : Lone lens) {s : Nat} (hs : 0 < len lens s) : len lens s = 1 ∧ codeBits lens s = [false]:=by
 obtain ⟨q,hq,hl⟩:=h
 have hsq : s = q:=by
  have:=hl s
  by_cases e : s = q
  ·exact e
  ·rw [if_neg e] at this;omega
 have h1 : len lens s = 1:=by rw [hl s,if_pos hsq]
 refine ⟨h1,?_⟩
 have hc:=code_lt (.inr ⟨q,hq,hl⟩) hs
 have h0 : codeOf lens s = 0:=by
  have hf : first lens 1 = 0:=by simp [first,cnt]
  have hr:=rank_lt hs
  have hcnt:=Lone.count (lens:=lens) ⟨q,hq,hl⟩
  rw [h1] at hr
  unfold cnt at hr
  rw [if_neg (by omega),hcnt] at hr
  unfold codeOf
  rw [h1,hf];omega
 unfold codeBits
 rw [h0,h1];rfl
theorem hits_few {lens : List Nat} (hg : Good lens) {s p : Nat} (hs : 0 < len lens s) (hp : p < len lens s) :
  ∃ t,Hits lens (val ((codeBits lens s).take p)) t ∧ p < len lens t ∧ len lens t ≤ len lens s:=by
 rcases hg with hg | hg
 ·exact hits_partial hg hs hp
 ·obtain ⟨h1,h2⟩:=hg.code hs
  obtain rfl : p = 0:=by omega
  exact ⟨s,⟨hs,by rw [h2];simp [val]⟩,by omega,Nat.le_refl _⟩
theorem hits_of_bits {lens : List Nat} (hg : Good lens) {s nb : Nat} (hs : 0 < len lens s) {Z : List Bool} :
  (len lens s ≤ nb → Hits lens (val ((codeBits lens s ++ Z).take nb)) s) ∧
  (nb < len lens s → ∃ t,Hits lens (val ((codeBits lens s ++ Z).take nb)) t ∧ nb < len lens t ∧ len lens t ≤ len lens s):=by
 have hl : (codeBits lens s).length = len lens s:=length_codeBits lens s
 constructor
 ·intro h
  refine ⟨hs,?_⟩
  rw [← val_take,List.take_take,Nat.min_eq_left h,List.take_left' hl]
 ·intro h
  rw [List.take_append_of_le_length (by omega)]
  exact hits_few hg hs h
def rev9 (p : Nat) : Nat:=val (msb p 9)
theorem rev9_lt (p : Nat) : rev9 p < 512:=by have:=val_lt (msb p 9);simpa [rev9] using this
theorem rev9_inj {p q : Nat} (hp : p < 512) (hq : q < 512) (h : rev9 p = rev9 q) : p = q :=
 msb_inj (k:=9) hp hq (val_inj (by simp) h)
theorem val_msb_split (n j k : Nat) : val (msb n (j + k)) % 2 ^ j = val (msb (n / 2 ^ k) j) ∧ val (msb n (j + k)) / 2 ^ j = val (msb n k):=by
 have h1:=val_mod_append (msb (n / 2 ^ k) j) (msb n k)
 have h2:=val_div_append (msb (n / 2 ^ k) j) (msb n k)
 rw [length_msb,← msb_append] at h1 h2
 exact ⟨h1,h2⟩
theorem rev_shift {c n : Nat} (hc : c < 2 ^ n) (hn : n ≤ 16) : val (msb c 16) / 2 ^ (16 - n) = val (msb c n):=by
 have h:=(val_msb_split c (16 - n) n).2
 rw [show 16 - n + n = 16 by omega] at h
 exact h
theorem rev_bytes (x : Nat) : val (msb x 16) = val (msb (x / 256) 8) + 256 * val (msb x 8):=by
 have h : msb x 16 = msb (x / 2 ^ 8) 8 ++ msb x 8:=msb_append x 8 8
 rw [h,val_append,length_msb]
section
variable (lens : List Nat) (ch : Nat → Nat) (lk : Nat → Nat → Nat) (link nk : Nat)
def TabTo (k : Nat) : Prop:=∀ s,s < k → ∀ x,Hits lens x s →
 (len lens s ≤ 9 → ch (x % 512) = s * 16 + len lens s) ∧ (9 < len lens s → lk (codeOf lens s / 2 ^ (len lens s - 9) - link) (x / 512 % nk) = s * 16 + len lens s)
def LinkTo (hi : Nat) : Prop:=∀ p,link ≤ p → p < hi → ch (rev9 p) = (p - link) * 16 + 10
end
def Tab (lens : List Nat) (ch : Nat → Nat) (lk : Nat → Nat → Nat) (nl nk : Nat) : Prop:=∀ s x,Hits lens x s →
 (len lens s ≤ 9 → ch (x % 512) = s * 16 + len lens s) ∧ (9 < len lens s → ∃ v,v < nl ∧ ch (x % 512) = v * 16 + 10 ∧ lk v (x / 512 % nk) = s * 16 + len lens s)
def linkOf (lens : List Nat) : Nat:=first lens 9 + cnt lens 9
theorem codeOf_shift_ge {lens : List Nat} {s : Nat} (h9 : 9 < len lens s) : linkOf lens ≤ codeOf lens s / 2 ^ (len lens s - 9):=by
 have h1:=first_mono lens 9 (len lens s - 10)
 rw [show 9 + (len lens s - 10) + 1 = len lens s by omega,show len lens s - 10 + 1 = len lens s - 9 by omega] at h1
 rw [Nat.le_div_iff_mul_le (Nat.two_pow_pos _)]
 exact Nat.le_trans h1 (by unfold codeOf;omega)
theorem codeOf_shift_lt {lens : List Nat} (hg : Good lens) {s : Nat} (h9 : 9 < len lens s) : codeOf lens s / 2 ^ (len lens s - 9) < 512:=by
 rw [Nat.div_lt_iff_lt_mul (Nat.two_pow_pos _)]
 have:=code_lt hg (s:=s) (by omega)
 have e : 2 ^ len lens s = 512 * 2 ^ (len lens s - 9):=by
  rw [show (512 : Nat) = 2 ^ 9 by rfl,← Nat.pow_add];congr 1;omega
 omega
theorem long_low {lens : List Nat} {s : Nat} (h9 : 9 < len lens s) : val (codeBits lens s) % 512 = rev9 (codeOf lens s / 2 ^ (len lens s - 9)) ∧ val (codeBits lens s) / 512 = val (msb (codeOf lens s) (len lens s - 9)):=by
 have h:=val_msb_split (codeOf lens s) 9 (len lens s - 9)
 rw [show 9 + (len lens s - 9) = len lens s by omega] at h
 exact h
theorem hits_low {lens : List Nat} {x s : Nat} (h : Hits lens x s) (h9 : 9 < len lens s) : x % 512 = rev9 (codeOf lens s / 2 ^ (len lens s - 9)):=by
 rw [← (long_low h9).1,← h.2]
 have : (2 : Nat) ^ len lens s = 2 ^ 9 * 2 ^ (len lens s - 9):=by rw [← Nat.pow_add];congr 1;omega
 rw [this,Nat.mod_mul_right_mod]
theorem short_off {lens : List Nat} {s p : Nat} (h0 : 0 < len lens s) (h9 : len lens s ≤ 9) (hg : Good lens) (hp : linkOf lens ≤ p) (hp2 : p < 512) : rev9 p % 2 ^ len lens s ≠ val (codeBits lens s):=by
 intro e
 have h:=(val_msb_split p (len lens s) (9 - len lens s)).1
 rw [show len lens s + (9 - len lens s) = 9 by omega] at h
 rw [show rev9 p = val (msb p 9) from rfl,h] at e
 have e2:=val_inj (by simp) e
 have hlt : p / 2 ^ (9 - len lens s) < 2 ^ len lens s:=by
  rw [Nat.div_lt_iff_lt_mul (Nat.two_pow_pos _),← Nat.pow_add,show len lens s + (9 - len lens s) = 9 by omega];exact hp2
 have e3:=msb_inj hlt (code_lt hg h0) e2
 have hc:=code_lt_next h0
 have hle : (codeOf lens s + 1) * 2 ^ (9 - len lens s) ≤ linkOf lens:=by
  unfold linkOf
  rcases Nat.lt_or_ge (len lens s) 9 with h | h
  ·have h1:=first_mono lens (len lens s) (9 - len lens s - 1)
   rw [show len lens s + (9 - len lens s - 1) + 1 = 9 by omega,show 9 - len lens s - 1 + 1 = 9 - len lens s by omega] at h1
   exact Nat.le_trans (Nat.mul_le_mul_right _ hc) (Nat.le_trans h1 (Nat.le_add_right _ _))
  ·have h9' : len lens s = 9:=by omega
   rw [h9'] at hc ⊢
   simp only [Nat.sub_self,Nat.pow_zero,Nat.mul_one]
   exact hc
 have h4 : p < (p / 2 ^ (9 - len lens s) + 1) * 2 ^ (9 - len lens s):=by
  have:=Nat.lt_div_mul_add (a:=p) (Nat.two_pow_pos (9 - len lens s))
  rw [Nat.add_mul];omega
 rw [e3] at h4
 omega
theorem hits_mod {lens : List Nat} {x s : Nat} (h9 : len lens s ≤ 9) (h0 : 0 < len lens s) : Hits lens x s ↔ x % 512 % 2 ^ len lens s = val (codeBits lens s):=by
 unfold Hits
 have : x % 512 % 2 ^ len lens s = x % 2 ^ len lens s:=by
  have e : (512 : Nat) = 2 ^ len lens s * 2 ^ (9 - len lens s):=by
   rw [← Nat.pow_add,show len lens s + (9 - len lens s) = 9 by omega]
  rw [e,Nat.mod_mul_right_mod]
 rw [this]
 exact ⟨fun h => h.2,fun h => ⟨h0,h⟩⟩
theorem TabTo.short {lens : List Nat} {ch ch' : Nat → Nat} {lk : Nat → Nat → Nat} {nk s : Nat} (hg : Good lens) (h : TabTo lens ch lk (linkOf lens) nk s) (h0 : 0 < len lens s) (h9 : len lens s ≤ 9)
  (hc : ∀ x,x < 512 → ch' x = if x % 2 ^ len lens s = val (codeBits lens s) then s * 16 + len lens s else ch x) : TabTo lens ch' lk (linkOf lens) nk (s + 1):=by
 intro t ht x hx
 have hx512 : x % 512 < 512:=Nat.mod_lt _ (by omega)
 rcases Nat.lt_or_ge t s with hts | hts
 ·obtain ⟨h1,h2⟩:=h t hts x hx
  refine ⟨fun ht9 => ?_,h2⟩
  rw [hc _ hx512,if_neg]
  ·exact h1 ht9
  ·intro e
   have:=hits_unique hg hx ((hits_mod h9 h0).2 e)
   omega
 ·obtain rfl : t = s:=by omega
  refine ⟨fun _ => ?_,fun hh => by omega⟩
  rw [hc _ hx512,if_pos ((hits_mod h9 h0).1 hx)]
theorem LinkTo.short {lens : List Nat} {ch ch' : Nat → Nat} {s : Nat} (hg : Good lens) (h : LinkTo ch (linkOf lens) 512) (h0 : 0 < len lens s) (h9 : len lens s ≤ 9)
  (hc : ∀ x,x < 512 → ch' x = if x % 2 ^ len lens s = val (codeBits lens s) then s * 16 + len lens s else ch x) : LinkTo ch' (linkOf lens) 512:=by
 intro p h1 h2
 rw [hc _ (rev9_lt p),if_neg (short_off h0 h9 hg h1 h2)]
 exact h p h1 h2
theorem TabTo.long {lens : List Nat} {ch : Nat → Nat} {lk lk' : Nat → Nat → Nat} {m s : Nat} (hg : Good lens) (h : TabTo lens ch lk (linkOf lens) (2 ^ m) s) (h9 : 9 < len lens s) (hm : len lens s - 9 ≤ m)
  (hc : ∀ v y,v < 512 → y < 2 ^ m → lk' v y = if v = codeOf lens s / 2 ^ (len lens s - 9) - linkOf lens ∧ y % 2 ^ (len lens s - 9) = val (codeBits lens s) / 512 then s * 16 + len lens s else lk v y) : TabTo lens ch lk' (linkOf lens) (2 ^ m) (s + 1):=by
 have hmod : ∀ x : Nat,x / 512 % 2 ^ m % 2 ^ (len lens s - 9) = x / 512 % 2 ^ (len lens s - 9):=by
  intro x
  have : 2 ^ m = 2 ^ (len lens s - 9) * 2 ^ (m - (len lens s - 9)):=by rw [← Nat.pow_add];congr 1;omega
  rw [this,Nat.mod_mul_right_mod]
 have hpw : 2 ^ len lens s = 512 * 2 ^ (len lens s - 9):=by
  rw [show (512 : Nat) = 2 ^ 9 by rfl,← Nat.pow_add];congr 1;omega
 intro t ht x hx
 have hlt : x / 512 % 2 ^ m < 2 ^ m:=Nat.mod_lt _ (Nat.two_pow_pos _)
 rcases Nat.lt_or_ge t s with hts | hts
 ·obtain ⟨h1,h2⟩:=h t hts x hx
  refine ⟨h1,fun ht9 => ?_⟩
  have hp1:=codeOf_shift_ge ht9
  have hp2:=codeOf_shift_lt hg ht9
  rw [hc _ _ (by omega) hlt,if_neg]
  ·exact h2 ht9
  ·rintro ⟨e1,e2⟩
   have hq1:=codeOf_shift_ge h9
   have hq2:=codeOf_shift_lt hg h9
   have ep : codeOf lens t / 2 ^ (len lens t - 9) = codeOf lens s / 2 ^ (len lens s - 9):=by omega
   have hlow:=hits_low hx ht9
   rw [ep,← (long_low h9).1] at hlow
   rw [hmod] at e2
   have : Hits lens x s:=by
    refine ⟨by omega,?_⟩
    rw [hpw,Nat.mod_mul,hlow,e2]
    omega
   have:=hits_unique hg hx this
   omega
 ·obtain rfl : t = s:=by omega
  refine ⟨fun hh => by omega,fun _ => ?_⟩
  have hp2:=codeOf_shift_lt hg h9
  rw [hc _ _ (by omega) hlt,if_pos]
  refine ⟨rfl,?_⟩
  rw [hmod]
  have h2:=hx.2
  rw [← h2,hpw,Nat.mod_mul_right_div_self]
theorem TabTo.skip {lens : List Nat} {ch : Nat → Nat} {lk : Nat → Nat → Nat} {link nk s : Nat} (h : TabTo lens ch lk link nk s) (h0 : len lens s = 0) : TabTo lens ch lk link nk (s + 1):=by
 intro t ht x hx
 rcases Nat.lt_or_ge t s with hts | hts
 ·exact h t hts x hx
 ·obtain rfl : t = s:=by omega
  have:=hx.1;omega
theorem TabTo.done {lens : List Nat} {ch : Nat → Nat} {lk : Nat → Nat → Nat} {nk : Nat} (hg : Good lens) (h : TabTo lens ch lk (linkOf lens) nk lens.length) (hl : (∃ s,9 < len lens s) → LinkTo ch (linkOf lens) 512) :
  Tab lens ch lk (512 - linkOf lens) nk:=by
 intro s x hx
 obtain ⟨h1,h2⟩:=h s (lt_of_len hx.1) x hx
 refine ⟨h1,fun h9 => ⟨_,?_,?_,h2 h9⟩⟩
 ·have:=codeOf_shift_lt hg h9
  have:=codeOf_shift_ge h9
  omega
 ·rw [hits_low hx h9]
  exact hl ⟨s,h9⟩ _ (codeOf_shift_ge h9) (codeOf_shift_lt hg h9)
theorem Tab.empty {lens : List Nat} (h : ∀ s,len lens s = 0) (ch : Nat → Nat) (lk : Nat → Nat → Nat) (nl nk : Nat) : Tab lens ch lk nl nk:=by
 intro s x hx
 have:=hx.1
 rw [h s] at this;omega
theorem Full.last {lens : List Nat} (h : Full lens) {mx : Nat} (hm : mx ≤ 15) (hz : ∀ n,mx < n → cnt lens n = 0) : first lens mx + cnt lens mx = 2 ^ mx:=by
 have : ∀ k,first lens (mx + k + 1) = 2 ^ (k + 1) * (first lens mx + cnt lens mx):=by
  intro k
  induction k with
  | zero => rw [Nat.add_zero,first_step]
  | succ k ih =>
   rw [show mx + (k + 1) + 1 = (mx + k + 1) + 1 by omega,first_step,ih,hz (mx + k + 1) (by omega),Nat.pow_succ 2 (k + 1)]
   rw [Nat.add_zero,← Nat.mul_assoc,Nat.mul_comm 2 (2 ^ (k + 1))]
 have h1:=this (15 - mx)
 rw [show mx + (15 - mx) + 1 = 16 by omega,h.2,show 15 - mx + 1 = 16 - mx by omega] at h1
 have e : (65536 : Nat) = 2 ^ (16 - mx) * 2 ^ mx:=by rw [← Nat.pow_add,show 16 - mx + mx = 16 by omega]
 rw [e] at h1
 exact (Nat.eq_of_mul_eq_mul_left (Nat.two_pow_pos _) h1).symm
end Go.Proofs.YthpapbilhjobnaaGreatDoor.Pu
