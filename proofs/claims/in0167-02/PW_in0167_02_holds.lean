import PyProof.Rows.All
import Wide.All
import OpenK.AllK
import Wide.FinOn
import OpenK.ZLast
import KE.KPop
import PyProof.ListRange
import PyProof.ListCopy
import PyProof.RangeFor
import KE.KSortAsk
import KE.KSortKey
import KE.KSortTup
import KE.LcSums
import PyProof.DictTable
import PyProof.DictKinds
import PyProof.IsiPairs
import PyProof.StrLawsReplace
import PyProof.StrLawsFrom
import Lean
import PySem.Challenge.RW_in0167_02
open PySem PySem.W PySem.Calls PyProof.Rows
open Nat (add_assoc add_comm add_le_add_right le_add_left le_add_right le_antisymm le_of_lt le_of_not_lt le_of_succ_le le_refl le_succ lt_irrefl lt_of_le_of_lt lt_of_lt_of_le lt_succ_of_le lt_succ_of_lt lt_succ_self lt_trans min_eq_left min_le_right mul_le_mul_left ne_of_gt ne_of_lt not_le not_lt sub_add_cancel sub_le sub_self succ_le_succ succ_ne_zero succ_pos zero_add zero_le)
open List (all_eq_true append_cons cons_append elem_iff flatMap_cons flatten_append flatten_cons foldl_append foldl_cons forIn_cons forIn_nil forall_mem_append forall_mem_nil length_drop length_nil length_range length_set length_take lookup_cons map_congr_left map_eq_nil_iff map_map mem_append mem_cons_of_mem mem_filter mem_map_of_mem mem_of_mem_drop mem_of_mem_take mem_range mem_reverse nil_append nodup_cons not_mem_nil of_mem_zip prefix_refl reverse_cons size_toArray sum_cons take_add_one take_length take_nil take_of_length_le take_succ_cons toArray zip_cons_cons)
open PySem.Str (ofString)
set_option genInjectivity false
set_option genSizeOf false
set_option Elab.async false
set_option linter.all false
set_option maxRecDepth 100000
set_option maxHeartbeats 0
namespace Mine.Internal
noncomputable abbrev Ai:=@wpAny_bind
noncomputable abbrev Ba:=@wpAny_mono
noncomputable abbrev Be:=@wpAny_pure
noncomputable abbrev Ao:=@Nat.le_trans
noncomputable abbrev Bu:=@List.length_append
noncomputable abbrev Bk:=@Nat.add_le_add
noncomputable abbrev Bt:=@Nat.le_of_eq
noncomputable abbrev Cr:=@Nat.le_of_ble_eq_true
noncomputable abbrev Ft:=@Heap.get?_push_of_some
noncomputable abbrev H7:=@List.getElem?_eq_some_iff
noncomputable abbrev Fz:=@List.getElem?_eq_getElem
noncomputable abbrev E3:=@List.forall_mem_cons
noncomputable abbrev B2:=@List.length_map
noncomputable abbrev Dg:=@List.prefix_append
noncomputable abbrev C4:=@List.append_assoc
noncomputable abbrev Ay:=@if_neg
noncomputable abbrev Bc:=@if_pos
noncomputable abbrev G8:=@List.length_cons
noncomputable abbrev Ro:=@List.getElem?_append_left
noncomputable abbrev V9:=@List.getElem?_append_right
noncomputable abbrev M2:=@List.mem_append_right
noncomputable abbrev Z5:=@List.mem_append_left
noncomputable abbrev K2:=@List.mem_singleton
noncomputable abbrev Ht:=@List.mem_cons_self
noncomputable abbrev Gb:=@List.map_cons
noncomputable abbrev Id:=@List.map_append
noncomputable abbrev G7:=@List.mem_map
noncomputable abbrev E1:=@List.mem_cons
noncomputable abbrev Pv:=@List.append_nil
theorem Ae {P0 P1:Prop}{C:Prop}(h:P0/\P1)(k:P0->P1->C):C:=k h.1 h.2
theorem At {P0 P1 P2:Prop}{C:Prop}(h:P0/\P1/\P2)(k:P0->P1->P2->C):C:=Ae h.2 (k h.1)
theorem Bn {P0 P1 P2 P3:Prop}{C:Prop}(h:P0/\P1/\P2/\P3)(k:P0->P1->P2->P3->C):C:=At h.2 (k h.1)
theorem B6 {P0 P1 P2 P3 P4:Prop}{C:Prop}(h:P0/\P1/\P2/\P3/\P4)(k:P0->P1->P2->P3->P4->C):C:=Bn h.2 (k h.1)
theorem Ad {T0:Sort _}{P0:T0->Prop}{C:Prop}(h:∃x0,P0 x0)(k:∀x0,P0 x0->C):C:=h.elim λx0 h=>k x0 h
theorem Ab {T0:Sort _}{P0 P1:T0->Prop}{C:Prop}(h:∃x0,P0 x0/\P1 x0)(k:∀x0,P0 x0->P1 x0->C):C:=h.elim λx0 h=>Ae h (k x0)
theorem Au {T0:Sort _}{P0 P1 P2:T0->Prop}{C:Prop}(h:∃x0,P0 x0/\P1 x0/\P2 x0)(k:∀x0,P0 x0->P1 x0->P2 x0->C):C:=h.elim λx0 h=>At h (k x0)
theorem Do {T0:Sort _}{P0 P1 P2 P3:T0->Prop}{C:Prop}(h:∃x0,P0 x0/\P1 x0/\P2 x0/\P3 x0)(k:∀x0,P0 x0->P1 x0->P2 x0->P3 x0->C):C:=h.elim λx0 h=>Bn h (k x0)
theorem Dn {T0:Sort _}{P0 P1 P2 P3 P4:T0->Prop}{C:Prop}(h:∃x0,P0 x0/\P1 x0/\P2 x0/\P3 x0/\P4 x0)(k:∀x0,P0 x0->P1 x0->P2 x0->P3 x0->P4 x0->C):C:=h.elim λx0 h=>B6 h (k x0)
theorem Jb {T0:Sort _}{T1:Sort _}{P0:T0->T1->Prop}{C:Prop}(h:∃x0 x1,P0 x0 x1)(k:∀x0 x1,P0 x0 x1->C):C:=h.elim λx0 h=>h.elim λx1 h=>k x0 x1 h
theorem A1 {T0:Sort _}{T1:Sort _}{P0 P1:T0->T1->Prop}{C:Prop}(h:∃x0 x1,P0 x0 x1/\P1 x0 x1)(k:∀x0 x1,P0 x0 x1->P1 x0 x1->C):C:=h.elim λx0 h=>h.elim λx1 h=>Ae h (k x0 x1)
theorem Ag {T0:Sort _}{T1:Sort _}{P0 P1 P2:T0->T1->Prop}{C:Prop}(h:∃x0 x1,P0 x0 x1/\P1 x0 x1/\P2 x0 x1)(k:∀x0 x1,P0 x0 x1->P1 x0 x1->P2 x0 x1->C):C:=h.elim λx0 h=>h.elim λx1 h=>At h (k x0 x1)
theorem Bz {T0:Sort _}{T1:Sort _}{P0 P1 P2 P3:T0->T1->Prop}{C:Prop}(h:∃x0 x1,P0 x0 x1/\P1 x0 x1/\P2 x0 x1/\P3 x0 x1)(k:∀x0 x1,P0 x0 x1->P1 x0 x1->P2 x0 x1->P3 x0 x1->C):C:=h.elim λx0 h=>h.elim λx1 h=>Bn h (k x0 x1)
theorem eG {T0:Sort _}{T1:Sort _}{T2:Sort _}{P0:T0->T1->T2->Prop}{C:Prop}(h:∃x0 x1 x2,P0 x0 x1 x2)(k:∀x0 x1 x2,P0 x0 x1 x2->C):C:=h.elim λx0 h=>h.elim λx1 h=>h.elim λx2 h=>k x0 x1 x2 h
theorem Ce {T0:Sort _}{T1:Sort _}{T2:Sort _}{P0 P1:T0->T1->T2->Prop}{C:Prop}(h:∃x0 x1 x2,P0 x0 x1 x2/\P1 x0 x1 x2)(k:∀x0 x1 x2,P0 x0 x1 x2->P1 x0 x1 x2->C):C:=h.elim λx0 h=>h.elim λx1 h=>h.elim λx2 h=>Ae h (k x0 x1 x2)
theorem Ez {T0:Sort _}{T1:Sort _}{T2:Sort _}{P0 P1 P2:T0->T1->T2->Prop}{C:Prop}(h:∃x0 x1 x2,P0 x0 x1 x2/\P1 x0 x1 x2/\P2 x0 x1 x2)(k:∀x0 x1 x2,P0 x0 x1 x2->P1 x0 x1 x2->P2 x0 x1 x2->C):C:=h.elim λx0 h=>h.elim λx1 h=>h.elim λx2 h=>At h (k x0 x1 x2)
theorem Dm {T0:Sort _}{T1:Sort _}{T2:Sort _}{P0 P1 P2 P3:T0->T1->T2->Prop}{C:Prop}(h:∃x0 x1 x2,P0 x0 x1 x2/\P1 x0 x1 x2/\P2 x0 x1 x2/\P3 x0 x1 x2)(k:∀x0 x1 x2,P0 x0 x1 x2->P1 x0 x1 x2->P2 x0 x1 x2->P3 x0 x1 x2->C):C:=h.elim λx0 h=>h.elim λx1 h=>h.elim λx2 h=>Bn h (k x0 x1 x2)
theorem Fp {T0:Sort _}{T1:Sort _}{T2:Sort _}{P0 P1 P2 P3 P4:T0->T1->T2->Prop}{C:Prop}(h:∃x0 x1 x2,P0 x0 x1 x2/\P1 x0 x1 x2/\P2 x0 x1 x2/\P3 x0 x1 x2/\P4 x0 x1 x2)(k:∀x0 x1 x2,P0 x0 x1 x2->P1 x0 x1 x2->P2 x0 x1 x2->P3 x0 x1 x2->P4 x0 x1 x2->C):C:=h.elim λx0 h=>h.elim λx1 h=>h.elim λx2 h=>B6 h (k x0 x1 x2)
theorem Gv {T0:Sort _}{T1:Sort _}{T2:Sort _}{P0 P1 P2 P3 P4 P5:T0->T1->T2->Prop}{C:Prop}(h:∃x0 x1 x2,P0 x0 x1 x2/\P1 x0 x1 x2/\P2 x0 x1 x2/\P3 x0 x1 x2/\P4 x0 x1 x2/\P5 x0 x1 x2)(k:∀x0 x1 x2,P0 x0 x1 x2->P1 x0 x1 x2->P2 x0 x1 x2->P3 x0 x1 x2->P4 x0 x1 x2->P5 x0 x1 x2->C):C:=h.elim λx0 h=>h.elim λx1 h=>h.elim λx2 h=>B6 h.2 (k x0 x1 x2 h.1)
theorem rL {T0:Sort _}{T1:Sort _}{T2:Sort _}{T3:Sort _}{P0:T0->T1->T2->T3->Prop}{C:Prop}(h:∃x0 x1 x2 x3,P0 x0 x1 x2 x3)(k:∀x0 x1 x2 x3,P0 x0 x1 x2 x3->C):C:=h.elim λx0 h=>h.elim λx1 h=>h.elim λx2 h=>h.elim λx3 h=>k x0 x1 x2 x3 h
theorem Q5 {T0:Sort _}{T1:Sort _}{T2:Sort _}{T3:Sort _}{P0 P1:T0->T1->T2->T3->Prop}{C:Prop}(h:∃x0 x1 x2 x3,P0 x0 x1 x2 x3/\P1 x0 x1 x2 x3)(k:∀x0 x1 x2 x3,P0 x0 x1 x2 x3->P1 x0 x1 x2 x3->C):C:=h.elim λx0 h=>h.elim λx1 h=>h.elim λx2 h=>h.elim λx3 h=>Ae h (k x0 x1 x2 x3)
theorem Ja {T0:Sort _}{T1:Sort _}{T2:Sort _}{T3:Sort _}{P0 P1 P2:T0->T1->T2->T3->Prop}{C:Prop}(h:∃x0 x1 x2 x3,P0 x0 x1 x2 x3/\P1 x0 x1 x2 x3/\P2 x0 x1 x2 x3)(k:∀x0 x1 x2 x3,P0 x0 x1 x2 x3->P1 x0 x1 x2 x3->P2 x0 x1 x2 x3->C):C:=h.elim λx0 h=>h.elim λx1 h=>h.elim λx2 h=>h.elim λx3 h=>At h (k x0 x1 x2 x3)
theorem C3 {T0:Sort _}{T1:Sort _}{T2:Sort _}{T3:Sort _}{P0 P1 P2 P3:T0->T1->T2->T3->Prop}{C:Prop}(h:∃x0 x1 x2 x3,P0 x0 x1 x2 x3/\P1 x0 x1 x2 x3/\P2 x0 x1 x2 x3/\P3 x0 x1 x2 x3)(k:∀x0 x1 x2 x3,P0 x0 x1 x2 x3->P1 x0 x1 x2 x3->P2 x0 x1 x2 x3->P3 x0 x1 x2 x3->C):C:=h.elim λx0 h=>h.elim λx1 h=>h.elim λx2 h=>h.elim λx3 h=>Bn h (k x0 x1 x2 x3)
theorem Cm {T0:Sort _}{T1:Sort _}{T2:Sort _}{T3:Sort _}{P0 P1 P2 P3 P4:T0->T1->T2->T3->Prop}{C:Prop}(h:∃x0 x1 x2 x3,P0 x0 x1 x2 x3/\P1 x0 x1 x2 x3/\P2 x0 x1 x2 x3/\P3 x0 x1 x2 x3/\P4 x0 x1 x2 x3)(k:∀x0 x1 x2 x3,P0 x0 x1 x2 x3->P1 x0 x1 x2 x3->P2 x0 x1 x2 x3->P3 x0 x1 x2 x3->P4 x0 x1 x2 x3->C):C:=h.elim λx0 h=>h.elim λx1 h=>h.elim λx2 h=>h.elim λx3 h=>B6 h (k x0 x1 x2 x3)
theorem Cd {T0:Sort _}{T1:Sort _}{T2:Sort _}{T3:Sort _}{P0 P1 P2 P3 P4 P5:T0->T1->T2->T3->Prop}{C:Prop}(h:∃x0 x1 x2 x3,P0 x0 x1 x2 x3/\P1 x0 x1 x2 x3/\P2 x0 x1 x2 x3/\P3 x0 x1 x2 x3/\P4 x0 x1 x2 x3/\P5 x0 x1 x2 x3)(k:∀x0 x1 x2 x3,P0 x0 x1 x2 x3->P1 x0 x1 x2 x3->P2 x0 x1 x2 x3->P3 x0 x1 x2 x3->P4 x0 x1 x2 x3->P5 x0 x1 x2 x3->C):C:=h.elim λx0 h=>h.elim λx1 h=>h.elim λx2 h=>h.elim λx3 h=>B6 h.2 (k x0 x1 x2 x3 h.1)
theorem Bj {T0:Sort _}{T1:Sort _}{T2:Sort _}{T3:Sort _}{T4:Sort _}{P0:T0->T1->T2->T3->T4->Prop}{C:Prop}(h:∃x0 x1 x2 x3 x4,P0 x0 x1 x2 x3 x4)(k:∀x0 x1 x2 x3 x4,P0 x0 x1 x2 x3 x4->C):C:=h.elim λx0 h=>h.elim λx1 h=>h.elim λx2 h=>h.elim λx3 h=>h.elim λx4 h=>k x0 x1 x2 x3 x4 h
theorem Mc {T0:Sort _}{T1:Sort _}{T2:Sort _}{T3:Sort _}{T4:Sort _}{P0 P1 P2 P3:T0->T1->T2->T3->T4->Prop}{C:Prop}(h:∃x0 x1 x2 x3 x4,P0 x0 x1 x2 x3 x4/\P1 x0 x1 x2 x3 x4/\P2 x0 x1 x2 x3 x4/\P3 x0 x1 x2 x3 x4)(k:∀x0 x1 x2 x3 x4,P0 x0 x1 x2 x3 x4->P1 x0 x1 x2 x3 x4->P2 x0 x1 x2 x3 x4->P3 x0 x1 x2 x3 x4->C):C:=h.elim λx0 h=>h.elim λx1 h=>h.elim λx2 h=>h.elim λx3 h=>h.elim λx4 h=>Bn h (k x0 x1 x2 x3 x4)
theorem Cq {T0:Sort _}{T1:Sort _}{T2:Sort _}{T3:Sort _}{T4:Sort _}{P0 P1 P2 P3 P4:T0->T1->T2->T3->T4->Prop}{C:Prop}(h:∃x0 x1 x2 x3 x4,P0 x0 x1 x2 x3 x4/\P1 x0 x1 x2 x3 x4/\P2 x0 x1 x2 x3 x4/\P3 x0 x1 x2 x3 x4/\P4 x0 x1 x2 x3 x4)(k:∀x0 x1 x2 x3 x4,P0 x0 x1 x2 x3 x4->P1 x0 x1 x2 x3 x4->P2 x0 x1 x2 x3 x4->P3 x0 x1 x2 x3 x4->P4 x0 x1 x2 x3 x4->C):C:=h.elim λx0 h=>h.elim λx1 h=>h.elim λx2 h=>h.elim λx3 h=>h.elim λx4 h=>B6 h (k x0 x1 x2 x3 x4)
theorem Aq {a b c d:Nat}(h:a<=b)(e:b+c<=a+d:=by simp +arith only[Nat.reducePow]):c<=d:=Nat.le_of_add_le_add_left (Ao (add_le_add_right h c) e)
theorem rM {a b:Nat}(h:a<=b)(e:autoParam (b+1<=a) Aq._auto_1):False:=lt_irrefl b (Ao e h)
theorem oK {n:Nat}{i:Int}(e:i=n):0<=i:=e▸Int.natCast_nonneg n
theorem fQ {n:Nat}{i:Int}(e:i=n):¬i<0:=Int.not_lt.2 (oK e)
theorem oX {n:Nat}{i:Int}(e:i=n): -2^63<=i:=Int.le_trans (by decide) (oK e)
theorem b6:5000000<=2^24:=by decide
theorem rN:5000000<2^62:=by decide
theorem Yz {n:Nat}{i:Int}(e:i=n)(h:n<2^62):i<2^63:=e▸Int.lt_trans (Int.ofNat_lt.2 h) (by decide)
theorem sW {n:Nat}{i:Int}(e:i=n)(h:n<=5000000):i<2^63:=Yz e (lt_of_le_of_lt h rN)
theorem Cv (a b:Nat):a<=a-b+b:=Nat.sub_le_iff_le_add.1 (le_refl _)
theorem iB {s o:Nat}(h:s<=o):o=s+(o-s):=(Nat.add_sub_cancel' h).symm
theorem eT {k i:Nat}(h:k<i):i-k=i-k-1+1:=(sub_add_cancel (Nat.sub_pos_of_lt h)).symm
theorem nH {k i:Nat}(h:k<i):i-k=i-(k+1)+1:=eT h
theorem pB (t:Nat):(↑(t+1):Int)+ -1=t:=Int.add_sub_cancel (t:Int) 1
theorem rF (t:Nat):(↑(t+1):Int)-1=t:=Int.add_sub_cancel (t:Int) 1
theorem iw {n:Nat}{i:Int}(e:i=n)(h:n<=5000000): -2^63<=i/\i<2^63:=⟨oX e,sW e h⟩
theorem qM {i:Int}(h0: -1073741824<i)(h:i<1073741824):i.natAbs<1073741824:=Int.ofNat_lt.1 ((Int.natAbs_eq i).elim (λe=>by rw[<-e];exact h) λe=>Int.neg_lt_neg_iff.1 (by rw[<-e];exact h0))
theorem nz (n:Nat):¬((n+1:Nat):Int)=0:=λh=>absurd (Int.ofNat_inj.1 h) (succ_ne_zero n)
theorem tn {k:Nat}{i:Int}(h:i.toNat=k+1):i=((k+1:Nat):Int):=match i,h with
 | .ofNat _,h=>congrArg Int.ofNat h
theorem qL {w:Int}(h:w.natAbs<=10): -(2^64)<w/\w<2^64:=by
 have h1:(w.natAbs:Int)<=10:=Int.ofNat_le.2 h
 exact⟨Int.lt_of_lt_of_le (by decide) (Int.le_trans (Int.neg_le_neg h1) (Int.neg_le_of_neg_le (by rw[<-Int.natAbs_neg];exact Int.le_natAbs))),Int.lt_of_le_of_lt (Int.le_trans Int.le_natAbs h1) (by decide)⟩
theorem kL (k:Nat):(0<=(-1:Int)+(k+1)/\(-1:Int)+(k+1)<k+1)/\((-1:Int)+(k+1)).toNat=k:=by
 rw[show(-1:Int)+(k+1)=k from(Int.add_comm _ _).trans (pB k)]
 exact⟨⟨Int.natCast_nonneg k,Int.lt_succ k⟩,rfl⟩
theorem sS {n:Nat}(h:¬0<n):n=0:=Nat.eq_zero_of_not_pos h
theorem H1 {α:Type _}{x:α}{P:Prop}(e:(none:Option α)=some x):P:=by cases e
theorem Rs {α:Type _}{l:List α}(h:l.length=2):∃x y,l=[x,y]:=by
 cases l with
 |nil=>cases h
 |cons x l=>
  cases l with
  |nil=>cases h
  |cons y l=>exact⟨x,y,by rw[List.eq_nil_of_length_eq_zero (Nat.succ.inj (Nat.succ.inj h))]⟩
theorem L7 {α:Sort _}{c:Prop}[i:Decidable c]{a b:α}(P:α->Prop)(h1:c->P a)(h2:¬c->P b):P (if c then a else b):=
 match i with
 | .isTrue h=>h1 h
 | .isFalse h=>h2 h
theorem Ax {α:Type}{M:Model}{A:Around}{t:Sem α}{Q:α->Shared->Prop}{E:Value->Shared->Prop}{s:Shared}(h:wpAny M A t Q E s):
  wpAny M A t (λa s'=>Q a s'/\s.toks<=s'.toks) E s:=Ba (wpAny_toks_of (le_refl _) h) (λ_ _ x=>x.symm) λ_ _ x=>x.2
inductive D where
 |none
 |bool (b:Bool)
 |int (i:Int)
 |str (l:List Nat)
 |tup (l:List D)
 |lst (l:List D)
 |obj (k:Nat)
 |raw (v:Value)
 |app (k:Nat)
 |rng (a b c:Int)
 |sem (P:(Addr->Option Obj)->Value->Prop)
abbrev Gh:=Addr->Option Obj
noncomputable def Gh.le (G G':Gh):Prop:=∀a o,G a=some o->G' a=some o
theorem Gh.le.refl (G:Gh):G.le G:=λ_ _ e=>e
theorem Gh.le.trans {G₁ G₂ G₃:Gh}(x:G₁.le G₂)(y:G₂.le G₃):G₁.le G₃:=λa o e=>y a o (x a o e)
noncomputable def En (a:Addr):Obj:={cls:=.type "builtin_function_or_method",data:=.fields #[.builtin "list.append",.ref a]}
noncomputable def Tf (G:Gh) (a:Addr) (T:String) (vs:List Value):Prop:=∃o,G a=some o/\o.cls=.type T/\∃n,o.data=.seq vs.toArray n
mutual
noncomputable def A7 (G:Gh) (ι:List Addr):D->Value->Prop
 | .none,v=>v=.none
 | .bool b,v=>v=.bool b
 | .int i,v=>∃t,v=.int i t
 | .str l,v=>∃t,v=.str ⟨l.toArray⟩ t
 | .tup l,v=>∃a vs,v=.ref a/\Tf G a "tuple" vs/\Rl G ι l vs
 | .lst l,v=>∃a vs,v=.ref a/\Tf G a "list" vs/\Rl G ι l vs
 | .obj k,v=>∃a,ι[k]? =some a/\v=.ref a
 | .raw w,v=>v=w
 | .rng a b c,v=>∃r t u w,v=.ref r/\G r=some {cls:=.type "range",data:=.fields #[.int a t,.int b u,.int c w]}
 | .app k,v=>∃m a,ι[k]? =some a/\v=.ref m/\G m=some (En a)
 | .sem P,v=>∃G₀:Gh,G₀.le G/\P G₀ v
noncomputable def Rl (G:Gh) (ι:List Addr):List D->List Value->Prop
 |[],vs=>vs=[]
 |d::ds,vs=>∃v r,vs=v::r/\A7 G ι d v/\Rl G ι ds r
end
noncomputable def Bp (ι ι':List Addr):Prop:=∀(k:Nat) (a:Addr),ι[k]? =some a->ι'[k]? =some a
theorem Bp.refl (ι:List Addr):Bp ι ι:=λ_ _ e=>e
theorem Bp.trans {a b c:List Addr}(x:Bp a b)(y:Bp b c):Bp a c:=λk e h=>y k e (x k e h)
theorem Bp.append (a b:List Addr):Bp a (a++b):=λk x h=>by
 rw[Ro];exact h
 exact(H7.mp h).1
theorem Gh.le.seqs {G G':Gh}(x:G.le G'){a:Addr}{T:String}{vs:List Value}(h:Tf G a T vs):Tf G' a T vs:=by refine Ab h λo e r=>?_;try clear h;exact⟨o,x _ _ e,r⟩
theorem A7.mono' {G G':Gh}{ι ι':List Addr}(hG:G.le G')(hι:Bp ι ι')(d:D):∀(v:Value),A7 G ι d v->A7 G' ι' d v:=by
 induction d using D.rec (motive_2:=λds=>∀vs,Rl G ι ds vs->Rl G' ι' ds vs)with
 |none=>exact λ_ h=>h
 |bool _=>exact λ_ h=>h
 |int _=>exact λ_ h=>h
 |str _=>exact λ_ h=>h
 |raw _=>exact λ_ h=>h
 |tup l ih=>exact λv h=>Ag h λa vs e s r=>⟨a,vs,e,hG.seqs s,ih vs r⟩
 |lst l ih=>exact λv h=>Ag h λa vs e s r=>⟨a,vs,e,hG.seqs s,ih vs r⟩
 |obj _=>exact λv h=>Ab h λa e h=>⟨a,hι _ _ e,h⟩
 |rng _ _ _=>exact λv h=>Q5 h λr t u w e h=>⟨r,t,u,w,e,hG _ _ h⟩
 |app _=>exact λv h=>Ag h λm a e ev h=>⟨m,a,hι _ _ e,ev,hG _ _ h⟩
 |sem _=>exact λv h=>Ab h λG₀ l p=>⟨G₀,l.trans hG,p⟩
 |nil _ h=>exact h
 |cons d ds ih1 ih2 vs h=>exact Ag h λv r e h t=>⟨v,r,e,ih1 v h,ih2 r t⟩
theorem Rl.mono' {G G':Gh}{ι ι':List Addr}(hG:G.le G')(hι:Bp ι ι')(ds:List D):∀(vs:List Value),Rl G ι ds vs->Rl G' ι' ds vs:=by
 induction ds with
 |nil=>exact λ_ h=>h
 |cons d ds ih=>exact λvs h=>Ag h λv r e h t=>⟨v,r,e,A7.mono' hG hι d v h,ih r t⟩
theorem A7.mono {G G':Gh}{ι ι':List Addr}{d:D}{v:Value}(h:A7 G ι d v)(hG:G.le G')(hι:Bp ι ι'):A7 G' ι' d v:=A7.mono' hG hι d v h
theorem Rl.mono {G G':Gh}{ι ι':List Addr}{d:List D}{v:List Value}(h:Rl G ι d v)(hG:G.le G')(hι:Bp ι ι'):Rl G' ι' d v:=Rl.mono' hG hι d v h
theorem Az {G:Gh}{ι:List Addr}{vs:List Value}(h:Rl G ι [] vs):vs=[]:=h
theorem Rl.length {G:Gh}{ι:List Addr}{ds:List D}:∀{vs:List Value},Rl G ι ds vs->vs.length=ds.length:=by
 induction ds with
 |nil=>exact λh=>congrArg List.length (show _=[]from h)
 |cons d ds ih=>exact λh=>Ag h λv r e _ t=>(congrArg List.length e).trans (congrArg Nat.succ (ih t))
theorem Rl.append {G:Gh}{ι:List Addr}{ds ds':List D}:∀{vs vs':List Value},Rl G ι ds vs->Rl G ι ds' vs'->Rl G ι (ds++ds') (vs++vs'):=by
 induction ds with
 |nil=>exact λ{_ vs'} h h'=>Eq.mpr (congrArg (λv=>Rl G ι ds' (v++vs')) (show _=[]from h)) h'
 |cons d ds ih=>exact λ{_ vs'} h h'=>Ag h λv r e x t=>⟨v,r++vs',congrArg (·++vs') e,x,ih t h'⟩
theorem Rl.getElem? {G:Gh}{ι:List Addr}{ds:List D}:∀{vs:List Value},Rl G ι ds vs->∀{k:Nat} {d:D},ds[k]? =some d->∃v,vs[k]? =some v/\A7 G ι d v:=by
 induction ds with
 |nil=>intro vs _ k d e;exact H1 e
 |cons d ds ih=>
  intro vs h k d' e'
  refine Ag h λv r e x t=>?_
  subst e
  cases k with
  |zero=>exact⟨v,rfl,Option.some.inj e'▸x⟩
  |succ k=>exact ih t e'
theorem Rl.snoc {G:Gh}{ι:List Addr}{ds:List D}{vs:List Value}{d:D}{v:Value}(h:Rl G ι ds vs)(x:A7 G ι d v):Rl G ι (ds++[d]) (vs++[v]):=
 Rl.append h ⟨v,[],rfl,x,rfl⟩
theorem Rl.take {G:Gh}{ι:List Addr}{ds:List D}:∀{vs:List Value},Rl G ι ds vs->∀n,Rl G ι (ds.take n) (vs.take n):=by
 induction ds with
 |nil=>intro vs h n;rw[show vs=[]from h,take_nil,take_nil];exact rfl
 |cons d ds ih=>
  intro vs h n
  cases n with
  |zero=>exact rfl
  |succ n=>exact Ag h λv r e x t=>⟨v,r.take n,congrArg (List.take (n+1)) e,x,ih t n⟩
theorem Rl.drop {G:Gh}{ι:List Addr}{ds:List D}:∀{vs:List Value},Rl G ι ds vs->∀n,Rl G ι (ds.drop n) (vs.drop n):=by
 induction ds with
 |nil=>intro vs h n;rw[show vs=[]from h,List.drop_nil,List.drop_nil];exact rfl
 |cons d ds ih=>
  intro vs h n
  cases n with
  |zero=>exact h
  |succ n=>exact Ag h λv r e x t=>Eq.mpr (congrArg (λw=>Rl G ι (ds.drop n) (List.drop (n+1) w)) e) (ih t n)
theorem Rl.set {G:Gh}{ι:List Addr}{ds:List D}:∀{vs:List Value},Rl G ι ds vs->∀(n:Nat) {d:D} {v:Value},A7 G ι d v->Rl G ι (ds.set n d) (vs.set n v):=by
 induction ds with
 |nil=>intro vs h n _ _ _;rw[show vs=[]from h,List.set_nil,List.set_nil];exact rfl
 |cons d ds ih=>
  intro vs h n d' v' y
  cases n with
  |zero=>exact Ag h λv r e x t=>⟨v',r,congrArg (List.set · 0 v') e,y,t⟩
  |succ n=>exact Ag h λv r e x t=>⟨v,r.set n v',congrArg (List.set · (n+1) v') e,x,ih t n y⟩
noncomputable def Sw:List Value->Prop
 | .int a _:: .int b _::_::r=>0<=a/\0<=b/\Sw r
 |_=>True
structure W where
 prog:Program
 w:World
 B:Heap
 mg:Str->Option Value
 mb:Str->Option Value
 tabs:List (Addr×Addr)
 codeOk:Addr->Pos->Gh->Value->Prop
structure W.Ok (Γ:W):Prop where
 g:Γ.B.Ns mainGlobals Γ.mg
 b:Γ.B.Ns builtinsNs Γ.mb
 nolimit:Γ.B.NoLimit
 bm:∃b o,Γ.mg "__builtins__"=some (.ref b)/\b≠builtinsNs/\b≠mainGlobals/\Γ.B.get? b=some o/\o.cls=.type "module"/\o.dict=some builtinsNs/\o.data=.plain
 tinj:∀p∈Γ.tabs,∀q∈Γ.tabs,p.2=q.2->p=q
 codeMono:∀P pos G G' c,G.le G'->Γ.codeOk P pos G c->Γ.codeOk P pos G' c
structure Cn (Γ:W)(G:Gh)(ι:List Addr)(own:List (List D))(h:Heap):Prop where
 base:∀a o,Γ.B.get? a=some o->G a=some o
 gin:∀a o,G a=some o->h.get? a=some o
 len:ι.length=own.length
 at_:∀(k:Nat) (a:Addr) (ds:List D),ι[k]? =some a->own[k]? =some ds->∃vs,h.PlainList a (toArray vs)/\Rl G ι ds vs
 nodup:ι.Nodup
 fresh:∀a∈ι,G a=none
 tabs:∀p∈Γ.tabs,G p.2=none/\p.2∉ι/\∃ps,h.TableAt p.1 p.2 ps/\h.IsCode p.1 p.2 ps/\(∃o,G p.1=some o)/\(∀pos c,codeAmong pos ps.toList=some c->Γ.codeOk p.2 pos G c)/\Sw ps.toList
theorem Cn.lt {Γ:W}{G:Gh}{ι:List Addr}{own:List (List D)}{h:Heap}(S:Cn Γ G ι own h):∀a∈ι,a<h.objs.size:=λa ha=>by
 obtain⟨k,hk,e⟩:=List.getElem_of_mem ha
 have e1:ι[k]? =some a:=by rw[Fz hk,e]
 have hk2:k<own.length:=S.len▸hk
 obtain⟨vs,⟨o,ho⟩,_⟩:=S.at_ k a own[k] e1 (Fz hk2)
 exact Heap.lt_size ho
theorem Cn.gfresh {Γ:W}{G:Gh}{ι:List Addr}{own:List (List D)}{h:Heap}(S:Cn Γ G ι own h):G h.objs.size=none:=by
 cases e:G h.objs.size with
 |none=>rfl
 |some o=>exact absurd (Heap.lt_size (S.gin _ _ e)) (lt_irrefl _)
theorem Cn.ext {Γ:W}{G:Gh}{ι:List Addr}{own:List (List D)}{h h':Heap}(S:Cn Γ G ι own h)
  (k:∀a o,(G a=some o\/a∈ι\/a∈Γ.tabs.map (·.2))->h.get? a=some o->h'.get? a=some o):Cn Γ G ι own h' where
 base:=S.base
 gin:=λa o e=>k a o (.inl e) (S.gin a o e)
 len:=S.len
 at_:=λn a ds e e'=>by
  refine Ab (S.at_ n a ds e e') λvs Z q=>?_
  refine Ad Z λo ho=>?_
  clear Z
  exact⟨vs,⟨o,k a _ (.inr (.inl (List.mem_of_getElem? e))) ho⟩,q⟩
 nodup:=S.nodup
 fresh:=S.fresh
 tabs:=λp hp=>by
  refine At (S.tabs p hp) λa b Y=>?_
  refine Do Y λps V ic U q=>?_
  clear Y
  refine Ae V λz0 t=>?_
  clear V
  refine A1 z0 λo vs e1 r1=>?_
  clear z0
  refine Ad U λog eg=>?_
  clear U
  have k1:∀o,h.get? p.1=some o->h'.get? p.1=some o:=λo ho=>k _ _ (.inl (by have:=S.gin _ _ eg;rw[this]at ho;cases ho;exact eg)) ho
  have k2:∀o,h.get? p.2=some o->h'.get? p.2=some o:=λo ho=>k _ _ (.inr (.inr (mem_map_of_mem hp))) ho
  refine⟨a,b,ps,⟨⟨o,vs,k1 _ e1,r1⟩,k2 _ t⟩,?_,⟨og,eg⟩,q⟩
  refine Bj ic λo vs file tf flags zz=>Cq zz λtg inF text tt op a1 r1 r2 r3 zz=>B6 zz λr4 r5 r6 b1 r=>?_
  try clear ic
  exact⟨o,vs,file,tf,flags,tg,inF,text,tt,op,k1 _ a1,r1,r2,r3,r4,r5,r6,k2 _ b1,r⟩
theorem Cn.freeze {Γ:W}(ok:Γ.Ok){G G':Gh}{ι:List Addr}{own:List (List D)}{h:Heap}(S:Cn Γ G ι own h)(le:G.le G')(hin:∀a o,G' a=some o->h.get? a=some o)
  (hn:∀a∈ι,G' a=none)(ht:∀a∈Γ.tabs.map (·.2),G' a=none):Cn Γ G' ι own h where
 base:=λa o e=>le a o (S.base a o e)
 gin:=hin
 len:=S.len
 at_:=λn a ds e e'=>by
  refine Ab (S.at_ n a ds e e') λvs q r=>?_
  exact⟨vs,q,r.mono le (Bp.refl _)⟩
 nodup:=S.nodup
 fresh:=hn
 tabs:=λp hp=>by
  refine At (S.tabs p hp) λa b Z=>?_
  refine Do Z λps t ic Y q=>?_
  clear Z
  refine Ad Y λog eg=>?_
  clear Y
  exact⟨ht _ (mem_map_of_mem hp),b,ps,t,ic,⟨og,le _ _ eg⟩,λpos c e=>ok.codeMono _ _ _ _ _ le (q.1 pos c e),q.2⟩
structure St where
 loc:List (String×D)
 own:List (List D)
 ro:List String:=[]
noncomputable def St.get (σ:St) (x:String):Option D:=σ.loc.lookup x
noncomputable def eW (x:String) (d:D):List (String×D)->List (String×D)
 |[]=>[(x,d)]
 |p::r=>if p.1=x then(x,d)::r else p::eW x d r
noncomputable def St.set (σ:St) (x:String) (d:D):St:={σ with loc:=eW x d σ.loc}
theorem lk (y:String)(p:String×D)(r:List (String×D)):List.lookup y (p::r)=if y=p.1 then some p.2 else List.lookup y r:=by
 refine lookup_cons.trans ?_
 by_cases h:y=p.1
 ·rw[Bc h,beq_iff_eq.mpr h]
 ·rw[Ay h,beq_false_of_ne h]
theorem Ku (x:String)(d:D)(l:List (String×D))(y:String):(eW x d l).lookup y=if y=x then some d else l.lookup y:=by
 induction l with
 |nil=>exact lk y (x,d) []
 |cons p r ih=>
  refine L7 (c:=p.1=x) (λl=>List.lookup y l=_) (λhp=>?_) λhp=>?_
  ·rw[lk,lk,hp]
   by_cases h:y=x
   ·rw[Bc h,Bc h]
   ·rw[Ay h,Ay h,Ay h]
  ·rw[lk,lk,ih]
   by_cases h:y=p.1
   ·rw[Bc h,Bc h,Ay λe=>hp (h▸e)]
   ·rw[Ay h,Ay h]
theorem Bg {x y:String}(h:ofString x=ofString y):x=y:=by
 rw[Str.ofString_eq_toList,Str.ofString_eq_toList]at h
 have h':x.toList.map Char.toNat=y.toList.map Char.toNat:=by simpa using h
 have:x.toList=y.toList:=(List.map_inj_right (λa b e=>by
  have:a.val.toNat=b.val.toNat:=e
  exact Char.ext (UInt32.toNat_inj.mp this))).mp h'
 exact String.toList_inj.mp this
structure Cj where
 os:OsState
 gens:Array GenState
 old:Gh
noncomputable def A4 (g g':Array GenState):Prop:=g.size<=g'.size/\(∀i,i<g.size->g'[i]? =g[i]?)/\∀i x,g.size<=i->g'[i]? =some x->x.bare=true
theorem A4.refl (g:Array GenState):A4 g g:=⟨le_refl _,λ_ _=>rfl,λi x h e=>by
 have:=Array.getElem?_eq_none (xs:=g) h;rw[this]at e;cases e⟩
theorem A4.trans {a b c:Array GenState}(x:A4 a b)(y:A4 b c):A4 a c:=
 ⟨Ao x.1 y.1,λi h=>(y.2.1 i (lt_of_lt_of_le h x.1)).trans (x.2.1 i h),λi z h e=>by
  by_cases hb:i<b.size
  ·rw[y.2.1 i hb]at e;exact x.2.2 i z h e
  ·exact y.2.2 i z (le_of_not_lt hb) e⟩
noncomputable def Mw (K:Cj) (env:Env) (m:Str->Option Value) (h:Heap) (G:Gh) (ι:List Addr) (x:Str) (d:D):Prop:=
 (env.kindOf x=some .local/\∃v,m x=some v/\A7 G ι d v)\/
 (env.kindOf x=some .cell/\∃c v,env.cells.lookup x=some c/\h.IsCell c (some v)/\A7 G ι d v)\/
 (env.kindOf x=some .free/\∃c o v,env.cells.lookup x=some c/\(G c=some o\/K.old c=some o)/\o.data=.cell (some v)/\A7 G ι d v)
noncomputable def Jm (env:Env) (a:Addr):Prop:=a=env.locals\/∃x,env.kindOf x=some .cell/\env.cells.lookup x=some a
structure Aa (Γ:W)(K:Cj)(env:Env)(G:Gh)(ι:List Addr)(σ:St)(s:Shared):Prop where
 store:Cn Γ G ι σ.own s.heap
 ns:∃m,s.heap.Ns env.locals m/\∀x d,σ.get x=some d->Mw K env m s.heap G ι (ofString x) d
 loc:G env.locals=none
 away:∀a,Jm env a->a∉ι/\a∉Γ.tabs.map (·.2)
 cell:∀x c,env.kindOf x=some .cell->env.cells.lookup x=some c->c≠env.locals/\(∃v,s.heap.IsCell c v)/\(∀y,env.kindOf y=some .cell->env.cells.lookup y=some c->y=x)/\
  ∀z,x=ofString z->z∉σ.ro->G c=none/\K.old c=none
 freeIn:∀x c,env.kindOf x=some .free->env.cells.lookup x=some c->∃o,G c=some o\/K.old c=some o
 far:∀a o,K.old a=some o->s.heap.get? a=some o/\G a=none/\a∉ι/\a∉Γ.tabs.map (·.2)/\a≠env.locals
 os:s.os=K.os
 gens:A4 K.gens s.gens
 tk:0<s.toks
section
theorem Vc {l:List Addr}(h:l.Nodup){i j:Nat}(hi:i<l.length)(hj:j<l.length)(e:l[i]=l[j]):i=j:=by
 have p:=List.pairwise_iff_getElem.mp h
 rcases Nat.lt_trichotomy i j with q|q|q
 ·exact absurd e (p i j hi hj q)
 ·exact q
 ·exact absurd e.symm (p j i hj hi q)
section frame
variable {Γ:W}{K K':Cj}{env:Env}{G G':Gh}{ι:List Addr}{σ:St}{s:Shared}
theorem Mw.mono {m:Str->Option Value}{h h':Heap}{ι':List Addr}{x:Str}{d:D}(n:Mw K env m h G ι x d)(hr:∀v,A7 G ι d v->A7 G' ι' d v)
  (hc:∀c v,env.kindOf x=some .cell->env.cells.lookup x=some c->h.IsCell c v->h'.IsCell c v)(hg:∀c o,G c=some o\/K.old c=some o->G' c=some o\/K'.old c=some o):Mw K' env m h' G' ι' x d:=by
 rcases n with⟨k,v,e,r⟩|⟨k,c,v,e,i,r⟩|⟨k,c,o,v,e,i,od,r⟩
 ·exact .inl ⟨k,v,e,hr v r⟩
 ·exact .inr (.inl ⟨k,c,v,e,hc c _ k e i,hr v r⟩)
 ·exact .inr (.inr ⟨k,c,o,v,e,hg c o i,od,hr v r⟩)
theorem Fc (le:G.le G'){c:Addr}{o:Obj}(h:G c=some o\/K.old c=some o):G' c=some o\/K.old c=some o:=h.imp (le _ _) id
theorem Z2 (_:True:=by solve_by_elim [succ_pos,Aa.tk,A4.refl]):True:=trivial
theorem Aa.ext (F:Aa Γ K env G ι σ s){h':Heap}{t:Nat}{g:Array GenState}{dr:Drawn}
  (k:∀a o,(G a=some o\/a∈ι\/a∈Γ.tabs.map (·.2)\/Jm env a\/K.old a=some o)->s.heap.get? a=some o->h'.get? a=some o)
  (hg:autoParam (A4 s.gens g) Z2._auto_1)(ht:autoParam (0<t) Z2._auto_1):Aa Γ K env G ι σ ⟨h',g,dr,t,s.os⟩ where
 tk:=ht
 store:=F.store.ext λa o hh=>k a o (by rcases hh with h|h|h;exact .inl h;exact .inr (.inl h);exact .inr (.inr (.inl h)))
 ns:=by
  refine Ab F.ns λm Z q=>?_
  refine Ce Z λo es ep ho r=>?_
  clear Z
  refine⟨m,⟨o,es,ep,k _ _ (.inr (.inr (.inr (.inl (.inl rfl))))) ho,r⟩,λx d e=>(q x d e).mono (λ_ r=>r) ?_ (λ_ _ e=>e)⟩
  intro c v hk hl Y
  refine Ab Y λo ho hd=>?_
  clear Y
  exact⟨o,k _ _ (.inr (.inr (.inr (.inl (.inr ⟨_,hk,hl⟩))))) ho,hd⟩
 loc:=F.loc
 away:=F.away
 cell:=λx c hk hl=>by
  refine At (F.cell x c hk hl) λc1 V c3=>?_
  refine A1 V λv o ho hd=>?_
  clear V
  exact⟨c1,⟨v,o,k _ _ (.inr (.inr (.inr (.inl (.inr ⟨x,hk,hl⟩))))) ho,hd⟩,c3⟩
 freeIn:=F.freeIn
 far:=λa o e=>⟨k a o (.inr (.inr (.inr (.inr e)))) (F.far a o e).1,(F.far a o e).2⟩
 os:=F.os
 gens:=F.gens.trans hg
theorem Aa.toks (F:Aa Γ K env G ι σ s)(t:Nat)(ht:autoParam (0<t) Z2._auto_1):Aa Γ K env G ι σ {s with toks:=t}:=
 F.ext (λ_ _ _ e=>e)
theorem Aa.push (F:Aa Γ K env G ι σ s)(o:Obj)(t:Nat)(ht:autoParam (0<t) Z2._auto_1):Aa Γ K env G ι σ {s with heap:=s.heap.push o,toks:=t}:=
 F.ext (λ_ _ _ e=>Ft o e)
theorem Aa.keepsTo (F:Aa Γ K env G ι σ s){h':Heap}(k:∀a o,s.heap.get? a=some o->h'.get? a=some o)(t:Nat)(ht:autoParam (0<t) Z2._auto_1):
  Aa Γ K env G ι σ {s with heap:=h',toks:=t}:=F.ext (λa o _ e=>k a o e)
theorem Aa.own_lt (F:Aa Γ K env G ι σ s){a:Addr}(ha:Jm env a):a<s.heap.objs.size:=by
 rcases ha with rfl|⟨x,hk,hl⟩
 ·refine Ab F.ns λm hn _=>?_;exact hn.lt
 ·refine At (F.cell x a hk hl) λ_ Z _=>?_
  refine Ad Z λv hc=>?_
  clear Z;exact hc.lt
noncomputable def Gh.put (G:Gh) (a:Addr) (o:Obj):Gh:=λb=>if b=a then some o else G b
theorem Gh.put_le {a:Addr}{o:Obj}(hn:G a=none):G.le (G.put a o):=λb p e=>by
 unfold Gh.put
 by_cases h:b=a
 ·subst h;rw[hn]at e;cases e
 ·rw[Ay h];exact e
theorem Gh.put_self (G:Gh)(a:Addr)(o:Obj):G.put a o a=some o:=by unfold Gh.put;rw[Bc rfl]
theorem Gh.put_ne {a b:Addr}{o:Obj}(h:b≠a):G.put a o b=G b:=by unfold Gh.put;rw[Ay h]
theorem Aa.freeze (ok:Γ.Ok)(F:Aa Γ K env G ι σ s){ro:List String}(le:G.le G')(hin:∀a o,G' a=some o->s.heap.get? a=some o)
  (hn:∀a,(a∈ι\/a∈Γ.tabs.map (·.2)\/a=env.locals\/K.old a≠none)->G' a=none)
  (hr:∀x c,env.kindOf x=some .cell->env.cells.lookup x=some c->∀z,x=ofString z->z∉ro->G' c=none/\K.old c=none):Aa Γ K env G' ι {σ with ro:=ro} s where
 store:=F.store.freeze ok le hin (λa h=>hn a (.inl h)) (λa h=>hn a (.inr (.inl h)))
 ns:=by
  refine Ab F.ns λm hm q=>?_
  exact⟨m,hm,λx d e=>(q x d e).mono (λv r=>r.mono le (Bp.refl _)) (λ_ _ _ _ i=>i) (λc o=>Fc le)⟩
 tk:=F.tk
 loc:=hn _ (.inr (.inr (.inl rfl)))
 away:=F.away
 cell:=λx c hk hl=>by refine Bn (F.cell x c hk hl) λa b d _=>?_;exact⟨a,b,d,hr x c hk hl⟩
 freeIn:=λx c hk hl=>by refine Ad (F.freeIn x c hk hl) λo e=>?_;exact⟨o,Fc le e⟩
 far:=λa o e=>⟨(F.far a o e).1,hn a (.inr (.inr (.inr (by rw[e];exact Option.some_ne_none _)))),(F.far a o e).2.2⟩
 os:=F.os
 gens:=F.gens
theorem Aa.lt_own (F:Aa Γ K env G ι σ s){a:Addr}(h:G a≠none\/a∈ι\/a∈Γ.tabs.map (·.2)\/Jm env a\/K.old a≠none):a<s.heap.objs.size:=by
 rcases h with h|h|h|h|h
 ·cases e:G a with
  |none=>exact absurd e h
  |some o=>exact Heap.lt_size (F.store.gin _ _ e)
 ·exact F.store.lt a h
 ·refine Ab (G7.mp h) λp hp V=>?_
  subst V
  refine At (F.store.tabs p hp) λ_ _ Z=>?_
  refine Ab Z λps Y _=>?_
  clear Z
  refine Ae Y λ_ t=>?_
  clear Y
  exact Heap.lt_size t
 ·exact F.own_lt h
 ·cases e:K.old a with
  |none=>exact absurd e h
  |some o=>exact Heap.lt_size (F.far _ _ e).1
theorem Aa.alloc (ok:Γ.Ok)(F:Aa Γ K env G ι σ s){o:Obj}(hf:o.isFreed=false)(t:Nat)(ht:autoParam (0<t) Z2._auto_1):
  G.le (G.put s.heap.objs.size o)/\Aa Γ K env (G.put s.heap.objs.size o) ι σ {s with heap:=s.heap.push o,toks:=t}:=by
 have le:=Gh.put_le (o:=o) F.store.gfresh
 have ne:∀a,(a∈ι\/a∈Γ.tabs.map (·.2)\/Jm env a\/K.old a≠none)->a≠s.heap.objs.size:=λa h=>ne_of_lt (F.lt_own (.inr h))
 refine⟨le,(F.push o t).freeze ok le (λa p e=>?_) (λa ha=>?_) λx c hk hl z hx hz=>?_⟩
 ·unfold Gh.put at e
  split at e
  ·rename_i h;subst h;cases e;exact Heap.get?_push_size _ hf
  ·exact Ft _ (F.store.gin a p e)
 ·rw[Gh.put_ne (ne a (by rcases ha with h|h|h|h;exact .inl h;exact .inr (.inl h);exact .inr (.inr (.inl (.inl h)));exact .inr (.inr (.inr h))))]
  rcases ha with h|h|h|h
  ·exact F.store.fresh a h
  ·refine Ab (G7.mp h) λp hp Z=>?_
   subst Z;exact(F.store.tabs p hp).1
  ·rw[h];exact F.loc
  ·cases e:K.old a with
   |none=>exact absurd e h
   |some o=>exact(F.far a o e).2.1
 ·have q:=(F.cell x c hk hl).2.2.2 z hx hz
  exact⟨by rw[Gh.put_ne (ne c (.inr (.inr (.inl (.inr ⟨x,hk,hl⟩)))))];exact q.1,q.2⟩
theorem La {a b:NameKind}{x:Option NameKind}(h:x=some a)(h':x=some b)(n:a≠b):False:=by rw[h]at h';cases h';exact n rfl
theorem Aa.setLocal (F:Aa Γ K env G ι σ s){x:String}{d:D}{v:Value}{h':Heap}{m':Str->Option Value}(hk:env.kindOf (ofString x)=some .local)(r:A7 G ι d v)
  (hm:∃m,s.heap.Ns env.locals m/\(∀x d,σ.get x=some d->Mw K env m s.heap G ι (ofString x) d)/\m'=λy=>if y=ofString x then some v else m y)
  (hn:h'.Ns env.locals m')(hs:Heap.SameBut env.locals s.heap h')(t:Nat)(ht:autoParam (0<t) Z2._auto_1):
  Aa Γ K env G ι (σ.set x d) {s with heap:=h',toks:=t}:=by
 have aw:=F.away _ (.inl rfl)
 have kk:∀a o,a≠env.locals->s.heap.get? a=some o->h'.get? a=some o:=λa o h e=>(hs.2 a h).trans e
 refine⟨F.store.ext λa o hh e=>kk a o (λq=>?_) e,?_,F.loc,F.away,λy c hk' hl'=>?_,F.freeIn,λa o e=>?_,F.os,F.gens,ht⟩
 ·subst q
  rcases hh with h|h|h
  ·rw[F.loc]at h;cases h
  ·exact aw.1 h
  ·exact aw.2 h
 ·refine Au hm λm Y q V=>?_
  try clear hm
  revert Y
  intro hm
  subst V
  refine⟨_,hn,λy d' e=>?_⟩
  unfold St.get St.set at e
  rw[Ku]at e
  split at e
  ·rename_i hy;subst hy;cases e
   exact .inl ⟨hk,v,by simp,r⟩
  ·rename_i hy
   rcases q y d' e with⟨k,v',e',r'⟩|⟨k,c,v',e',⟨o,ho,hd⟩,r'⟩|z
   ·exact .inl ⟨k,v',by dsimp only;rw[Ay (λz=>hy (Bg z))];exact e',r'⟩
   ·exact .inr (.inl ⟨k,c,v',e',⟨o,kk _ _ (F.cell _ _ k e').1 ho,hd⟩,r'⟩)
   ·exact .inr (.inr z)
 ·refine At (F.cell y c hk' hl') λc1 Z c3=>?_
  refine A1 Z λv' o ho hd=>?_
  clear Z
  exact⟨c1,⟨v',o,kk _ _ c1 ho,hd⟩,c3⟩
 ·have f:=F.far a o e
  exact⟨kk a o (λz=>f.2.2.2.2 z) f.1,f.2⟩
theorem Aa.setCell (F:Aa Γ K env G ι σ s){x:String}{d:D}{v:Value}{h':Heap}{c:Addr}(hk:env.kindOf (ofString x)=some .cell)(hc:env.cells.lookup (ofString x)=some c)(hro:x∉σ.ro)(r:A7 G ι d v)
  (hn:h'.IsCell c (some v))(hs:Heap.SameBut c s.heap h'):
  Aa Γ K env G ι (σ.set x d) {s with heap:=h'}:=by
 have aw:=F.away c (.inr ⟨_,hk,hc⟩)
 have kk:∀a o,a≠c->s.heap.get? a=some o->h'.get? a=some o:=λa o h e=>(hs.2 a h).trans e
 have cl:=F.cell _ _ hk hc
 refine⟨F.store.ext λa o hh e=>kk a o (λq=>?_) e,?_,F.loc,F.away,λy c' hk' hl'=>?_,F.freeIn,λa o e=>?_,F.os,F.gens,F.tk⟩
 ·subst q
  rcases hh with h|h|h
  ·rw[(cl.2.2.2 x rfl hro).1]at h;cases h
  ·exact aw.1 h
  ·exact aw.2 h
 ·refine Ab F.ns λm Z q=>?_
  refine Ce Z λo es ep ho r'=>?_
  clear Z
  refine⟨m,⟨o,es,ep,kk _ _ (λz=>cl.1 z.symm) ho,r'⟩,λy d' e=>?_⟩
  unfold St.get St.set at e
  rw[Ku]at e
  split at e
  ·rename_i hy;subst hy;cases e
   exact .inr (.inl ⟨hk,c,v,hc,hn,r⟩)
  ·rename_i hy
   rcases q y d' e with z|⟨k,c',v',e',⟨o,ho,hd⟩,r'⟩|z
   ·exact .inl z
   ·refine .inr (.inl ⟨k,c',v',e',⟨o,kk _ _ (λz=>?_) ho,hd⟩,r'⟩)
    subst z
    exact hy (Bg (cl.2.2.1 _ k e'))
   ·exact .inr (.inr z)
 ·refine At (F.cell y c' hk' hl') λc1 Y c3=>?_
  refine A1 Y λv' o ho hd=>?_
  clear Y
  by_cases q:c'=c
  ·subst q;exact⟨c1,⟨_,hn⟩,c3⟩
  ·exact⟨c1,⟨v',o,kk _ _ q ho,hd⟩,c3⟩
 ·have f:=F.far a o e
  exact⟨kk a o (λz=>by subst z;rw[(cl.2.2.2 x rfl hro).2]at e;cases e) f.1,f.2⟩
theorem Aa.setOwn (F:Aa Γ K env G ι σ s){k:Nat}{a:Addr}{ds':List D}{vs':List Value}{h':Heap}(hk:ι[k]? =some a)(r:Rl G ι ds' vs')
  (hn:h'.PlainList a vs'.toArray)(hs:Heap.SameBut a s.heap h')(t:Nat)(ht:autoParam (0<t) Z2._auto_1):
  Aa Γ K env G ι {σ with own:=σ.own.set k ds'} {s with heap:=h',toks:=t}:=by
 have ha:a∈ι:=List.mem_of_getElem? hk
 have kk:∀b o,b≠a->s.heap.get? b=some o->h'.get? b=some o:=λb o h e=>(hs.2 b h).trans e
 have no:∀b,Jm env b->b≠a:=λb hb e=>by subst e;exact(F.away b hb).1 ha
 have ng:∀b o,G b=some o->b≠a:=λb o e q=>by subst q;rw[F.store.fresh b ha]at e;cases e
 have nt:∀p∈Γ.tabs,p.2≠a:=λp hp q=>(F.store.tabs p hp).2.1 (q▸ha)
 refine⟨⟨F.store.base,λb o e=>kk b o (ng b o e) (F.store.gin b o e),?_,?_,F.store.nodup,F.store.fresh,λp hp=>?_⟩,?_,F.loc,F.away,λy c hk' hl'=>?_,F.freeIn,λb o e=>?_,F.os,F.gens,ht⟩
 ·show ι.length=(σ.own.set k ds').length;rw[length_set];exact F.store.len
 ·intro n b ds e e'
  by_cases q:n=k
  ·subst q
   rw[hk]at e;cases e
   have hlt:n<σ.own.length:=F.store.len▸(H7.mp hk).1
   have:ds=ds':=by simpa[List.getElem?_set,hlt]using e'.symm
   subst this
   exact⟨vs',hn,r⟩
  ·have e'':σ.own[n]? =some ds:=by
    have:(σ.own.set k ds')[n]? =some ds:=e'
    rwa [List.getElem?_set_ne (λz=>q z.symm)]at this
   refine Ab (F.store.at_ n b ds e e'') λvs Z rl=>?_
   refine Ad Z λo ho=>?_
   clear Z
   have:b≠a:=λz=>by
    subst z
    have l1:=(H7.mp e)
    have l2:=(H7.mp hk)
    exact q (Vc F.store.nodup l1.1 l2.1 (l1.2.trans l2.2.symm))
   exact⟨vs,⟨o,kk b _ this ho⟩,rl⟩
 ·refine At (F.store.tabs p hp) λa1 b1 Y=>?_
  refine Do Y λps tt ic V q=>?_
  clear Y
  refine Ad V λog eg=>?_
  clear V
  exact⟨a1,b1,ps,tt.sameBut hs (ng _ _ eg) (nt p hp),ic.sameBut hs (ng _ _ eg) (nt p hp),⟨og,eg⟩,q⟩
 ·refine Ab F.ns λm U q=>?_
  refine Ce U λo es ep ho r'=>?_
  clear U
  refine⟨m,⟨o,es,ep,kk _ _ (no _ (.inl rfl)) ho,r'⟩,λx d e=>(q x d e).mono (λ_ r=>r) ?_ (λ_ _ e=>e)⟩
  intro c v hk' hl z0
  refine Ab z0 λo ho hd=>?_
  clear z0
  exact⟨o,kk _ _ (no _ (.inr ⟨_,hk',hl⟩)) ho,hd⟩
 ·refine At (F.cell y c hk' hl') λc1 z1 c3=>?_
  refine A1 z1 λv' o ho hd=>?_
  clear z1
  exact⟨c1,⟨v',o,kk _ _ (no c (.inr ⟨y,hk',hl'⟩)) ho,hd⟩,c3⟩
 ·have f:=F.far b o e
  exact⟨kk b o (λz=>f.2.2.1 (z▸ha)) f.1,f.2⟩
theorem Aa.newOwn (F:Aa Γ K env G ι σ s){ds:List D}{vs:List Value}(r:Rl G ι ds vs)(n t:Nat)(ht:autoParam (0<t) Z2._auto_1):
  Aa Γ K env G (ι++[s.heap.objs.size]) {σ with own:=σ.own++[ds]} {s with heap:=s.heap.push {cls:=.type "list",data:=.seq vs.toArray n},toks:=t}:=by
 have F':=F.push {cls:=.type "list",data:=.seq vs.toArray n} t
 have nlt:s.heap.objs.size∉ι:=λh=>lt_irrefl _ (F.store.lt _ h)
 have pr:=Bp.append ι [s.heap.objs.size]
 have nin:∀b,b∉ι->b≠s.heap.objs.size->b∉ι++[s.heap.objs.size]:=λb h1 h2 h=>by
  rcases mem_append.mp h with h|h
  ·exact h1 h
  ·rw[K2]at h;exact h2 h
 refine⟨⟨F'.store.base,F'.store.gin,?_,?_,?_,?_,λp hp=>?_⟩,?_,F.loc,λb hb=>?_,F'.cell,F.freeIn,λb o e=>?_,F.os,F.gens,ht⟩
 ·simp[F.store.len]
 ·intro k a ds' e e'
  by_cases hn:k<ι.length
  ·rw[Ro hn]at e
   rw[Ro (F.store.len▸hn)]at e'
   refine Ab (F'.store.at_ k a ds' e e') λvs' q rl=>?_
   exact⟨vs',q,rl.mono (Gh.le.refl _) pr⟩
  ·have e2:k=ι.length:=by
    have:=(H7.mp e).1
    rw[Bu,List.length_singleton]at this;exact le_antisymm (Aq this) (Aq (not_lt.1 hn))
   subst e2
   rw[V9 (le_refl _),sub_self]at e
   rw[F.store.len,V9 (le_refl _),sub_self]at e'
   cases e;cases e'
   exact⟨vs,⟨n,Heap.get?_push_size _ rfl⟩,r.mono (Gh.le.refl _) pr⟩
 ·exact List.nodup_append.mpr ⟨F.store.nodup,by simp,λa ha b hb=>by rw[K2]at hb;subst hb;exact λz=>nlt (z▸ha)⟩
 ·intro a ha
  rcases mem_append.mp ha with h|h
  ·exact F.store.fresh a h
  ·rw[K2]at h;subst h;exact F.store.gfresh
 ·refine At (F'.store.tabs p hp) λa1 b1 rest=>?_
  exact⟨a1,nin _ b1 (ne_of_lt (F.lt_own (a:=p.2) (.inr (.inr (.inl (mem_map_of_mem hp)))))),rest⟩
 ·refine Ab F'.ns λm hm q=>?_
  exact⟨m,hm,λx d e=>(q x d e).mono (λv r=>r.mono (Gh.le.refl _) pr) (λ_ _ _ _ i=>i) (λ_ _ e=>e)⟩
 ·exact⟨nin _ (F'.away b hb).1 (ne_of_lt (F.own_lt hb)),(F'.away b hb).2⟩
 ·have f:=F'.far b o e
  exact⟨f.1,f.2.1,nin _ f.2.2.1 (ne_of_lt (F.lt_own (.inr (.inr (.inr (.inr (by rw[e];exact Option.some_ne_none _))))))),f.2.2.2⟩
theorem Aa.roCell (ok:Γ.Ok)(F:Aa Γ K env G ι σ s){x:String}{c:Addr}{o:Obj}(hk:env.kindOf (ofString x)=some .cell)(hc:env.cells.lookup (ofString x)=some c)(hro:x∉σ.ro)(ho:s.heap.get? c=some o):
  G.le (G.put c o)/\Aa Γ K env (G.put c o) ι {σ with ro:=x::σ.ro} s:=by
 have cl:=F.cell _ _ hk hc
 have aw:=F.away c (.inr ⟨_,hk,hc⟩)
 have le:=Gh.put_le (o:=o) (cl.2.2.2 x rfl hro).1
 refine⟨le,F.freeze ok le (λa p e=>?_) (λa ha=>?_) λy c' hk' hl z hy hz=>?_⟩
 ·unfold Gh.put at e
  split at e
  ·rename_i h;subst h;cases e;exact ho
  ·exact F.store.gin a p e
 ·have ne:a≠c:=by
   rintro rfl
   rcases ha with h|h|h|h
   ·exact aw.1 h
   ·exact aw.2 h
   ·exact cl.1 h
   ·cases e:K.old a with
    |none=>exact absurd e h
    |some o=>rw[(cl.2.2.2 x rfl hro).2]at e;cases e
  rw[Gh.put_ne ne]
  rcases ha with h|h|h|h
  ·exact F.store.fresh a h
  ·refine Ab (G7.mp h) λp hp Z=>?_
   subst Z;exact(F.store.tabs p hp).1
  ·rw[h];exact F.loc
  ·cases e:K.old a with
   |none=>exact absurd e h
   |some o=>exact(F.far a o e).2.1
 ·have ne:c'≠c:=by
   rintro rfl
   have:=cl.2.2.1 y hk' hl
   subst this
   exact hz (by rw[<-Bg hy];exact Ht)
  have q:=(F.cell y c' hk' hl).2.2.2 z hy λh=>hz (mem_cons_of_mem _ h)
  exact⟨by rw[Gh.put_ne ne];exact q.1,q.2⟩
noncomputable def Bv (Γ:W) (K:Cj) (env:Env) (G:Gh) (ι:List Addr) (X:Addr->Prop):Prop:=∀a,X a->G a=none/\a∉ι/\a∉Γ.tabs.map (·.2)/\¬Jm env a/\K.old a=none
open Classical in
noncomputable def Cj.plus (K:Cj) (X:Addr->Prop) (s:Shared):Cj:={os:=s.os,gens:=s.gens,old:=λa=>if X a then s.heap.get? a else K.old a}
theorem Cj.plus_in {X:Addr->Prop}{a:Addr}(x:X a):(K.plus X s).old a=s.heap.get? a:=by unfold Cj.plus;dsimp only;rw[Bc x]
theorem Cj.plus_of {X:Addr->Prop}(hX:∀a,X a->K.old a=none){a:Addr}{o:Obj}(e:K.old a=some o):(K.plus X s).old a=some o:=by
 unfold Cj.plus;dsimp only;rw[Ay (λx=>by rw[hX a x]at e;cases e)];exact e
theorem Aa.cover (F:Aa Γ K env G ι σ s){X:Addr->Prop}(hX:Bv Γ K env G ι X):Aa Γ (K.plus X s) env G ι σ s where
 store:=F.store
 ns:=by refine Ab F.ns λm hm q=>?_;exact⟨m,hm,λx d e=>(q x d e).mono (λ_ r=>r) (λ_ _ _ _ i=>i) (λc o h=>h.imp id (Cj.plus_of λa x=>(hX a x).2.2.2.2))⟩
 loc:=F.loc
 away:=F.away
 cell:=λx c hk hl=>by refine Bn (F.cell x c hk hl) λa b d e=>?_;exact⟨a,b,d,λz hz hr=>⟨(e z hz hr).1,by
  unfold Cj.plus;dsimp only
  rw[Ay λxc=>(hX c xc).2.2.2.1 (.inr ⟨x,hk,hl⟩)];exact(e z hz hr).2⟩⟩
 freeIn:=λx c hk hl=>by refine Ad (F.freeIn x c hk hl) λo e=>?_;exact⟨o,e.imp id (Cj.plus_of λa x=>(hX a x).2.2.2.2)⟩
 far:=λa o e=>by
  by_cases x:X a
  ·rw[Cj.plus_in x]at e
   refine B6 (hX a x) λy1 y2 y3 y4 _=>?_
   exact⟨e,y1,y2,y3,λz=>y4 (.inl z)⟩
  ·unfold Cj.plus at e;dsimp only at e;rw[Ay x]at e;exact F.far a o e
 os:=rfl
 gens:=A4.refl _
 tk:=F.tk
theorem Aa.uncover (F:Aa Γ K env G ι σ s){X:Addr->Prop}(hX:Bv Γ K env G ι X)(hin:∀a,X a->s.heap.get? a≠none){G₂:Gh}{ι₂:List Addr}{σ₂:St}{s₂:Shared}
  (F2:Aa Γ (K.plus X s) env G₂ ι₂ σ₂ s₂)(hG:G.le G₂):Aa Γ K env G₂ ι₂ σ₂ s₂/\Bv Γ K env G₂ ι₂ X/\(∀a o,X a->s.heap.get? a=some o->s₂.heap.get? a=some o)/\A4 s.gens s₂.gens:=by
 have hold:∀a,X a->K.old a=none:=λa x=>(hX a x).2.2.2.2
 refine⟨⟨F2.store,?_,F2.loc,F2.away,λx c hk hl=>by refine Bn (F2.cell x c hk hl) λa b d e=>?_;exact⟨a,b,d,λz hz hr=>⟨(e z hz hr).1,by
  cases q:K.old c with
  |none=>rfl
  |some o=>have:=Cj.plus_of (s:=s) hold q;rw[(e z hz hr).2]at this;cases this⟩⟩,λx c hk hl=>(by refine Ad (F.freeIn x c hk hl) λo e=>?_;exact⟨o,Fc hG e⟩),λa o e=>F2.far a o (Cj.plus_of hold e),F2.os.trans F.os,F.gens.trans F2.gens,F2.tk⟩,λa x=>?_,λa o x e=>(F2.far a o (by rw[Cj.plus_in x];exact e)).1,F2.gens⟩
 ·refine Ab F2.ns λm hm q=>?_
  refine⟨m,hm,λx d e=>?_⟩
  rcases q x d e with z|z|⟨k,c,o,v,e',i,od,r⟩
  ·exact .inl z
  ·exact .inr (.inl z)
  ·refine .inr (.inr ⟨k,c,o,v,e',?_,od,r⟩)
   rcases i with i|i
   ·exact .inl i
   ·by_cases x:X c
    ·refine Ad (F.freeIn _ c k e') λo' h=>?_
     rcases h with h|h
     ·rw[(hX c x).1]at h;cases h
     ·rw[hold c x]at h;cases h
    ·unfold Cj.plus at i;dsimp only at i;rw[Ay x]at i;exact .inr i
 ·refine B6 (hX a x) λy1 y2 y3 y4 y5=>?_
  cases e:s.heap.get? a with
  |none=>exact absurd e (hin a x)
  |some o=>
   have f:=F2.far a o (by rw[Cj.plus_in x];exact e)
   exact⟨f.2.1,f.2.2.1,y3,y4,y5⟩
end frame
noncomputable def fz (own:List (List D)) (n:Nat):Nat->D->Option D
 |0,_=>none
 |f+1,d=>match d with
  | .obj k=>if k<n then some (.obj k)else(own[k]?).bind λds=>(ds.mapM (fz own n f)).map .lst
  | .tup ds=>(ds.mapM (fz own n f)).map .tup
  | .lst ds=>(ds.mapM (fz own n f)).map .lst
  | .app k=>if k<n then some (.app k)else none
  |d=>some d
noncomputable def eL (n:Nat) (σ σ':St):Prop:=
 ∃f,(∀x d',σ'.get x=some d'->∃d,σ.get x=some d/\fz σ.own n f d=some d')/\σ'.own.length=n/\
  (∀(k:Nat) ds',σ'.own[k]? =some ds'->(∃ds,σ.own[k]? =some ds/\ds.mapM (fz σ.own n f)=some ds'))/\σ'.ro=σ.ro
section trunc
variable {Γ:W}{K:Cj}{env:Env}{G G':Gh}{ι:List Addr}{σ:St}{s:Shared}
open Classical in
noncomputable def Gh.withOwn (G:Gh)(ι:List Addr)(n:Nat)(h:Heap):Gh:=λa=>if a∈ι.drop n then h.get? a else G a
theorem Gh.le_withOwn (S:Cn Γ G ι σ.own s.heap)(n:Nat):G.le (G.withOwn ι n s.heap):=λa o e=>by
 unfold Gh.withOwn
 rw[Ay (λhm=>by have:=S.fresh a (mem_of_mem_drop hm);rw[this]at e;cases e)];exact e
theorem Lw {n k:Nat}{a:Addr}(h:ι[k]? =some a)(hk:k<n):(ι.take n)[k]? =some a:=by rw[List.getElem?_take,Bc hk];exact h
theorem Rl.fz' {n f:Nat}(ih:∀(d d':D) (v:Value),Mine.Internal.fz σ.own n f d=some d'->A7 G ι d v->A7 (G.withOwn ι n s.heap) (ι.take n) d' v)(ds:List D):∀(ds':List D) (vs:List Value),ds.mapM (Mine.Internal.fz σ.own n f)=some ds'->Rl G ι ds vs->Rl (G.withOwn ι n s.heap) (ι.take n) ds' vs:=by
 induction ds with
 |nil=>intro ds' vs e r;rw[List.mapM_nil]at e;cases e;exact r
 |cons d ds ihd=>
  intro ds' vs e r
  refine Ag r λv w ev Z t=>?_
  try clear r
  revert Z
  intro r
  rw[List.mapM_cons]at e
  refine Ab (Option.bind_eq_some_iff.mp e) λx e1 e=>?_
  refine Ab (Option.bind_eq_some_iff.mp e) λy e2 e3=>?_
  cases e3
  exact⟨v,w,ev,ih d x v e1 r,ihd y w e2 t⟩
theorem A7.fz (S:Cn Γ G ι σ.own s.heap)(n f:Nat):∀(d d':D) (v:Value),Mine.Internal.fz σ.own n f d=some d'->A7 G ι d v->A7 (G.withOwn ι n s.heap) (ι.take n) d' v:=by
 induction f with
 |zero=>intro d d' v e _;cases d<;>cases e
 |succ f ih=>
  intro d d' v e r
  cases d with
  |none=>cases e;exact r
  |bool b=>cases e;exact r
  |int i=>cases e;exact r
  |str l=>cases e;exact r
  |raw w=>cases e;exact r
  |sem P=>cases e;obtain⟨G₀,l,p⟩:=r;exact⟨G₀,l.trans (Gh.le_withOwn S n),p⟩
  |rng a b c=>cases e;obtain⟨r,t,u,w,ev,h⟩:=r;exact⟨r,t,u,w,ev,Gh.le_withOwn S n _ _ h⟩
  |app k=>
   obtain⟨m,a,ea,ev,g⟩:=r
   have e:(if k<n then some (D.app k)else none)=some d':=e
   by_cases hk:k<n
   ·rw[Bc hk]at e;cases e;exact⟨m,a,Lw ea hk,ev,Gh.le_withOwn S n _ _ g⟩
   ·rw[Ay hk]at e;cases e
  |tup l=>
   obtain⟨l',e2,rfl⟩:=Option.map_eq_some_iff.mp (show(l.mapM (Mine.Internal.fz σ.own n f)).map D.tup=some d' from e)
   obtain⟨a,vs,ev,sq,r⟩:=r
   exact⟨a,vs,ev,(Gh.le_withOwn S n).seqs sq,Rl.fz' ih l l' vs e2 r⟩
  |lst l=>
   obtain⟨l',e2,rfl⟩:=Option.map_eq_some_iff.mp (show(l.mapM (Mine.Internal.fz σ.own n f)).map D.lst=some d' from e)
   obtain⟨a,vs,ev,sq,r⟩:=r
   exact⟨a,vs,ev,(Gh.le_withOwn S n).seqs sq,Rl.fz' ih l l' vs e2 r⟩
  |obj k=>
   obtain⟨a,ha,ev⟩:=r
   have e:(if k<n then some (D.obj k)else(σ.own[k]?).bind λds=>(ds.mapM (Mine.Internal.fz σ.own n f)).map D.lst)=some d':=e
   by_cases hk:k<n
   ·rw[Bc hk]at e;cases e;exact⟨a,Lw ha hk,ev⟩
   ·rw[Ay hk]at e
    obtain⟨ds,e1,e⟩:=Option.bind_eq_some_iff.mp e
    obtain⟨l',e2,rfl⟩:=Option.map_eq_some_iff.mp e
    obtain⟨vs,⟨o,ho⟩,rl⟩:=S.at_ k a ds ha e1
    have hm:a∈ι.drop n:=List.mem_of_getElem? (i:=k-n) (by rw[List.getElem?_drop,Nat.add_sub_cancel' (le_of_not_lt hk)];exact ha)
    exact⟨a,vs,ev,⟨_,by unfold Gh.withOwn;rw[Bc hm];exact ho,rfl,_,rfl⟩,Rl.fz' ih ds l' vs e2 rl⟩
theorem Rl.fz (S:Cn Γ G ι σ.own s.heap)(n f:Nat)(ds ds':List D)(vs:List Value)(e:ds.mapM (Mine.Internal.fz σ.own n f)=some ds')(r:Rl G ι ds vs):Rl (G.withOwn ι n s.heap) (ι.take n) ds' vs:=Rl.fz' (A7.fz S n f) ds ds' vs e r
theorem Aa.trunc (ok:Γ.Ok)(F:Aa Γ K env G ι σ s){n:Nat}{σ':St}(h:eL n σ σ'):
  G.le (G.withOwn ι n s.heap)/\Aa Γ K env (G.withOwn ι n s.heap) (ι.take n) σ' s:=by
 refine Do h λf hloc hlen hown hro=>?_
 try clear h
 have le:=Gh.le_withOwn F.store n
 have hle:n<=ι.length:=by
  rw[<-hlen,F.store.len]
  apply le_of_not_lt
  intro hh
  have e1:σ'.own[σ.own.length]? =some σ'.own[σ.own.length]:=Fz hh
  refine Ab (hown _ _ e1) λds e _=>?_
  rw[List.getElem?_eq_none (le_refl _)]at e;cases e
 have sub:∀a,a∈ι.take n->a∈ι:=λa ha=>mem_of_mem_take ha
 have disj:∀a,a∈ι.take n->a∉ι.drop n:=λa h1 h2=>by
  have:=F.store.nodup
  rw[<-List.take_append_drop n ι]at this
  exact(List.nodup_append.mp this).2.2 a h1 a h2 rfl
 have gin:∀a o,G.withOwn ι n s.heap a=some o->s.heap.get? a=some o:=λa o e=>by
  unfold Gh.withOwn at e;split at e
  ·exact e
  ·exact F.store.gin _ _ e
 have off:∀a,G a=none->a∉ι.drop n->G.withOwn ι n s.heap a=none:=λa e h=>by
  unfold Gh.withOwn;rw[Ay h];exact e
 refine⟨le,⟨λa o e=>le a o (F.store.base a o e),gin,?_,?_,?_,?_,λp hp=>?_⟩,?_,off _ F.loc λh=>(F.away _ (.inl rfl)).1 (mem_of_mem_drop h),λa ha=>?_,λx c hk hl=>?_,λx c hk hl=>(by refine Ad (F.freeIn x c hk hl) λo e=>?_;exact⟨o,Fc le e⟩),λa o e=>?_,F.os,F.gens,F.tk⟩
 ·rw[length_take,hlen];exact min_eq_left (Aq hle)
 ·intro k a ds' e e'
  refine Ab (hown k ds' e') λds e1 e2=>?_
  have hk:ι[k]? =some a:=by rw[List.getElem?_take]at e;split at e;exact e;cases e
  refine Ab (F.store.at_ k a ds hk e1) λvs q r=>?_
  exact⟨vs,q,Rl.fz F.store n f ds ds' vs e2 r⟩
 ·exact List.Nodup.sublist (List.take_sublist n ι) F.store.nodup
 ·exact λa ha=>off a (F.store.fresh a (sub a ha)) (disj a ha)
 ·refine At (F.store.tabs p hp) λa b Z=>?_
  refine Do Z λps t ic Y q=>?_
  clear Z
  refine Ad Y λog eg=>?_
  clear Y
  exact⟨off _ a λh=>b (mem_of_mem_drop h),λh=>b (sub _ h),ps,t,ic,⟨og,le _ _ eg⟩,λpos c e=>ok.codeMono _ _ _ _ _ le (q.1 pos c e),q.2⟩
 ·refine Ab F.ns λm hm q=>?_
  refine⟨m,hm,λx d' e=>?_⟩
  refine Ab (hloc x d' e) λd e1 e2=>?_
  rcases q x d e1 with⟨k,v,e',r⟩|⟨k,c,v,e',i,r⟩|⟨k,c,o,v,e',i,od,r⟩
  ·exact .inl ⟨k,v,e',A7.fz F.store n f d d' v e2 r⟩
  ·exact .inr (.inl ⟨k,c,v,e',i,A7.fz F.store n f d d' v e2 r⟩)
  ·exact .inr (.inr ⟨k,c,o,v,e',Fc le i,od,A7.fz F.store n f d d' v e2 r⟩)
 ·refine Ae (F.away a ha) λa2 a3=>?_
  exact⟨λh=>a2 (sub _ h),a3⟩
 ·refine Bn (F.cell x c hk hl) λc1 c2 c3 c4=>?_
  exact⟨c1,c2,c3,λz hz hr=>⟨off c (c4 z hz (hro▸hr)).1 λh=>(F.away c (.inr ⟨x,hk,hl⟩)).1 (mem_of_mem_drop h),(c4 z hz (hro▸hr)).2⟩⟩
 ·refine Bn (F.far a o e) λf1 f2 f3 f4=>?_
  exact⟨f1,off a f2 λh=>f3 (mem_of_mem_drop h),λh=>f3 (sub _ h),f4⟩
end trunc
end
structure Ev (Γ:W)(A:Around)(env:Env):Prop where
 ok:Γ.Ok
 kind:env.scope.kind=.function
 glob:env.globals=mainGlobals
 bui:env.builtins=builtinsNs
 handled:A.handled=none
 depth:A.depth+150<recursionLimit
 units:A.units+500<cLine
section
variable {α β γ:Type}(Γ:W)(K:Cj)(A:Around)(env:Env)
abbrev Mv (α β:Type):=Gh->List Addr->β->α->Prop
noncomputable def As (R:Mv α β) (G:Gh) (ι:List Addr) (Q:β->St->Prop):α->Shared->Prop:=
 λv s'=>∃G' ι' b σ',G.le G'/\Bp ι ι'/\R G' ι' b v/\Aa Γ K env G' ι' σ' s'/\Q b σ'
noncomputable def Tr (R:Mv α β) (t:Sem α) (T:St->(β->St->Prop)->Prop):Prop:=
 ∀K G ι σ s Q,Aa Γ K env G ι σ s->T σ Q->wpAny (model Γ.prog Γ.w) A t (As Γ K env R G ι Q) (λ_ _=>False) s
noncomputable def VR:Mv Value D:=λG ι d v=>A7 G ι d v
noncomputable def BR:Mv Bool Bool:=λ_ _ b b'=>b'=b
noncomputable def UR:Mv Unit Unit:=λ_ _ _ _=>True
noncomputable def LR:Mv (List Value) (List D):=λG ι d v=>Rl G ι d v
inductive FD where|next|brk|cont|ret (d:D)
noncomputable def FR:Mv Flow FD:=λG ι f f'=>match f with
 | .next=>f'=.next
 | .brk=>f'=.brk
 | .cont=>f'=.cont
 | .ret d=>∃v,f'=.ret v/\A7 G ι d v
abbrev TT:=St->(D->St->Prop)->Prop
abbrev Bl (e:Expr)(T:TT):=Tr Γ A env VR (eval e env) T
abbrev Wa (e:Expr)(T:St->(Bool->St->Prop)->Prop):=Tr Γ A env BR (isTrue e env (eval e env)) T
abbrev Cs (st:Stmt)(T:St->(FD->St->Prop)->Prop):=Tr Γ A env FR (exec st env) T
abbrev Rr (st:List Stmt)(T:St->(FD->St->Prop)->Prop):=Tr Γ A env FR (execs st env) T
end
section
variable {α β γ δ:Type}{Γ:W}{K:Cj}{A:Around}{env:Env}{G G₀ G':Gh}{ι ι':List Addr}{σ:St}{s s':Shared}
theorem As.up {R:Mv α β}{Q:β->St->Prop}{v:α}{s':Shared}(hG:G.le G')(hι:Bp ι ι')(p:As Γ K env R G' ι' Q v s'):As Γ K env R G ι Q v s':=by
 refine Ja p λG₂ ι₂ b σ' a1 a2 a3=>?_
 try clear p
 exact⟨G₂,ι₂,b,σ',hG.trans a1,hι.trans a2,a3⟩
theorem As.mk' {R:Mv α β}{Q:β->St->Prop}{v:α}{b:β}(r:R G ι b v)(F:Aa Γ K env G ι σ s)(q:Q b σ):As Γ K env R G ι Q v s:=
 ⟨G,ι,b,σ,Gh.le.refl _,Bp.refl _,r,F,q⟩
theorem A8 {R:Mv α β}{t:Sem α}{T:St->(β->St->Prop)->Prop}{Q:β->St->Prop}{X:α->Shared->Prop}(h:Tr Γ A env R t T)(F:Aa Γ K env G ι σ s)(hT:T σ Q)
  (k:∀G' ι' b v σ' s',G.le G'->Bp ι ι'->R G' ι' b v->Aa Γ K env G' ι' σ' s'->Q b σ'->X v s'):wpAny (model Γ.prog Γ.w) A t X (λ_ _=>False) s:=
 Ba (h K G ι σ s Q F hT) (λv s' h2_=>by refine Cm h2_ λG' ι' b σ' a1 a2 a3 a4 a5=>?_;try clear h2_;exact k G' ι' b v σ' s' a1 a2 a3 a4 a5) λ_ _ x=>x
theorem Jx {Q:D->St->Prop}{i:Int}{t:Tok}(F:Aa Γ K env G ι σ s)(q:Q (.int i) σ):As Γ K env VR G ι Q (.int i t) s:=As.mk' (b:=.int i) (show A7 G ι (.int i) _ from⟨t,rfl⟩) F q
theorem Ix {Q:D->St->Prop}{x:List Nat}{y:Str}{t:Tok}(F:Aa Γ K env G ι σ s)(e:y=⟨x.toArray⟩)(q:Q (.str x) σ):As Γ K env VR G ι Q (.str y t) s:=by
 subst e;exact As.mk' (b:=.str x) (show A7 G ι (.str x) _ from⟨t,rfl⟩) F q
theorem Ts {Q:D->St->Prop}{b:Bool}(F:Aa Γ K env G ι σ s)(q:Q (.bool b) σ):As Γ K env VR G ι Q (.bool b) s:=As.mk' (b:=.bool b) (show A7 G ι (.bool b) _ from rfl) F q
theorem X0 {Q:D->St->Prop}(F:Aa Γ K env G ι σ s)(q:Q .none σ):As Γ K env VR G ι Q .none s:=As.mk' (b:=.none) (show A7 G ι .none _ from rfl) F q
theorem fM {Q:D->St->Prop}{v:Value}(F:Aa Γ K env G ι σ s)(q:Q (.raw v) σ):As Γ K env VR G ι Q v s:=As.mk' (b:=.raw v) (show A7 G ι (.raw v) _ from rfl) F q
theorem Fx {Q:D->St->Prop}{d:D}{v:Value}(r:A7 G ι d v)(F:Aa Γ K env G ι σ s)(q:Q d σ):As Γ K env VR G ι Q v s:=As.mk' (b:=d) r F q
@[reducible] noncomputable def tV (d:D):TT:=λσ Q=>Q d σ
@[reducible] noncomputable def tU {β:Type} (b:β) (σ:St) (Q:β->St->Prop):Prop:=Q b σ
@[reducible] noncomputable def ap {β:Type} (Q:β->St->Prop) (σ:St) (b:β):Prop:=Q b σ
noncomputable def cs (x:String):List Nat:=x.toList.map Char.toNat
theorem Fq (x:String):ofString x=⟨(cs x).toArray⟩:=Str.ofString_eq_toList x
theorem Hy {x:String}{k:Nat}{p:Pos}:Bl Γ A env (.Constant (.str (ofString x)) k p) (tV (.str (cs x))):=λK G ι σ s Q F h=>
 wpAny_Constant_str (Ix (F.toks _) (Fq x) h)
theorem Ds {i:Int}{k:Nat}{p:Pos}:Bl Γ A env (.Constant (.int i) k p) (tV (.int i)):=λK G ι σ s Q F h=>
 wpAny_Constant_int (Jx (F.toks _) h)
theorem Ir {b:Bool}{k:Nat}{p:Pos}:Bl Γ A env (.Constant (.bool b) k p) (tV (.bool b)):=λK G ι σ s Q F h=>
 wpAny_Constant_bool (Ts F h)
theorem jK {k:Nat}{p:Pos}:Bl Γ A env (.Constant .none k p) (tV .none):=λK G ι σ s Q F h=>
 wpAny_Constant_none (X0 F h)
noncomputable def Ws (x:String):TT:=λσ Q=>∃d,σ.get x=some d/\Q d σ
theorem D9 (H:Ev Γ A env){x:String}{d:D}{Q:Value->Shared->Prop}{E:Value->Shared->Prop}(F:Aa Γ K env G ι σ s)(hx:σ.get x=some d)(hc:(ofString x==("__classdict__":Str))=false)(k:∀v,A7 G ι d v->Q v s):
  wpAny (model Γ.prog Γ.w) A (loadName env (ofString x)) Q E s:=by
 refine Ab F.ns λm hm q=>?_
 rcases q x d hx with⟨kd,v,e,r⟩|⟨kd,c,v,e,i,r⟩|⟨kd,c,o,v,e,i,od,r⟩
 ·exact wpAny_loadName_local H.kind kd hm e (k v r)
 ·exact wpAny_loadName_cell H.kind kd e i (k v r)
 ·exact wpAny_loadName_free H.kind kd e ⟨o,i.elim (F.store.gin _ _) (λi=>(F.far _ _ i).1),od⟩ (k v r) hc
theorem Bi (H:Ev Γ A env){x:String}{p:Pos}(hd:(ofString x==("__debug__":Str))=false)(hc:(ofString x==("__classdict__":Str))=false):
  Bl Γ A env (.Name (ofString x) p) (Ws x):=λK G ι σ s Q F Z=>Ab Z λd hx h=>
 wpAny_Name (D9 H F hx hc λv r=>Fx r F h) hd
theorem Lu (H:Ev Γ A env){x:String}{p:Pos}{v:Value}(hk:env.kindOf (ofString x)=some .globalImplicit)(hv:Γ.mg (ofString x)=some v)(hd:(ofString x==("__debug__":Str))=false):
  Bl Γ A env (.Name (ofString x) p) (tV (.raw v)):=λK G ι σ s Q F h=>
 Calls.Name_function_global H.kind hk (Calls.loadGlobal_global (by rw[H.glob];exact H.ok.g.keeps λb o e=>F.store.gin _ _ (F.store.base _ _ e)) hv (fM F h)) hd
theorem Fb (H:Ev Γ A env){x:String}{p:Pos}{v:Value}(hk:env.kindOf (ofString x)=some .globalImplicit)(hn:Γ.mg (ofString x)=none)(hv:Γ.mb (ofString x)=some v)(hd:(ofString x==("__debug__":Str))=false):
  Bl Γ A env (.Name (ofString x) p) (tV (.raw v)):=λK G ι σ s Q F h=>
 Calls.Name_function_global H.kind hk (Calls.loadGlobal_builtin (by rw[H.glob];exact H.ok.g.keeps λb o e=>F.store.gin _ _ (F.store.base _ _ e)) hn
  (by rw[H.bui];exact H.ok.b.keeps λb o e=>F.store.gin _ _ (F.store.base _ _ e)) hv (fM F h)) hd
noncomputable def Al (own:List (List D)):D->Option (List D)
 | .lst l=>some l
 | .obj k=>own[k]?
 |_=>none
theorem A2 {own:List (List D)}{h:Heap}(S:Cn Γ G ι own h){d:D}{v:Value}{ds:List D}(r:A7 G ι d v)(e:Al own d=some ds):
  ∃a vs,v=.ref a/\h.IsList a (toArray vs)/\Rl G ι ds vs:=by
 cases d with
 |lst l=>
  cases Option.some.inj (show some l=some ds from e)
  refine Ag r λa vs Y Z rl=>?_
  try clear r
  subst Y
  refine Ab Z λo ho q=>?_
  clear Z
  exact⟨a,vs,rfl,⟨o,S.gin _ _ ho,q⟩,rl⟩
 |obj k=>
  refine Ab r λa hk V=>?_
  try clear r
  subst V
  refine Ab (S.at_ k a ds hk e) λvs hl rl=>?_
  exact⟨a,vs,rfl,hl.isList,rl⟩
 |_=>exact H1 e
theorem Ex {own:List (List D)}{h:Heap}(S:Cn Γ G ι own h){v:Value}{ds:List D}(r:A7 G ι (.tup ds) v):
  ∃a vs,v=.ref a/\IsTup h a (toArray vs)/\Rl G ι ds vs:=by
 refine Ag r λa vs Y Z rl=>?_
 try clear r
 subst Y
 refine Ab Z λo ho q=>?_
 clear Z
 exact⟨a,vs,rfl,⟨o,S.gin _ _ ho,q⟩,rl⟩
theorem Hb (x y:List Nat):(⟨x.toArray⟩:Str)++⟨y.toArray⟩=⟨(x++y).toArray⟩:=by
 show(⟨x.toArray++y.toArray⟩:Str)=_
 simp
theorem Bm (x:List Nat):(⟨x.toArray⟩:Str).length=x.length:=by simp[Str.length]
noncomputable def pS (op:Operator) (i j:Int) (Q:Int->Prop):Prop:=match op with
 | .Add=>Q (i+j)
 | .Sub=>Q (i-j)
 | .Mult=>(-(2^64)<i/\i<2^64)/\Q (i*j)
 | .FloorDiv=>(0<j/\j<1073741824)/\Q (i/j)
 | .Mod=>0<j/\Q (i%j)
 |_=>False
noncomputable def mD (op:Operator) (a b:D) (σ:St) (Q:D->St->Prop):Prop:=
 op=.Add/\∃la lb,Al σ.own a=some la/\Al σ.own b=some lb/\la.length+lb.length<=sizeLine/\Q (.obj σ.own.length) {σ with own:=σ.own++[la++lb]}
noncomputable def Q9 (op:Operator) (a b:D) (σ:St) (Q:D->St->Prop):Prop:=match a with
 | .int i=>(match b with| .int j=>pS op i j λk=>Q (.int k) σ|_=>False)
 | .bool i=>(match b with| .bool j=>op=.Sub/\Q (.int (b2i i-b2i j)) σ|_=>False)
 | .str x=>(match b with| .str y=>op=.Add/\x.length+y.length<=sizeLine/\Q (.str (x++y)) σ|_=>False)
 | .obj k=>mD op (.obj k) b σ Q
 | .lst l=>mD op (.lst l) b σ Q
 |_=>False
theorem Iy (F:Aa Γ K env G ι σ s){a:Addr}:A7 G (ι++[a]) (.obj σ.own.length) (.ref a):=by
 show∃b,(ι++[a])[σ.own.length]? =some b/\_
 exact⟨a,by rw[<-F.store.len,V9 (le_refl _),sub_self];rfl,rfl⟩
theorem Uk (H:Ev Γ A env){a b:D}{va vb:Value}{Q:D->St->Prop}(F:Aa Γ K env G ι σ s)(ra:A7 G ι a va)(rb:A7 G ι b vb){la lb:List D}(ha:Al σ.own a=some la)(hb:Al σ.own b=some lb)
  (hsz:la.length+lb.length<=sizeLine)(q:Q (.obj σ.own.length) {σ with own:=σ.own++[la++lb]}):
  wpAny (model Γ.prog Γ.w) A (binaryOp .Add va vb) (As Γ K env VR G ι Q) (λ_ _=>False) s:=by
 refine Ag (A2 F.store ra ha) λl vs V hl rl=>?_
 subst V
 refine Ag (A2 F.store rb hb) λl' ws U hl' rl'=>?_
 subst U
 refine Au (id hl) λz0 ho hc Z=>?_
 obtain⟨cls,dd,data,sl⟩:=z0
 refine Ad Z λn hd=>?_
 clear Z
 refine Au (id hl') λz1 ho2 hc2 Y=>?_
 obtain⟨cls2,dd2,data2,sl2⟩:=z1
 refine Ad Y λn2 hd2=>?_
 clear Y
 simp only at hc hd hc2 hd2
 subst hc hd hc2 hd2
 have hz:vs.length+ws.length<=sizeLine:=by rw[rl.length,rl'.length];exact hsz
 have e:vs.toArray++ws.toArray=(vs++ws).toArray:=by simp
 refine concat_meets ⟨_,ho,rfl⟩ ⟨_,ho2,rfl⟩ noFill_list_add seq_list_add PySem.F.slot_list_add PySem.F.entry_list_add (PySem.F.args_list_add_2 _ _) (list_addW l l' vs.toArray ws.toArray n n2 dd dd2 sl sl2 (by simpa using hz)) ⟨ho,ho2,?_⟩
 rw[e]
 have F':=F.newOwn (Rl.append rl rl') 0 s.toks
 exact⟨G,_,.obj σ.own.length,_,Gh.le.refl _,Bp.append _ _,Iy F,F',q⟩
theorem Zu (H:Ev Γ A env){op:Operator}{a b:D}{va vb:Value}{Q:D->St->Prop}(F:Aa Γ K env G ι σ s)(ra:A7 G ι a va)(rb:A7 G ι b vb)(h:Q9 op a b σ Q):
  wpAny (model Γ.prog Γ.w) A (binaryOp op va vb) (As Γ K env VR G ι Q) (λ_ _=>False) s:=by
 cases a with
 |int i=>
  cases b with
  |int j=>
   refine Ad ra λt V=>?_
   try clear ra
   subst V;refine Ad rb λu U=>?_;try clear rb;subst U
   cases op<;>try exact h.elim
   ·exact P.add_int (Jx (F.toks _) h)
   ·exact P.sub_int (Jx (F.toks _) h)
   ·exact P.mul_int (Jx (F.toks _) h.2) (IntMulOk.of_left (intBits_le_64 h.1.1 h.1.2))
   ·have e:i.fmod j=i%j:=Int.fmod_eq_emod_of_nonneg _ (Int.le_of_lt h.1)
    exact mod_int' (Int.ne_of_gt h.1) (by rw[e];exact Jx (F.toks _) h.2)
   ·have e:i.fdiv j=i/j:=Int.fdiv_eq_ediv_of_nonneg _ (Int.le_of_lt h.1.1)
    exact floordiv_int (Int.ne_of_gt h.1.1) (by rw[e];exact Jx (F.toks _) h.2) (.inl (PyProof.noPylong_small (qM (Int.lt_trans (by decide:(-1073741824:Int)<0) h.1.1) h.1.2)))
  |_=>exact h.elim
 |bool i=>
  cases b with
  |bool j=>
   refine Ae h λz0 z1=>?_
   try clear h
   revert z1
   intro h
   subst z0
   cases ra;cases rb
   exact sub_bool (Jx (F.toks _) h)
  |_=>exact h.elim
 |str x=>
  cases b with
  |str y=>
   refine At h λz2 h1 z3=>?_
   try clear h
   revert z3
   intro h
   subst z2
   refine Ad ra λt z4=>?_
   try clear ra
   subst z4;refine Ad rb λu z5=>?_;try clear rb;subst z5
   refine Ba (Ax (add_str (E:=λ_ _=>False) (Q:=λv s'=>∃t' tk,v=.str (⟨x.toArray⟩++⟨y.toArray⟩) t'/\s'={s with toks:=tk}) (λt' tk=>⟨t',tk,rfl,rfl⟩) (by rw[Bm,Bm];exact h1))) (λv s' z6=>Ae z6 λz7 hle=>A1 z7 λt' tk e1 e2=>?_) λ_ _ x=>x
   subst e1 e2
   exact Ix (F.toks _ (lt_of_lt_of_le F.tk hle)) (Hb _ _) h
  |_=>exact h.elim
 |obj k=>refine Ae h λz8 Z=>?_;try clear h;subst z8;refine Bz Z λla lb h1 h2 h3 h4=>?_;clear Z;exact Uk H F ra rb h1 h2 h3 h4
 |lst k=>refine Ae h λz9 Y=>?_;try clear h;subst z9;refine Bz Y λla lb h1 h2 h3 h4=>?_;clear Y;exact Uk H F ra rb h1 h2 h3 h4
 |_=>exact h.elim
theorem It (H:Ev Γ A env){l r:Expr}{op:Operator}{p:Pos}{T1 T2:TT}(h1:Bl Γ A env l T1)(h2:Bl Γ A env r T2):
  Bl Γ A env (.BinOp l op r p) (λσ Q=>T1 σ λa σ=>T2 σ λb σ=>Q9 op a b σ Q):=λK G ι σ s Q F h=>
 wpAny_BinOp (A8 h1 F h λG1 ι1 a va σ1 s1 l1 p1 r1 F1 q1=>A8 h2 F1 q1 λG2 ι2 b vb σ2 s2 l2 p2 r2 F2 q2=>
  Ba (Zu H F2 (r1.mono l2 p2) r2 q2) (λ_ _ p=>p.up (l1.trans l2) (p1.trans p2)) λ_ _ x=>x)
end
mutual
noncomputable def Ru:D->PyData
 | .none=>.none
 | .bool b=>.bool b
 | .int i=>.int i
 | .str l=>.str ⟨l.toArray⟩
 | .tup l=>.tuple (toPs l)
 | .lst l=>.list (toPs l)
 | .obj _=>.none
 | .raw _=>.none
 | .app _=>.none
 | .rng _ _ _=>.none
 | .sem _=>.none
noncomputable def toPs:List D->List PyData
 |[]=>[]
 |d::r=>Ru d::toPs r
end
mutual
noncomputable def Ib:Nat->D->Bool
 |_,.none=>true
 |_,.bool _=>true
 |_,.int _=>true
 |_,.str l=>l.all (·<0x110000)
 |n+1,.tup l=>okDs n l
 |n+1,.lst l=>okDs n l
 |_,_=>false
noncomputable def okDs:Nat->List D->Bool
 |_,[]=>true
 |n,d::r=>Ib n d&&okDs n r
end
section
variable {α β γ δ:Type}{Γ:W}{K:Cj}{A:Around}{env:Env}{G G₀ G':Gh}{ι ι':List Addr}{σ:St}{s s':Shared}
theorem Hd {n:Nat}{d:D}{r:List D}(k:okDs n (d::r)=true):Ib n d=true/\okDs n r=true:=Bool.and_eq_true_iff.mp (show(Ib n d&&okDs n r)=true from k)
theorem Kq {h:Heap}{n:Nat}(ih:∀(d:D) (v:Value),Ib n d=true->A7 G ι d v->∃as,Reads h v (Ru d) as)(ds:List D):∀vs:List Value,okDs n ds=true->Rl G ι ds vs->∃as,ReadsAll h vs (toPs ds) as:=by
 induction ds with
 |nil=>intro vs _ e;obtain rfl:vs=[]:=e;exact⟨_,.nil⟩
 |cons d r ihr=>
  intro vs k e
  refine Ag e λv w Z x t=>?_
  try clear e
  subst Z
  refine Ae (Hd k) λk1 k2=>?_
  refine Ad (ih d v k1 x) λas q=>?_
  refine Ad (ihr w k2 t) λbs p=>?_
  exact⟨_,.cons q p⟩
theorem Xi {h:Heap}(gin:∀a o,G a=some o->h.get? a=some o)(n:Nat):∀(d:D) (v:Value),Ib n d=true->A7 G ι d v->∃as,Reads h v (Ru d) as:=by
 induction n with
 |zero=>
  intro d v k e
  cases d with
  |none=>obtain rfl:v=.none:=e;exact⟨_,.none⟩
  |bool b=>obtain rfl:v=.bool b:=e;exact⟨_,.bool b⟩
  |int i=>refine Ad e λt z0=>?_;try clear e;subst z0;exact⟨_,.int i t⟩
  |str l=>refine Ad e λt z1=>?_;try clear e;subst z1;exact⟨_,.str _ t⟩
  |_=>exact Bool.noConfusion (show false=true from k)
 |succ n ih=>
  intro d v k e
  cases d with
  |none=>obtain rfl:v=.none:=e;exact⟨_,.none⟩
  |bool b=>obtain rfl:v=.bool b:=e;exact⟨_,.bool b⟩
  |int i=>refine Ad e λt z2=>?_;try clear e;subst z2;exact⟨_,.int i t⟩
  |str l=>refine Ad e λt z3=>?_;try clear e;subst z3;exact⟨_,.str _ t⟩
  |tup l=>
   refine Ag e λa vs z4 Z r=>?_
   try clear e
   subst z4
   refine Au Z λo ho hc Y=>?_
   clear Z
   refine Ad Y λm hd=>?_
   clear Y
   refine Ad (Kq ih l vs k r) λas q=>?_
   exact⟨as,reads_tuple_at (gin _ _ ho) hc hd q⟩
  |lst l=>
   refine Ag e λa vs z5 V r=>?_
   try clear e
   subst z5
   refine Au V λo ho hc U=>?_
   clear V
   refine Ad U λm hd=>?_
   clear U
   refine Ad (Kq ih l vs k r) λas q=>?_
   exact⟨_,reads_list_at (gin _ _ ho) hc hd q⟩
  |_=>exact Bool.noConfusion (show false=true from k)
theorem Lz {n:Nat}(ih:∀d,Ib n d=true->(Ru d).canLay0=true/\(Ru d).depth<=n)(ds:List D):okDs n ds=true->PyData.canLayAll0 (toPs ds)=true/\PyData.depthAll (toPs ds)<=n:=by
 induction ds with
 |nil=>exact λ_=>⟨rfl,zero_le _⟩
 |cons d r ihr=>
  intro k
  refine Ae (Hd k) λk1 k2=>?_
  have q:=ih d k1
  have p:=ihr k2
  exact⟨Bool.and_eq_true_iff.mpr ⟨q.1,p.1⟩,Nat.max_le.mpr ⟨q.2,p.2⟩⟩
theorem Nu (n:Nat):∀(d:D),Ib n d=true->(Ru d).canLay0=true/\(Ru d).depth<=n:=by
 have str:∀{l:List Nat},l.all (·<0x110000)=true->(Ru (.str l)).canLay0=true:=λ{l} k=>by
  show PyData.strOk _=true
  unfold PyData.strOk
  simpa using k
 induction n with
 |zero=>
  intro d k
  cases d with
  |none=>exact⟨rfl,zero_le _⟩
  |bool b=>exact⟨rfl,zero_le _⟩
  |int i=>exact⟨rfl,zero_le _⟩
  |str l=>exact⟨str k,zero_le _⟩
  |_=>exact Bool.noConfusion (show false=true from k)
 |succ n ih=>
  intro d k
  cases d with
  |none=>exact⟨rfl,zero_le _⟩
  |bool b=>exact⟨rfl,zero_le _⟩
  |int i=>exact⟨rfl,zero_le _⟩
  |str l=>exact⟨str k,zero_le _⟩
  |tup l=>have q:=Lz ih l k;exact⟨q.1,succ_le_succ q.2⟩
  |lst l=>have q:=Lz ih l k;exact⟨q.1,succ_le_succ q.2⟩
  |_=>exact Bool.noConfusion (show false=true from k)
theorem Hc {n:Nat}{d:D}(hn:n<=60)(k:Ib n d=true):SeqAt.shaped (Ru d)=true:=by
 have q:=Nu n d k
 unfold SeqAt.shaped
 rw[q.1,Bool.true_and]
 exact decide_eq_true (by exact Aq (Bk q.2 hn))
theorem Fa (S:Cn Γ G ι σ.own s.heap){d d':D}{v:Value}(e:fz σ.own 0 20 d=some d')(k:Ib 20 d'=true)(r:A7 G ι d v):∃as,Reads s.heap v (Ru d') as:=
 Xi (G:=G.withOwn ι 0 s.heap) (λa o h=>by
  unfold Gh.withOwn at h;split at h
  ·exact h
  ·exact S.gin _ _ h) 20 d' v k (A7.fz S 0 20 d d' v e r)
noncomputable def Eb (y x:List Nat):Bool:= !(Builtin.Str.occurrences ⟨x.toArray⟩ ⟨y.toArray⟩ 0 (⟨x.toArray⟩:Str).length 1).isEmpty
noncomputable def pQ (op:CmpOp) (i j:Int) (Q:Bool->Prop):Prop:=match op with
 | .Eq=>Q (i==j)
 | .NotEq=>Q (i != j)
 | .Lt=>Q (decide (i<j))
 | .LtE=>Q (decide (i<=j))
 | .Gt=>Q (decide (i>j))
 | .GtE=>Q (decide (i>=j))
 |_=>False
noncomputable def pP (op:CmpOp) (x y:List Nat) (Q:Bool->Prop):Prop:=match op with
 | .Eq=>Q (decide (x=y))
 | .NotEq=>Q (!decide (x=y))
 | .Lt=>Q (decide (x<y))
 | .LtE=>Q (!decide (y<x))
 | .Gt=>Q (decide (y<x))
 | .In=>Q (Eb x y)
 | .NotIn=>Q (!Eb x y)
 |_=>False
noncomputable def pD (a b:D) (Q:Bool->Prop):Prop:=match a with
 | .bool i=>(match b with| .bool j=>Q (i==j)| .none=>Q false|_=>False)
 | .none=>(match b with| .none=>Q true|_=>False)
 | .str _=>(match b with| .none=>Q false| .raw v=>(∃r,v=.ref r)/\Q false|_=>False)
 | .int _=>(match b with| .none=>Q false|_=>False)
 |_=>False
noncomputable def Zp (op:CmpOp) (a b:D) (σ:St) (Q:Bool->Prop):Prop:=match op with
 | .In=>∃(k:List Nat) (ys:List (List Nat)),a=.str k/\(b=.tup (ys.map D.str)\/Al σ.own b=some (ys.map D.str))/\Q (ys.any (·==k))
 | .NotIn=>∃(k:List Nat) (ys:List (List Nat)),a=.str k/\(b=.tup (ys.map D.str)\/Al σ.own b=some (ys.map D.str))/\Q (!ys.any (·==k))
 | .Is=>pD a b Q
 | .IsNot=>pD a b λc=>Q (!c)
 | .Eq=>∃a' b',fz σ.own 0 20 a=some a'/\fz σ.own 0 20 b=some b'/\Ib 20 a'=true/\Ib 20 b'=true/\Q (PyData.eqv (Ru a') (Ru b'))
 | .NotEq=>∃a' b',fz σ.own 0 20 a=some a'/\fz σ.own 0 20 b=some b'/\Ib 20 a'=true/\Ib 20 b'=true/\Q (!PyData.eqv (Ru a') (Ru b'))
 |_=>False
noncomputable def Ee (op:CmpOp) (a b:D) (σ:St) (Q:Bool->Prop):Prop:=match a with
 | .int i=>(match b with| .int j=>pQ op i j Q|b=>Zp op (.int i) b σ Q)
 | .str x=>(match b with| .str y=>pP op x y Q|b=>Zp op (.str x) b σ Q)
 |a=>Zp op a b σ Q
theorem S8 (x y:List Nat):((⟨x.toArray⟩:Str)==⟨y.toArray⟩)=decide (x=y):=by
 by_cases h:x=y
 ·subst h;simp
 ·have:(⟨x.toArray⟩:Str)≠⟨y.toArray⟩:=λe=>h (by simpa using e)
  simp[h,this]
theorem E7:∀{ys:List (List Nat)} {vs:List Value},Rl G ι (ys.map D.str) vs->StrsAre vs (ys.map λy=>⟨y.toArray⟩):=by
 intro ys
 induction ys with
 |nil=>exact λh=>by rw[Az h];exact .nil
 |cons y ys ih=>
  intro vs h
  refine Ag h λv r e q x=>Ad q λt ev=>?_
  subst e ev;exact .cons _ _ (ih x)
theorem Pn (ys:List (List Nat))(k:List Nat):(ys.map λy=>(⟨y.toArray⟩:Str)).any (·==⟨k.toArray⟩)=ys.any (·==k):=by
 rw[List.any_map]
 congr 1
 funext y
 show((⟨y.toArray⟩:Str)==⟨_⟩)=_
 rw[S8];by_cases hh:y=k<;>simp[hh]
theorem T8 {a b:D}{va vb:Value}{Q:Bool->Prop}(ra:A7 G ι a va)(rb:A7 G ι b vb)(h:pD a b Q):wpAny (model Γ.prog Γ.w) A (isSame va vb) (λc s'=>s'=s/\Q c) (λ_ _=>False) s:=by
 cases a with
 |bool i=>
  cases ra
  cases b with
  |bool j=>cases rb;exact wpAny_of_eq (show isSame (.bool i) (.bool j)=pure (i==j)by cases i<;>cases j<;>rfl) ⟨rfl,h⟩
  |none=>cases rb;exact wpAny_of_eq (isSame_none _) ⟨rfl,h⟩
  |_=>exact h.elim
 |none=>
  cases ra
  cases b with
  |none=>cases rb;exact wpAny_of_eq (isSame_none _) ⟨rfl,h⟩
  |_=>exact h.elim
 |str x=>
  refine Ad ra λt Y=>?_
  try clear ra
  subst Y
  cases b with
  |none=>cases rb;exact wpAny_of_eq (isSame_none _) ⟨rfl,h⟩
  |raw v=>cases rb;refine Ae h λZ V=>?_;try clear h;revert V;intro h;refine Ad Z λr U=>?_;clear Z;subst U;exact wpAny_of_eq (show isSame (.str ⟨x.toArray⟩ t) (.ref r)=pure false from rfl) ⟨rfl,h⟩
  |_=>exact h.elim
 |int i=>
  refine Ad ra λt z0=>?_
  try clear ra
  subst z0
  cases b with
  |none=>cases rb;exact wpAny_of_eq (isSame_none _) ⟨rfl,h⟩
  |_=>exact h.elim
 |_=>exact h.elim
theorem Kh (H:Ev Γ A env){op:CmpOp}{a b:D}{va vb:Value}{Q:Bool->Prop}(F:Aa Γ K env G ι σ s)(ra:A7 G ι a va)(rb:A7 G ι b vb)(h:Zp op a b σ Q):
  wpAny (model Γ.prog Γ.w) A (compareOp op va vb) (λv s'=>∃c,v=.bool c/\Aa Γ K env G ι σ s'/\Q c) (λ_ _=>False) s:=by
 have hu:A.units+64<cLine:=lt_of_le_of_lt (Nat.add_le_add_left (by decide) _) H.units
 cases op with
 |In=>
  refine Ag h λk ys Z e q=>?_
  try clear h
  subst Z
  refine Ad ra λt Y=>?_
  try clear ra
  subst Y
  rcases e with rfl|e
  ·refine Ag (Ex F.store rb) λl vs V hl rl=>?_
   subst V
   exact in_tuple_strs hl (by simpa using E7 rl) ⟨_,rfl,F,by rw[Pn];exact q⟩
  ·refine Ag (A2 F.store rb e) λl vs U hl rl=>?_
   subst U
   exact in_list_strs hl (E7 rl) ⟨_,rfl,F,by rw[Pn];exact q⟩
 |NotIn=>
  refine Ag h λk ys z0 e q=>?_
  try clear h
  subst z0
  refine Ad ra λt z1=>?_
  try clear ra
  subst z1
  rcases e with rfl|e
  ·refine Ag (Ex F.store rb) λl vs z2 hl rl=>?_
   subst z2
   exact notin_tuple_strs hl (by simpa using E7 rl) ⟨_,rfl,F,by rw[Pn];exact q⟩
  ·refine Ag (A2 F.store rb e) λl vs z3 hl rl=>?_
   subst z3
   exact notin_list_strs hl (E7 rl) ⟨_,rfl,F,by rw[Pn];exact q⟩
 |Is=>
  show wpAny _ _ (do return Value.bool (<-isSame va vb):Sem Value) _ _ _
  exact Ai (Ba (T8 ra rb h) (λc s' h2_=>by refine Ae h2_ λe q=>?_;try clear h2_;exact Be ⟨c,rfl,by rw[e];exact F,q⟩) λ_ _ x=>x)
 |IsNot=>
  show wpAny _ _ (do return Value.bool (!(<-isSame va vb)):Sem Value) _ _ _
  exact Ai (Ba (T8 (Q:=λc=>Q (!c)) ra rb h) (λc s' h2_=>by refine Ae h2_ λe q=>?_;try clear h2_;exact Be ⟨_,rfl,by rw[e];exact F,q⟩) λ_ _ x=>x)
 |Eq=>
  refine Bz h λa' b' e1 e2 k1 zz=>Ae zz λk2 q=>?_
  try clear h
  refine Ad (Fa F.store e1 k1 ra) λas r1=>?_
  refine Ad (Fa F.store e2 k2 rb) λbs r2=>?_
  exact eq_dataH r1 r2 (Hc (by decide) k1) (Hc (by decide) k2) hu ⟨_,rfl,F,q⟩
 |NotEq=>
  refine Bz h λa' b' e1 e2 k1 zz=>Ae zz λk2 q=>?_
  try clear h
  refine Ad (Fa F.store e1 k1 ra) λas r1=>?_
  refine Ad (Fa F.store e2 k2 rb) λbs r2=>?_
  exact ne_dataH r1 r2 (Hc (by decide) k1) (Hc (by decide) k2) hu ⟨_,rfl,F,q⟩
 |_=>exact h.elim
theorem Rb (H:Ev Γ A env){op:CmpOp}{a b:D}{va vb:Value}{Q:Bool->Prop}(F:Aa Γ K env G ι σ s)(ra:A7 G ι a va)(rb:A7 G ι b vb)(h:Ee op a b σ Q):
  wpAny (model Γ.prog Γ.w) A (compareOp op va vb) (λv s'=>∃c,v=.bool c/\Aa Γ K env G ι σ s'/\Q c) (λ_ _=>False) s:=by
 cases a with
 |int i=>
  cases b with
  |int j=>
   refine Ad ra λt Z=>?_
   try clear ra
   subst Z;refine Ad rb λu Y=>?_;try clear rb;subst Y
   cases op with
   |Eq=>exact P.eq_int ⟨_,rfl,F,h⟩
   |NotEq=>exact P.ne_int ⟨_,rfl,F,h⟩
   |Lt=>exact P.lt_int ⟨_,rfl,F,h⟩
   |LtE=>exact P.le_int ⟨_,rfl,F,h⟩
   |Gt=>exact P.gt_int ⟨_,rfl,F,h⟩
   |GtE=>exact P.ge_int ⟨_,rfl,F,h⟩
   |_=>exact h.elim
  |_=>exact Kh H F ra rb h
 |str x=>
  cases b with
  |str y=>
   refine Ad ra λt V=>?_
   try clear ra
   subst V;refine Ad rb λu U=>?_;try clear rb;subst U
   cases op with
   |Eq=>exact eq_str ⟨_,rfl,F,by rw[S8];exact h⟩
   |NotEq=>exact ne_str ⟨_,rfl,F,by rw[bne,S8];exact h⟩
   |Lt=>exact lt_str ⟨_,rfl,F,h⟩
   |LtE=>exact P.le_str ⟨_,rfl,F,h⟩
   |Gt=>exact P.gt_str ⟨_,rfl,F,h⟩
   |In=>exact in_str ⟨_,rfl,F,h⟩
   |NotIn=>exact notIn_str ⟨_,rfl,F,h⟩
   |_=>exact h.elim
  |_=>exact Kh H F ra rb h
 |_=>exact Kh H F ra rb h
theorem Xo (H:Ev Γ A env){l r:Expr}{op:CmpOp}{p:Pos}{T1 T2:TT}(h1:Bl Γ A env l T1)(h2:Bl Γ A env r T2)(hm:behindInMarks op r=false):
  Bl Γ A env (.Compare l [op] [r] p) (λσ Q=>T1 σ λa σ=>T2 σ λb σ=>Ee op a b σ λc=>tV (.bool c) σ Q):=λK G ι σ s Q F h=>
 wpAny_Compare1 (A8 h1 F h λG1 ι1 a va σ1 s1 l1 p1 r1 F1 q1=>A8 h2 F1 q1 λG2 ι2 b vb σ2 s2 l2 p2 r2 F2 q2=>
  Ba (Rb H F2 (r1.mono l2 p2) r2 q2) (λv s' h2_=>by refine Au h2_ λc e F' q=>?_;try clear h2_;subst e;exact(Ts F' q).up (l1.trans l2) (p1.trans p2)) λ_ _ x=>x) hm
theorem Ki (H:Ev Γ A env){l r:Expr}{op:CmpOp}{p:Pos}{T1 T2:TT}(h1:Bl Γ A env l T1)(h2:Bl Γ A env r T2)(hm:behindInMarks op r=false):
  Wa Γ A env (.Compare l [op] [r] p) (λσ Q=>T1 σ λa σ=>T2 σ λb σ=>Ee op a b σ (ap Q σ)):=λK G ι σ s Q F h=>
 wpAny_isTrue_Compare1 (A8 h1 F h λG1 ι1 a va σ1 s1 l1 p1 r1 F1 q1=>A8 h2 F1 q1 λG2 ι2 b vb σ2 s2 l2 p2 r2 F2 q2=>
  Ba (Rb H F2 (r1.mono l2 p2) r2 q2) (λv s' h2_=>by refine Au h2_ λc e F' q=>?_;try clear h2_;subst e;exact wpAny_truthy_bool ((As.mk' (R:=BR) rfl F' q).up (l1.trans l2) (p1.trans p2))) λ_ _ x=>x) hm
noncomputable def Mj (d:D) (σ:St) (Q:Bool->Prop):Prop:=match d with
 | .none=>Q false
 | .bool b=>Q b
 | .int i=>Q (i != 0)
 | .str l=>l.length<2^62/\Q (!l.isEmpty)
 |d=>∃ds,Al σ.own d=some ds/\ds.length<2^62/\Q (!ds.isEmpty)
theorem Lf {d:D}{v:Value}{Q:Bool->Prop}(F:Aa Γ K env G ι σ s)(r:A7 G ι d v)(h:Mj d σ Q):
  wpAny (model Γ.prog Γ.w) A (truthy v) (λc s'=>Aa Γ K env G ι σ s'/\Q c) (λ_ _=>False) s:=by
 have lst:∀{d:D} {v:Value},A7 G ι d v->(∃ds,Al σ.own d=some ds/\ds.length<2^62/\Q (!ds.isEmpty))->wpAny (model Γ.prog Γ.w) A (truthy v) (λc s'=>Aa Γ K env G ι σ s'/\Q c) (λ_ _=>False) s:=by
  intro d v r Z
  refine Au Z λds e hz q=>?_
  clear Z
  refine Ag (A2 F.store r e) λa vs Y hl rl=>?_
  subst Y
  have hlen:=rl.length
  refine wpAny_truthy_list hl (by rw[size_toArray,hlen];exact Yz (n:=ds.length) rfl (Aq hz)) ⟨F.toks _,?_⟩
  have:(toArray vs).isEmpty=ds.isEmpty:=by
   cases vs<;>cases ds<;>simp_all
  rw[this];exact q
 cases d with
 |none=>cases r;exact truthy_none ⟨F,h⟩
 |bool b=>cases r;exact wpAny_truthy_bool ⟨F,h⟩
 |int i=>refine Ad r λt V=>?_;try clear r;subst V;exact P.truthy_int ⟨F,h⟩
 |str l=>
  refine Ad r λt U=>?_
  try clear r
  subst U
  refine P.truthy_str (by rw[Bm];have:=h.1;exact Int.not_le.2 (Yz (n:=l.length) rfl (Aq this))) ⟨F.toks _,?_⟩
  have:(((⟨l.toArray⟩:Str).length:Int) != 0)= !l.isEmpty:=by
   rw[Bm];cases l<;>simp
   exact nz _
  rw[this];exact h.2
 |tup l=>exact lst r h
 |lst l=>exact lst r h
 |obj k=>exact lst r h
 |raw w=>exact lst r h
 |app w=>exact lst r h
 |rng a b c=>exact lst r h
 |sem w=>exact lst r h
theorem Zw {e:Expr}{T:TT}(h:Bl Γ A env e T)(he:isTrue e env (eval e env)=(do let v<-eval e env;standAt e.pos;holding [v] (truthy v))):
  Wa Γ A env e (λσ Q=>T σ λd σ=>Mj d σ (ap Q σ)):=λK G ι σ s Q F q=>
 wpAny_isTrue_value (A8 h F q λG1 ι1 d v σ1 s1 l1 p1 r1 F1 q1=>
  Ba (Lf F1 r1 q1) (λc s' h2_=>by refine Ae h2_ λF' q'=>?_;try clear h2_;exact(As.mk' (R:=BR) rfl F' q').up l1 p1) λ_ _ x=>x) he
theorem cV {e:Expr}{p:Pos}{T:St->(Bool->St->Prop)->Prop}(h:Wa Γ A env e T):Wa Γ A env (.UnaryOp .Not e p) (λσ Q=>T σ λc σ=>tU (!c) σ Q):=λK G ι σ s Q F q=>
 wpAny_isTrue_Not (A8 h F q λG1 ι1 d v σ1 s1 l1 p1 r1 F1 q1=>by cases r1;exact(As.mk' (R:=BR) rfl F1 q1).up l1 p1)
abbrev iD (Γ:W)(A:Around)(env:Env)(op:BoolOp)(es:List Expr)(T:St->(Bool->St->Prop)->Prop):=Tr Γ A env BR (allTrue op es env) T
theorem Ld:iD Γ A env .And [] (tU true):=λK G ι σ s Q F q=>wpAny_allTrue_And_nil (As.mk' (R:=BR) rfl F q)
theorem Kj:iD Γ A env .Or [] (tU false):=λK G ι σ s Q F q=>wpAny_allTrue_Or_nil (As.mk' (R:=BR) rfl F q)
theorem cZ {e:Expr}{es:List Expr}{T T':St->(Bool->St->Prop)->Prop}(h:Wa Γ A env e T)(h':iD Γ A env .And es T'):
  iD Γ A env .And (e::es) (λσ Q=>T σ λc σ=>if c=true then T' σ Q else tU false σ Q):=λK G ι σ s Q F q=>
 wpAny_allTrue_And_cons (A8 h F q λG1 ι1 d v σ1 s1 l1 p1 r1 F1 q1=>by
  cases r1
  cases d with
  |true=>rw[Bc rfl]at q1⊢;exact Ba (h' K G1 ι1 σ1 s1 Q F1 q1) (λ_ _ p=>p.up l1 p1) λ_ _ x=>x
  |false=>rw[Ay Bool.false_ne_true]at q1⊢;exact(As.mk' (R:=BR) rfl F1 q1).up l1 p1)
theorem iO {e:Expr}{es:List Expr}{T T':St->(Bool->St->Prop)->Prop}(h:Wa Γ A env e T)(h':iD Γ A env .Or es T'):
  iD Γ A env .Or (e::es) (λσ Q=>T σ λc σ=>if c=true then tU true σ Q else T' σ Q):=λK G ι σ s Q F q=>
 wpAny_allTrue_Or_cons (A8 h F q λG1 ι1 d v σ1 s1 l1 p1 r1 F1 q1=>by
  cases r1
  cases d with
  |false=>rw[Ay Bool.false_ne_true]at q1⊢;exact Ba (h' K G1 ι1 σ1 s1 Q F1 q1) (λ_ _ p=>p.up l1 p1) λ_ _ x=>x
  |true=>rw[Bc rfl]at q1⊢;exact(As.mk' (R:=BR) rfl F1 q1).up l1 p1)
theorem Mp {op:BoolOp}{es:List Expr}{p:Pos}{T:St->(Bool->St->Prop)->Prop}(h:iD Γ A env op es T):Wa Γ A env (.BoolOp op es p) T:=λK G ι σ s Q F q=>
 wpAny_isTrue_BoolOp (h K G ι σ s Q F q)
theorem U3 {e:Expr}{p:Pos}{T:TT}(h:Bl Γ A env e T):Bl Γ A env (.UnaryOp .USub e p) (λσ Q=>T σ λd σ=>∃i,d=.int i/\tV (.int (-i)) σ Q):=λK G ι σ s Q F q=>
 wpAny_UnaryOp (A8 h F q λG1 ι1 d v σ1 s1 l1 p1 r1 F1 Z=>Ab Z λi e q1=>by
  subst e;refine Ad r1 λt Y=>?_;try clear r1;subst Y
  exact P.neg_int ((Jx (F1.toks _) q1).up l1 p1))
theorem R8 {t b o:Expr}{p:Pos}{T:St->(Bool->St->Prop)->Prop}{T1 T2:TT}(ht:Wa Γ A env t T)(hb:Bl Γ A env b T1)(ho:Bl Γ A env o T2):
  Bl Γ A env (.IfExp t b o p) (λσ Q=>T σ λc σ=>if c=true then T1 σ Q else T2 σ Q):=λK G ι σ s Q F q=>
 wpAny_IfExp (A8 ht F q λG1 ι1 d v σ1 s1 l1 p1 r1 F1 q1=>by
  cases r1
  cases d with
  |true=>rw[Bc rfl]at q1⊢;exact Ba (hb K G1 ι1 σ1 s1 Q F1 q1) (λ_ _ p=>p.up l1 p1) λ_ _ x=>x
  |false=>rw[Ay Bool.false_ne_true]at q1⊢;exact Ba (ho K G1 ι1 σ1 s1 Q F1 q1) (λ_ _ p=>p.up l1 p1) λ_ _ x=>x)
theorem fE {x y:Expr}{p:Pos}{T1 T2:TT}(h1:Bl Γ A env x T1)(h2:Bl Γ A env y T2):
  Bl Γ A env (.BoolOp .Or [x,y] p) (λσ Q=>T1 σ λd σ=>Mj d σ λc=>if c=true then tV d σ Q else T2 σ Q):=λK G ι σ s Q F q=>
 wpAny_Or2 (A8 h1 F q λG1 ι1 d v σ1 s1 l1 p1 r1 F1 q1=>Ba (Lf F1 r1 q1) (λc s' Z=>Ae Z λF' q'=>by
  cases c with
  |false=>rw[Ay Bool.false_ne_true]at q'⊢;exact Ba (h2 K G1 ι1 σ1 s' Q F' q') (λ_ _ p=>p.up l1 p1) λ_ _ x=>x
  |true=>rw[Bc rfl]at q'⊢;exact(Fx r1 F' q').up l1 p1) λ_ _ x=>x)
end
noncomputable def G9 (n₀:Nat) (σ σ':St):Prop:=(σ'.own=σ.own/\σ'.ro=σ.ro/\∀x d,σ'.get x=some d->σ.get x=some d)\/∃n,n₀<=n/\eL n σ σ'
theorem G9.refl (n:Nat)(σ:St):G9 n σ σ:=.inl ⟨rfl,rfl,λ_ _ e=>e⟩
section
variable {α β γ δ:Type}{Γ:W}{K:Cj}{A:Around}{env:Env}{G G':Gh}{ι ι':List Addr}{σ σ':St}{s:Shared}
theorem Aa.forget (F:Aa Γ K env G ι σ s)(ho:σ'.own=σ.own)(hr:σ'.ro=σ.ro)(hf:∀x d,σ'.get x=some d->σ.get x=some d):Aa Γ K env G ι σ' s where
 store:=ho▸F.store
 ns:=by refine Ab F.ns λm hm q=>?_;exact⟨m,hm,λx d e=>q x d (hf x d e)⟩
 loc:=F.loc
 away:=F.away
 cell:=hr▸F.cell
 freeIn:=F.freeIn
 far:=F.far
 os:=F.os
 gens:=F.gens
 tk:=F.tk
theorem Aa.weak (ok:Γ.Ok)(F:Aa Γ K env G ι σ s){n₀:Nat}(h:G9 n₀ σ σ'):∃G' ι',G.le G'/\Aa Γ K env G' ι' σ' s/\(∀κ:List Addr,κ.length<=n₀->Bp κ ι->Bp κ ι')/\
  ∀a,G a=none->a∉ι->G' a=none/\a∉ι':=by
 rcases h with⟨ho,hr,hf⟩|⟨n,hn,ht⟩
 ·exact⟨G,ι,Gh.le.refl _,F.forget ho hr hf,λ_ _ h=>h,λa h h'=>⟨h,h'⟩⟩
 ·refine Ae (F.trunc ok ht) λle F'=>?_
  refine⟨_,_,le,F',λκ hk h i a e=>Lw (h i a e) (lt_of_lt_of_le (H7.mp e).1 (Ao hk hn)),λa h h'=>⟨?_,λhm=>h' (mem_of_mem_take hm)⟩⟩
  unfold Gh.withOwn
  rw[Ay (λhm=>h' (mem_of_mem_drop hm))];exact h
abbrev TS:=St->(FD->St->Prop)->Prop
@[reducible] noncomputable def Wr (T:TS) (R:FD->St->Prop) (f:FD) (σ:St):Prop:=match f with
 | .next=>T σ R
 |f=>R f σ
noncomputable def Uv (T1 T2:TS):TS:=λσ Q=>T1 σ (Wr T2 Q)
theorem Dr:Rr Γ A env [] (λσ Q=>Q .next σ):=λK G ι σ s Q F q=>wpAny_execs_nil (As.mk' (R:=FR) (b:=.next) rfl F q)
theorem Av {st:Stmt}{r:List Stmt}{T1 T2:TS}(h1:Cs Γ A env st T1)(h2:Rr Γ A env r T2):Rr Γ A env (st::r) (Uv T1 T2):=λK G ι σ s Q F q=>
 wpAny_execs_cons (A8 h1 F q λG1 ι1 f v σ1 s1 l1 p1 r1 F1 q1=>by
  cases f with
  |next=>cases r1;exact Ba (h2 K G1 ι1 σ1 s1 Q F1 q1) (λ_ _ p=>p.up l1 p1) λ_ _ x=>x
  |brk=>cases r1;exact(As.mk' (R:=FR) (Q:=Q) (b:=.brk) rfl F1 q1).up l1 p1
  |cont=>cases r1;exact(As.mk' (R:=FR) (Q:=Q) (b:=.cont) rfl F1 q1).up l1 p1
  |ret d=>refine Ab r1 λv Z rr=>?_;try clear r1;subst Z;exact(As.mk' (R:=FR) (Q:=Q) (b:=.ret d) ⟨v,rfl,rr⟩ F1 q1).up l1 p1)
noncomputable def pW (env:Env) (ro:List String) (x:String):Prop:=env.kindOf (ofString x)=some .local\/(env.kindOf (ofString x)=some .cell/\(∃c,env.cells.lookup (ofString x)=some c)/\x∉ro)
theorem Jq (H:Ev Γ A env){x:String}{d:D}{v:Value}{Q:Unit->Shared->Prop}{E:Value->Shared->Prop}(hk:pW env σ.ro x)(F:Aa Γ K env G ι σ s)(r:A7 G ι d v)
  (k:∀s',Aa Γ K env G ι (σ.set x d) s'->Q () s'):wpAny (model Γ.prog Γ.w) A (storeName env (ofString x) v) Q E s:=by
 rcases hk with hk|⟨hk,⟨c,hc⟩,hro⟩
 ·refine Ab F.ns λm hm q=>?_
  exact wpAny_storeName_local hk hm (λh' hn hs=>k _ (F.setLocal hk r ⟨m,hm,q,rfl⟩ hn hs _)) (by rw[H.kind];rfl)
 ·refine At (F.cell _ c hk hc) λc1 Z c3=>?_
  refine Ad Z λv₀ hv=>?_
  clear Z
  exact wpAny_storeName_cell H.kind hk hc hv (λh' hn hs=>k _ (F.setCell hk hc hro r hn hs))
inductive Kd (env:Env)(x:String):Bool->Prop where
 |local (h:env.kindOf (ofString x)=some .local):Kd env x false
 |cell (h:env.kindOf (ofString x)=some .cell) (c:∃c,env.cells.lookup (ofString x)=some c):Kd env x true
noncomputable def aP (b:Bool) (x:String) (d:D) (σ:St) (Q:St->Prop):Prop:=(b=true->x∉σ.ro)/\Q (σ.set x d)
theorem Kd.sto {x:String}{b:Bool}{ro:List String}(k:Kd env x b)(h:b=true->x∉ro):pW env ro x:=by
 rcases k with hk|⟨hk,c⟩
 ·exact .inl hk
 ·exact .inr ⟨hk,c,h rfl⟩
theorem Bx (H:Ev Γ A env){x:String}{e:Expr}{p p':Pos}{T:TT}{c:Bool}(hk:Kd env x c)(h:Bl Γ A env e T)(hs:swapsWith e (some (.Name (ofString x) p')) p.line env=pure false):
  Cs Γ A env (.Assign [.Name (ofString x) p'] e p) (λσ Q=>T σ λd σ=>aP c x d σ (Q .next)):=λK G ι σ s Q F q=>
 wpAny_Assign_Name (A8 h F q λG1 ι1 d v σ1 s1 l1 p1 r1 F1 q1=>Jq H (hk.sto q1.1) F1 r1 λs' F'=>(As.mk' (R:=FR) (b:=.next) rfl F' q1.2).up l1 p1) hs
theorem Sy {t:Expr}{b o:List Stmt}{p:Pos}{T:St->(Bool->St->Prop)->Prop}{T1 T2:TS}(ht:Wa Γ A env t T)(hb:Rr Γ A env b T1)(ho:Rr Γ A env o T2):
  Cs Γ A env (.If t b o p) (λσ Q=>T σ λc σ=>if c=true then T1 σ Q else T2 σ Q):=λK G ι σ s Q F q=>
 wpAny_If (A8 ht F q λG1 ι1 d v σ1 s1 l1 p1 r1 F1 q1=>by
  cases r1
  cases d with
  |true=>rw[Bc rfl]at q1⊢;exact Ba (hb K G1 ι1 σ1 s1 Q F1 q1) (λ_ _ p=>p.up l1 p1) λ_ _ x=>x
  |false=>rw[Ay Bool.false_ne_true]at q1⊢;exact Ba (ho K G1 ι1 σ1 s1 Q F1 q1) (λ_ _ p=>p.up l1 p1) λ_ _ x=>x)
theorem Dx {e:Expr}{p:Pos}{T:TT}(h:Bl Γ A env e T):Cs Γ A env (.Return (some e) p) (λσ Q=>T σ λd σ=>Q (.ret d) σ):=λK G ι σ s Q F q=>
 wpAny_Return_some (A8 h F q λG1 ι1 d v σ1 s1 l1 p1 r1 F1 q1=>(As.mk' (R:=FR) (b:=.ret d) ⟨v,rfl,r1⟩ F1 q1).up l1 p1)
theorem Px {e:Expr}{p:Pos}{T:TT}(h:Bl Γ A env e T)(hi:interactive env=false)(hs:swapsWith e none p.line env=pure false):
  Cs Γ A env (.Expr e p) (λσ Q=>T σ λ_ σ=>Q .next σ):=λK G ι σ s Q F q=>
 wpAny_Expr_any (A8 h F q λG1 ι1 d v σ1 s1 l1 p1 r1 F1 q1=>(As.mk' (R:=FR) (b:=.next) rfl F1 q1).up l1 p1) hi hs
theorem Wi {p:Pos}:Cs Γ A env (.Break p) (λσ Q=>Q .brk σ):=λK G ι σ s Q F q=>wpAny_Break (As.mk' (R:=FR) (b:=.brk) rfl F q)
theorem S1 {t:Expr}{m:Option Expr}{p:Pos}{T:St->(Bool->St->Prop)->Prop}(ht:Wa Γ A env t T):Cs Γ A env (.Assert t m p) (λσ Q=>T σ λc σ=>c=true/\Q .next σ):=λK G ι σ s Q F q=>
 wpAny_Assert_holds (A8 ht F q λG1 ι1 d v σ1 s1 l1 p1 r1 F1 q1=>by cases r1;exact⟨q1.1,(As.mk' (R:=FR) (b:=.next) rfl F1 q1.2).up l1 p1⟩)
noncomputable def Sx (Γ:W) (A:Around) (env:Env) (t:Expr) (T:D->St->(St->Prop)->Prop):Prop:=
 ∀K G ι σ s Q d v,Aa Γ K env G ι σ s->A7 G ι d v->T d σ Q->wpAny (model Γ.prog Γ.w) A (assign t env v) (As Γ K env UR G ι λ_ σ=>Q σ) (λ_ _=>False) s
noncomputable def nD (Γ:W) (A:Around) (env:Env) (ts:List Expr) (T:List D->St->(St->Prop)->Prop):Prop:=
 ((assignEach ts env).length=ts.length/\∀p∈assignEach ts env,p.1=false)/\
 ∀K G ι σ s Q ds vs,Aa Γ K env G ι σ s->Rl G ι ds vs->T ds σ Q->wpAny (model Γ.prog Γ.w) A (assignInOrder ((assignEach ts env).map (·.2)) vs) (As Γ K env UR G ι λ_ σ=>Q σ) (λ_ _=>False) s
theorem Du (H:Ev Γ A env){x:String}{p:Pos}{c:Bool}(hk:Kd env x c):Sx Γ A env (.Name (ofString x) p) (aP c x):=λK G ι σ s Q d v F r q=>
 wpAny_assign_Name (Jq H (hk.sto q.1) F r λs' F'=>As.mk' (R:=UR) (b:=()) trivial F' q.2)
theorem Rk:nD Γ A env [] (λ_ σ Q=>Q σ):=⟨⟨rfl,λ_ h=>absurd h not_mem_nil⟩,λK G ι σ s Q ds vs F r q=>by
 show wpAny _ _ (assignInOrder [] vs) _ _ _
 cases vs<;>exact Be (As.mk' (R:=UR) (b:=()) trivial F q)⟩
theorem Ms {t:Expr}{ts:List Expr}{T:D->St->(St->Prop)->Prop}{T':List D->St->(St->Prop)->Prop}(h:Sx Γ A env t T)(h':nD Γ A env ts T')
  (hns:assignEach (t::ts) env=(false,assign t env)::assignEach ts env):
  nD Γ A env (t::ts) (λds σ Q=>∃d r,ds=d::r/\T d σ λσ=>T' r σ Q):=by
 refine⟨⟨by rw[hns,G8,h'.1.1,G8],λp hp=>?_⟩,λK G ι σ s Q ds vs F r q=>?_⟩
 ·rw[hns]at hp
  rcases E1.mp hp with rfl|hp
  ·rfl
  ·exact h'.1.2 p hp
 ·refine A1 q λd rest Z Y=>?_
  try clear q
  revert Y
  intro q
  subst Z
  refine Ag r λv w V rv rw'=>?_
  try clear r
  subst V
  rw[hns]
  refine Ai (wpAny_holding (Ba (h K G ι σ s _ d v F rv q) (λ_ s1 p=>?_) λ_ _ x=>x))
  refine Cm p λG1 ι1 _ σ1 l1 p1 _ F1 q1=>?_
  try clear p
  exact Ba (h'.2 K G1 ι1 σ1 s1 Q rest w F1 (rw'.mono l1 p1) q1) (λ_ _ p=>p.up l1 p1) λ_ _ x=>x
theorem Pb {l:List (Bool×(Value->Sem Unit))}(h:∀p∈l,p.1=false):l.findIdx? (·.1)=none:=by
 rw[List.findIdx?_eq_none_iff];exact λx hx=>h x hx
theorem Jg (H:Ev Γ A env){ts:List Expr}{k:Nat}{p:Pos}{T:List D->St->(St->Prop)->Prop}(h:nD Γ A env ts T):
  Sx Γ A env (.Tuple ts k p) (λd σ Q=>∃ds,d=.tup ds/\ds.length=ts.length/\T ds σ Q):=λK G ι σ s Q d v F r q=>by
 refine Au q λds Z hl Y=>?_
 try clear q
 revert Y
 intro q
 subst Z
 refine Ag (Ex F.store r) λa vs V hT rl=>?_
 subst V
 refine wpAny_assign_Tuple H.handled (items:=vs.toArray) hT (by rw[h.1.1,size_toArray,rl.length,hl]) (Pb h.1.2) λh' he=>?_
 have F':Aa Γ K env G ι σ {s with heap:=h'}:=F.ext (ht:=F.tk) λa o hh e=>he a o (ne_of_lt (Heap.lt_size e)) e
 exact h.2 K G ι σ _ Q ds vs F' rl q
end
noncomputable def Hv (Tc:St->(Bool->St->Prop)->Prop) (Tb:TS) (n₀:Nat):Nat->TS
 |0,_,_=>False
 |n+1,σ,Q=>Tc σ λc σ1=>if c=true then Tb σ1 λf σ2=>match f with
   | .brk=>Q .next σ2
   | .ret d=>Q (.ret d) σ2
   |_=>∃σ3,G9 n₀ σ2 σ3/\Hv Tc Tb n₀ n σ3 Q
  else Q .next σ1
noncomputable def Ed (C:St->Prop) (Tb:D->TS) (n₀:Nat):List D->TS
 |[],σ,Q=>C σ/\Q .next σ
 |x::r,σ,Q=>C σ/\Tb x σ λf σ1=>match f with
   | .brk=>Q .next σ1
   | .ret d=>Q (.ret d) σ1
   |_=>∃σ2,G9 n₀ σ1 σ2/\Ed C Tb n₀ r σ2 Q
section
variable {α β γ δ:Type}{Γ:W}{K:Cj}{A:Around}{env:Env}{G G' G₂:Gh}{ι ι' ι₂:List Addr}{σ σ':St}{s s₂:Shared}
theorem Wg (H:Ev Γ A env){t:Expr}{b:List Stmt}{p:Pos}{Tc:St->(Bool->St->Prop)->Prop}{Tb:TS}(ht:Wa Γ A env t Tc)(hb:Rr Γ A env b Tb):
  Cs Γ A env (.While t b [] p) (λσ Q=>∃n,Hv Tc Tb σ.own.length n σ Q):=λK G ι σ s Q F Y=>Ad Y λn q=>by
 refine wpAny_While (codeAny_whileLoop (λn s'=>∃G' ι' σ',G.le G'/\Bp ι ι'/\Aa Γ K env G' ι' σ' s'/\Hv Tc Tb σ.own.length n σ' Q) (λn s' h=>?_) n ⟨G,ι,σ,Gh.le.refl _,Bp.refl _,F,q⟩)
 refine Dm h λG1 ι1 σ1 l1 p1 F1 q1=>?_
 try clear h
 cases n with
 |zero=>exact q1.elim
 |succ n=>
  refine Ba (A8 ht F1 q1 (X:=λc s2=>∃G2 ι2 σ2,G1.le G2/\Bp ι1 ι2/\Aa Γ K env G2 ι2 σ2 s2/\(if c=true then Tb σ2 _ else Q .next σ2)) λG2 ι2 c c' σ2 s2 l2 p2 r2 F2 q2=>by cases r2;exact⟨G2,ι2,σ2,l2,p2,F2,q2⟩) (λc s2 h=>?_) λ_ _ x=>x.elim
  refine Dm h λG2 ι2 σ2 l2 p2 F2 q2=>?_
  try clear h
  cases c with
  |true=>
   rw[Bc rfl]at q2⊢
   refine Ba (hb K G2 ι2 σ2 s2 _ F2 q2) (λf s3 h=>?_) λ_ _ x=>x.elim
   refine Cm h λG3 ι3 fd σ3 l3 p3 r3 F3 q3=>?_
   try clear h
   have go:(∃σ4,G9 σ.own.length σ3 σ4/\Hv Tc Tb σ.own.length n σ4 Q)->∃m,m<n+1/\∃G' ι' σ',G.le G'/\Bp ι ι'/\Aa Γ K env G' ι' σ' s3/\Hv Tc Tb σ.own.length m σ' Q:=by
    intro Z
    refine Ab Z λσ4 hw q4=>?_
    clear Z
    refine Bz (F3.weak H.ok hw) λG4 ι4 l4 F4 p4 _=>?_
    exact⟨n,lt_succ_self _,G4,ι4,σ4,((l1.trans l2).trans l3).trans l4,p4 ι (Bt F.store.len) ((p1.trans p2).trans p3),F4,q4⟩
   cases fd with
   |next=>cases r3;exact go q3
   |cont=>cases r3;exact go q3
   |brk=>cases r3;exact(As.mk' (R:=FR) (b:=.next) rfl F3 q3).up ((l1.trans l2).trans l3) ((p1.trans p2).trans p3)
   |ret d=>refine Ab r3 λv V rr=>?_;try clear r3;subst V;exact(As.mk' (R:=FR) (b:=.ret d) ⟨v,rfl,rr⟩ F3 q3).up ((l1.trans l2).trans l3) ((p1.trans p2).trans p3)
  |false=>
   rw[Ay Bool.false_ne_true]at q2⊢
   exact wpAny_execs_nil ((As.mk' (R:=FR) (b:=.next) rfl F2 q2).up (l1.trans l2) (p1.trans p2))
structure Ji (Γ:W)(A:Around)(env:Env)(n₀ gz:Nat)(it:Value)(C:St->Prop)(P:Gh->List Addr->List D->(Addr->Prop)->Shared->Prop):Prop where
 inn:∀{G ι r X s},P G ι r X s->∀a,X a->s.heap.get? a≠none
 keep:∀{G G' ι ι' r X s s'},P G ι r X s->(∀a o,X a->s.heap.get? a=some o->s'.heap.get? a=some o)->A4 s.gens s'.gens->G.le G'->(∀κ:List Addr,κ.length<=n₀->Bp κ ι->Bp κ ι')->P G' ι' r X s'
 item:∀{K G ι σ s x r X},Aa Γ K env G ι σ s->Bv Γ K env G ι X->K.gens.size<=gz->C σ->P G ι (x::r) X s->
  wpAny (model Γ.prog Γ.w) A (pyNext it) (λres s'=>∃v G' X',res=some v/\G.le G'/\Bv Γ K env G' ι X'/\Aa Γ K env G' ι σ s'/\A7 G' ι x v/\P G' ι r X' s') (λ_ _=>False) s
 done:∀{K G ι σ s X},Aa Γ K env G ι σ s->Bv Γ K env G ι X->K.gens.size<=gz->C σ->P G ι [] X s->wpAny (model Γ.prog Γ.w) A (pyNext it) (λres s'=>res=none/\Aa Γ K env G ι σ s') (λ_ _=>False) s
 own:∀{G ι r X s},P G ι r X s->∀(tgt:Expr) (v:Value) (Q:Unit->Shared->Prop),Q () s->wpAny (model Γ.prog Γ.w) A (letOwnedTupleGo tgt it v) Q (λ_ _=>False) s
 self:∀{G ι r X s},P G ι r X s->∀(Q:Value->Shared->Prop),Q it s->wpAny (model Γ.prog Γ.w) A (pyIter it) Q (λ_ _=>False) s
theorem Pa (H:Ev Γ A env){tgt:Expr}{b:List Stmt}{it:Value}{X:Addr->Prop}{C:St->Prop}{P:Gh->List Addr->List D->(Addr->Prop)->Shared->Prop}{n₀ gz:Nat}{Ta:D->St->(St->Prop)->Prop}{Tb:TS}{items:List D}{Q:FD->St->Prop}
  (I:Ji Γ A env n₀ gz it C P)(ha:Sx Γ A env tgt Ta)(hb:Rr Γ A env b Tb)(F:Aa Γ K env G ι σ s)(hX:Bv Γ K env G ι X)(hg:K.gens.size<=gz)(hP:P G ι items X s)(hn:ι.length<=n₀)
  (q:Ed C (λx σ Q=>Ta x σ λσ1=>Tb σ1 Q) n₀ items σ Q):
  codeAny (model Γ.prog Γ.w) A (.forLoop tgt it b [] env) (λr s'=>match r with| .ok f=>As Γ K env FR G ι Q f s'| .error e=>False) s:=by
 refine codeAny_forLoop_any (λn s'=>∃G' ι' σ' r X,n=r.length/\G.le G'/\Bp ι ι'/\Aa Γ K env G' ι' σ' s'/\Bv Γ K env G' ι' X/\P G' ι' r X s'/\Ed C (λx σ Q=>Ta x σ λσ1=>Tb σ1 Q) n₀ r σ' Q)
  (λn s1 h=>?_) _ ⟨G,ι,σ,items,X,rfl,Gh.le.refl _,Bp.refl _,F,hX,hP,q⟩
 refine Cq h λG1 ι1 σ1 r X Y l1 p1 F1 zz=>At zz λX1 P1 q1=>?_
 try clear h
 subst Y
 cases r with
 |nil=>
  refine Ba (I.done F1 X1 hg q1.1 P1) (λres s2 h=>?_) λ_ _ x=>x.elim
  refine Ae h λV F2=>?_
  try clear h
  subst V
  exact Ba (wpAny_execs_nil (E:=λ_ _=>False) ((As.mk' (R:=FR) (b:=.next) rfl F2 q1.2).up l1 p1)) (λ_ _ h=>h) λ_ _ x=>x.elim
 |cons x r=>
  refine Ba (I.item F1 X1 hg q1.1 P1) (λres s2 h=>?_) λ_ _ x=>x.elim
  refine Gv h λv G2 X U l2 X2 F2 r2 P2=>?_
  try clear h
  subst U
  refine Ba (I.own P2 tgt v _ ?_) (λ_ _ h=>h) λ_ _ x=>x.elim
  have F2':=F2.cover X2
  refine Ba (ha _ G2 ι1 σ1 s2 _ x v F2' r2 q1.2) (λ_ s3 h=>?_) λ_ _ x=>x.elim
  refine Cm h λG3 ι3 _ σ3 l3 p3 _ F3 q3=>?_
  try clear h
  refine Ba (hb _ G3 ι3 σ3 s3 _ F3 q3) (λf s4 h=>?_) λ_ _ x=>x.elim
  refine Cm h λG4 ι4 fd σ4 l4 p4 r4 F4 q4=>?_
  try clear h
  refine Bn (F2.uncover X2 (I.inn P2) F4 (l3.trans l4)) λF5 X5 k5 g5=>?_
  have go:(∃σ6,G9 n₀ σ4 σ6/\Ed C (λx σ Q=>Ta x σ λσ1=>Tb σ1 Q) n₀ r σ6 Q)->∃m,m<(x::r).length/\∃G' ι' σ' r X,m=r.length/\G.le G'/\Bp ι ι'/\Aa Γ K env G' ι' σ' s4/\Bv Γ K env G' ι' X/\P G' ι' r X s4/\
    Ed C (λx σ Q=>Ta x σ λσ1=>Tb σ1 Q) n₀ r σ' Q:=by
   intro Z
   refine Ab Z λσ6 hw q6=>?_
   clear Z
   refine Bz (F5.weak H.ok hw) λG6 ι6 l6 F6 p6 x6=>?_
   refine⟨r.length,lt_succ_self _,G6,ι6,σ6,r,X,rfl,((l1.trans l2).trans (l3.trans l4)).trans l6,p6 ι hn ((p1.trans p3).trans p4),F6,λa xa=>?_,?_,q6⟩
   ·refine Bn (X5 a xa) λy1 y2 y3 y4=>?_
    exact⟨(x6 a y1 y2).1,(x6 a y1 y2).2,y3,y4⟩
   ·exact I.keep P2 k5 g5 ((l3.trans l4).trans l6) λκ hk h=>p6 κ hk ((h.trans p3).trans p4)
  have lall:G.le G4:=(l1.trans l2).trans (l3.trans l4)
  have pall:Bp ι ι4:=(p1.trans p3).trans p4
  cases fd with
  |next=>cases r4;exact go q4
  |cont=>cases r4;exact go q4
  |brk=>cases r4;exact(As.mk' (R:=FR) (b:=.next) rfl F5 q4).up lall pall
  |ret d=>refine Ab r4 λv z0 rr=>?_;try clear r4;subst z0;exact(As.mk' (R:=FR) (b:=.ret d) ⟨v,rfl,rr⟩ F5 q4).up lall pall
end
section
variable {α β γ δ:Type}{Γ:W}{K:Cj}{A:Around}{env:Env}{G G' G₂:Gh}{ι ι' ι₂:List Addr}{σ σ':St}{s s₂:Shared}
noncomputable def X4:List String:=["enumerate","zip","dict_itemiterator","dict_reverseitemiterator","odict_iterator","itertools.zip_longest","itertools.pairwise"]
theorem Eu {a:Addr}{T:String}{vs:Array Value}{o:Obj}{Q:Unit->Shared->Prop}{E:Value->Shared->Prop}(ho:s.heap.get? a=some o)(hc:o.cls=.type T)(hd:o.data=.fields vs)(hT:X4.contains T=false)(tgt:Expr)(v:Value)(q:Q () s):
  wpAny (model Γ.prog Γ.w) A (letOwnedTupleGo tgt (.ref a) v) Q E s:=by
 have core:wpAny (model Γ.prog Γ.w) A (do
   let(.ref r,.ref a):=(Value.ref a,v)|return
   let o<-load r
   match o.cls,o.data with
   | .type n,.fields vs=>
    if["enumerate","zip","dict_itemiterator","dict_reverseitemiterator","odict_iterator","itertools.zip_longest","itertools.pairwise"].contains n&&vs[0]? ==some (rawInt a)then
     rule "for.unpacks-the-owned-tuple"
     updateField r 0 .none
   |_,_=>pure ():Sem Unit) Q E s:=by
  cases v<;>try exact Be q
  refine Ai (wpAny_load ho ?_)
  rw[hc,hd]
  dsimp only
  rw[Ay]
  ·exact Be q
  ·rw[show(["enumerate","zip","dict_itemiterator","dict_reverseitemiterator","odict_iterator","itertools.zip_longest","itertools.pairwise"].contains T)=false from hT,Bool.false_and];simp
 cases tgt<;>first|exact core|exact Be q
theorem B5 (F:Aa Γ K env G ι σ s){X:Addr->Prop}{a:Addr}(hX:Bv Γ K env G ι X)(xa:X a){h':Heap}(he:Heap.ExtBut a s.heap h')(t:Nat)(ht:autoParam (0<t) Z2._auto_1):Aa Γ K env G ι σ {s with heap:=h',toks:=t}:=
 F.ext (ht:=ht) λb o hh e=>he b o (λz=>by
  subst z
  refine Bn (hX b xa) λy1 y2 y3 y4=>?_
  rcases hh with h|h|h|h|h
  ·rw[y1]at h;cases h
  ·exact y2 h
  ·exact y3 h
  ·exact y4.1 h
  ·rw[y4.2]at h;cases h) e
noncomputable def kI (a:Addr) (d₀:D) (items:List D) (κ:List Addr):Gh->List Addr->List D->(Addr->Prop)->Shared->Prop:=λG ι r X s=>X=(λb=>b=a)/\
 ∃i l,s.heap.IsListIter a l i/\r=items.drop i/\A7 G κ d₀ (.ref l)/\Bp κ ι
theorem Yv (H:Ev Γ A env){a:Addr}{d₀:D}{items:List D}{κ:List Addr}{n₀ gz:Nat}(hn:κ.length<=n₀):
  Ji Γ A env n₀ gz (.ref a) (λσ=>Al σ.own d₀=some items) (kI a d₀ items κ) where
 inn:=λh0_ b e=>by refine Ae h0_ λeX Z=>?_;try clear h0_;refine A1 Z λi l Y _=>?_;clear Z;refine Au Y λo ho hc hd=>?_;clear Y;subst eX e;rw[ho];exact Option.some_ne_none _
 keep:=λh0_ k _ le kp=>by refine Ae h0_ λeX V=>?_;try clear h0_;refine Bz V λi l U e rl p=>?_;clear V;refine Ab U λo ho r=>?_;clear U;exact⟨eX,i,l,⟨o,k a o (by rw[eX]) ho,r⟩,e,rl.mono le (Bp.refl _),kp κ hn p⟩
 item:=λ{K G ι σ s x r X} F hX _ hC zp_=>by
  refine Ae zp_ λeX z0=>?_
  try clear zp_
  refine Bz z0 λi l hit e rl p=>?_
  clear z0
  subst eX
  refine Ag (A2 F.store (rl.mono (Gh.le.refl _) p) hC) λl' vs e' hl rls=>?_
  cases e'
  have hi:items[i]? =some x:=by
   have:(items.drop i)[0]? =some x:=by rw[<-e];rfl
   rw[List.getElem?_drop]at this;simpa using this
  refine Ab (rls.getElem? hi) λv hv rv=>?_
  refine wpAny_pyNext_list_item hit hl (by simpa using hv) λh' hit' hs=>⟨v,G,_,rfl,Gh.le.refl _,hX,B5 F hX rfl hs.extBut _,rv,rfl,i+1,l,hit',?_,rl,p⟩
  rw[<-List.tail_drop,<-e];rfl
 done:=λ{K G ι σ s X} F hX _ hC zp_=>by
  refine Ae zp_ λeX z1=>?_
  try clear zp_
  refine Bz z1 λi l hit e rl p=>?_
  clear z1
  subst eX
  refine Ag (A2 F.store (rl.mono (Gh.le.refl _) p) hC) λl' vs e' hl rls=>?_
  cases e'
  have hi:vs.toArray[i]? =none:=by
   have h1:items.length<=i:=by
    have:=congrArg List.length e.symm
    rw[length_drop]at this;simp at this;exact Aq (Bk (Cv (items.length) (i)) (Bt this))
   have h2:=rls.length
   simp;exact Aq (Bk (Bt h2) h1)
  exact wpAny_pyNext_list_end H.handled hit hl hi λh' he=>⟨rfl,B5 F hX rfl he _⟩
 own:=λh0_ tgt v Q q=>by refine Ae h0_ λ_ z2=>?_;try clear h0_;refine A1 z2 λi l z3 _=>?_;clear z2;refine Au z3 λo ho hc hd=>?_;clear z3;exact Eu ho hc hd (by decide) tgt v q
 self:=λh0_ Q q=>by refine Ae h0_ λ_ z4=>?_;try clear h0_;refine A1 z4 λi l hit _=>?_;clear z4;exact wpAny_pyIter_listiter hit q
noncomputable def aK (a:Addr) (ty:String) (x:List Nat) (t:Tok):Gh->List Addr->List D->(Addr->Prop)->Shared->Prop:=λG ι r X s=>X=(λb=>b=a)/\
 ∃i,s.heap.IsStrIter a ty ⟨x.toArray⟩ t i/\r=(x.drop i).map λc=>.str [c]
theorem Ni {x:List Nat}{i:Nat}{y:D}{r:List D}(e:y::r=(x.drop i).map λc=>D.str [c]):∃c,x[i]? =some c/\y=.str [c]/\r=(x.drop (i+1)).map λc=>.str [c]:=by
 cases q:x.drop i with
 |nil=>rw[q]at e;cases e
 |cons c z=>
  rw[q]at e
  rw[Gb]at e
  injection e with e1 e2
  refine⟨c,?_,e1,?_⟩
  ·have:(x.drop i)[0]? =some c:=by rw[q];rfl
   rw[List.getElem?_drop]at this;simpa using this
  ·rw[e2,<-List.tail_drop,q];rfl
theorem Qd {x:List Nat}{i:Nat}(e:[]=(x.drop i).map λc=>D.str [c]):x[i]? =none:=by
 have:x.drop i=[]:=by simpa using e.symm
 rw[List.getElem?_eq_none_iff]
 have:=congrArg List.length this
 rw[length_drop]at this;simp at this;exact Aq (Bk (Cv (x.length) (i)) (Bt this))
theorem Vm (H:Ev Γ A env){a:Addr}{x:List Nat}{t:Tok}{n₀ gz:Nat}:
  Ji Γ A env n₀ gz (.ref a) (λ_=>True) (aK a "str_ascii_iterator" x t) where
 inn:=λh0_ b e=>by refine Ae h0_ λeX Z=>?_;try clear h0_;refine Ab Z λi Y _=>?_;clear Z;refine Au Y λo ho hc hd=>?_;clear Y;subst eX e;rw[ho];exact Option.some_ne_none _
 keep:=λh0_ k _ le kp=>by refine Ae h0_ λeX V=>?_;try clear h0_;refine Ab V λi U e=>?_;clear V;refine Ab U λo ho r=>?_;clear U;exact⟨eX,i,⟨o,k a o (by rw[eX]) ho,r⟩,e⟩
 item:=λ{K G ι σ s y r X} F hX _ hC zp_=>by
  refine Ae zp_ λeX z0=>?_
  try clear zp_
  refine Ab z0 λi hit e=>?_
  clear z0
  subst eX
  refine Au (Ni e) λc hc z5 er=>?_
  subst z5
  exact wpAny_pyNext_ascii_item hit (c:=c) (by simpa using hc) λh' hit' hs=>⟨_,G,_,rfl,Gh.le.refl _,hX,B5 F hX rfl hs.extBut _,⟨_,rfl⟩,rfl,i+1,hit',er⟩
 done:=λ{K G ι σ s X} F hX _ hC zp_=>by
  refine Ae zp_ λeX z1=>?_
  try clear zp_
  refine Ab z1 λi hit e=>?_
  clear z1
  subst eX
  exact wpAny_pyNext_ascii_end H.handled hit (by simpa using Qd e) λh' he=>⟨rfl,B5 F hX rfl he _⟩
 own:=λh0_ tgt v Q q=>by refine Ae h0_ λ_ z2=>?_;try clear h0_;refine Ab z2 λi z3 _=>?_;clear z2;refine Au z3 λo ho hc hd=>?_;clear z3;exact Eu ho hc hd (by decide) tgt v q
 self:=λh0_ Q q=>by refine Ae h0_ λ_ z4=>?_;try clear h0_;refine Ab z4 λi hit _=>?_;clear z4;exact wpAny_pyIter_striter_ascii hit q
theorem Yu (H:Ev Γ A env){a:Addr}{x:List Nat}{t:Tok}{n₀ gz:Nat}:
  Ji Γ A env n₀ gz (.ref a) (λ_=>True) (aK a "str_iterator" x t) where
 inn:=λh0_ b e=>by refine Ae h0_ λeX Z=>?_;try clear h0_;refine Ab Z λi Y _=>?_;clear Z;refine Au Y λo ho hc hd=>?_;clear Y;subst eX e;rw[ho];exact Option.some_ne_none _
 keep:=λh0_ k _ le kp=>by refine Ae h0_ λeX V=>?_;try clear h0_;refine Ab V λi U e=>?_;clear V;refine Ab U λo ho r=>?_;clear U;exact⟨eX,i,⟨o,k a o (by rw[eX]) ho,r⟩,e⟩
 item:=λ{K G ι σ s y r X} F hX _ hC zp_=>by
  refine Ae zp_ λeX z0=>?_
  try clear zp_
  refine Ab z0 λi hit e=>?_
  clear z0
  subst eX
  refine Au (Ni e) λc hc z5 er=>?_
  subst z5
  exact wpAny_pyNext_wide_item hit (c:=c) (by simpa using hc) λh' hit' hs=>⟨_,G,_,rfl,Gh.le.refl _,hX,B5 F hX rfl hs.extBut _,⟨_,rfl⟩,rfl,i+1,hit',er⟩
 done:=λ{K G ι σ s X} F hX _ hC zp_=>by
  refine Ae zp_ λeX z1=>?_
  try clear zp_
  refine Ab z1 λi hit e=>?_
  clear z1
  subst eX
  exact wpAny_pyNext_wide_end H.handled hit (by simpa using Qd e) λh' he=>⟨rfl,B5 F hX rfl he _⟩
 own:=λh0_ tgt v Q q=>by refine Ae h0_ λ_ z2=>?_;try clear h0_;refine Ab z2 λi z3 _=>?_;clear z2;refine Au z3 λo ho hc hd=>?_;clear z3;exact Eu ho hc hd (by decide) tgt v q
 self:=λh0_ Q q=>by refine Ae h0_ λ_ z4=>?_;try clear h0_;refine Ab z4 λi hit _=>?_;clear z4;exact wpAny_pyIter_striter_wide hit q
noncomputable def Cx (a c:Int) (n:Nat):List D:=(List.range n).map λ(i:Nat)=>D.int (a+(i:Int)*c)
theorem Gj (a c:Int)(n:Nat):Cx a c (n+1)=.int a::Cx (a+c) c n:=by
 unfold Cx
 rw[List.range_succ_eq_map,Gb,map_map]
 congr 1
 ·simp
 ·apply map_congr_left
  intro i _
  simp only[Function.comp]
  congr 1
  push_cast
  rw[Int.add_mul];simp +arith only
noncomputable def jH (a:Addr) (c:Int):Gh->List Addr->List D->(Addr->Prop)->Shared->Prop:=λG ι r X s=>X=(λb=>b=a)/\∃x n,IsRangeIter s.heap a x (n:Nat) c/\r=Cx x c n
theorem Vl (H:Ev Γ A env){a:Addr}{c:Int}{n₀ gz:Nat}:
  Ji Γ A env n₀ gz (.ref a) (λ_=>True) (jH a c) where
 inn:=λh0_ b e=>by refine Ae h0_ λeX Z=>?_;try clear h0_;refine A1 Z λi n ho _=>?_;clear Z;subst eX e;rw[ho];exact Option.some_ne_none _
 keep:=λh0_ k _ le kp=>by refine Ae h0_ λeX Y=>?_;try clear h0_;refine A1 Y λi n ho e=>?_;clear Y;exact⟨eX,i,n,k a _ (by rw[eX]) ho,e⟩
 item:=λ{K G ι σ s y r X} F hX _ hC zp_=>by
  refine Ae zp_ λeX V=>?_
  try clear zp_
  refine A1 V λi n hit e=>?_
  clear V
  subst eX
  cases n with
  |zero=>cases e
  |succ n=>
   rw[Gj]at e
   injection e with e1 e2
   subst e1
   refine wpAny_pyNext_range_item hit (by exact Int.ofNat_lt.2 (by simp +arith only:0<(n+1))) λh' hit' hs=>⟨_,G,_,rfl,Gh.le.refl _,hX,B5 F hX rfl hs.extBut _,⟨_,rfl⟩,rfl,i+c,n,?_,e2⟩
   rw[show((n:Nat):Int)=((n+1:Nat):Int)-1 by exact(rF _).symm];exact hit'
 done:=λ{K G ι σ s X} F hX _ hC zp_=>by
  refine Ae zp_ λeX U=>?_
  try clear zp_
  refine A1 U λi n hit e=>?_
  clear U
  subst eX
  cases n with
  |succ n=>rw[Gj]at e;cases e
  |zero=>exact wpAny_pyNext_range_end H.handled hit (by simp) λh' he=>⟨rfl,B5 F hX rfl he _⟩
 own:=λh0_ tgt v Q q=>by refine Ae h0_ λ_ z0=>?_;try clear h0_;refine A1 z0 λi n ho _=>?_;clear z0;exact Eu ho rfl rfl (by decide) tgt v q
 self:=λh0_ Q q=>by refine Ae h0_ λ_ z1=>?_;try clear h0_;refine A1 z1 λi n hit _=>?_;clear z1;exact wpAny_pyIter_rangeiter hit q
theorem Iv (F:Aa Γ K env G ι σ s):Bv Γ K env G ι (λb=>b=s.heap.objs.size):=λa e=>by
 subst e
 refine⟨F.store.gfresh,λh=>?_,λh=>?_,λh=>?_,Classical.byContradiction λh=>?_⟩
 ·exact lt_irrefl _ (F.store.lt _ h)
 ·exact lt_irrefl _ (F.lt_own (.inr (.inr (.inl h))))
 ·exact lt_irrefl _ (F.own_lt h)
 ·exact lt_irrefl _ (F.lt_own (.inr (.inr (.inr (.inr h)))))
theorem Jt (a b c:Int):0<=Builtin.Range.rangeSize a b c:=by
 unfold Builtin.Range.rangeSize
 split
 ·split
  ·rename_i h h2;exact Int.add_nonneg (Int.ediv_nonneg (Int.le_sub_one_of_lt (Int.sub_pos_of_lt h2)) (Int.le_of_lt h)) (by decide)
  ·decide
 ·split
  ·rename_i h h2;exact Int.add_nonneg (Int.ediv_nonneg (Int.le_sub_one_of_lt (Int.sub_pos_of_lt h2)) (Int.neg_nonneg_of_nonpos (Int.not_lt.1 h))) (by decide)
  ·decide
noncomputable def Kw (d:D) (σ:St) (k:List D->(St->Prop)->Prop):Prop:=match d with
 | .str l=>k (l.map λc=>.str [c]) (λ_=>True)
 | .rng a b c=>(c≠0/\Builtin.Range.small a b c=true)/\k (Cx a c (Builtin.Range.rangeSize a b c).toNat) (λ_=>True)
 |d=>∃items,Al σ.own d=some items/\k items (λσ'=>Al σ'.own d=some items)
theorem Ow {A':Around}(H:Ev Γ A env){d:D}{v:Value}{k:List D->(St->Prop)->Prop}(F:Aa Γ K env G ι σ s)(r:A7 G ι d v)(q:Kw d σ k):
  wpAny (model Γ.prog Γ.w) A' (pyIter v) (λit s'=>∃X C P items,(∀env' gz,Ev Γ A env'->Ji Γ A env' ι.length gz it C P)/\(∀a,X a->s.heap.get? a=none)/\(∀a o,s.heap.get? a=some o->s'.heap.get? a=some o)/\s'.os=s.os/\s'.gens=s.gens/\Aa Γ K env G ι σ s'/\Bv Γ K env G ι X/\P G ι items X s'/\k items C) (λ_ _=>False) s:=by
 have lst:∀{d:D} {v:Value},A7 G ι d v->(∃items,Al σ.own d=some items/\k items (λσ'=>Al σ'.own d=some items))->
   wpAny (model Γ.prog Γ.w) A' (pyIter v) (λit s'=>∃X C P items,(∀env' gz,Ev Γ A env'->Ji Γ A env' ι.length gz it C P)/\(∀a,X a->s.heap.get? a=none)/\(∀a o,s.heap.get? a=some o->s'.heap.get? a=some o)/\s'.os=s.os/\s'.gens=s.gens/\Aa Γ K env G ι σ s'/\Bv Γ K env G ι X/\P G ι items X s'/\k items C) (λ_ _=>False) s:=by
  intro d v r Z
  refine Ab Z λitems e q=>?_
  clear Z
  refine Ag (A2 F.store r e) λl vs Y hl rl=>?_
  subst Y
  refine wpAny_pyIter_list hl ⟨_,_,kI s.heap.objs.size d items ι,items,λ_ _ H=>Yv H (le_refl _),λa e=>by subst e;exact Heap.get?_none_of_le (le_refl _),λa o e=>Ft _ e,rfl,rfl,F.push _ _,Iv F,⟨rfl,0,l,⟨_,Heap.get?_push_size _ rfl,rfl,rfl⟩,rfl,r,Bp.refl _⟩,q⟩
 cases d with
 |str x=>
  refine Ad r λt V=>?_
  try clear r
  subst V
  cases ha:(⟨x.toArray⟩:Str).cps.all (·<128)
  ·refine wpAny_pyIter_wide ha ⟨_,_,aK s.heap.objs.size "str_iterator" x t,_,λ_ _ H=>Yu H,λa e=>by subst e;exact Heap.get?_none_of_le (le_refl _),λa o e=>Ft _ e,rfl,rfl,F.push _ _,Iv F,⟨rfl,0,⟨_,Heap.get?_push_size _ rfl,rfl,rfl⟩,rfl⟩,q⟩
  ·refine wpAny_pyIter_ascii ha ⟨_,_,aK s.heap.objs.size "str_ascii_iterator" x t,_,λ_ _ H=>Vm H,λa e=>by subst e;exact Heap.get?_none_of_le (le_refl _),λa o e=>Ft _ e,rfl,rfl,F.push _ _,Iv F,⟨rfl,0,⟨_,Heap.get?_push_size _ rfl,rfl,rfl⟩,rfl⟩,q⟩
 |none=>exact lst r q
 |bool b=>exact lst r q
 |int i=>exact lst r q
 |tup l=>exact lst r q
 |rng a b c=>
  refine Q5 r λl t u w U g=>?_
  try clear r
  subst U
  refine wpAny_pyIter_range (F.store.gin _ _ g) q.1.2 ⟨_,_,jH s.heap.objs.size c,_,λ_ _ H=>Vl H,λa e=>by subst e;exact Heap.get?_none_of_le (le_refl _),λa o e=>Ft _ e,rfl,rfl,F.push _ _,Iv F,⟨rfl,a,(Builtin.Range.rangeSize a b c).toNat,?_,rfl⟩,q.2⟩
  have h0:0<=Builtin.Range.rangeSize a b c:=Jt _ _ _
  rw[show(((Builtin.Range.rangeSize a b c).toNat:Nat):Int)=Builtin.Range.rangeSize a b c from Int.toNat_of_nonneg h0]
  exact Heap.get?_push_size _ rfl
 |lst l=>exact lst r q
 |obj l=>exact lst r q
 |raw l=>exact lst r q
 |app l=>exact lst r q
 |sem l=>exact lst r q
theorem Z6 (H:Ev Γ A env){tgt it:Expr}{b:List Stmt}{p:Pos}{T:TT}{Ta:D->St->(St->Prop)->Prop}{Tb:TS}(hi:Bl Γ A env it T)(ha:Sx Γ A env tgt Ta)(hb:Rr Γ A env b Tb)
  (hs:∀x,foldedSetIterable it env x=pure x):
  Cs Γ A env (.For tgt it b [] p) (λσ Q=>T σ λd σ1=>Kw d σ1 λitems C=>Ed C (λx σ Q=>Ta x σ λσ1=>Tb σ1 Q) σ1.own.length items σ1 Q):=λK G ι σ s Q F q=>
 wpAny_For (A8 hi F q λG1 ι1 d v σ1 s1 l1 p1 r1 F1 q1=>Ba (Ow H F1 r1 q1) (λit s2 Z=>Cd Z λX C P items I _ _ _ _ zz=>Bn zz λF2 X2 P2 q2=>
  codeAny_mono (Pa H (n₀:=σ1.own.length) (by rw[<-F1.store.len];exact I env _ H) ha hb F2 X2 (le_refl _) P2 (Bt F1.store.len) q2) λr s' h=>by
   cases r with
   |ok f=>exact h.up l1 p1
   |error e=>exact h.elim) λ_ _ x=>x) hs
end
noncomputable def K9 {α:Type} (l:List α) (k:Int):Option α:=(seqIndex? k l.length).bind (l[·]?)
noncomputable def K0 {α:Type} (l:List α) (lo hi st:Option Int):List α:=
 (sliceRange (sliceBounds lo hi st l.length).1 (sliceBounds lo hi st l.length).2.1 (sliceBounds lo hi st l.length).2.2).filterMap (l[·]?)
section
variable {α β γ δ:Type}{Γ:W}{K:Cj}{A:Around}{env:Env}{G G₀ G':Gh}{ι ι':List Addr}{σ:St}{s s':Shared}
abbrev H8 (Γ:W)(A:Around)(env:Env)(pos:Pos)(es:List Expr)(T:St->(List D->St->Prop)->Prop):=Tr Γ A env LR (spliced (backTo pos (starEach es env))) T
theorem Br {pos:Pos}:H8 Γ A env pos [] (tU []):=λK G ι σ s Q F q=>wpAny_items_nil (As.mk' (R:=LR) (b:=[]) (show Rl G ι [] []from rfl) F q)
theorem A0 {pos:Pos}{e:Expr}{es:List Expr}{T:TT}{T':St->(List D->St->Prop)->Prop}(h:Bl Γ A env e T)(h':H8 Γ A env pos es T')(hs:starEach (e::es) env=(false,eval e env)::starEach es env):
  H8 Γ A env pos (e::es) (λσ Q=>T σ λd σ=>T' σ λds σ=>tU (d::ds) σ Q):=λK G ι σ s Q F q=>
 wpAny_items_cons (A8 h F q λG1 ι1 d v σ1 s1 l1 p1 r1 F1 q1=>A8 h' F1 q1 λG2 ι2 ds vs σ2 s2 l2 p2 r2 F2 q2=>
  (As.mk' (R:=LR) (b:=d::ds) (show Rl G2 ι2 (d::ds) (v::vs)from⟨v,vs,rfl,r1.mono l2 p2,r2⟩) F2 q2).up (l1.trans l2) (p1.trans p2)) hs
theorem Ei {pos:Pos}{es:List Expr}{T:St->(List D->St->Prop)->Prop}(h:H8 Γ A env pos es T):
  Bl Γ A env (.List es pos) (λσ Q=>T σ λds σ=>ds.length<=sizeLine/\tV (.obj σ.own.length) {σ with own:=σ.own++[ds]} Q):=λK G ι σ s Q F q=>
 wpAny_List (A8 h F q λG1 ι1 ds vs σ1 s1 l1 p1 r1 F1 q1=>⟨by rw[r1.length];exact q1.1,
  (As.mk' (R:=VR) (Iy F1) (F1.newOwn r1 0 s1.toks F1.tk) q1.2).up l1 (p1.trans (Bp.append _ _))⟩)
theorem Hx (H:Ev Γ A env){pos:Pos}{k:Nat}{es:List Expr}{T:St->(List D->St->Prop)->Prop}(h:H8 Γ A env pos es T):
  Bl Γ A env (.Tuple es k pos) (λσ Q=>T σ λds σ=>ds.length<=sizeLine/\tV (.tup ds) σ Q):=λK G ι σ s Q F q=>
 wpAny_Tuple (A8 h F q λG1 ι1 ds vs σ1 s1 l1 p1 r1 F1 q1=>⟨by rw[r1.length];exact q1.1,by
  refine Ae (F1.alloc H.ok (o:={cls:=.type "tuple",data:=.seq vs.toArray}) rfl s1.toks F1.tk) λle F2=>?_
  exact(Fx (d:=.tup ds) ⟨_,vs,rfl,⟨_,Gh.put_self _ _ _,rfl,_,rfl⟩,r1.mono le (Bp.refl _)⟩ F2 q1.2).up (l1.trans le) p1⟩)
noncomputable def Bb (k:Int):Prop:= -(2^63)<=k/\k<2^63
noncomputable def Zm (o:D) (k:Int) (σ:St) (Q:D->Prop):Prop:=match o with
 | .str x=>Bb k/\∃c,K9 x k=some c/\Q (.str [c])
 | .tup l=>Bb k/\∃d,K9 l k=some d/\Q d
 |o=>∃l,Al σ.own o=some l/\Bb k/\∃d,K9 l k=some d/\Q d
noncomputable def Ml (o i:D) (σ:St) (Q:D->Prop):Prop:=match i with
 | .int k=>Zm o k σ Q
 |_=>False
theorem Vw {o i:D}{σ:St}{Q:D->Prop}(h:Ml o i σ Q):∃k,i=.int k/\Zm o k σ Q:=by
 cases i<;>first|exact⟨_,rfl,h⟩|exact h.elim
theorem Iz {l:List α}{k:Int}{x:α}(h:K9 l k=some x):∃j,seqIndex? k l.length=some j/\l[j]? =some x:=by
 unfold K9 at h
 cases e:seqIndex? k l.length with
 |none=>rw[e]at h;cases h
 |some j=>rw[e]at h;exact⟨j,rfl,h⟩
theorem E9 {k:Int}{n j:Nat}(h:seqIndex? k n=some j):j<n/\((0<=k/\(j:Int)=k)\/(k<0/\(j:Int)=k+n)):=by
 unfold seqIndex? at h
 by_cases hk:k<0
 ·simp only[hk,if_true,Bool.and_eq_true,decide_eq_true_eq,Option.ite_none_right_eq_some,Option.some.injEq]at h
  have e:(j:Int)=k+n:=by rw[<-h.2,Int.toNat_of_nonneg h.1.1]
  exact⟨Int.ofNat_lt.1 (by rw[e];exact h.1.2),.inr ⟨hk,e⟩⟩
 ·simp only[hk,if_false,Bool.and_eq_true,decide_eq_true_eq,Option.ite_none_right_eq_some,Option.some.injEq]at h
  have e:(j:Int)=k:=by rw[<-h.2,Int.toNat_of_nonneg h.1.1]
  exact⟨Int.ofNat_lt.1 (by rw[e];exact h.1.2),.inl ⟨Int.not_lt.1 hk,e⟩⟩
theorem Q3 {a:Addr}{vs:List Value}{k:Int}{t:Tok}{v:Value}{Q:Value->Shared->Prop}{E:Value->Shared->Prop}(hl:s.heap.IsList a vs.toArray)(hw:Bb k)(hv:K9 vs k=some v)(q:Q v s):
  wpAny (model Γ.prog Γ.w) A (getItem (.ref a) (.int k t)) Q E s:=by
 refine Ab (Iz hv) λj hj e=>?_
 refine Ae (E9 hj) λhlt h=>?_
 rcases h with⟨h0,hk⟩|⟨h0,hk⟩
 ·exact wpAny_getItem_list hl h0 hw.2 (by rw[show k.toNat=j by rw[<-hk];rfl];simpa using e) q
 ·exact wpAny_getItem_list_neg hl h0 (by simp;exact Int.le_of_sub_nonneg (by rw[Int.sub_neg,<-hk];exact Int.natCast_nonneg j)) hw.1 (by rw[show(k+(vs.toArray.size:Int)).toNat=j by simp;rw[<-hk];rfl];simpa using e) q
theorem Rl.nth {ds:List D}{vs:List Value}(r:Rl G ι ds vs){k:Int}{d:D}(h:Mine.Internal.K9 ds k=some d):∃v,Mine.Internal.K9 vs k=some v/\A7 G ι d v:=by
 refine Ab (Iz h) λj hj e=>?_
 refine Ab (r.getElem? e) λv hv rv=>?_
 exact⟨v,by unfold Mine.Internal.K9;rw[r.length,hj];exact hv,rv⟩
theorem Sd {o:D}{k:Int}{vo vi:Value}{Q:D->Prop}(F:Aa Γ K env G ι σ s)(ro:A7 G ι o vo)(ri:A7 G ι (.int k) vi)(h:∃l,Al σ.own o=some l/\Bb k/\∃d,K9 l k=some d/\Q d):
  wpAny (model Γ.prog Γ.w) A (getItem vo vi) (λv s'=>∃d,Aa Γ K env G ι σ s'/\A7 G ι d v/\Q d) (λ_ _=>False) s/\∃T id,s.TypeIs vo T/\typeLookup (.type T) "__getitem__"=pure (some (.builtin id)):=by
 refine Au h λl hl hw Z=>?_
 clear h
 refine Ab Z λd hd q=>?_
 clear Z
 refine Ad ri λu Y=>?_
 clear ri
 subst Y
 refine Ag (A2 F.store ro hl) λa vs V hT rl=>?_
 subst V
 refine Ab (rl.nth hd) λv hv rv=>?_
 exact⟨Q3 hT hw hv ⟨d,F,rv,q⟩,"list",_,hT.typeIs,slot_list_getitem.lookup⟩
theorem N0 {o i:D}{vo vi:Value}{Q:D->Prop}(F:Aa Γ K env G ι σ s)(ro:A7 G ι o vo)(ri:A7 G ι i vi)(h:Ml o i σ Q):
  wpAny (model Γ.prog Γ.w) A (getItem vo vi) (λv s'=>∃d,Aa Γ K env G ι σ s'/\A7 G ι d v/\Q d) (λ_ _=>False) s/\∃T id,s.TypeIs vo T/\typeLookup (.type T) "__getitem__"=pure (some (.builtin id)):=by
 refine Ab (Vw h) λk zk h=>?_
 subst zk
 cases o with
 |str x=>
  refine Ae h λhw Z=>?_
  try clear h
  refine Ab Z λc hc q=>?_
  clear Z
  refine Ad ro λt V=>?_
  try clear ro
  subst V;refine Ad ri λu U=>?_;try clear ri;subst U
  refine Ab (Iz hc) λj hj e=>?_
  exact⟨getItem_str (by simp only[Bool.or_eq_false_iff,decide_eq_false_iff_not];exact⟨Int.not_lt.2 hw.1,Int.not_le.2 hw.2⟩) (c:=c) (by rw[Bm,hj];simpa using e) ⟨.str [c],F.toks _,⟨_,rfl⟩,q⟩,"str",_,typeIs_str _ _ _,PySem.F.slot_str_getitem.lookup⟩
 |tup l=>
  refine Ae h λhw Y=>?_
  try clear h
  refine Ab Y λd hd q=>?_
  clear Y
  refine Ad ri λu z0=>?_
  try clear ri
  subst z0
  refine Ag (Ex F.store ro) λa vs z1 hT rl=>?_
  subst z1
  refine Ab (rl.nth hd) λv hv rv=>?_
  refine Ab (Iz hv) λj hj e=>?_
  exact⟨getItem_tuple hT hw.1 hw.2 (by simpa using hj) (by simpa using e) ⟨d,F,rv,q⟩,"tuple",_,hT.typeIs,slot_tuple_getitem.lookup⟩
 |_=>exact Sd F ro ri h
theorem Ju {value slice:Expr}{pos:Pos}{T1 T2:TT}(h1:Bl Γ A env value T1)(h2:Bl Γ A env slice T2)(hs:∀o i,subscripted slice false o i=operate [o,i] (getItem o i)):
  Bl Γ A env (.Subscript value slice pos) (λσ Q=>T1 σ λo σ=>T2 σ λi σ=>Ml o i σ (ap Q σ)):=λK G ι σ s Q F h=>
 Subscript_ (A8 h1 F h λG1 ι1 a va σ1 s1 l1 p1 r1 F1 q1=>A8 h2 F1 q1 λG2 ι2 b vb σ2 s2 l2 p2 r2 F2 q2=>by
  obtain⟨hg,T,id,hT,hl⟩:=N0 F2 (r1.mono l2 p2) r2 q2
  exact tail_any hT hl (Ba hg (λv s' h2_=>by obtain⟨d,F',r,q⟩:=h2_;exact(Fx r F' q).up (l1.trans l2) (p1.trans p2)) λ_ _ x=>x) (hs va vb))
noncomputable def PR:Mv Value (Option Int):=λ_ _ o v=>∃p:Option (Int×Tok),v=partValue p/\p.map (·.1)=o
abbrev mJ (Γ:W)(A:Around)(env:Env)(x:Option Expr)(T:St->(Option Int->St->Prop)->Prop):=Tr Γ A env PR (evalPart x env) T
theorem fN:mJ Γ A env none (tU none):=λK G ι σ s Q F q=>by
 rw[evalPart_none];exact Be (As.mk' (R:=PR) (b:=none) ⟨none,rfl,rfl⟩ F q)
theorem Ly {e:Expr}{T:TT}(h:Bl Γ A env e T):mJ Γ A env (some e) (λσ Q=>T σ λd σ=>∃k,d=.int k/\tU (some k) σ Q):=λK G ι σ s Q F q=>by
 rw[evalPart_some]
 exact A8 h F q λG1 ι1 d v σ1 s1 l1 p1 r1 F1 Z=>Ab Z λk e q1=>by
  subst e;refine Ad r1 λt Y=>?_;try clear r1;subst Y
  exact(As.mk' (R:=PR) (b:=some k) ⟨some (k,t),rfl,rfl⟩ F1 q1).up l1 p1
theorem Sf (p:Option (Int×Tok)):IsPart (partValue p) (p.map (·.1)):=by
 cases p with
 |none=>exact .none
 |some q=>exact .int _ _
theorem Rl.filterMap {ds:List D}{vs:List Value}(r:Rl G ι ds vs):∀(ks:List Nat),Rl G ι (ks.filterMap (ds[·]?)) (ks.filterMap (vs[·]?)):=by
 intro lq
 induction lq with
 |nil=>exact rfl
 |cons k ks ih=>
  rw[List.filterMap_cons,List.filterMap_cons]
  cases e:ds[k]? with
  |none=>
   have:vs[k]? =none:=by rw[List.getElem?_eq_none_iff]at e⊢;rw[r.length];exact e
   rw[this];exact ih
  |some d=>
   refine Ab (r.getElem? e) λv hv rv=>?_
   rw[hv];exact⟨v,_,rfl,rv,ih⟩
theorem Rl.pick {ds:List D}{vs:List Value}(r:Rl G ι ds vs)(lo hi st:Option Int):Rl G ι (Mine.Internal.K0 ds lo hi st) (Mine.Internal.K0 vs lo hi st):=by
 unfold Mine.Internal.K0;rw[r.length];exact r.filterMap _
noncomputable def cut {α:Type} (l:List α) (lo hi:Option Int):List α:=(l.drop (kms_lo lo l.length)).take (kms_hi hi l.length-kms_lo lo l.length)
theorem Nq (xs:List α)(a:Nat):∀k:Nat,((List.range k).map (a+·)).filterMap (xs[·]?)=(xs.drop a).take k:=by
 intro lq
 induction lq with
 |zero=>simp
 |succ k ih=>
  rw[List.range_succ,Id,List.filterMap_append,ih,take_add_one]
  congr 1
  simp only[Gb,List.map_nil,List.getElem?_drop]
  cases h:xs[a+k]? <;>simp[h]
theorem Nr (l:List α)(lo hi:Option Int):K0 l lo hi none=cut l lo hi:=by
 unfold K0 cut
 rw[kms_bounds]
 simp only
 rw[sliceRange_one,Nq]
theorem Vj (v:Option Int)(n:Nat):kms_hi v n<=n:=by
 cases v with
 |none=>exact le_refl _
 |some v=>
  show(if _ then _ else _)<=_
  by_cases h:v<0
  ·rw[Bc h];exact sub_le _ _
  ·rw[Ay h];exact min_le_right _ _
noncomputable def Mk (o:D) (lo hi st:Option Int) (σ:St) (Q:D->St->Prop):Prop:=match o with
 | .str x=>st=none/\x.length<=sizeLine/\Q (.str (cut x lo hi)) σ
 |o=>st≠some 0/\∃l,Al σ.own o=some l/\l.length<=sizeLine/\Q (.obj σ.own.length) {σ with own:=σ.own++[K0 l lo hi st]}
theorem On {x:List Nat}{t:Tok}{l u:Option (Int×Tok)}{Q:D->St->Prop}(F:Aa Γ K env G ι σ s)(hx:x.length<=sizeLine)
  (h:Q (.str (cut x (l.map (·.1)) (u.map (·.1)))) σ):(sliceMade ⟨x.toArray⟩ t l u none).post (As Γ K env VR G ι Q) s:=by
 have e:slicePicked ⟨x.toArray⟩ l u none=(List.range (kms_hi (u.map (·.1)) x.length-kms_lo (l.map (·.1)) x.length)).map (kms_lo (l.map (·.1)) x.length+·):=by
  rw[<-sliceRange_one]
  have:=kms_bounds (l.map (·.1)) (u.map (·.1)) x.length
  show sliceRange (sliceBounds (l.map (·.1)) (u.map (·.1)) none (Str.length ⟨x.toArray⟩)).1 (sliceBounds (l.map (·.1)) (u.map (·.1)) none (Str.length ⟨x.toArray⟩)).2.1 1=_
  rw[Bm,this]
 unfold sliceMade
 rw[e,Bm]
 refine L7 (λm=>Made.post m _ _) (λhc=>?_) λhc=>?_
 ·have hl:kms_hi (u.map (·.1)) x.length-kms_lo (l.map (·.1)) x.length=x.length:=by simpa using hc
  have h2:=Vj (u.map (·.1)) x.length
  have h3:kms_lo (l.map (·.1)) x.length=0\/x=[]:=by
   cases x with
   |nil=>exact .inr rfl
   |cons a b=>simp only[G8]at hl h2⊢;exact .inl (sS λh=>lt_irrefl _ (lt_of_lt_of_le (Nat.sub_lt (succ_pos _) h) (Ao (Bt hl.symm) (Nat.sub_le_sub_right h2 _))))
  refine Ix F rfl ?_
  have:cut x (l.map (·.1)) (u.map (·.1))=x:=by
   unfold cut
   rw[hl]
   rcases h3 with h3|h3
   ·rw[h3];simp
   ·subst h3;simp
  rw[this]at h;exact h
 ·have ec:((List.range (kms_hi (u.map (·.1)) x.length-kms_lo (l.map (·.1)) x.length)).map (kms_lo (l.map (·.1)) x.length+·)).filterMap ((⟨x.toArray⟩:Str).cps[·]?)=cut x (l.map (·.1)) (u.map (·.1)):=by
   rw[show(λ(i:Nat)=>(⟨x.toArray⟩:Str).cps[i]?)=λi=>x[i]? from funext λi=>by simp,Nq];rfl
  rw[ec]
  refine⟨?_,Ix (F.toks _) rfl h⟩
  rw[Bm]
  have:(cut x (l.map (·.1)) (u.map (·.1))).length<=x.length:=by unfold cut;simp;exact Ao (min_le_right _ _) (sub_le _ _)
  exact Ao this hx
theorem Qh {o:D}{vo:Value}{a:Addr}{l u st:Option (Int×Tok)}{Q:D->St->Prop}(F:Aa Γ K env G ι σ s)(ro:A7 G ι o vo)
  (hs:s.heap.get? a=some {cls:=.type "slice",data:=.fields #[partValue l,partValue u,partValue st]})(h:st.map (·.1)≠some 0/\∃ds,Al σ.own o=some ds/\ds.length<=sizeLine/\Q (.obj σ.own.length) {σ with own:=σ.own++[K0 ds (l.map (·.1)) (u.map (·.1)) (st.map (·.1))]}):
  wpAny (model Γ.prog Γ.w) A (getItem vo (.ref a)) (As Γ K env VR G ι Q) (λ_ _=>False) s/\∃T id,s.TypeIs vo T/\typeLookup (.type T) "__getitem__"=pure (some (.builtin id)):=by
 refine Ae h λh0 Z=>?_
 clear h
 refine Au Z λds hl hz q=>?_
 clear Z
 refine Ag (A2 F.store ro hl) λb vs Y hT rl=>?_
 subst Y
 refine⟨wpAny_getItem_list_slice hT ⟨_,hs,rfl,rfl⟩ (Sf l) (Sf u) (Sf st) h0 ?_ (by rw[size_toArray,rl.length];exact hz),"list",_,hT.typeIs,slot_list_getitem.lookup⟩
 have e:slicePick vs.toArray (l.map (·.1)) (u.map (·.1)) (st.map (·.1))=(K0 vs (l.map (·.1)) (u.map (·.1)) (st.map (·.1))).toArray:=by
  unfold slicePick K0;simp
 rw[e]
 exact(As.mk' (R:=VR) (Iy F) (F.newOwn (rl.pick _ _ _) 0 s.toks) q).up (Gh.le.refl _) (Bp.append _ _)
theorem Rw {o:D}{vo:Value}{a:Addr}{l u st:Option (Int×Tok)}{Q:D->St->Prop}(F:Aa Γ K env G ι σ s)(ro:A7 G ι o vo)
  (hs:s.heap.get? a=some {cls:=.type "slice",data:=.fields #[partValue l,partValue u,partValue st]})(h:Mk o (l.map (·.1)) (u.map (·.1)) (st.map (·.1)) σ Q):
  wpAny (model Γ.prog Γ.w) A (getItem vo (.ref a)) (As Γ K env VR G ι Q) (λ_ _=>False) s/\∃T id,s.TypeIs vo T/\typeLookup (.type T) "__getitem__"=pure (some (.builtin id)):=by
 cases o with
 |str x=>
  refine At h λh0 hz q=>?_
  try clear h
  refine Ad ro λt Z=>?_
  try clear ro
  subst Z
  have:st=none:=by simpa using h0
  subst this
  exact⟨wpAny_getItem_str_slice (st:=none) ⟨_,hs,rfl,rfl⟩ rfl (On F hz q),"str",_,typeIs_str _ _ _,PySem.F.slot_str_getitem.lookup⟩
 |_=>exact Qh F ro hs h
theorem Hz {value:Expr}{lo hi st:Option Expr}{p pos:Pos}{T:TT}{T1 T2 T3:St->(Option Int->St->Prop)->Prop}(h:Bl Γ A env value T)(h1:mJ Γ A env lo T1)(h2:mJ Γ A env hi T2)(h3:mJ Γ A env st T3)
  (hs:∀o i,∃ops,subscripted (.Slice lo hi st p) false o i=operate ops (getItem o i)):
  Bl Γ A env (.Subscript value (.Slice lo hi st p) pos) (λσ Q=>T σ λo σ=>T1 σ λx σ=>T2 σ λy σ=>T3 σ λz σ=>Mk o x y z σ Q):=λK G ι σ s Q F h'=>
 Subscript_ (A8 h F h' λG0 ι0 o vo σ0 s0 l0 p0 r0 F0 q0=>wpAny_Slice (A8 h1 F0 q0 λG1 ι1 x vx σ1 s1 l1 p1 r1 F1 q1=>A8 h2 F1 q1 λG2 ι2 y vy σ2 s2 l2 p2 r2 F2 q2=>A8 h3 F2 q2 λG3 ι3 z vz σ3 s3 l3 p3 r3 F3 q3=>by
  obtain⟨px,rfl,rfl⟩:=r1;obtain⟨py,rfl,rfl⟩:=r2;obtain⟨pz,rfl,rfl⟩:=r3
  obtain⟨ops,hops⟩:=hs vo (.ref s3.heap.objs.size)
  obtain⟨hg,T,id,hT,hl⟩:=Rw (F3.push {cls:=.type "slice",data:=.fields #[partValue px,partValue py,partValue pz]} s3.toks F3.tk) (r0.mono ((l1.trans l2).trans l3) ((p1.trans p2).trans p3)) (Heap.get?_push_size _ rfl) q3
  exact tail_any hT hl (Ba hg (λv s' p=>p.up (((l0.trans l1).trans l2).trans l3) (((p0.trans p1).trans p2).trans p3)) λ_ _ x=>x) hops))
theorem Oo {prog:Program}{w:World}{E:Value->Shared->Prop}{l:Addr}{items:Array Value}{k:Int}{t:Tok}{v:Value}{j:Nat}{Q:Unit->Shared->Prop}(hl:s.heap.PlainList l items)
  (hw:Bb k)(hj:seqIndex? k items.size=some j)
  (hQ:∀h',h'.PlainList l (items.setIfInBounds j v)->Heap.SameBut l s.heap h'->Q () {s with heap:=h'}):
  wpAny (model prog w) A (setItem (.ref l) (.int k t) v) Q E s:=by
 refine Ad (id hl) λn ho=>?_
 refine Ae (E9 hj) λhlt hcase=>?_
 have fin:∀{R:Option Value->Shared->Prop},(∀h',h'.PlainList l (items.setIfInBounds j v)->Heap.SameBut l s.heap h'->R (some .none) {s with heap:=h'})->
   ∀{E':Value->Shared->Prop},wpAny (model prog w) A.in1 (setSeqItemAt l j v) (λ_ s'=>R (some .none) s') E' s:=by
  intro R hR E'
  refine wpAny_setSeqItemAt ho rfl (hR _ ⟨n+0,?_⟩ (Heap.SameBut.update ..))
  rw[Heap.get?_update_self _ ho (by simp[Obj.mapSeq,Obj.isFreed])]
  simp[Obj.mapSeq]
 unfold setItem
 try with_reducible refine wpAny_holding ?_
 first|refine Ai (Be ?_)|skip
 refine Ai (wpAny_sequenceKey hl.isList.typeIs (by decide) ?_)
 refine Ai (wpAny_callSpecial?_slot (name:=ofString "__setitem__") hl.isList.typeIs slot_list_setitem
  (wpAny_call_entry slot_list_setitem hl.isList.typeIs entry_list_setitem ?_ (args_list_setitem _ _ _)))
 show wpAny _ _ (Builtin.List.listSubscript? (.int k t)>>=_) _ _ s
 have hx':items[j]? =some items[j]:=Array.getElem?_eq_getElem hlt
 rcases hcase with⟨h0,hk⟩|⟨h0,hk⟩
 ·refine Ai (wpAny_listSubscript_int (fitsIndex_of h0 hw.2) ?_)
  subst hk
  show wpAny _ _ ((seqItemAt l j>>=λr=>pure (r.map (j,·)))>>=_) _ _ s
  refine Ai (Ai (wpAny_seqItemAt ho rfl (Be ?_)))
  rw[hx']
  show wpAny _ _ (setSeqItemAt l j v>>=_) _ _ s
  refine Ai (Ba (fin (R:=λo s'=>o=some .none/\Q () s') (λh' p b=>⟨rfl,hQ h' p b⟩)) (λ_ s' h=>?_) λ_ _ x=>x)
  first
   |exact Ai (Be (Be ⟨.none,rfl,Be h.2⟩))
   |exact Be ⟨.none,rfl,Be h.2⟩
 ·refine Ai (wpAny_listSubscript_int (fitsIndex_neg h0 hw.1) ?_)
  refine Ad (show∃i:Nat,k=Int.negSucc i from by
   cases k with
   |ofNat n=>exact absurd h0 (Int.not_lt.mpr (Int.natCast_nonneg n))
   |negSucc n=>exact⟨n,rfl⟩) λi Z=>?_
  subst Z
  show wpAny _ _ ((Builtin.List.listItems (.ref l)>>=λxs=>pure ((seqIndex? (Int.negSucc i) xs.size).bind λi=>xs[i]?.map (i,·)))>>=_) _ _ s
  refine Ai (Ai ?_)
  show wpAny _ _ (seqItems? (.ref l)>>=_) _ _ s
  refine Ai (wpAny_seqItems ho rfl (Be (Be ?_)))
  rw[hj]
  simp only[Option.bind_some,hx',Option.map_some]
  show wpAny _ _ (setSeqItemAt l j v>>=_) _ _ s
  refine Ai (Ba (fin (R:=λo s'=>o=some .none/\Q () s') (λh' p b=>⟨rfl,hQ h' p b⟩)) (λ_ s' h=>?_) λ_ _ x=>x)
  first
   |exact Ai (Be (Be ⟨.none,rfl,Be h.2⟩))
   |exact Be ⟨.none,rfl,Be h.2⟩
theorem Vn {prog:Program}{w:World}{E:Value->Shared->Prop}{l b:Addr}{items items2:Array Value}{Q:Value->Shared->Prop}(hl:s.heap.PlainList l items)(hb:s.heap.PlainList b items2)
  (hz:items.size+items2.size<=sizeLine)(hQ:∀h',h'.PlainList l (items++items2)->Heap.SameBut l s.heap h'->Q (.ref l) {s with heap:=h'}):
  wpAny (model prog w) A (inplaceOp .Add (.ref l) (.ref b)) Q E s:=by
 refine Ad (id hl) λn ho=>?_
 refine Ad (id hb) λn2 ho2=>?_
 unfold inplaceOp
 refine wpAny_holding ?_
 have hs:isSeqSlot (some (.builtin "list.__iadd__"))=true:=by decide
 have hfi:fillsInplaceSlot (.type "list") "add" (Operator.Add== .Add)=pure false:=by
  unfold fillsInplaceSlot
  show(typeLookup (.type "list") (dunderI "add")>>=λfi=>pure (fi.isSome&& !isSeqSlot fi))=pure false
  rw[PySem.F.slot_list_iadd.lookup]
  show(pure ((some (Value.builtin "list.__iadd__")).isSome&& !isSeqSlot (some (.builtin "list.__iadd__"))):Sem Bool)=_
  rw[hs];rfl
 refine Ai (wpAny_typeOf hl.isList.typeIs (Ai (wpAny_of_eq hfi ?_)))
 show wpAny _ A (if false=true then _ else _) Q E s
 rw[Ay Bool.false_ne_true]
 refine Ai (wpAny_binaryOp1_none (nm:="add") hl.isList.typeIs hb.isList.typeIs noFill_list_add ?_)
 refine Ai (wpAny_of_eq (PySem.seqSlot_of PySem.F.slot_list_iadd.lookup hs) ?_)
 refine Ai (wpAny_rule ?_)
 have hz1:¬(!items.isEmpty&&Builtin.List.listTooLong (items.size+items2.size))=true:=extend_door hz
 refine call_meets PySem.F.slot_list_iadd hl.isList.typeIs PySem.F.entry_list_iadd (PySem.F.args_list_iadd_2 _ _) (PySem.AutoSeq1.list___iadd___list_list_0 l items n b items2 n2 hz1 (by exact Aq hz) (by exact Aq hz)) ⟨ho,ho2,?_⟩
 refine hQ _ ?_ (Heap.SameBut.update ..)
 unfold Heap.PlainList
 rw[Heap.get?_update_self _ ho (by simp[Obj.mapSeq,Obj.isFreed])]
 exact⟨_,rfl⟩
theorem W3 {k:Nat}{v x:Value}{i:Int}{t:Tok}{ds:List D}{d:D}{j:Nat}{Q:Unit->Shared->Prop}(F:Aa Γ K env G ι σ s)(r:A7 G ι (.obj k) v)(hds:σ.own[k]? =some ds)(rx:A7 G ι d x)(hw:Bb i)(hj:seqIndex? i ds.length=some j)
  (hQ:∀s',Aa Γ K env G ι {σ with own:=σ.own.set k (ds.set j d)} s'->Q () s'):wpAny (model Γ.prog Γ.w) A (setItem v (.int i t) x) Q (λ_ _=>False) s:=by
 refine Ab r λa ha Z=>?_
 try clear r
 subst Z
 refine Ab (F.store.at_ k a ds ha hds) λvs hl rl=>?_
 refine Oo hl hw (by rw[size_toArray,rl.length];exact hj) λh' hp hb=>?_
 have e:vs.toArray.setIfInBounds j x=(vs.set j x).toArray:=by simp
 rw[e]at hp
 exact hQ _ (F.setOwn ha (rl.set j rx) hp hb _)
theorem Zj {k:Nat}{v:Value}{i:Int}{t:Tok}{ds:List D}{j:Nat}{Q:Unit->Shared->Prop}(F:Aa Γ K env G ι σ s)(r:A7 G ι (.obj k) v)(hds:σ.own[k]? =some ds)(hw:Bb i)(hz:ds.length<=sizeLine)(hj:seqIndex? i ds.length=some j)
  (hQ:∀s',Aa Γ K env G ι {σ with own:=σ.own.set k (ds.eraseIdx j)} s'->Q () s'):wpAny (model Γ.prog Γ.w) A (delItem v (.int i t)) Q (λ_ _=>False) s:=by
 refine Ab r λa ha Z=>?_
 try clear r
 subst Z
 refine Ab (F.store.at_ k a ds ha hds) λvs hl rl=>?_
 refine Ae (E9 hj) λhlt hcase=>?_
 have hlt':j<vs.length:=by rw[rl.length];exact hlt
 refine wpAny_delItem_plain hl (by
  rcases hcase with⟨h0,_⟩|⟨h0,_⟩
  ·exact fitsIndex_of h0 hw.2
  ·exact fitsIndex_neg h0 hw.1) (by rw[size_toArray,rl.length];exact hj) (λh' hp hb=>?_) (by rw[size_toArray,rl.length];exact hz)
 have e:vs.toArray.eraseIdxIfInBounds j=(vs.eraseIdx j).toArray:=by
  simp[Array.eraseIdxIfInBounds,hlt']
 rw[e]at hp
 refine hQ _ (F.setOwn ha ?_ hp hb _)
 rw[List.eraseIdx_eq_take_drop_succ,List.eraseIdx_eq_take_drop_succ]
 exact Rl.append (rl.take j) (rl.drop (j+1))
theorem Ky {k:Nat}{a:Addr}{x:Value}{ds:List D}{d:D}{Q:D->St->Prop}(F:Aa Γ K env G ι σ s)(ha:ι[k]? =some a)(hds:σ.own[k]? =some ds)(rx:A7 G ι d x)(hz:ds.length<=sizeLine)
  (q:Q .none {σ with own:=σ.own.set k (ds++[d])}):wpAny (model Γ.prog Γ.w) A (call (.builtin "list.append") [.ref a,x]) (As Γ K env VR G ι Q) (λ_ _=>False) s:=by
 refine Ab (F.store.at_ k a ds ha hds) λvs hl rl=>?_
 refine wpAny_list_append_plain hl (λh' hp hb=>?_) (by rw[size_toArray,rl.length];exact hz)
 have e:vs.toArray.push x=(vs++[x]).toArray:=by simp
 rw[e]at hp
 exact X0 (F.setOwn ha (rl.snoc rx) hp hb _) q
noncomputable def Uf (op:Operator) (a b:D) (σ:St) (Q:D->St->Prop):Prop:=match a with
 | .int i=>(match b with| .int j=>(op=.Add/\Q (.int (i+j)) σ)\/(op=.Sub/\Q (.int (i-j)) σ)|_=>False)
 | .str x=>(match b with| .str y=>op=.Add/\x.length+y.length<=sizeLine/\Q (.str (x++y)) σ|_=>False)
 | .obj i=>(match b with| .obj j=>op=.Add/\∃la lb,σ.own[i]? =some la/\σ.own[j]? =some lb/\la.length+lb.length<=sizeLine/\Q (.obj i) {σ with own:=σ.own.set i (la++lb)}|_=>False)
 |_=>False
theorem N3 {op:Operator}{a b:D}{va vb:Value}{Q:D->St->Prop}(F:Aa Γ K env G ι σ s)(ra:A7 G ι a va)(rb:A7 G ι b vb)(h:Uf op a b σ Q):
  wpAny (model Γ.prog Γ.w) A (inplaceOp op va vb) (As Γ K env VR G ι Q) (λ_ _=>False) s:=by
 cases a with
 |int i=>
  cases b with
  |int j=>
   refine Ad ra λt Y=>?_
   try clear ra
   subst Y;refine Ad rb λu V=>?_;try clear rb;subst V
   rcases h with⟨rfl,h⟩|⟨rfl,h⟩
   ·exact P.iadd_int (Jx (F.toks _) h)
   ·exact P.isub_int (Jx (F.toks _) h)
  |_=>exact h.elim
 |str x=>
  cases b with
  |str y=>
   refine At h λU h1 z0=>?_
   try clear h
   revert z0
   intro h
   subst U
   refine Ad ra λt z1=>?_
   try clear ra
   subst z1;refine Ad rb λu z2=>?_;try clear rb;subst z2
   refine Ba (Ax (PyProof.Rows.iadd_str (E:=λ_ _=>False) (Q:=λv s'=>∃t' tk,v=.str (⟨x.toArray⟩++⟨y.toArray⟩) t'/\s'={s with toks:=tk}) (λt' tk=>⟨t',tk,rfl,rfl⟩) (by rw[Bm,Bm];exact h1))) (λv s' z3=>Ae z3 λz4 hle=>A1 z4 λt' tk e1 e2=>?_) λ_ _ x=>x
   subst e1 e2
   exact Ix (F.toks _ (lt_of_lt_of_le F.tk hle)) (Hb _ _) h
  |_=>exact h.elim
 |obj i=>
  cases b with
  |obj j=>
   refine Ae h λz5 Z=>?_
   try clear h
   subst z5
   refine Bz Z λla lb h1 h2 hz q=>?_
   clear Z
   refine Ab ra λa ha z6=>?_
   try clear ra
   subst z6;refine Ab rb λb hb z7=>?_;try clear rb;subst z7
   refine Ab (F.store.at_ _ a la ha h1) λvs hl rl=>?_
   refine Ab (F.store.at_ _ b lb hb h2) λws hl' rl'=>?_
   refine Vn hl hl' (by rw[size_toArray,size_toArray,rl.length,rl'.length];exact hz) λh' hp hs=>?_
   have e:vs.toArray++ws.toArray=(vs++ws).toArray:=by simp
   rw[e]at hp
   exact Fx (d:=.obj _) ⟨a,ha,rfl⟩ (F.setOwn ha (Rl.append rl rl') hp hs _) q
  |_=>exact h.elim
 |_=>exact h.elim
theorem Le (H:Ev Γ A env){x:String}{op:Operator}{e:Expr}{p p':Pos}{T:TT}{c:Bool}(hk:Kd env x c)(hc:(ofString x==("__classdict__":Str))=false)(h:Bl Γ A env e T):
  Cs Γ A env (.AugAssign (.Name (ofString x) p') op e p) (λσ Q=>∃d,σ.get x=some d/\T σ λd' σ=>Uf op d d' σ λr σ=>aP c x r σ (Q .next)):=λK G ι σ s Q F Z=>Ab Z λd hx q=>
 wpAny_AugAssign_Name (D9 H F hx hc λv r=>A8 h F q λG1 ι1 d1 v1 σ1 s1 l1 p1 r1 F1 q1=>
  Ba (N3 F1 (r.mono l1 p1) r1 q1) (λv2 s2 Y=>Cm Y λG2 ι2 d2 σ2 l2 p2 r2 F2 q2=>
   Jq H (hk.sto q2.1) F2 r2 λs' F'=>(As.mk' (R:=FR) (b:=.next) rfl F' q2.2).up (l1.trans l2) (p1.trans p2)) λ_ _ x=>x)
noncomputable def cI (o i d:D) (σ:St) (Q:St->Prop):Prop:=match o with
 | .obj k=>(match i with| .int n=>∃ds j,σ.own[k]? =some ds/\Bb n/\seqIndex? n ds.length=some j/\Q {σ with own:=σ.own.set k (ds.set j d)}|_=>False)
 |_=>False
theorem N8 {o i d:D}{vo vi v:Value}{Q:St->Prop}{X:Unit->Shared->Prop}(F:Aa Γ K env G ι σ s)(ro:A7 G ι o vo)(ri:A7 G ι i vi)(r:A7 G ι d v)(h:cI o i d σ Q)
  (k:∀σ' s',Aa Γ K env G ι σ' s'->Q σ'->X () s'):wpAny (model Γ.prog Γ.w) A (setItem vo vi v) X (λ_ _=>False) s:=by
 cases o with
 |obj kk=>
  cases i with
  |int n=>
   refine Bz h λds j h1 h2 h3 q=>?_
   clear h
   refine Ad ri λt Z=>?_
   clear ri
   subst Z
   exact W3 F ro h1 r h2 h3 λs' F'=>k _ s' F' q
  |_=>exact h.elim
 |_=>exact h.elim
theorem nG {o i e:Expr}{p p':Pos}{T T1 T2:TT}(h:Bl Γ A env e T)(h1:Bl Γ A env o T1)(h2:Bl Γ A env i T2)(hs:swapsWith e (some (.Subscript o i p')) p.line env=pure false):
  Cs Γ A env (.Assign [.Subscript o i p'] e p) (λσ Q=>T σ λd σ=>T1 σ λx σ=>T2 σ λy σ=>cI x y d σ (Q .next)):=λK G ι σ s Q F q=>
 wpAny_Assign_Subscript (A8 h F q λG0 ι0 d v σ0 s0 l0 p0 r0 F0 q0=>A8 h1 F0 q0 λG1 ι1 x vx σ1 s1 l1 p1 r1 F1 q1=>A8 h2 F1 q1 λG2 ι2 y vy σ2 s2 l2 p2 r2 F2 q2=>
  N8 F2 (r1.mono l2 p2) r2 (r0.mono (l1.trans l2) (p1.trans p2)) q2 λσ' s' F' q'=>(As.mk' (R:=FR) (b:=.next) rfl F' q').up ((l0.trans l1).trans l2) ((p0.trans p1).trans p2)) hs
theorem S0 {o i e:Expr}{op:Operator}{p p':Pos}{T T1 T2:TT}(h:Bl Γ A env e T)(h1:Bl Γ A env o T1)(h2:Bl Γ A env i T2)
  (hi:∀ov iv new,augStore i ov iv new=(do holding [new,ov,iv] (setItem ov iv new);release [new,ov,iv] [];pure .next)):
  Cs Γ A env (.AugAssign (.Subscript o i p') op e p) (λσ Q=>T1 σ λx σ=>T2 σ λy σ=>Ml x y σ λd=>T σ λd' σ=>Uf op d d' σ λr σ=>cI x y r σ (Q .next)):=λK G ι σ s Q F q=>
 wpAny_AugAssign_SubscriptAny (A8 h1 F q λG1 ι1 x vx σ1 s1 l1 p1 r1 F1 q1=>A8 h2 F1 q1 λG2 ι2 y vy σ2 s2 l2 p2 r2 F2 q2=>
  Ba (N0 F2 (r1.mono l2 p2) r2 q2).1 (λold s3 Z=>Au Z λd F3 r3 q3=>A8 h F3 q3 λG4 ι4 d4 v4 σ4 s4 l4 p4 r4 F4 q4=>
   Ba (N3 F4 (r3.mono l4 p4) r4 q4) (λv5 s5 Y=>Cm Y λG5 ι5 d5 σ5 l5 p5 r5 F5 q5=>
    N8 F5 (r1.mono (l2.trans (l4.trans l5)) (p2.trans (p4.trans p5))) (r2.mono (l4.trans l5) (p4.trans p5)) r5 q5 λσ' s' F' q'=>
     (As.mk' (R:=FR) (b:=.next) rfl F' q').up (((l1.trans l2).trans l4).trans l5) (((p1.trans p2).trans p4).trans p5)) λ_ _ x=>x) λ_ _ x=>x) hi
theorem iR {o i:Expr}{p p':Pos}{T1 T2:TT}(h1:Bl Γ A env o T1)(h2:Bl Γ A env i T2):
  Cs Γ A env (.Delete [.Subscript o i p'] p) (λσ Q=>T1 σ λx σ=>T2 σ λy σ=>∃k n ds j,x=.obj k/\y=.int n/\σ.own[k]? =some ds/\Bb n/\ds.length<=sizeLine/\seqIndex? n ds.length=some j/\Q .next {σ with own:=σ.own.set k (ds.eraseIdx j)}):=λK G ι σ s Q F q=>
 wpAny_Delete (wpAny_deleteEach_cons (wpAny_delete_Subscript (A8 h1 F q λG1 ι1 x vx σ1 s1 l1 p1 r1 F1 q1=>A8 h2 F1 q1 λG2 ι2 y vy σ2 s2 l2 p2 r2 F2 Z=>Cd Z λk n ds j e1 e2 e3 e4 e5 zz=>Ae zz λe6 q2=>by
  subst e1 e2
  refine Ad r2 λt Y=>?_
  try clear r2
  subst Y
  exact Zj F2 (r1.mono l2 p2) e3 e4 e5 e6 λs' F'=>wpAny_deleteEach_nil ((As.mk' (R:=FR) (b:=.next) rfl F' q2).up (l1.trans l2) (p1.trans p2)))))
end
noncomputable abbrev Sv (Γ:W) (G:Gh) (ι:List Addr) (s:Shared) (G':Gh) (ι':List Addr) (own':List (List D)) (s':Shared):Prop:=(G.le G')/\(Bp ι ι')/\(Cn Γ G' ι' own' s'.heap)/\(∀a o,s.heap.get? a=some o->G a=none->a∉ι->a∉Γ.tabs.map (·.2)->s'.heap.get? a=some o/\G' a=none/\a∉ι')/\(s'.os=s.os)/\(A4 s.gens s'.gens)
section
variable {Γ:W}{G:Gh}{ι:List Addr}{s:Shared}{G':Gh}{ι':List Addr}{own':List (List D)}{s':Shared}(zs:Sv Γ G ι s G' ι' own' s')
noncomputable abbrev Sv.le:=zs.1
noncomputable abbrev Sv.pr:=zs.2.1
noncomputable abbrev Sv.store:=zs.2.2.1
noncomputable abbrev Sv.kept:=zs.2.2.2.1
noncomputable abbrev Sv.os:=zs.2.2.2.2.1
noncomputable abbrev Sv.gens:=zs.2.2.2.2.2
end
abbrev B3:=List D->List (List D)->(D->List (List D)->Prop)->Prop
noncomputable def Ap (Γ:W) (A:Around) (f:Value) (S:Mine.Internal.B3):Prop:=
 ∀G ι own s ds vs Q,Cn Γ G ι own s.heap->Rl G ι ds vs->0<s.toks->S ds own Q->
  codeAny (model Γ.prog Γ.w) A (.call f ⟨vs,[]⟩) (λr s'=>∃v d G' ι' own',r=.ok (.ret v)/\Sv Γ G ι s G' ι' own' s'/\A7 G' ι' d v/\Q d own') s
structure A9 (n:Nat)(A:Around):Prop where
 handled:A.handled=none
 depth:A.depth+150+4*n<recursionLimit
 units:A.units+500+16*n<cLine
section
variable {α β γ δ:Type}{Γ:W}{K:Cj}{A:Around}{env:Env}{G G':Gh}{ι ι':List Addr}{σ:St}{s s':Shared}
theorem Aa.after (F:Aa Γ K env G ι σ s){own':List (List D)}(R:Sv Γ G ι s G' ι' own' s')(ht:0<s'.toks):Aa Γ K env G' ι' {σ with own:=own'} s':=by
 have keepG:∀a o,s.heap.get? a=some o->a∉ι->a∉Γ.tabs.map (·.2)->s'.heap.get? a=some o:=λa o e h1 h2=>by
  cases g:G a with
  |none=>exact(R.kept a o e g h1 h2).1
  |some o'=>
   have e':=F.store.gin a o' g
   rw[e]at e';cases e'
   exact R.store.gin _ _ (R.le _ _ g)
 have keepOwn:∀a o,Jm env a->s.heap.get? a=some o->s'.heap.get? a=some o:=λa o ha e=>keepG a o e (F.away a ha).1 (F.away a ha).2
 have ex:∀a,Jm env a->∃o,s.heap.get? a=some o:=λa ha=>by
  rcases ha with rfl|⟨x,hk,hl⟩
  ·refine Ab F.ns λm Z q=>?_
   refine Ce Z λo es ep ho r=>?_
   clear Z;exact⟨o,ho⟩
  ·refine At (F.cell x a hk hl) λ_ Y _=>?_
   refine A1 Y λv o ho hd=>?_
   clear Y;exact⟨o,ho⟩
 have noG:∀a,Jm env a->G a=none->G' a=none/\a∉ι':=λa ha g=>by
  refine Ad (ex a ha) λo ho=>?_
  exact(R.kept a o ho g (F.away a ha).1 (F.away a ha).2).2
 refine⟨R.store,?_,(noG _ (.inl rfl) F.loc).1,λa ha=>⟨λhm=>?_,(F.away a ha).2⟩,λx c hk hl=>?_,λx c hk hl=>(by refine Ad (F.freeIn x c hk hl) λo e=>?_;exact⟨o,Fc R.le e⟩),λa o e=>?_,R.os.trans F.os,F.gens.trans R.gens,ht⟩
 ·refine Ab F.ns λm V q=>?_
  refine Ce V λo es ep ho r'=>?_
  clear V
  refine⟨m,⟨o,es,ep,keepOwn _ _ (.inl rfl) ho,r'⟩,λx d e=>(q x d e).mono (λ_ r=>r.mono R.le R.pr) ?_ (λ_ _=>Fc R.le)⟩
  intro c v hk' hl U
  refine Ab U λo ho hd=>?_
  clear U
  exact⟨o,keepOwn _ _ (.inr ⟨_,hk',hl⟩) ho,hd⟩
 ·cases g:G a with
  |none=>exact(noG a ha g).2 hm
  |some o=>have:=R.store.fresh a hm;rw[R.le _ _ g]at this;cases this
 ·refine Bn (F.cell x c hk hl) λc1 z0 c3 c4=>?_
  refine A1 z0 λv o ho hd=>?_
  clear z0
  exact⟨c1,⟨v,o,keepOwn _ _ (.inr ⟨x,hk,hl⟩) ho,hd⟩,c3,λz hz hr=>⟨(noG c (.inr ⟨x,hk,hl⟩) (c4 z hz hr).1).1,(c4 z hz hr).2⟩⟩
 ·refine B6 (F.far a o e) λf1 f2 f3 f4 f5=>?_
  refine At (R.kept a o f1 f2 f3 f4) λk1 k2 k3=>?_
  exact⟨k1,k2,k3,f4,f5⟩
theorem Ob {f:Value}{S:Mine.Internal.B3}{ds:List D}{vs:List Value}{Q:D->St->Prop}(h:Ap Γ A f S)(F:Aa Γ K env G ι σ s)(r:Rl G ι ds vs)(q:S ds σ.own λd own'=>Q d {σ with own:=own'}):
  wpAny (model Γ.prog Γ.w) A (call f vs) (As Γ K env VR G ι Q) (λ_ _=>False) s:=
 Ba (Ax (wpAny_call (E:=λ_ _=>False) (Q:=λv s'=>∃d G' ι' own',Sv Γ G ι s G' ι' own' s'/\A7 G' ι' d v/\Q d {σ with own:=own'}) (codeAny_mono (h G ι σ.own s ds vs _ F.store r F.tk q) λr s' Y=>Mc Y λv d G' ι' own' e R rv hq=>by
  subst e;exact⟨d,G',ι',own',R,rv,hq⟩))) (λv s' h2_=>by refine Ae h2_ λZ hle=>?_;try clear h2_;refine Ja Z λd G' ι' own' R rv hq=>?_;clear Z;exact(As.mk' (R:=VR) rv (F.after R (lt_of_lt_of_le F.tk hle)) hq).up R.le R.pr) λ_ _ x=>x
theorem Sq {kindOf:Str->Option NameKind}{x:Str}:∀(ps:List String) (vs:List Value) (m:Str->Option Value),x∉ps.map ofString->bindL kindOf ((ps.map ofString).zip vs) m x=m x:=by
 intro ps
 induction ps with
 |nil=>exact λ_ _ _=>rfl
 |cons p ps ih=>
  intro vs
  cases vs with
  |nil=>exact λ_ _=>rfl
  |cons v vs=>
   intro m h
   simp only[Gb,E1,not_or]at h
   simp only[Gb,zip_cons_cons]
   unfold bindL
   rw[ih vs _ h.2]
   split
   ·simp only;rw[Ay h.1]
   ·rfl
theorem Sr {kindOf:Str->Option NameKind}{x:Str}:∀(ps:List String) (vs:List Value) (m:Str->Option Value),x∉ps.map ofString->bindC kindOf ((ps.map ofString).zip vs) m x=m x:=by
 intro ps
 induction ps with
 |nil=>exact λ_ _ _=>rfl
 |cons p ps ih=>
  intro vs
  cases vs with
  |nil=>exact λ_ _=>rfl
  |cons v vs=>
   intro m h
   simp only[Gb,E1,not_or]at h
   simp only[Gb,zip_cons_cons]
   unfold bindC
   rw[ih vs _ h.2]
   split
   ·rfl
   ·simp only;rw[Ay h.1]
theorem Jz {x:String}{ps:List String}(h:x∉ps):ofString x∉ps.map ofString:=λhm=>by
 refine Ab (G7.mp hm) λy hy e=>?_
 exact h (Bg e▸hy)
theorem Oc {kindOf:Str->Option NameKind}{x:String}{v:Value}(hk:kindOf (ofString x)=some .local):∀(ps:List String) (vs:List Value) (m:Str->Option Value),ps.Nodup->(ps.zip vs).lookup x=some v->bindL kindOf ((ps.map ofString).zip vs) m (ofString x)=some v:=by
 intro ps
 induction ps with
 |nil=>exact λ_ _ _ e=>H1 e
 |cons p ps ih=>
  intro vs
  cases vs with
  |nil=>exact λ_ _ e=>H1 e
  |cons w vs=>
   intro m nd e
   refine Ae (nodup_cons.mp nd) λn1 n2=>?_
   simp only[Gb,zip_cons_cons]
   unfold bindL
   by_cases hx:x=p
   ·subst hx
    rw[zip_cons_cons,lookup_cons,beq_self_eq_true]at e;cases e
    rw[Sq ps vs _ (Jz n1),Bc hk];simp
   ·rw[zip_cons_cons,lookup_cons,show(x==p)=false by simp[hx]]at e
    exact ih vs _ n2 e
theorem V8 {kindOf:Str->Option NameKind}{x:String}{v:Value}(hk:kindOf (ofString x)≠some .local):∀(ps:List String) (vs:List Value) (m:Str->Option Value),ps.Nodup->(ps.zip vs).lookup x=some v->bindC kindOf ((ps.map ofString).zip vs) m (ofString x)=some v:=by
 intro ps
 induction ps with
 |nil=>exact λ_ _ _ e=>H1 e
 |cons p ps ih=>
  intro vs
  cases vs with
  |nil=>exact λ_ _ e=>H1 e
  |cons w vs=>
   intro m nd e
   refine Ae (nodup_cons.mp nd) λn1 n2=>?_
   simp only[Gb,zip_cons_cons]
   unfold bindC
   by_cases hx:x=p
   ·subst hx
    rw[zip_cons_cons,lookup_cons,beq_self_eq_true]at e;cases e
    rw[Sr ps vs _ (Jz n1),Ay hk];simp
   ·rw[zip_cons_cons,lookup_cons,show(x==p)=false by simp[hx]]at e
    exact ih vs _ n2 e
theorem Rl.zip {ps:List String}{x:String}{d:D}:∀{ds:List D} {vs:List Value},Rl G ι ds vs->(ps.zip ds).lookup x=some d->∃v,(ps.zip vs).lookup x=some v/\A7 G ι d v:=by
 induction ps with
 |nil=>exact λ_ e=>H1 e
 |cons p ps ih=>
  intro ds vs h e
  cases ds with
  |nil=>exact H1 e
  |cons d' ds=>
   refine Ag h λv w ev r t=>?_
   subst ev
   rw[zip_cons_cons,lookup_cons]at e⊢
   cases hx:x==p with
   |true=>
    rw[hx]at e
    cases (show some d'=some d from e)
    exact⟨v,rfl,r⟩
   |false=>
    rw[hx]at e
    exact ih t e
noncomputable abbrev Fn (Γ:W) (a:Addr) (fd:FuncData) (ps:List String) (body9:List Stmt):Prop:=(∃o,Γ.B.get? a=some o/\o.data=.func fd)/\(Γ.B.CodeRec fd.code fd.qualname)/\(fd.body=.stmts body9)/\(fd.closure=[])/\(fd.globals=mainGlobals)/\(fd.builtins=builtinsNs)/\(∀vs:List Value,vs.length=ps.length->∀(M:Model) (A:Around) (Q:List (Str×Value)->Shared->Prop) (E:Value->Shared->Prop) (s:Shared),(∀b o,Γ.B.get? b=some o->s.heap.get? b=some o)->Q ((ps.map ofString).zip vs) s->wpAny M A (bindArgs fd ⟨vs,[]⟩) Q E s)/\(∀p∈ps,fd.scope.names.lookup (ofString p)=some .local\/(fd.scope.names.lookup (ofString p)=some .cell/\∀n,((cellsFrom n fd.scope.names []).lookup (ofString p)).isSome=true))/\(ps.Nodup)/\(∀x,fd.scope.names.lookup x≠some .free)/\(fd.scope.kind=.function)/\(fd.scope.isCoroutine=false)
section
variable {Γ:W}{a:Addr}{fd:FuncData}{ps:List String}{body9:List Stmt}(zs:Fn Γ a fd ps body9)
noncomputable abbrev Fn.obj:=zs.1
noncomputable abbrev Fn.code:=zs.2.1
noncomputable abbrev Fn.body:=zs.2.2.1
noncomputable abbrev Fn.clo:=zs.2.2.2.1
noncomputable abbrev Fn.glob:=zs.2.2.2.2.1
noncomputable abbrev Fn.bui:=zs.2.2.2.2.2.1
noncomputable abbrev Fn.bind:=zs.2.2.2.2.2.2.1
noncomputable abbrev Fn.kinds:=zs.2.2.2.2.2.2.2.1
noncomputable abbrev Fn.nodup:=zs.2.2.2.2.2.2.2.2.1
noncomputable abbrev Fn.nofree:=zs.2.2.2.2.2.2.2.2.2.1
noncomputable abbrev Fn.kind:=zs.2.2.2.2.2.2.2.2.2.2.1
noncomputable abbrev Fn.co:=zs.2.2.2.2.2.2.2.2.2.2.2
end
theorem cC (ok:Γ.Ok){a:Addr}{fd:FuncData}{ps:List String}{body:List Stmt}(N:Fn Γ a fd ps body){own:List (List D)}{ds:List D}{vs:List Value}{s₁:Shared}(S:Cn Γ G ι own s.heap)(r:Rl G ι ds vs)(ht:0<s₁.toks)
  (x:InCallC s (callEnvC fd s.heap.objs.size a).locals (bindL (callEnvC fd s.heap.objs.size a).kindOf ((ps.map ofString).zip vs) λ_=>none) (callEnvC fd s.heap.objs.size a).cells
    (bindC (callEnvC fd s.heap.objs.size a).kindOf ((ps.map ofString).zip vs) λ_=>none) s₁):
  ∃K:Cj,K.os=s.os/\K.gens=s.gens/\(∀b o,s.heap.get? b=some o->G b=none->b∉ι->b∉Γ.tabs.map (·.2)->K.old b=some o)/\Aa Γ K (callEnvC fd s.heap.objs.size a) G ι ⟨ps.zip ds,own,[]⟩ s₁:=by
 classical
 refine⟨⟨s.os,s.gens,λb=>if G b=none/\b∉ι/\b∉Γ.tabs.map (·.2)then s.heap.get? b else none⟩,rfl,rfl,λb o e h1 h2 h3=>by dsimp only;rw[Bc ⟨h1,h2,h3⟩];exact e,?_⟩
 refine Jb x.toInCall.same λh tk V=>?_
 subst V
 have keep:=x.toInCall.keep
 have big:∀b,Jm (callEnvC fd s.heap.objs.size a) b->s.heap.objs.size<=b:=λb hb=>by
  rcases hb with rfl|⟨y,hk,hl⟩
  ·exact le_refl _
  ·exact le_of_lt (x.above _ _ (mem_of_lookup hl))
 have ltG:∀b o,G b=some o->b<s.heap.objs.size:=λb o e=>Heap.lt_size (S.gin _ _ e)
 have noG:∀b,Jm (callEnvC fd s.heap.objs.size a) b->G b=none:=λb hb=>by
  cases e:G b with
  |none=>rfl
  |some o=>exact absurd (ltG b o e) (not_lt.mpr (big b hb))
 have ltT:∀b∈Γ.tabs.map (·.2),b<s.heap.objs.size:=λb hb=>by
  refine Ab (G7.mp hb) λp hp U=>?_
  subst U
  refine At (S.tabs p hp) λ_ _ Z=>?_
  refine Ab Z λps Y _=>?_
  clear Z
  refine Ae Y λ_ t=>?_
  clear Y
  exact Heap.lt_size t
 refine⟨S.ext λb o _ e=>keep b o e,⟨_,x.toInCall.ns,λy d e=>?_⟩,noG _ (.inl rfl),λb hb=>⟨λhm=>?_,λhm=>?_⟩,λy c hk hl=>?_,λy c hk hl=>?_,λb o e=>?_,rfl,A4.refl _,ht⟩
 ·refine Ab (r.zip e) λv hv rv=>?_
  have hy:y∈ps:=by
   have:∀(l:List String) (m:List Value),(l.zip m).lookup y=some v->y∈l:=by
    intro l
    induction l with
    |nil=>intro m h;simp at h
    |cons p l ih=>
     intro m h
     cases m with
     |nil=>simp at h
     |cons w m=>
      rw[zip_cons_cons,lookup_cons]at h
      by_cases hp:y=p
      ·exact hp▸Ht
      ·rw[show(y==p)=false by simp[hp]]at h
       exact mem_cons_of_mem _ (ih m h)
   exact this ps vs hv
  rcases N.kinds y hy with hk|⟨hk,hc⟩
  ·exact .inl ⟨hk,v,Oc hk ps vs _ N.nodup hv,rv⟩
  ·refine Ad (Option.isSome_iff_exists.mp (hc (s.heap.objs.size+1))) λc hc=>?_
   refine .inr (.inl ⟨hk,c,v,hc,?_,rv⟩)
   have:=x.cell _ c hc
   rw[V8 (show(callEnvC fd s.heap.objs.size a).kindOf (ofString y)≠some .local by rw[show(callEnvC fd s.heap.objs.size a).kindOf (ofString y)=some .cell from hk];decide) ps vs _ N.nodup hv]at this
   exact this
 ·exact absurd (S.lt b hm) (not_lt.mpr (big b hb))
 ·exact absurd (ltT b hm) (not_lt.mpr (big b hb))
 ·refine⟨ne_of_gt (x.above _ _ (mem_of_lookup hl)),⟨_,x.cell _ _ hl⟩,λz hk' hl'=>name_of_addr x.apart (mem_of_lookup hl') (mem_of_lookup hl),λ_ _ _=>⟨noG c (.inr ⟨y,hk,hl⟩),by
   dsimp only;split
   ·exact Heap.get?_none_of_le (big c (.inr ⟨y,hk,hl⟩))
   ·rfl⟩⟩
 ·exact absurd hk (N.nofree y)
 ·dsimp only at e
  split at e
  ·rename_i hh
   exact⟨keep b o e,hh.1,hh.2.1,hh.2.2,λhb=>absurd (Heap.lt_size e) (not_lt.mpr (big b (.inl hb)))⟩
  ·cases e
theorem Dl (ok:Γ.Ok){a:Addr}{fd:FuncData}{ps:List String}{body:List Stmt}{T:TS}(N:Fn Γ a fd ps body)(hgen:fd.scope.isGenerator=false)(hr:A.depth<recursionLimit)
  (hT:∀L,Rr Γ (A.deeper (callEnvC fd L a)) (callEnvC fd L a) body T):
  Ap Γ A (.ref a) (λds own Q=>ds.length=ps.length/\T ⟨ps.zip ds,own,[]⟩ λf σ=>match f with| .ret d=>Q d σ.own| .next=>Q .none σ.own|_=>False):=λG ι own s ds vs Q S r htk Z=>Ae Z λhl q=>by
 refine Ab N.obj λo ho hd=>?_
 have hB:∀b o,Γ.B.get? b=some o->s.heap.get? b=some o:=λb o e=>S.gin _ _ (S.base _ _ e)
 refine codeAny_call_function hr (hB _ _ ho) hd N.co hgen N.body (N.code.keeps hB) ?_
 rw[N.clo]
 refine N.bind vs (by rw[r.length,hl]) _ _ _ _ _ hB (Ba (Ax (E:=λ_ _=>False) (wpAny_newFunctionEnv_cells (Q:=λenv s'=>env=callEnvC fd s.heap.objs.size a/\InCallC s env.locals (bindL env.kindOf ((ps.map ofString).zip vs) λ_=>none) env.cells (bindC env.kindOf ((ps.map ofString).zip vs) λ_=>none) s') N.kind (λx hx=>?_) λenv he s' x=>⟨he,x⟩)) (λenv s₁ Y=>Ae Y λV hle=>Ae V λhe x=>?_) λ_ _ x=>x.elim)
 ·refine Ab (G7.mp (of_mem_zip (show(x.1,x.2)∈_ from hx)).1) λy hy e=>?_
  rcases N.kinds y hy with h|⟨h,h'⟩
  ·exact .inl (e▸h)
  ·exact .inr ⟨e▸h,e▸h' _⟩
 subst he
 refine⟨(ok.nolimit.keeps hB).keeps x.toInCall.keep,codeAny_func ?_⟩
 ·refine Do (cC ok N S r (lt_of_lt_of_le htk hle) x) λK k1 k2 k3 F=>?_
  refine Ba (hT _ K G ι _ s₁ _ F q) (λf s' h=>?_) λ_ _ h=>h.elim
  refine Cm h λG' ι' fd' σ' le pr rf F' hq=>?_
  try clear h
  have R:Sv Γ G ι s G' ι' σ'.own s':=⟨le,pr,F'.store,λb o e h1 h2 h3=>(by refine Bn (F'.far b o (k3 b o e h1 h2 h3)) λf1 f2 f3 _=>?_;exact⟨f1,f2,f3⟩),F'.os.trans k1,k2▸F'.gens⟩
  cases fd' with
  |next=>cases rf;exact⟨_,.none,G',ι',_,rfl,R,rfl,hq⟩
  |brk=>exact hq.elim
  |cont=>exact hq.elim
  |ret d=>refine Ab rf λv U rv=>?_;try clear rf;subst U;exact⟨_,d,G',ι',_,rfl,R,rv,hq⟩
end
theorem A9.deeper {n:Nat}{A:Around}(h:A9 (n+1) A)(env:Env):A9 n (A.deeper env):=by
 have h1:=h.depth
 have h2:=h.units
 refine⟨h.handled,?_,?_⟩
 ·rw[depth_deeper];exact Aq h1
 ·show A.units+3+500+16*n<cLine;exact Aq h2
theorem Hk {Γ:W}{A:Around}{n:Nat}(ok:Γ.Ok){a:Addr}{fd:FuncData}{ps:List String}{body:List Stmt}(N:Fn Γ a fd ps body)(h:A9 n A)(L:Addr):Ev Γ A (callEnvC fd L a) where
 ok:=ok
 kind:=N.kind
 glob:=N.glob
 bui:=N.bui
 handled:=h.handled
 depth:=by have:=h.depth;exact Aq this
 units:=by have:=h.units;exact Aq this
noncomputable def K6:List (String×D)->St->St
 |[],σ=>σ
 |p::r,σ=>K6 r (σ.set p.1 p.2)
section
variable {α β γ δ:Type}{Γ:W}{K:Cj}{A:Around}{env:Env}{G G₀ G':Gh}{ι ι':List Addr}{σ:St}{s s':Shared}
theorem Rl.reverse:∀{ds:List D} {vs:List Value},Rl G ι ds vs->Rl G ι ds.reverse vs.reverse:=by
 intro ds
 induction ds with
 |nil=>exact λh=>by rw[Az h];rfl
 |cons d ds ih=>
  intro vs h
  refine Ag h λv w e rv t=>?_
  subst e
  rw[reverse_cons,reverse_cons]
  exact(ih t).snoc rv
theorem Ve (H:Ev Γ A env)(names:List String):∀(ds:List D) (vs:List Value) {G:Gh} {ι:List Addr} {σ:St} {s:Shared} {Q:Unit->Shared->Prop},(∀n∈names,env.kindOf (ofString n)=some .local)->Aa Γ K env G ι σ s->Rl G ι ds vs->
  (∀s',Aa Γ K env G ι (K6 (names.zip ds) σ) s'->Q () s')->
  wpAny (model Γ.prog Γ.w) A (assignInOrder (names.map λn=>bindName env (ofString n)) vs) Q (λ_ _=>False) s:=by
 induction names with
 |nil=>
  intro ds vs G ι σ s Q hk F r q
  show wpAny _ _ (assignInOrder [] vs) _ _ _
  cases vs<;>exact Be (q _ F)
 |cons n ns ih=>
  intro ds vs G ι σ s Q hk F r q
  cases ds with
  |nil=>
   obtain rfl:=Az r
   exact Be (q _ F)
  |cons d ds=>
   refine Ag r λv w ev rv t=>?_
   subst ev
   refine Ai (wpAny_holding (wpAny_bindName (Jq H (.inl (hk n Ht)) F rv λs' F'=>?_)))
   exact ih ds w (λm hm=>hk m (mem_cons_of_mem _ hm)) F' t q
theorem nF (H:Ev Γ A env){elts:List Expr}{k:Nat}{tpos pos:Pos}{value:Expr}{names:List String}{T:TT}(h:Bl Γ A env value T)
  (hs:swapsWithSole [.Tuple elts k tpos] value pos.line env=pure false)(hw:swappedStores [.Tuple elts k tpos] value env=pure (some (names.map ofString)))(hk:∀n∈names,env.kindOf (ofString n)=some .local):
  Cs Γ A env (.Assign [.Tuple elts k tpos] value pos) (λσ Q=>T σ λd σ=>∃ds,d=.tup ds/\ds.length=names.length/\Q .next (K6 (names.reverse.zip ds.reverse) σ)):=λK G ι σ s Q F q=>
 Assign_Tuple_swapped (names:=names.map ofString) (A8 h F q λG1 ι1 d v σ1 s1 l1 p1 r1 F1 Z=>Au Z λds e hl q1=>by
  subst e
  refine Ag (Ex F1.store r1) λa vs Y hT rl=>?_
  subst Y
  rw[show(names.map ofString).length=vs.toArray.size by rw[B2,size_toArray,rl.length,hl]]
  refine unpackItems_tuple H.handled hT λh' he=>?_
  have F2:Aa Γ K env G1 ι1 σ1 {s1 with heap:=h'}:=F1.ext (ht:=F1.tk) λa o hh e=>he a o (ne_of_lt (Heap.lt_size e)) e
  have rr:Rl G1 ι1 ds.reverse vs.reverse:=rl.reverse
  rw[show(names.map ofString).reverse.map (λn=>bindName env n)=names.reverse.map λn=>bindName env (ofString n)by rw[<-List.map_reverse,map_map];rfl]
  exact Ve H names.reverse ds.reverse vs.reverse (λn hn=>hk n (mem_reverse.mp hn)) F2 rr λs' F'=>(As.mk' (R:=FR) (b:=.next) rfl F' q1).up l1 p1) hs hw
theorem Pw (H:Ev Γ A env){x y:String}{px py tpos pos:Pos}{k:Nat}{value:Expr}{T:TT}(h:Bl Γ A env value T)
  (hs:swapsWithSole [.Tuple [.Name (ofString x) px,.Name (ofString y) py] k tpos] value pos.line env=pure false)(hw:swappedStores [.Tuple [.Name (ofString x) px,.Name (ofString y) py] k tpos] value env=pure (some [ofString x,ofString y]))
  (h1:env.kindOf (ofString x)=some .local)(h2:env.kindOf (ofString y)=some .local):
  Cs Γ A env (.Assign [.Tuple [.Name (ofString x) px,.Name (ofString y) py] k tpos] value pos) (λσ Q=>T σ λd σ=>∃ds,d=.tup ds/\ds.length=[x,y].length/\Q .next (K6 ([x,y].reverse.zip ds.reverse) σ)):=
 nF H (names:=[x,y]) h hs hw λn hn=>by
  rcases E1.mp hn with rfl|hn
  ·exact h1
  ·rcases E1.mp hn with rfl|hn
   ·exact h2
   ·cases hn
theorem Hs {f:Value}{e:Expr}{es:List Expr}{pos:Pos}{Q:Args->Shared->Prop}{E:Value->Shared->Prop}(hs:starEach (e::es) env=(false,eval e env)::starEach es env)
  (h:wpAny (model Γ.prog Γ.w) A (spliced (backTo pos (starEach (e::es) env))) (λvs s'=>Q ⟨vs,[]⟩ s') E s):wpAny (model Γ.prog Γ.w) A (evalArgs f true (backTo pos (starEach (e::es) env)) []) Q E s:=by
 rw[hs]at h⊢
 exact Calls.evalArgs_plain h
theorem Jw {e:Expr}{es:List Expr}{pos:Pos}(hs:starEach (e::es) env=(false,eval e env)::starEach es env)(hp:(backTo pos (starEach es env)).any (·.1)=false):(backTo pos (starEach (e::es) env)).any (·.1)=false:=by
 rw[hs];show(false||(backTo pos (starEach es env)).any (·.1))=false;rw[hp];rfl
theorem Dk (H:Ev Γ A env){f:String}{a:Addr}{fd:FuncData}{e:Expr}{es:List Expr}{p pos:Pos}{T:St->(List D->St->Prop)->Prop}{S:Mine.Internal.B3}(hk:env.kindOf (ofString f)=some .globalImplicit)(hv:Γ.mg (ofString f)=some (.ref a))
  (hd:(ofString f==("__debug__":Str))=false)(ho:∃o,Γ.B.get? a=some o/\o.data=.func fd)(hf:Ap Γ A (.ref a) S)(h:H8 Γ A env pos (e::es) T)(hs:starEach (e::es) env=(false,eval e env)::starEach es env):
  Bl Γ A env (.Call (.Name (ofString f) p) (e::es) [] pos) (λσ Q=>T σ λds σ=>S ds σ.own λd own'=>Q d {σ with own:=own'}):=λK G ι σ s Q F q=>
 wpAny_Call_NameR (Ba (Lu H hk hv hd K G ι σ s (λd σ'=>d=.raw (.ref a)/\T σ' λds σ=>S ds σ.own λd own'=>Q d {σ with own:=own'}) F ⟨rfl,q⟩) (λv s0 Z=>Cd Z λG0 ι0 d0 σ0 l0 p0 r0 F0 e0 q0=>by
  subst e0;cases r0
  refine Ab ho λo Y hd=>?_
  try clear ho
  revert Y
  intro ho
  exact Calls.callWith_function (o:=o) (fd:=fd) (Hs hs (A8 h F0 q0 λG1 ι1 ds vs σ1 s1 l1 p1 r1 F1 q1=>
   ⟨⟨F1.store.gin _ _ (F1.store.base _ _ ho),hd⟩,Ba (Ob hf F1 r1 q1) (λ_ _ p=>p.up (l0.trans l1) (p0.trans p1)) λ_ _ x=>x⟩))) λ_ _ x=>x)
theorem Iq (H:Ev Γ A env){f id:String}{e:Expr}{es:List Expr}{p pos:Pos}{T:St->(List D->St->Prop)->Prop}{S:List D->St->(D->St->Prop)->Prop}(hk:env.kindOf (ofString f)=some .globalImplicit)(hn:Γ.mg (ofString f)=none)(hv:Γ.mb (ofString f)=some (.builtin id))
  (hd:(ofString f==("__debug__":Str))=false)(hf:∀{K G ι σ s ds vs Q},Aa Γ K env G ι σ s->Rl G ι ds vs->S ds σ Q->wpAny (model Γ.prog Γ.w) A (call (.builtin id) vs) (As Γ K env VR G ι Q) (λ_ _=>False) s)
  (h:H8 Γ A env pos (e::es) T)(hs:starEach (e::es) env=(false,eval e env)::starEach es env)(hp:(backTo pos (starEach es env)).any (·.1)=false):
  Bl Γ A env (.Call (.Name (ofString f) p) (e::es) [] pos) (λσ Q=>T σ λds σ=>S ds σ Q):=λK G ι σ s Q F q=>
 wpAny_Call_NameR (Ba (Fb H hk hn hv hd K G ι σ s (λd σ'=>d=.raw (.builtin id)/\T σ' λds σ=>S ds σ Q) F ⟨rfl,q⟩) (λv s0 Z=>Cd Z λG0 ι0 d0 σ0 l0 p0 r0 F0 e0 q0=>by
  subst e0;cases r0
  exact Calls.callWith_builtin (Jw hs hp) (Hs hs (A8 h F0 q0 λG1 ι1 ds vs σ1 s1 l1 p1 r1 F1 q1=>Ba (hf F1 r1 q1) (λ_ _ p=>p.up (l0.trans l1) (p0.trans p1)) λ_ _ x=>x))) λ_ _ x=>x)
theorem Tm (H:Ev Γ A env){f ty:String}{e:Expr}{es:List Expr}{p pos:Pos}{T:St->(List D->St->Prop)->Prop}{S:List D->St->(D->St->Prop)->Prop}(hk:env.kindOf (ofString f)=some .globalImplicit)(hn:Γ.mg (ofString f)=none)(hv:Γ.mb (ofString f)=some (.type ty))
  (hd:(ofString f==("__debug__":Str))=false)(hf:∀{K G ι σ s ds vs Q},Aa Γ K env G ι σ s->Rl G ι ds vs->S ds σ Q->wpAny (model Γ.prog Γ.w) A (call (.type ty) vs) (As Γ K env VR G ι Q) (λ_ _=>False) s)
  (h:H8 Γ A env pos (e::es) T)(hs:starEach (e::es) env=(false,eval e env)::starEach es env)(hp:(backTo pos (starEach es env)).any (·.1)=false):
  Bl Γ A env (.Call (.Name (ofString f) p) (e::es) [] pos) (λσ Q=>T σ λds σ=>S ds σ Q):=λK G ι σ s Q F q=>
 wpAny_Call_NameR (Ba (Fb H hk hn hv hd K G ι σ s (λd σ'=>d=.raw (.type ty)/\T σ' λds σ=>S ds σ Q) F ⟨rfl,q⟩) (λv s0 Z=>Cd Z λG0 ι0 d0 σ0 l0 p0 r0 F0 e0 q0=>by
  subst e0;cases r0
  exact PyProof.Rows.callWith_type (Jw hs hp) (Hs hs (A8 h F0 q0 λG1 ι1 ds vs σ1 s1 l1 p1 r1 F1 q1=>Ba (hf F1 r1 q1) (λ_ _ p=>p.up (l0.trans l1) (p0.trans p1)) λ_ _ x=>x))) λ_ _ x=>x)
noncomputable def Zl (d:D) (σ:St) (Q:D->St->Prop):Prop:=match d with
 | .str x=>x.length<2^62/\Q (.int x.length) σ
 |d=>∃l,Al σ.own d=some l/\l.length<2^62/\Q (.int l.length) σ
theorem Vi {d:D}{v:Value}{Q:D->St->Prop}(F:Aa Γ K env G ι σ s)(rv:A7 G ι d v)(h:∃l,Al σ.own d=some l/\l.length<2^62/\Q (.int l.length) σ):
  wpAny (model Γ.prog Γ.w) A (call (.builtin "len") [v]) (As Γ K env VR G ι Q) (λ_ _=>False) s:=by
 refine Au h λl hl hz q=>?_
 clear h
 refine Ag (A2 F.store rv hl) λa vs Z hT rl=>?_
 subst Z
 exact len_list hT (by rw[size_toArray,rl.length];exact Yz (n:=l.length) rfl (Aq hz)) (by rw[size_toArray,rl.length];exact Jx (F.toks _) q)
theorem Yp {ds:List D}{vs:List Value}{Q:D->St->Prop}(F:Aa Γ K env G ι σ s)(r:Rl G ι ds vs)(h:∃d,ds=[d]/\Zl d σ Q):
  wpAny (model Γ.prog Γ.w) A (call (.builtin "len") vs) (As Γ K env VR G ι Q) (λ_ _=>False) s:=by
 refine Ab h λd Z Y=>?_
 try clear h
 revert Y
 intro h
 subst Z
 refine Ag r λv w V rv e=>?_
 try clear r
 subst V
 cases (show w=[]from e)
 cases d with
 |str x=>
  refine Ad rv λt U=>?_
  clear rv
  subst U
  refine len_str (by rw[Bm];have:=h.1;exact Int.not_le.2 (Yz (n:=x.length) rfl (Aq this))) (by rw[Bm];exact Jx (F.toks _) h.2)
 |_=>exact Vi F rv h
theorem Ls (H:Ev Γ A env){e:Expr}{p pos:Pos}{T:St->(List D->St->Prop)->Prop}(hk:env.kindOf (ofString "len")=some .globalImplicit)(hn:Γ.mg (ofString "len")=none)(hv:Γ.mb (ofString "len")=some (.builtin "len"))
  (h:H8 Γ A env pos [e] T)(hs:starEach [e] env=(false,eval e env)::starEach [] env):
  Bl Γ A env (.Call (.Name (ofString "len") p) [e] [] pos) (λσ Q=>T σ λds σ=>∃d,ds=[d]/\Zl d σ Q):=
 Iq H hk hn hv (by decide) (λF r q=>Yp F r q) h hs rfl
theorem Qm {ds:List D}{vs:List Value}{Q:D->St->Prop}(H:Ev Γ A env)(F:Aa Γ K env G ι σ s)(r:Rl G ι ds vs)(h:∃a b c,ds=[.int a,.int b,.int c]/\(-1073741824<c/\c<1073741824/\c≠0)/\Q (.rng a b c) σ):
  wpAny (model Γ.prog Γ.w) A (call (.type "range") vs) (As Γ K env VR G ι Q) (λ_ _=>False) s:=by
 refine Ez h λa b c z1 hc q=>?_
 try clear h
 subst z1
 refine Ag r λ_ _ z2 Z Y=>?_
 try clear r
 subst z2
 refine Ad Z λt z3=>?_
 clear Z
 subst z3
 refine Ag Y λ_ _ z4 V U=>?_
 clear Y
 subst z4
 refine Ad V λu z5=>?_
 clear V
 subst z5
 refine Ag U λ_ _ z6 z0 e=>?_
 clear U
 subst z6
 refine Ad z0 λw z7=>?_
 clear z0
 subst z7
 obtain rfl:=Az e
 refine call_range_3 hc.2.2 ?_ (.inl (PyProof.noPylong_small (qM hc.1 hc.2.1)))
 refine Ae (F.alloc H.ok (o:={cls:=.type "range",data:=.fields #[.int a t,.int b u,.int c w]}) rfl s.toks F.tk) λle F'=>?_
 exact(Fx (d:=.rng a b c) ⟨_,t,u,w,rfl,Gh.put_self _ _ _⟩ F' q).up le (Bp.refl _)
theorem Tn (H:Ev Γ A env){e:Expr}{es:List Expr}{p pos:Pos}{T:St->(List D->St->Prop)->Prop}(hk:env.kindOf (ofString "range")=some .globalImplicit)(hn:Γ.mg (ofString "range")=none)(hv:Γ.mb (ofString "range")=some (.type "range"))
  (h:H8 Γ A env pos (e::es) T)(hs:starEach (e::es) env=(false,eval e env)::starEach es env)(hp:(backTo pos (starEach es env)).any (·.1)=false):
  Bl Γ A env (.Call (.Name (ofString "range") p) (e::es) [] pos) (λσ Q=>T σ λds σ=>∃a b c,ds=[.int a,.int b,.int c]/\(-1073741824<c/\c<1073741824/\c≠0)/\tV (.rng a b c) σ Q):=
 Tm H hk hn hv (by decide) (λF r q=>Qm H F r q) h hs hp
end
noncomputable def I7 (sep:List Nat):List (List Nat)->List Nat
 |[]=>[]
 |x::r=>r.foldl (λacc p=>acc++sep++p) x
theorem Qz (sep:List Nat)(xs:List (List Nat)):Txt.join ⟨sep.toArray⟩ (xs.map λx=>⟨x.toArray⟩)=⟨(I7 sep xs).toArray⟩:=by
 unfold Txt.join Builtin.Str.glued
 cases xs with
 |nil=>rfl
 |cons x r=>
  show(⟨((r.map λx=>(⟨x.toArray⟩:Str)).foldl (λacc p=>acc++sep.toArray++p.cps) x.toArray)⟩:Str)=⟨(r.foldl (λacc p=>acc++sep++p) x).toArray⟩
  congr 1
  induction r generalizing x with
  |nil=>rfl
  |cons y r ih=>
   rw[Gb,foldl_cons,foldl_cons,<-ih]
   simp
theorem aJ {G:Gh}{ι:List Addr}:∀{ys:List (List Nat)} {vs:List Value},Rl G ι (ys.map D.str) vs->∃l:List (Str×Tok),vs=strValues l/\l.map (·.1)=ys.map λy=>⟨y.toArray⟩:=by
 intro ys
 induction ys with
 |nil=>exact λh=>⟨[],Az h,rfl⟩
 |cons y ys ih=>
  intro vs h
  refine Ag h λv r e q x=>Ad q λt ev=>?_
  subst e ev
  refine Ab (ih x) λl e1 e2=>?_
  subst e1
  exact⟨(⟨y.toArray⟩,t)::l,rfl,by simp[e2]⟩
section
variable {α β γ δ:Type}{Γ:W}{K:Cj}{A:Around}{env:Env}{G G₀ G':Gh}{ι ι':List Addr}{σ:St}{s s':Shared}
theorem Lq {o:Expr}{name ty id:String}{apos pos:Pos}{e:Expr}{es:List Expr}{T0:TT}{T:St->(List D->St->Prop)->Prop}{ok:D->St->Prop}{S:D->List D->St->(D->St->Prop)->Prop}
  (pa:PlainAttrs ty)(slot:Slot ty (ofString name) id)(hty:typeOf (.builtin id)=pure (.type "method_descriptor"))
  (hok:∀{K G ι σ s d v},Aa Γ K env G ι σ s->A7 G ι d v->ok d σ->s.TypeIs v ty/\∀a,v=.ref a->∃ob,s.heap.get? a=some ob/\ob.dict=none)
  (hS:∀{K G ι σ s d v ds vs Q},Aa Γ K env G ι σ s->A7 G ι d v->Rl G ι ds vs->S d ds σ Q->wpAny (model Γ.prog Γ.w) A (call (.builtin id) (v::vs)) (As Γ K env VR G ι Q) (λ_ _=>False) s)
  (h0:Bl Γ A env o T0)(h:H8 Γ A env pos (e::es) T)(hs:starEach (e::es) env=(false,eval e env)::starEach es env)(hp:(backTo pos (starEach es env)).any (·.1)=false)
  (hbase:attributeBase o (ofString name) env (eval o env)=eval o env)
  (hfew:((backTo pos (starEach (e::es) env)).all (λx=> !x.1)&&(backToKw pos (keywordEach [] env)).all (λx=>x.1.isSome)&&decide ((e::es).length+([]:List Keyword).length+(if([]:List Keyword).isEmpty then 0 else 1)<30))=true)
  (hline:(apos.endLine==pos.line)=true):
  Bl Γ A env (.Call (.Attribute o (ofString name) apos) (e::es) [] pos) (λσ Q=>T0 σ λd σ=>ok d σ/\T σ λds σ=>S d ds σ Q):=λK G ι σ s Q F q=>
 wpAny_Call_method_late hbase hfew hline rfl (A8 h0 F q λG0 ι0 d v σ0 s0 l0 p0 r0 F0 q0=>by
  refine Ae (hok F0 r0 q0.1) λht hd=>?_
  refine⟨ty,id,pa,slot,hty,ht,hd,?_⟩
  refine callWith_method1 (A8 h F0 q0.2 λG1 ι1 ds vs σ1 s1 l1 p1 r1 F1 q1=>Ba (hS F1 (r0.mono l1 p1) r1 q1) (λ_ _ p=>p.up (l0.trans l1) (p0.trans p1)) λ_ _ x=>x) hs hp)
noncomputable def T9 (d:D) (σ:St):Prop:=∃k ds,d=.obj k/\σ.own[k]? =some ds
theorem dR {d:D}{v:Value}(F:Aa Γ K env G ι σ s)(r:A7 G ι d v)(h:T9 d σ):s.TypeIs v "list"/\∀a,v=.ref a->∃ob,s.heap.get? a=some ob/\ob.dict=none:=by
 refine A1 h λk ds Y e=>?_
 try clear h
 subst Y
 refine Ab r λa ha V=>?_
 try clear r
 subst V
 refine Ab (F.store.at_ k a ds ha e) λvs Z _=>?_
 refine Ad Z λn ho=>?_
 clear Z
 exact⟨⟨_,ho,rfl⟩,λb hb=>by cases hb;exact⟨_,ho,rfl⟩⟩
noncomputable def O7 (d:D) (_σ:St):Prop:=∃x,d=.str x
theorem Oj {d:D}{v:Value}(F:Aa Γ K env G ι σ s)(r:A7 G ι d v)(h:O7 d σ):s.TypeIs v "str"/\∀a,v=.ref a->∃ob,s.heap.get? a=some ob/\ob.dict=none:=by
 refine Ad h λx Z=>?_
 try clear h
 subst Z
 refine Ad r λt Y=>?_
 try clear r
 subst Y
 exact⟨typeIs_str _ _ _,λb hb=>nomatch hb⟩
noncomputable def Ty (d:D) (ds:List D) (σ:St) (Q:D->St->Prop):Prop:=∃k x l,d=.obj k/\ds=[x]/\σ.own[k]? =some l/\l.length<=sizeLine/\Q .none {σ with own:=σ.own.set k (l++[x])}
theorem Iu {o:Expr}{apos pos:Pos}{e:Expr}{T0:TT}{T:St->(List D->St->Prop)->Prop}(h0:Bl Γ A env o T0)(h:H8 Γ A env pos [e] T)(hs:starEach [e] env=(false,eval e env)::starEach [] env)
  (hbase:attributeBase o (ofString "append") env (eval o env)=eval o env)
  (hfew:((backTo pos (starEach [e] env)).all (λx=> !x.1)&&(backToKw pos (keywordEach [] env)).all (λx=>x.1.isSome)&&decide ([e].length+([]:List Keyword).length+(if([]:List Keyword).isEmpty then 0 else 1)<30))=true)
  (hline:(apos.endLine==pos.line)=true):
  Bl Γ A env (.Call (.Attribute o (ofString "append") apos) [e] [] pos) (λσ Q=>T0 σ λd σ=>T9 d σ/\T σ λds σ=>Ty d ds σ Q):=
 Lq PySem.F.plainAttrs_list slot_list_append PySem.F.type_list_append (λF r h=>dR F r h) (λF r rl h=>by
  refine Fp h λk x l Z Y h1 h2 q=>?_
  try clear h
  subst Z
  subst Y
  refine Ab r λa ha V=>?_
  try clear r
  subst V
  refine Ag rl λv w U rv e=>?_
  try clear rl
  subst U
  obtain rfl:=Az e
  exact Ky F ha h1 rv h2 q) h0 h hs rfl hbase hfew hline
noncomputable def Yk (d:D) (ds:List D) (σ:St) (Q:D->St->Prop):Prop:=∃sep l xs,d=.str sep/\ds=[l]/\Al σ.own l=some (xs.map D.str)/\(xs.map λx=>x.length+sep.length).sum<=sizeLine/\Q (.str (I7 sep xs)) σ
theorem Yt {sep:List Nat}{xs:List (List Nat)}(h:(xs.map λx=>x.length+sep.length).sum<=sizeLine):JoinOk ⟨sep.toArray⟩ (xs.map λx=>⟨x.toArray⟩)=true:=by
 unfold JoinOk Builtin.Str.tooLong
 have:∀(l:List (List Nat)) (n:Nat),((l.map λx=>(⟨x.toArray⟩:Str)).toArray.foldl (·+·.length+(⟨sep.toArray⟩:Str).length) n)=n+(l.map λx=>x.length+sep.length).sum:=by
  intro l
  induction l with
  |nil=>intro n;simp
  |cons x l ih=>
   intro n
   have:=ih (n+x.length+sep.length)
   simp only[size_toArray,List.foldl_toArray',Gb,foldl_cons,Bm,sum_cons]at this⊢
   rw[this];simp +arith only
 rw[this]
 simpa using h
theorem Ny {d:D}{v:Value}{ds:List D}{vs:List Value}{Q:D->St->Prop}(F:Aa Γ K env G ι σ s)(r:A7 G ι d v)(rl:Rl G ι ds vs)(h:Yk d ds σ Q):
  wpAny (model Γ.prog Γ.w) A (call (.builtin "str.join") (v::vs)) (As Γ K env VR G ι Q) (λ_ _=>False) s:=by
 refine Fp h λsep l xs Z Y h1 h2 q=>?_
 try clear h
 subst Z
 subst Y
 refine Ad r λt V=>?_
 try clear r
 subst V
 refine Ag rl λv w U rv e=>?_
 try clear rl
 subst U
 obtain rfl:=Az e
 refine Ag (A2 F.store rv h1) λa ws z0 hl rl=>?_
 subst z0
 refine Ab (aJ rl) λps z1 e=>?_
 subst z1
 refine Ba (Ax (SC.join (E:=λ_ _=>False) (Q:=λv s'=>∃t' tk,v=.str (Txt.join ⟨sep.toArray⟩ (xs.map λx=>⟨x.toArray⟩)) t'/\s'={s with toks:=tk}) hl e (Yt h2) λt' k=>⟨t',k,rfl,rfl⟩)) (λv s' z2=>Ae z2 λz3 hle=>A1 z3 λt' tk e1 e2=>?_) λ_ _ x=>x
 subst e1 e2
 exact Ix (F.toks _ (lt_of_lt_of_le F.tk hle)) (Qz _ _) q
theorem Qp {o:Expr}{apos pos:Pos}{e:Expr}{T0:TT}{T:St->(List D->St->Prop)->Prop}(h0:Bl Γ A env o T0)(h:H8 Γ A env pos [e] T)(hs:starEach [e] env=(false,eval e env)::starEach [] env)
  (hbase:attributeBase o (ofString "join") env (eval o env)=eval o env)
  (hfew:((backTo pos (starEach [e] env)).all (λx=> !x.1)&&(backToKw pos (keywordEach [] env)).all (λx=>x.1.isSome)&&decide ([e].length+([]:List Keyword).length+(if([]:List Keyword).isEmpty then 0 else 1)<30))=true)
  (hline:(apos.endLine==pos.line)=true):
  Bl Γ A env (.Call (.Attribute o (ofString "join") apos) [e] [] pos) (λσ Q=>T0 σ λd σ=>O7 d σ/\T σ λds σ=>Yk d ds σ Q):=
 Lq PySem.F.plainAttrs_str PySem.F.slot_str_join PySem.F.type_str_join (λF r h=>Oj F r h) (λF r rl h=>Ny F r rl h) h0 h hs rfl hbase hfew hline
end
theorem Ap.imp {Γ:W}{A:Around}{f:Value}{S S':Mine.Internal.B3}(h:Ap Γ A f S)(k:∀ds own Q,S' ds own Q->S ds own Q):Ap Γ A f S':=
 λG ι own s ds vs Q st r ht q=>h G ι own s ds vs Q st r ht (k _ _ _ q)
theorem Ey {C:St->Prop}{Tb:D->TS}{n₀:Nat}{Q:FD->St->Prop}(I:List D->St->Prop)
  (h:∀x r σ (next:St->Prop),I (x::r) σ->(∀σ',I r σ'->next σ')->C σ/\Tb x σ λf σ1=>match f with| .brk=>Q .next σ1| .ret d=>Q (.ret d) σ1|_=>∃σ2,G9 n₀ σ1 σ2/\next σ2)
  (h0:∀σ,I [] σ->C σ/\Q .next σ):∀items σ,I items σ->Ed C Tb n₀ items σ Q
 |[],σ,i=>h0 σ i
 |x::r,σ,i=>h x r σ _ i λσ' i'=>Ey I h h0 r σ' i'
theorem Gr {own:List (List D)}{d:D}{l:List D}(h:Al own d=some l)(x:List (List D)):Al (own++x) d=some l:=by
 cases d<;>try exact h
 show(own++x)[_]? =some l
 rw[Ro (H7.mp h).1];exact h
theorem Cf {d:D}{σ:St}{items:List D}{k:List D->(St->Prop)->Prop}(h:Al σ.own d=some items)(q:k items (λσ'=>Al σ'.own d=some items)):Kw d σ k:=by
 cases d<;>first|exact⟨_,h,q⟩|exact H1 h
theorem Dj (own:List (List D))(x y:List D):(own++[x]).set own.length y=own++[y]:=by
 rw[List.set_append_right _ _ (le_refl _),sub_self];rfl
theorem Aw (own:List (List D))(x:List D):(own++[x])[own.length]? =some x:=by simp
theorem iT {n₀:Nat}{l l':List (String×D)}{own:List (List D)}{ro:List String}(h:∀x d,l'.lookup x=some d->l.lookup x=some d):G9 n₀ ⟨l,own,ro⟩ ⟨l',own,ro⟩:=.inl ⟨rfl,rfl,h⟩
theorem Hl {n₀:Nat}(l m:List (String×D)){own:List (List D)}{ro:List String}:G9 n₀ ⟨l++m,own,ro⟩ ⟨l,own,ro⟩:=iT λx d h=>by
 rw[List.lookup_append,h];rfl
section
variable {σ:St}{Q:D->St->Prop}{R:Bool->Prop}{P:D->Prop}{B:Bool->Prop}{i j:Int}{x y:List Nat}{a b:Bool}{l:List D}{k m:Nat}{nm:String}{d:D}
theorem eJ:Ee .NotIn (.str y) (.str x) σ R=R (!Eb y x):=rfl
theorem pR {ys:List (List Nat)}(h:R (ys.any (·==x))):Ee .In (.str x) (.tup (ys.map D.str)) σ R:=⟨x,ys,rfl,.inl rfl,h⟩
end
noncomputable def Af (scope:Scope) (cs:List (Str×Addr)) (env:Env) (C:Addr):Env:=
 {newEnv scope C env.globals (cellsFrom (C+1) scope.names cs) env.qual none .none (some env) builtinsNs with
  scope:={scope with names:=scope.names.map λx=>if(x.2== .free&&env.scope.kind== .function&&env.kindOf x.1==some .cell)then(x.1,.cell)else(x.1,x.2)}}
noncomputable abbrev CE (env:Env) (scope:Scope) (cap:List String) (cs:List (Str×Addr)):Prop:=(closureFor scope env=pure cs)/\(cs.map (·.1)=cap.map ofString)/\(∀p∈cs,env.cells.lookup p.1=some p.2)/\(∀C,∀x∈cap,(env.kindOf (ofString x)=some .cell/\(Af scope cs env C).kindOf (ofString x)=some .cell)\/(env.kindOf (ofString x)=some .free/\(Af scope cs env C).kindOf (ofString x)=some .free))/\(∀C,∀p∈scope.names,p.2=NameKind.cell->(Af scope cs env C).kindOf p.1=some .cell)/\(∀x∈cap,(ofString x,NameKind.cell)∉scope.names)/\(∀C,∀p∈scope.names,p.2=NameKind.local->(Af scope cs env C).kindOf p.1=some .local)/\(scope.kind=.function)
section
variable {env:Env}{scope:Scope}{cap:List String}{cs:List (Str×Addr)}(zs:CE env scope cap cs)
noncomputable abbrev CE.clos:=zs.1
noncomputable abbrev CE.names:=zs.2.1
noncomputable abbrev CE.at_:=zs.2.2.1
noncomputable abbrev CE.kinds:=zs.2.2.2.1
noncomputable abbrev CE.newk:=zs.2.2.2.2.1
noncomputable abbrev CE.newn:=zs.2.2.2.2.2.1
noncomputable abbrev CE.loc:=zs.2.2.2.2.2.2.1
noncomputable abbrev CE.kind:=zs.2.2.2.2.2.2.2
end
theorem Dt:∀(names:List (Str×NameKind)) (n:Nat) (acc:List (Str×Addr)),cellsFrom n names acc=cellsFrom n names []++acc:=by
 intro names
 induction names with
 |nil=>exact λ_ _=>rfl
 |cons q r ih=>
  intro n acc
  unfold cellsFrom
  split
  ·rw[ih (n+1) (_::acc),ih (n+1) [_],C4];rfl
  ·exact ih n acc
theorem Fr:∀(names:List (Str×NameKind)) (n:Nat) (p:Str×Addr),p∈cellsFrom n names []->(p.1,NameKind.cell)∈names:=by
 intro names
 induction names with
 |nil=>exact λ_ _ h=>absurd h not_mem_nil
 |cons q r ih=>
  intro n p h
  unfold cellsFrom at h
  split at h
  ·rename_i hk
   rw[Dt]at h
   rcases mem_append.mp h with h|h
   ·exact mem_cons_of_mem _ (ih _ p h)
   ·rw[K2]at h;subst h
    have hk:q.2=.cell:=by simpa using hk
    rw[<-hk]
    exact Ht
  ·exact mem_cons_of_mem _ (ih _ p h)
theorem Gp {α:Type}:∀{l:List (Str×α)} {x:Str},(∀c,(x,c)∉l)->l.lookup x=none:=by
 intro l
 induction l with
 |nil=>exact λ_=>rfl
 |cons q l ih=>
  intro x h
  cases q with|mk y c=>
  rw[lookup_cons]
  by_cases e:x=y
  ·subst e;exact absurd Ht (h c)
  ·rw[show(x==y)=false by simpa using e]
   exact ih λc' hc=>h c' (mem_cons_of_mem _ hc)
theorem L4 {α:Type}:∀{l:List (Str×α)} {x:Str},x∈l.map (·.1)->∃c,l.lookup x=some c:=by
 intro l
 induction l with
 |nil=>exact λh=>absurd h not_mem_nil
 |cons q l ih=>
  intro x h
  cases q with|mk y c=>
  rw[lookup_cons]
  by_cases e:x=y
  ·subst e;exact⟨c,by simp⟩
  ·rw[show(x==y)=false by simpa using e]
   rw[Gb]at h
   rcases E1.mp h with h|h
   ·exact absurd h e
   ·exact ih h
section
variable {α β γ δ:Type}{Γ:W}{K:Cj}{A:Around}{env:Env}{G G':Gh}{ι ι':List Addr}{σ:St}{s s':Shared}{scope:Scope}{cap:List String}{cs:List (Str×Addr)}
theorem CE.lookup (X:CE env scope cap cs)(C:Addr){x:String}(hx:x∈cap):(Af scope cs env C).cells.lookup (ofString x)=env.cells.lookup (ofString x):=by
 show(cellsFrom (C+1) scope.names cs).lookup _=_
 rw[Dt,List.lookup_append,Gp (l:=cellsFrom (C+1) scope.names []) (x:=ofString x) λc hc=>X.newn x hx (Fr _ _ (ofString x,c) hc)]
 refine Ad (L4 (l:=cs) (x:=ofString x) (by rw[X.names];exact mem_map_of_mem hx)) λc hc=>?_
 rw[hc,X.at_ _ (mem_of_lookup hc)];rfl
theorem CE.mem (X:CE env scope cap cs){C:Addr}{y:Str}{c:Addr}(h:(Af scope cs env C).cells.lookup y=some c):
  ((y,c)∈cellsFrom (C+1) scope.names []/\(y,NameKind.cell)∈scope.names)\/∃x,y=ofString x/\x∈cap/\env.cells.lookup y=some c:=by
 have:=mem_of_lookup (show(cellsFrom (C+1) scope.names cs).lookup y=some c from h)
 rw[Dt]at this
 rcases mem_append.mp this with h|h
 ·exact .inl ⟨h,Fr _ _ _ h⟩
 ·have hy:y∈cs.map (·.1):=mem_map_of_mem h
  rw[X.names]at hy
  refine Ab (G7.mp hy) λx hx e=>?_
  exact .inr ⟨x,e.symm,hx,X.at_ _ h⟩
theorem Jn {M:Model}{E:Value->Shared->Prop}{globals:Addr}{qual:Str}{outer:Env}{Q:Env->Shared->Prop}
  (hQ:Q (newEnv scope s.heap.objs.size globals (cellsFrom (s.heap.objs.size+1) scope.names cs) qual none .none (some outer) builtinsNs) {s with heap:=pushCells (s.heap.push {cls:=.type "dict",data:=.dict #[]}) scope.names}):
  wpAny M A (newFunctionEnv scope globals cs [] qual none .none (some outer)) Q E s:=by
 simp only[newFunctionEnv,Option.isSome_some,if_true]
 refine Ai (wpAny_alloc ?_)
 refine Ai (wpAny_layCells _ (λname kind cells=>by cases hkc:kind==NameKind.cell<;>simp[hkc]) _ _ _ _ ?_)
 rw[show({s with heap:=s.heap.push {cls:=.type "dict",data:=.dict #[]}}:Shared).heap.objs.size=s.heap.objs.size+1 from Heap.size_push ..]
 exact Ai (Be (Be hQ))
noncomputable def seen (cap:List String) (σ:St):List (String×D):=cap.filterMap λx=>(σ.get x).map (x,·)
theorem Lk:∀{cap:List String} {y:String} {d:D},(seen cap σ).lookup y=some d->y∈cap/\σ.get y=some d
 |[],_,_,h=>by simp[seen]at h
 |x::cap,y,d,h=>by
  unfold seen at h
  rw[List.filterMap_cons]at h
  cases e:σ.get x with
  |none=>
   rw[e]at h
   refine Ae (Lk (cap:=cap) h) λh1 h2=>?_
   exact⟨mem_cons_of_mem _ h1,h2⟩
  |some d'=>
   rw[e]at h
   simp only[Option.map_some,lookup_cons]at h
   by_cases q:y=x
   ·subst q;simp at h;subst h;exact⟨Ht,e⟩
   ·rw[show(y==x)=false by simpa using q]at h
    refine Ae (Lk (cap:=cap) h) λh1 h2=>?_
    exact⟨mem_cons_of_mem _ h1,h2⟩
theorem V1 (X:CE env scope cap cs)(F:Aa Γ K env G ι σ s){Y:Addr->Prop}(hY:Bv Γ K env G ι Y)(hin:∀a,Y a->s.heap.get? a≠none):
  ∃K':Cj,K'.os=s.os/\K'.gens=s.gens/\(∀b o,s.heap.get? b=some o->G b=none->b∉ι->b∉Γ.tabs.map (·.2)->¬Y b->K'.old b=some o)/\Bv Γ K' (Af scope cs env s.heap.objs.size) G ι Y/\
   Aa Γ K' (Af scope cs env s.heap.objs.size) G ι ⟨seen cap σ,σ.own,cap⟩ {s with heap:=pushCells (s.heap.push {cls:=.type "dict",data:=.dict #[]}) scope.names}:=by
 classical
 have S:=F.store
 refine⟨⟨s.os,s.gens,λb=>if G b=none/\b∉ι/\b∉Γ.tabs.map (·.2)/\¬Y b then s.heap.get? b else none⟩,rfl,rfl,λb o e h1 h2 h3 h4=>by dsimp only;rw[Bc ⟨h1,h2,h3,h4⟩];exact e,?_⟩
 have ny:∀c o,K.old c=some o->¬Y c:=λc o e y=>by rw[(hY c y).2.2.2.2]at e;cases e
 have keep:∀b o,s.heap.get? b=some o->(pushCells (s.heap.push {cls:=.type "dict",data:=.dict #[]}) scope.names).get? b=some o:=λb o e=>pushCells_keeps _ _ b o (Ft _ e)
 have ok:=cellsFrom_ok scope.names (s.heap.push {cls:=.type "dict",data:=.dict #[]}) (s.heap.objs.size+1) [] ⟨λ_ _ hm=>(absurd hm not_mem_nil),List.Pairwise.nil⟩ (by rw[Heap.size_push];exact le_refl _)
 rw[Heap.size_push]at ok
 have ltG:∀b o,G b=some o->b<s.heap.objs.size:=λb o e=>Heap.lt_size (S.gin _ _ e)
 have noG:∀b,s.heap.objs.size<=b->G b=none:=λb hb=>by
  cases e:G b with
  |none=>rfl
  |some o=>exact absurd (ltG b o e) (not_lt.mpr hb)
 have ltT:∀b∈Γ.tabs.map (·.2),b<s.heap.objs.size:=λb hb=>F.lt_own (.inr (.inr (.inl hb)))
 have ownCase:∀{y:Str} {c:Addr},(Af scope cs env s.heap.objs.size).kindOf y=some .cell->(Af scope cs env s.heap.objs.size).cells.lookup y=some c->
   ((y,c)∈cellsFrom (s.heap.objs.size+1) scope.names []/\s.heap.objs.size+1<=c)\/(env.kindOf y=some .cell/\env.cells.lookup y=some c/\∃x,y=ofString x/\x∈cap):=λ{y c} hk hl=>by
  rcases X.mem hl with⟨h,_⟩|⟨x,rfl,hx,hl'⟩
  ·exact .inl ⟨h,(ok.empty _ _ h).2⟩
  ·rcases X.kinds s.heap.objs.size x hx with⟨h,_⟩|⟨_,h⟩
   ·exact .inr ⟨h,hl',x,rfl,hx⟩
   ·rw[hk]at h;cases h
 have big:∀c,Jm (Af scope cs env s.heap.objs.size) c->s.heap.objs.size<=c\/Jm env c:=λc hc=>by
  rcases hc with rfl|⟨y,hk,hl⟩
  ·exact .inl (le_refl _)
  ·rcases ownCase hk hl with⟨_,h⟩|⟨h1,h2,_⟩
   ·exact .inl (le_of_succ_le h)
   ·exact .inr (.inr ⟨y,h1,h2⟩)
 refine⟨λa ya=>?_,?_⟩
 ·refine B6 (hY a ya) λy1 y2 y3 y4 _=>?_
  refine⟨y1,y2,y3,λho=>?_,by dsimp only;rw[Ay λh=>h.2.2.2 ya]⟩
  rcases big a ho with h|h
  ·cases e:s.heap.get? a with
   |none=>exact hin a ya e
   |some o=>exact absurd (Heap.lt_size e) (not_lt.mpr h)
  ·exact y4 h
 refine⟨S.ext λb o _ e=>keep b o e,⟨_,((Heap.Ns.new s.heap (.type "dict")).keeps (pushCells_keeps _ _)),λy d e=>?_⟩,noG _ (le_refl _),λb hb=>⟨λhm=>?_,λhm=>?_⟩,λy c hk hl=>?_,λy c hk hl=>?_,λb o e=>?_,rfl,A4.refl _,F.tk⟩
 ·refine Ae (Lk (show(seen cap σ).lookup y=some d from e)) λhy hd=>?_
  have hlk:=X.lookup s.heap.objs.size hy
  refine Ab F.ns λm _ q=>?_
  rcases q y d hd with⟨k,_⟩|⟨k,c,v,e',i,r⟩|⟨k,c,o,v,e',i,od,r⟩
  ·rcases X.kinds 0 y hy with⟨h,_⟩|⟨h,_⟩<;>(rw[k]at h;cases h)
  ·rcases X.kinds s.heap.objs.size y hy with⟨_,h⟩|⟨h,_⟩
   ·exact .inr (.inl ⟨h,c,v,hlk.trans e',i.keeps keep,r⟩)
   ·rw[k]at h;cases h
  ·rcases X.kinds s.heap.objs.size y hy with⟨h,_⟩|⟨_,h⟩
   ·rw[k]at h;cases h
   ·refine .inr (.inr ⟨h,c,o,v,hlk.trans e',?_,od,r⟩)
    rcases i with i|i
    ·exact .inl i
    ·refine B6 (F.far c o i) λf1 f2 f3 f4 _=>?_
     refine .inr ?_
     dsimp only
     rw[Bc ⟨f2,f3,f4,ny _ _ (by assumption)⟩];exact f1
 ·rcases big b hb with h|h
  ·exact absurd (S.lt b hm) (not_lt.mpr h)
  ·exact(F.away b h).1 hm
 ·rcases big b hb with h|h
  ·exact absurd (ltT b hm) (not_lt.mpr h)
  ·exact(F.away b h).2 hm
 ·rcases ownCase hk hl with⟨hm,hge⟩|⟨h1,h2,x,rfl,hx⟩
  ·refine⟨ne_of_gt (Nat.lt_of_succ_le hge),⟨_,(ok.empty _ _ hm).1⟩,λz hk' hl'=>?_,λ_ _ _=>⟨noG c (le_of_succ_le hge),?_⟩⟩
   ·rcases ownCase hk' hl' with⟨hm',_⟩|⟨h1,h2,_⟩
    ·exact name_of_addr ok.apart hm' hm
    ·exact absurd (F.own_lt (.inr ⟨z,h1,h2⟩)) (not_lt.mpr (le_of_succ_le hge))
   ·dsimp only;split
    ·exact Heap.get?_none_of_le (le_of_succ_le hge)
    ·rfl
  ·refine Bn (F.cell _ c h1 h2) λc1 Z c3 _=>?_
   refine Ad Z λv hc=>?_
   clear Z
   have hlt:=F.own_lt (.inr ⟨_,h1,h2⟩)
   refine⟨ne_of_lt hlt,⟨v,hc.keeps keep⟩,λz hk' hl'=>?_,λz hz hr=>absurd (Bg hz▸hx) hr⟩
   rcases ownCase hk' hl' with⟨_,hge⟩|⟨h1',h2',_⟩
   ·exact absurd hlt (not_lt.mpr (le_of_succ_le hge))
   ·exact c3 z h1' h2'
 ·rcases X.mem hl with⟨h,hn⟩|⟨x,rfl,hx,hl'⟩
  ·have:=X.newk s.heap.objs.size _ hn rfl
   rw[hk]at this;cases this
  ·rcases X.kinds s.heap.objs.size x hx with⟨_,h⟩|⟨h,_⟩
   ·rw[hk]at h;cases h
   ·refine Ad (F.freeIn _ c h hl') λo e=>?_
    refine⟨o,e.imp id λe=>?_⟩
    refine B6 (F.far c o e) λf1 f2 f3 f4 _=>?_
    dsimp only
    rw[Bc ⟨f2,f3,f4,ny _ _ (by assumption)⟩];exact f1
 ·dsimp only at e
  split at e
  ·rename_i hh
   exact⟨keep b o e,hh.1,hh.2.1,hh.2.2.1,ne_of_lt (Heap.lt_size e)⟩
  ·cases e
end
section
variable {α β γ δ:Type}{Γ:W}{K:Cj}{A:Around}{env:Env}{G G':Gh}{ι ι':List Addr}{σ:St}{s s':Shared}{scope:Scope}{cap:List String}{cs:List (Str×Addr)}
noncomputable def M9 (Q:St->Prop):FD->St->Prop:=λf σ=>match f with| .next=>Q σ|_=>True
noncomputable def mK (Γ:W) (A:Around) (env:Env) (J:List Addr->Prop) (t:Sem Unit) (T:St->(St->Prop)->Prop):Prop:=
 ∀K G ι σ s Q,Aa Γ K env G ι σ s->J ι->T σ Q->wpAny (model Γ.prog Γ.w) A t (As Γ K env UR G ι λ_ σ=>Q σ) (λ_ _=>False) s
noncomputable def Mt (k:Nat) (D:Addr):List Addr->Prop:=λι=>ι[k]? =some D
theorem Mt.up {k:Nat}{D:Addr}(h:Mt k D ι)(p:Bp ι ι'):Mt k D ι':=p _ _ h
noncomputable def Dz (ifs:List Expr) (env:Env):Sem Bool:=forIn ifs true λc r=>if r=true then do let ok<-isTrue c env (eval c env);pure (ForInStep.yield ok)else pure (ForInStep.yield r)
abbrev mZ (Γ:W)(A:Around)(env:Env)(ifs:List Expr)(T:St->(Bool->St->Prop)->Prop):=Tr Γ A env BR (Dz ifs env) T
theorem Vo:mZ Γ A env [] (tU true):=λK G ι σ s Q F q=>Be (As.mk' (R:=BR) rfl F q)
theorem pE {c:Expr}{T:St->(Bool->St->Prop)->Prop}(h:Wa Γ A env c T):mZ Γ A env [c] T:=λK G ι σ s Q F q=>by
 unfold Dz
 rw[forIn_cons]
 simp only[if_true]
 refine Ai (Ai (Ba (h K G ι σ s Q F q) (λb s' p=>Be ?_) λ_ _ x=>x))
 simp only[forIn_nil]
 exact Be p
theorem Ph (H:Ev Γ A env){elt tgt:Expr}{gens:List Comprehension}{cpos:Pos}{depth:Nat}{it acc:Value}{p:Pos}{inner:Sem Unit}{tests:Sem Bool}{J:List Addr->Prop}{X:Addr->Prop}{C:St->Prop}{P:Gh->List Addr->List D->(Addr->Prop)->Shared->Prop}{n₀ gz:Nat}{Ta:D->St->(St->Prop)->Prop}{Tt:St->(Bool->St->Prop)->Prop}{Tin:St->(St->Prop)->Prop}{items:List D}{Q:St->Prop}
  (heq:compTurn (.ListComp elt gens scope cpos) depth it acc env=(standAt p>>=λ_=>pyNext it>>=λr=>match r with|none=>pure (.done .next)|some v=>letOwnedTupleGo tgt it v>>=λ_=>assign tgt env v>>=λ_=>tests>>=λok=>if ok=true then(inner>>=λ_=>again (.compLoop (.ListComp elt gens scope cpos) depth it acc env))else again (.compLoop (.ListComp elt gens scope cpos) depth it acc env)))
  (I:Ji Γ A env n₀ gz it C P)(ha:Sx Γ A env tgt Ta)(ht:Tr Γ A env BR tests Tt)(hin:mK Γ A env J inner Tin)(hJ:∀{ι ι'},J ι->Bp ι ι'->J ι')(hj:J ι)(F:Aa Γ K env G ι σ s)(hX:Bv Γ K env G ι X)(hg:K.gens.size<=gz)(hP:P G ι items X s)(hn:ι.length<=n₀)
  (q:Ed C (λx σ Q=>Ta x σ λσ1=>Tt σ1 λok σ1=>if ok=true then Tin σ1 (Q .next)else Q .next σ1) n₀ items σ (M9 Q)):
  codeAny (model Γ.prog Γ.w) A (.compLoop (.ListComp elt gens scope cpos) depth it acc env) (λr s'=>r=.ok .next/\∃G' ι' σ',G.le G'/\Bp ι ι'/\Aa Γ K env G' ι' σ' s'/\Q σ') s:=by
 refine codeAny_loop rfl (λn s'=>∃G' ι' σ' r X,n=r.length/\G.le G'/\Bp ι ι'/\Aa Γ K env G' ι' σ' s'/\Bv Γ K env G' ι' X/\P G' ι' r X s'/\Ed C (λx σ Q=>Ta x σ λσ1=>Tt σ1 λok σ1=>if ok=true then Tin σ1 (Q .next)else Q .next σ1) n₀ r σ' (M9 Q))
  (λn s1 h=>?_) _ ⟨G,ι,σ,items,X,rfl,Gh.le.refl _,Bp.refl _,F,hX,hP,q⟩
 refine Cq h λG1 ι1 σ1 r X Y l1 p1 F1 zz=>At zz λX1 P1 q1=>?_
 try clear h
 subst Y
 show wpAny _ _ ((compTurn (.ListComp elt gens scope cpos) depth it acc env).onRaise (λx=>do noteFrame x env;theTreesLotGoes x)) _ _ s1
 refine wpAny_noted ?_
 rw[heq]
 refine Ai (wpAny_standAt (Ai ?_))
 cases r with
 |nil=>
  refine Ba (I.done F1 X1 hg q1.1 P1) (λres s2 h=>?_) λ_ _ x=>x.elim
  refine Ae h λV F2=>?_
  try clear h
  subst V
  exact Be ⟨rfl,G1,ι1,σ1,l1,p1,F2,q1.2⟩
 |cons x r=>
  refine Ba (I.item F1 X1 hg q1.1 P1) (λres s2 h=>?_) λ_ _ x=>x.elim
  refine Gv h λv G2 X U l2 X2 F2 r2 P2=>?_
  try clear h
  subst U
  refine Ai (Ba (I.own P2 tgt v (λ_ s'=>s'=s2) rfl) (λ_ s' h=>?_) λ_ _ x=>x.elim)
  subst h
  have F2':=F2.cover X2
  refine Ai (Ba (ha _ G2 ι1 σ1 _ _ x v F2' r2 q1.2) (λ_ s3 h=>?_) λ_ _ x=>x.elim)
  refine Cm h λG3 ι3 _ σ3 l3 p3 _ F3 q3=>?_
  try clear h
  refine Ai (Ba (ht _ G3 ι3 σ3 s3 _ F3 q3) (λok s3' h=>?_) λ_ _ x=>x.elim)
  refine Cm h λG3' ι3' ok' σ3' l3' p3' r3' F3' q3'=>?_
  try clear h
  cases r3'
  have fin:∀G4 ι4 σ4 s4,G3'.le G4->Bp ι3' ι4->Aa Γ (K.plus X s') env G4 ι4 σ4 s4->(∃σ6,G9 n₀ σ4 σ6/\Ed C (λx σ Q=>Ta x σ λσ1=>Tt σ1 λok σ1=>if ok=true then Tin σ1 (Q .next)else Q .next σ1) n₀ r σ6 (M9 Q))->
    ∃m,m<(x::r).length/\∃G' ι' σ' r X,m=r.length/\G.le G'/\Bp ι ι'/\Aa Γ K env G' ι' σ' s4/\Bv Γ K env G' ι' X/\P G' ι' r X s4/\Ed C (λx σ Q=>Ta x σ λσ1=>Tt σ1 λok σ1=>if ok=true then Tin σ1 (Q .next)else Q .next σ1) n₀ r σ' (M9 Q):=by
   intro G4 ι4 σ4 s4 l4 p4 F4 Z
   refine Ab Z λσ6 hw q6=>?_
   clear Z
   refine Bn (F2.uncover X2 (I.inn P2) F4 ((l3.trans l3').trans l4)) λF5 X5 k5 g5=>?_
   refine Bz (F5.weak H.ok hw) λG6 ι6 l6 F6 p6 x6=>?_
   refine⟨r.length,lt_succ_self _,G6,ι6,σ6,r,X,rfl,(((l1.trans l2).trans (l3.trans l3')).trans l4).trans l6,p6 ι hn (((p1.trans p3).trans p3').trans p4),F6,λa xa=>?_,?_,q6⟩
   ·refine Bn (X5 a xa) λy1 y2 y3 y4=>?_
    exact⟨(x6 a y1 y2).1,(x6 a y1 y2).2,y3,y4⟩
   ·exact I.keep P2 k5 g5 (((l3.trans l3').trans l4).trans l6) λκ hk h=>p6 κ hk (((h.trans p3).trans p3').trans p4)
  cases ok with
  |true=>
   rw[Bc rfl]at q3'⊢
   refine Ai (Ba (hin _ G3' ι3' σ3' s3' (λσ2=>∃σ6,G9 n₀ σ2 σ6/\Ed C (λx σ Q=>Ta x σ λσ1=>Tt σ1 λok σ1=>if ok=true then Tin σ1 (Q .next)else Q .next σ1) n₀ r σ6 (M9 Q)) F3' (hJ hj ((p1.trans p3).trans p3')) q3') (λf s4 h=>?_) λ_ _ x=>x.elim)
   refine Cm h λG4 ι4 fd σ4 l4 p4 r4 F4 q4=>?_
   try clear h
   exact Be ⟨rfl,fin G4 ι4 σ4 s4 l4 p4 F4 q4⟩
  |false=>
   rw[Ay Bool.false_ne_true]at q3'⊢
   exact Be ⟨rfl,fin G3' ι3' σ3' s3' (Gh.le.refl _) (Bp.refl _) F3' q3'⟩
theorem Na {elt:Expr}{gens:List Comprehension}{cpos:Pos}{depth:Nat}{it acc:Value}{g:Comprehension}{R:Result->Shared->Prop}(hcl:(clausesOf (.ListComp elt gens scope cpos))[depth]? =some g)(hasy:g.is_async=0)
  (hself:∀(Q:Value->Shared->Prop),Q it s->wpAny (model Γ.prog Γ.w) A (pyIter it) Q (λ_ _=>False) s)(h:codeAny (model Γ.prog Γ.w) A (.compLoop (.ListComp elt gens scope cpos) depth it acc env) R s):
  codeAny (model Γ.prog Γ.w) A (.compStart (.ListComp elt gens scope cpos) depth it acc env) R s:=by
 refine codeAny_of_tree ?_
 show wpAny _ _ ((compStart (.ListComp elt gens scope cpos) depth it acc env).onRaise (λx=>do noteFrame x env;standAt theWindowsPlace)) _ _ s
 refine wpAny_notedAt ?_
 unfold compStart
 rw[hcl]
 have e0:((some g).elim false λx=>x.is_async != 0)=false:=by simp[hasy]
 rw[e0]
 show wpAny _ _ (ask>>=_) _ _ s
 refine Ai (wpAny_askSetting (wpAny_ite ?_))
 split
 ·first
   |exact Ai (Be (Be (And.intro rfl h)))
   |exact Be (And.intro rfl h)
 ·have h2:=Ba (hself (λit' s'=>it'=it/\s'=s) ⟨rfl,rfl⟩) (λit' s' h'=>h') (E':=notedBy (model Γ.prog Γ.w) A env λx s'=>R (.error x) s') λ_ _ x=>x.elim
  first
   |exact Ai (wpAny_rule (Ai (wpAny_standAt (Ai (Ba h2 (λit' s' h'=>by refine Ae h' λZ Y=>?_;try clear h';subst Z;subst Y;exact Be (And.intro rfl h)) λ_ _ x=>x)))))
   |(refine Ai (wpAny_rule ?_);show wpAny _ _ (standAt g.iter.pos>>=_) _ _ s;exact Ai (wpAny_standAt (Ai (Ba h2 (λit' s' h'=>by obtain⟨rfl,rfl⟩:=h';exact Be (And.intro rfl h)) λ_ _ x=>x))))
noncomputable def Gx (elt:Expr) (acc:Value) (env:Env):Sem Unit:=do let _<-call (.builtin "list.append") [acc,<-eval elt env]
noncomputable def Ud (T:TT) (k:Nat):St->(St->Prop)->Prop:=λσ Q=>T σ λd σ=>∃l,σ.own[k]? =some l/\l.length<=sizeLine/\Q {σ with own:=σ.own.set k (l++[d])}
theorem eK {elt:Expr}{T:TT}(h:Bl Γ A env elt T)(k:Nat)(D:Addr):mK Γ A env (Mt k D) (Gx elt (.ref D) env) (Ud T k):=λK G ι σ s Q F hj q=>
 Ai (A8 h F q λG1 ι1 d v σ1 s1 l1 p1 r1 F1 Z=>Au Z λl h1 h2 q1=>
  Ai (Ba (Ky (Q:=λ_ σ=>Q σ) F1 (hj.up p1) h1 r1 h2 q1) (λ_ s' h2_=>by refine Cm h2_ λG' ι' b σ' a1 a2 a3 a4 a5=>?_;try clear h2_;exact Be ⟨G',ι',(),σ',l1.trans a1,p1.trans a2,trivial,a4,a5⟩) λ_ _ x=>x))
end
section
variable {α β γ δ:Type}{Γ:W}{K:Cj}{A:Around}{env:Env}{G G':Gh}{ι ι':List Addr}{σ:St}{s s':Shared}{scope:Scope}{cap:List String}{cs:List (Str×Addr)}
theorem Ji.mono {n n' gz:Nat}{it:Value}{C:St->Prop}{P:Gh->List Addr->List D->(Addr->Prop)->Shared->Prop}(h:n<=n')(I:Ji Γ A env n gz it C P):Ji Γ A env n' gz it C P where
 inn:=I.inn
 keep:=λp k g l q=>I.keep p k g l λκ hk=>q κ (Ao hk h)
 item:=I.item
 done:=I.done
 own:=I.own
 self:=I.self
noncomputable def Ch (env:Env) (cap:List String):List (Str×Addr):=cap.map λx=>(ofString x,(env.cells.lookup (ofString x)).getD 0)
theorem So:(Ch env cap).map (·.1)=cap.map ofString:=by unfold Ch;rw[map_map];rfl
theorem cP (h:∀x∈cap,(env.cells.lookup (ofString x)).isSome=true):∀p∈Ch env cap,env.cells.lookup p.1=some p.2:=λp hp=>by
 refine Ab (G7.mp hp) λx hx Z=>?_
 subst Z
 refine Ad (Option.isSome_iff_exists.mp (h x hx)) λc hc=>?_
 show env.cells.lookup (ofString x)=some ((env.cells.lookup (ofString x)).getD 0)
 rw[hc];rfl
theorem bJ (h:((scope.names.filter λp=>p.2== .cell).all λp=> !(cap.map ofString).contains p.1)=true):∀x∈cap,(ofString x,NameKind.cell)∉scope.names:=λx hx hm=>by
 have:=all_eq_true.mp h (ofString x,.cell) (mem_filter.mpr ⟨hm,rfl⟩)
 simp at this
 exact this x hx rfl
noncomputable def Oa (Ti:TT) (Ta:D->St->(St->Prop)->Prop) (Tt:St->(Bool->St->Prop)->Prop) (Tin:Nat->St->(St->Prop)->Prop) (cap:List String):TT:=λσ Q=>
 Ti σ λd σ1=>Kw d σ1 λitems C=>Ed C (λx σ Q=>Ta x σ λσ'=>Tt σ' λok σ'=>if ok=true then Tin σ1.own.length σ' (Q .next)else Q .next σ') (σ1.own.length+1) items
  ⟨seen cap σ1,σ1.own++[[]],cap⟩ (M9 λσe=>Q (.obj σ1.own.length) {σ1 with own:=σe.own})
noncomputable def mI (Γ:W) (A:Around) (use:Option (Value->Sem Unit)) (X':Value->Shared->Prop) (D C:Addr) (s':Shared):Prop:=match use with
 |none=>∀h',Heap.SameBut C s'.heap h'->X' (.ref D) {s' with heap:=h'}
 |some u=>wpAny (model Γ.prog Γ.w) A (u (.ref D)) (λ_ s''=>∃m,s''.heap.Ns C m/\∀h',Heap.SameBut C s''.heap h'->X' .none {s'' with heap:=h'}) (λ_ _=>False) s'
theorem Ug (H:Ev Γ A env){elt tgt iter:Expr}{ifs:List Expr}{rest:List Comprehension}{pos p:Pos}{use:Option (Value->Sem Unit)}{inner:Addr->Value->Sem Unit}{tests:Addr->Sem Bool}{Ti:TT}{Ta:D->St->(St->Prop)->Prop}{Tt:St->(Bool->St->Prop)->Prop}{Tin:Nat->St->(St->Prop)->Prop}{Q:D->St->Prop}{X':Value->Shared->Prop}
  (X:CE env scope cap cs)(hi:Bl Γ A env iter Ti)(ha:∀C,Sx Γ A (Af scope cs env C) tgt Ta)(ht:∀C,Tr Γ A (Af scope cs env C) BR (tests C) Tt)
  (hin:∀C k D,mK Γ A (Af scope cs env C) (Mt k D) (inner C (.ref D)) (Tin k))(hs:∀x,foldedSetIterable iter env x=pure x)
  (heq:∀C it acc,compTurn (.ListComp elt (⟨tgt,iter,ifs,0⟩::rest) scope pos) 0 it acc (Af scope cs env C)=(standAt p>>=λ_=>pyNext it>>=λr=>match r with|none=>pure (.done .next)|some v=>letOwnedTupleGo tgt it v>>=λ_=>assign tgt (Af scope cs env C) v>>=λ_=>tests C>>=λok=>if ok=true then(inner C acc>>=λ_=>again (.compLoop (.ListComp elt (⟨tgt,iter,ifs,0⟩::rest) scope pos) 0 it acc (Af scope cs env C)))else again (.compLoop (.ListComp elt (⟨tgt,iter,ifs,0⟩::rest) scope pos) 0 it acc (Af scope cs env C))))
  (F:Aa Γ K env G ι σ s)(q:Oa Ti Ta Tt Tin cap σ Q)
  (fin:∀G' ι' σ' D C s',G.le G'->Bp ι ι'->(∃d,A7 G' ι' d (.ref D)/\Q d σ')->C∉ι'->G' C=none->(∀a,Jm env a->a≠C)->C∉Γ.tabs.map (·.2)->K.old C=none->(∃m,s'.heap.Ns C m)->Aa Γ K env G' ι' σ' s'->
   mI Γ A use X' D C s'):
  wpAny (model Γ.prog Γ.w) A (comprehension (.ListComp elt (⟨tgt,iter,ifs,0⟩::rest) scope pos) scope env (firstIterPos (⟨tgt,iter,ifs,0⟩::rest) pos) (newList []) false (eval iter env) use) X' (λ_ _=>False) s:=by
 unfold comprehension
 rw[X.clos]
 have key:∀(E:Value->Shared->Prop),wpAny (model Γ.prog Γ.w) A (eval iter env) (λx s₁=>wpAny (model Γ.prog Γ.w) A (pyIter x) (λit s₂=>wpAny (model Γ.prog Γ.w) A (newList []) (λacc s₃=>
   wpAny (model Γ.prog Γ.w) A (newFunctionEnv scope env.globals cs [] env.qual none .none (some env)) (λcenv s₄=>∃C,cenv=newEnv scope C env.globals (cellsFrom (C+1) scope.names cs) env.qual none .none (some env) builtinsNs/\
    codeAny (model Γ.prog Γ.w) A (.compStart (.ListComp elt (⟨tgt,iter,ifs,0⟩::rest) scope pos) 0 it acc (Af scope cs env C)) (λr s'=>r=.ok .next/\∃D,acc=.ref D/\(∃m,s'.heap.Ns C m)/\mI Γ A use X' D C s') s₄) E s₃) E s₂) E s₁) E s:=by
  intro E
  refine Ba (A8 (X:=λx s₁=>_) hi F q λG1 ι1 d v σ1 s1 l1 p1 r1 F1 q1=>?_) (λ_ _ h=>h) λ_ _ x=>x.elim
  refine Ba (Ow H F1 r1 q1) (λit s2 h=>?_) λ_ _ x=>x.elim
  refine Cd h λY C0 P items I yf kp eos egens zz=>Bn zz λF2 Y2 P2 q2=>?_
  try clear h
  refine wpAny_newObj_type (hd:=by size_fits) ?_
  have F3:=F2.newOwn (ds:=[]) (vs:=[]) rfl 0 s2.toks F2.tk
  have ylt:∀a,Y a->a<s2.heap.objs.size:=λa ya=>by
   cases e:s2.heap.get? a with
   |none=>exact absurd e ((I env 0 H).inn P2 a ya)
   |some o=>exact Heap.lt_size e
  have Y3:Bv Γ K env G1 (ι1++[s2.heap.objs.size]) Y:=λa ya=>by
   refine At (Y2 a ya) λy1 y2 y3=>?_
   refine⟨y1,λhm=>?_,y3⟩
   rcases mem_append.mp hm with h|h
   ·exact y2 h
   ·rw[K2]at h;exact ne_of_lt (ylt a ya) h
  have P3:=(I env 0 H).keep (s':={s2 with heap:=s2.heap.push {cls:=.type "list",data:=.seq ([]:List Value).toArray}}) P2 (λa o _ e=>Ft _ e) (A4.refl _) (Gh.le.refl G1) (λκ hk h=>h.trans (Bp.append ι1 [s2.heap.objs.size]))
  refine Dn (V1 X F3 Y3 ((I env 0 H).inn P3)) λK' k1 k2 k3 Y4 F4=>?_
  refine Jn ⟨_,rfl,?_⟩
  have hlen:ι1.length=σ1.own.length:=F1.store.len
  have H':Ev Γ A (Af scope cs env (s2.heap.push {cls:=.type "list",data:=.seq ([]:List Value).toArray}).objs.size):=⟨H.ok,X.kind,H.glob,H.bui,H.handled,H.depth,H.units⟩
  have I':=I _ K'.gens.size H'
  have P4:=I'.keep (s':={s2 with heap:=pushCells ((s2.heap.push {cls:=.type "list",data:=.seq ([]:List Value).toArray}).push {cls:=.type "dict",data:=.dict #[]}) scope.names}) P3 (λa o _ e=>pushCells_keeps _ _ _ _ (Ft _ e)) (A4.refl _) (Gh.le.refl G1) (λκ hk h=>h)
  refine Na (g:=⟨tgt,iter,ifs,0⟩) rfl rfl (λQ q=>I'.self P4 Q q) (codeAny_mono (Ph H' (heq _ it _) (I'.mono (le_succ _)) (ha _) (ht _) (hin _ ι1.length s2.heap.objs.size) (λh p=>h.up p)
   (by show(ι1++[s2.heap.objs.size])[ι1.length]? =some _;rw[V9 (le_refl _),sub_self];rfl) F4 Y4 (le_refl _) P4 (by rw[Bu];exact le_refl _) (by rw[hlen];exact q2)) λr s' h=>?_)
  refine Ae h λz0 Z=>?_
  try clear h
  subst z0
  refine Dm Z λG' ι' σe l2 p2 F' q'=>?_
  clear Z
  refine⟨rfl,s2.heap.objs.size,rfl,?_,?_⟩
  ·refine Ab F'.ns λm hm _=>?_;exact⟨m,hm⟩
  have pp:Bp ι1 ι':=(Bp.append ι1 [s2.heap.objs.size]).trans p2
  have R:Sv Γ G1 ι1 s1 G' ι' σe.own s':=⟨l2,pp,F'.store,λb o e h1 h2 h3=>by
   have e2:=kp b o e
   have ny:¬Y b:=λy=>by rw[yf b y]at e;cases e
   have hn:b∉ι1++[s2.heap.objs.size]:=λhm=>by
    rcases mem_append.mp hm with h|h
    ·exact h2 h
    ·rw[K2]at h;exact ne_of_lt (Heap.lt_size e2) h
   refine Bn (F'.far b o (k3 b o (Ft _ e2) h1 hn h3 ny)) λf1 f2 f3 _=>?_
   exact⟨f1,f2,f3⟩,F'.os.trans (k1.trans eos),by have:=F'.gens;rw[k2]at this;rw[<-egens];exact this⟩
  have Fo:=F1.after R F'.tk
  refine fin G' ι' _ _ _ s' (l1.trans l2) (p1.trans pp) ⟨.obj σ1.own.length,⟨s2.heap.objs.size,p2 _ _ (by rw[<-hlen,V9 (le_refl _),sub_self];rfl),rfl⟩,q'⟩ (F'.away _ (.inl rfl)).1 F'.loc (λa ha=>?_) (F'.away _ (.inl rfl)).2 ?_ ?_ Fo
  ·exact ne_of_lt (F3.own_lt ha)
  ·cases e:K.old (s2.heap.push {cls:=.type "list",data:=.seq ([]:List Value).toArray}).objs.size with
   |none=>rfl
   |some o=>exact absurd (Heap.lt_size (F3.far _ _ e).1) (lt_irrefl _)
  ·refine Ab F'.ns λm hm _=>?_;exact⟨m,hm⟩
 rw[show clausesOf (.ListComp elt (⟨tgt,iter,ifs,0⟩::rest) scope pos)=⟨tgt,iter,ifs,0⟩::rest from rfl]
 refine Ai (Ba (key _) (λx s₁ h₁=>Ai (wpAny_standAt (Ai (wpAny_of_eq (hs x) (Ai (wpAny_holding (Ba h₁ (λit s₂ h₂=>
  wpAny_standIf (Ai (Ba h₂ (λacc s₃ h₃=>Ai (Be (Ai (Ba h₃ (λcenv s₄ h₄=>?_) λ_ _ h'=>h')))) λ_ _ h'=>h')))
   λ_ _ h'=>h'))))))) λ_ _ h'=>h')
 refine Ab h₄ λC z1 hc=>?_
 try clear h₄
 subst z1
 dsimp only
 have hv:∀x∈(scope.names.filter λx=>(x.2== .local||x.2== .cell)&&x.1 != (".0":Str)),x.2=.local->
   (Af scope cs env C).kindOf x.1=some .local:=λx hx hl=>X.loc C x (mem_filter.mp hx).1 hl
 refine wpAny_holding (Ai (wpAny_attempt (wpAny_holding (wpAny_run (codeAny_mono hc λr s' hr=>?_)))))
 refine Ae hr λz2 V=>?_
 try clear hr
 subst z2
 refine Au V λD z3 U hu=>?_
 clear V
 subst z3
 refine Ad U λm hn=>?_
 clear U
 cases use with
 |none=>
  exact Ai (wpAny_holding (wpAny_comp_letGo (cenv:=Af scope cs env C) X.kind _ s' m (λx hx hl=>hv x (mem_reverse.mp hx) hl) hn λh' m' _ hs'=>Be (hu h' hs')))
 |some u=>
  refine Ai (wpAny_rule (Ai (wpAny_holding (Ba hu (λ_ s'' hr'=>?_) λ_ _ h'=>h'.elim))))
  refine Ab hr' λm hn z4=>?_
  try clear hr'
  revert z4
  intro hr'
  refine Ai (wpAny_comp_letGo (cenv:=Af scope cs env C) X.kind _ s'' m (λx hx hl=>?_) hn λh' m' _ hs'=>Be (hr' h' hs'))
  rcases mem_append.mp hx with h1|h1
  ·exact hv x (mem_reverse.mp (mem_of_mem_drop h1)) hl
  ·exact hv x (mem_reverse.mp (mem_of_mem_take h1)) hl
theorem aQ (H:Ev Γ A env){x:String}{d:D}{v:Value}{Q:Unit->Shared->Prop}{E:Value->Shared->Prop}(hk:pW env σ.ro x)(F:Aa Γ K env G ι σ s)(r:A7 G ι d v)
  (k:∀s',Aa Γ K env G ι (σ.set x d) s'->(∀b o,¬Jm env b->s.heap.get? b=some o->s'.heap.get? b=some o)->Q () s'):wpAny (model Γ.prog Γ.w) A (storeName env (ofString x) v) Q E s:=by
 rcases hk with hk|⟨hk,⟨c,hc⟩,hro⟩
 ·refine Ab F.ns λm hm q=>?_
  exact wpAny_storeName_local hk hm (λh' hn hs=>k _ (F.setLocal hk r ⟨m,hm,q,rfl⟩ hn hs _) λb o hb e=>(hs.2 b λz=>hb (.inl z)).trans e) (by rw[H.kind];rfl)
 ·refine At (F.cell _ c hk hc) λc1 Z c3=>?_
  refine Ad Z λv₀ hv=>?_
  clear Z
  exact wpAny_storeName_cell H.kind hk hc hv (λh' hn hs=>k _ (F.setCell hk hc hro r hn hs) λb o hb e=>(hs.2 b λz=>hb (.inr ⟨_,hk,z▸hc⟩)).trans e)
theorem jT {G':Gh}{ι':List Addr}{σ':St}{C:Addr}(F:Aa Γ K env G' ι' σ' s')(h1:C∉ι')(h2:G' C=none)(h3:∀a,Jm env a->a≠C)(h4:C∉Γ.tabs.map (·.2))(h5:K.old C=none){h':Heap}(hs:Heap.SameBut C s'.heap h'):
  Aa Γ K env G' ι' σ' {s' with heap:=h'}:=F.ext (ht:=F.tk) λa o hh e=>(hs.2 a λz=>by
   subst z
   rcases hh with h|h|h|h|h
   ·rw[h2]at h;cases h
   ·exact h1 h
   ·exact h4 h
   ·exact h3 _ h rfl
   ·rw[h5]at h;cases h).trans e
theorem jQ (H:Ev Γ A env){elt tgt iter:Expr}{ifs:List Expr}{rest:List Comprehension}{pos p:Pos}{inner:Addr->Value->Sem Unit}{tests:Addr->Sem Bool}{Ti:TT}{Ta:D->St->(St->Prop)->Prop}{Tt:St->(Bool->St->Prop)->Prop}{Tin:Nat->St->(St->Prop)->Prop}
  (X:CE env scope cap cs)(hi:Bl Γ A env iter Ti)(ha:∀C,Sx Γ A (Af scope cs env C) tgt Ta)(ht:∀C,Tr Γ A (Af scope cs env C) BR (tests C) Tt)
  (hin:∀C k D,mK Γ A (Af scope cs env C) (Mt k D) (inner C (.ref D)) (Tin k))(hs:∀x,foldedSetIterable iter env x=pure x)
  (heq:∀C it acc,compTurn (.ListComp elt (⟨tgt,iter,ifs,0⟩::rest) scope pos) 0 it acc (Af scope cs env C)=(standAt p>>=λ_=>pyNext it>>=λr=>match r with|none=>pure (.done .next)|some v=>letOwnedTupleGo tgt it v>>=λ_=>assign tgt (Af scope cs env C) v>>=λ_=>tests C>>=λok=>if ok=true then(inner C acc>>=λ_=>again (.compLoop (.ListComp elt (⟨tgt,iter,ifs,0⟩::rest) scope pos) 0 it acc (Af scope cs env C)))else again (.compLoop (.ListComp elt (⟨tgt,iter,ifs,0⟩::rest) scope pos) 0 it acc (Af scope cs env C)))):
  Bl Γ A env (.ListComp elt (⟨tgt,iter,ifs,0⟩::rest) scope pos) (Oa Ti Ta Tt Tin cap):=λK G ι σ s Q F q=>by
 rw[eval_ListComp]
 exact Ug (use:=none) H X hi ha ht hin hs heq F q λG' ι' σ' D C s' le pr h8_ h1 h2 h3 h4 h5 _ F' h' hb=>by refine Ab h8_ λd rd hq=>?_;try clear h8_;exact⟨G',ι',d,σ',le,pr,rd,jT F' h1 h2 h3 h4 h5 hb,hq⟩
theorem iS (H:Ev Γ A env){x:String}{elt tgt iter:Expr}{ifs:List Expr}{rest:List Comprehension}{pos p p1 p2:Pos}{inner:Addr->Value->Sem Unit}{tests:Addr->Sem Bool}{Ti:TT}{Ta:D->St->(St->Prop)->Prop}{Tt:St->(Bool->St->Prop)->Prop}{Tin:Nat->St->(St->Prop)->Prop}{c:Bool}(hk:Kd env x c)
  (hsw:swapsWith (.ListComp elt (⟨tgt,iter,ifs,0⟩::rest) scope pos) (some (.Name (ofString x) p1)) p2.line env=pure true)
  (X:CE env scope cap cs)(hi:Bl Γ A env iter Ti)(ha:∀C,Sx Γ A (Af scope cs env C) tgt Ta)(ht:∀C,Tr Γ A (Af scope cs env C) BR (tests C) Tt)
  (hin:∀C k D,mK Γ A (Af scope cs env C) (Mt k D) (inner C (.ref D)) (Tin k))(hs:∀x,foldedSetIterable iter env x=pure x)
  (heq:∀C it acc,compTurn (.ListComp elt (⟨tgt,iter,ifs,0⟩::rest) scope pos) 0 it acc (Af scope cs env C)=(standAt p>>=λ_=>pyNext it>>=λr=>match r with|none=>pure (.done .next)|some v=>letOwnedTupleGo tgt it v>>=λ_=>assign tgt (Af scope cs env C) v>>=λ_=>tests C>>=λok=>if ok=true then(inner C acc>>=λ_=>again (.compLoop (.ListComp elt (⟨tgt,iter,ifs,0⟩::rest) scope pos) 0 it acc (Af scope cs env C)))else again (.compLoop (.ListComp elt (⟨tgt,iter,ifs,0⟩::rest) scope pos) 0 it acc (Af scope cs env C)))):
  Cs Γ A env (.Assign [.Name (ofString x) p1] (.ListComp elt (⟨tgt,iter,ifs,0⟩::rest) scope pos) p2) (λσ Q=>Oa Ti Ta Tt Tin cap σ λd σ=>aP c x d σ (Q .next)):=λK G ι σ s Q F q=>by
 rw[exec_Assign_Name_used _ _ _ _ hsw]
 refine Ai (wpAny_standAt (Ai ?_))
 show wpAny _ _ (comprehension (.ListComp elt (⟨tgt,iter,ifs,0⟩::rest) scope pos) scope env (firstIterPos (⟨tgt,iter,ifs,0⟩::rest) pos) (newList []) false (eval iter env) (some (assign (.Name (ofString x) p1) env))>>=λ_=>pure ()) _ _ s
 refine Ai ?_
 refine Ug (use:=some (assign (.Name (ofString x) p1) env)) (X':=λ_ s'=>wpAny (model Γ.prog Γ.w) A (pure ()) (λ_ s'=>wpAny (model Γ.prog Γ.w) A (pure Flow.next) (As Γ K env FR G ι Q) (λ_ _=>False) s') (λ_ _=>False) s') H X hi ha ht hin hs heq F q λG' ι' σ' D C s' le pr Z h1 h2 h3 h4 h5 hns F'=>Ab Z λd rd hq=>?_
 refine Q5 hns λm o es ep ho hr=>?_
 try clear hns
 refine wpAny_assign_Name (aQ H (hk.sto hq.1) F' rd λs'' F'' kp=>⟨m,⟨o,es,ep,kp C o (λhc=>h3 C hc rfl) ho,hr⟩,λh' hb=>?_⟩)
 exact Be (Be ⟨G',ι',.next,_,le,pr,rfl,jT F'' h1 h2 h3 h4 h5 hb,hq.2⟩)
theorem Kg (H:Ev Γ A env)(hk:scope.kind=.function)(C:Addr):Ev Γ A (Af scope cs env C):=⟨H.ok,hk,H.glob,H.bui,H.handled,H.depth,H.units⟩
theorem Gk (H:Ev Γ A env){elt tgt iter:Expr}{ifs:List Expr}{pos:Pos}{Ti Te:TT}{Ta:D->St->(St->Prop)->Prop}{Tt:St->(Bool->St->Prop)->Prop}
  (X:CE env scope cap (Ch env cap))(hi:Bl Γ A env iter Ti)(ha:∀C,Ev Γ A (Af scope (Ch env cap) env C)->Sx Γ A (Af scope (Ch env cap) env C) tgt Ta)(ht:∀C,Ev Γ A (Af scope (Ch env cap) env C)->mZ Γ A (Af scope (Ch env cap) env C) ifs Tt)
  (he:∀C,Ev Γ A (Af scope (Ch env cap) env C)->Bl Γ A (Af scope (Ch env cap) env C) elt Te)(hs:∀x,foldedSetIterable iter env x=pure x)
  (heq:∀C it acc,compTurn (.ListComp elt (⟨tgt,iter,ifs,0⟩::[]) scope pos) 0 it acc (Af scope (Ch env cap) env C)=(standAt iter.pos>>=λ_=>pyNext it>>=λr=>match r with|none=>pure (.done .next)|some v=>letOwnedTupleGo tgt it v>>=λ_=>assign tgt (Af scope (Ch env cap) env C) v>>=λ_=>Dz ifs (Af scope (Ch env cap) env C)>>=λok=>if ok=true then(Gx elt acc (Af scope (Ch env cap) env C)>>=λ_=>again (.compLoop (.ListComp elt (⟨tgt,iter,ifs,0⟩::[]) scope pos) 0 it acc (Af scope (Ch env cap) env C)))else again (.compLoop (.ListComp elt (⟨tgt,iter,ifs,0⟩::[]) scope pos) 0 it acc (Af scope (Ch env cap) env C)))):
  Bl Γ A env (.ListComp elt [⟨tgt,iter,ifs,0⟩] scope pos) (Oa Ti Ta Tt (Ud Te) cap):=
 jQ (inner:=λC acc=>Gx elt acc (Af scope (Ch env cap) env C)) (tests:=λC=>Dz ifs (Af scope (Ch env cap) env C)) H X hi (λC=>ha C (Kg H X.kind C)) (λC=>ht C (Kg H X.kind C)) (λC k D=>eK (he C (Kg H X.kind C)) k D) hs heq
theorem Wh (H:Ev Γ A env){elt tgt iter:Expr}{ifs:List Expr}{pos:Pos}{Ti Te:TT}{Ta:D->St->(St->Prop)->Prop}{Tt:St->(Bool->St->Prop)->Prop}{x:String}{p1 p2:Pos}{c:Bool}(hk:Kd env x c)(hsw:swapsWith (.ListComp elt (⟨tgt,iter,ifs,0⟩::[]) scope pos) (some (.Name (ofString x) p1)) p2.line env=pure true)
  (X:CE env scope cap (Ch env cap))(hi:Bl Γ A env iter Ti)(ha:∀C,Ev Γ A (Af scope (Ch env cap) env C)->Sx Γ A (Af scope (Ch env cap) env C) tgt Ta)(ht:∀C,Ev Γ A (Af scope (Ch env cap) env C)->mZ Γ A (Af scope (Ch env cap) env C) ifs Tt)
  (he:∀C,Ev Γ A (Af scope (Ch env cap) env C)->Bl Γ A (Af scope (Ch env cap) env C) elt Te)(hs:∀x,foldedSetIterable iter env x=pure x)
  (heq:∀C it acc,compTurn (.ListComp elt (⟨tgt,iter,ifs,0⟩::[]) scope pos) 0 it acc (Af scope (Ch env cap) env C)=(standAt iter.pos>>=λ_=>pyNext it>>=λr=>match r with|none=>pure (.done .next)|some v=>letOwnedTupleGo tgt it v>>=λ_=>assign tgt (Af scope (Ch env cap) env C) v>>=λ_=>Dz ifs (Af scope (Ch env cap) env C)>>=λok=>if ok=true then(Gx elt acc (Af scope (Ch env cap) env C)>>=λ_=>again (.compLoop (.ListComp elt (⟨tgt,iter,ifs,0⟩::[]) scope pos) 0 it acc (Af scope (Ch env cap) env C)))else again (.compLoop (.ListComp elt (⟨tgt,iter,ifs,0⟩::[]) scope pos) 0 it acc (Af scope (Ch env cap) env C)))):
  Cs Γ A env (.Assign [.Name (ofString x) p1] (.ListComp elt [⟨tgt,iter,ifs,0⟩] scope pos) p2) (λσ Q=>Oa Ti Ta Tt (Ud Te) cap σ λd σ=>aP c x d σ (Q .next)):=
 iS (inner:=λC acc=>Gx elt acc (Af scope (Ch env cap) env C)) (tests:=λC=>Dz ifs (Af scope (Ch env cap) env C)) H hk hsw X hi (λC=>ha C (Kg H X.kind C)) (λC=>ht C (Kg H X.kind C)) (λC k D=>eK (he C (Kg H X.kind C)) k D) hs heq
end
section
variable {α β γ δ:Type}{Γ:W}{K:Cj}{A:Around}{env:Env}{G G₀ G':Gh}{ι ι':List Addr}{σ:St}{s s':Shared}
noncomputable def Cz (x y z:List Nat):List Nat:=(Txt.replace ⟨x.toArray⟩ ⟨y.toArray⟩ ⟨z.toArray⟩).cps.toList
theorem Xm {o:Expr}{y z:String}{k1 k2:Nat}{apos pos p1 p2:Pos}{T0:TT}(h0:Bl Γ A env o T0)
  (hs:starEach [.Constant (.str (ofString y)) k1 p1,.Constant (.str (ofString z)) k2 p2] env=(false,eval (.Constant (.str (ofString y)) k1 p1) env)::starEach [.Constant (.str (ofString z)) k2 p2] env)
  (hbase:attributeBase o (ofString "replace") env (eval o env)=eval o env)
  (hfew:((backTo pos (starEach [.Constant (.str (ofString y)) k1 p1,.Constant (.str (ofString z)) k2 p2] env)).all (λx=> !x.1)&&(backToKw pos (keywordEach [] env)).all (λx=>x.1.isSome)&&decide ([Expr.Constant (.str (ofString y)) k1 p1,.Constant (.str (ofString z)) k2 p2].length+([]:List Keyword).length+(if([]:List Keyword).isEmpty then 0 else 1)<30))=true)
  (hline:(apos.endLine==pos.line)=true)(hp:(backTo pos (starEach [.Constant (.str (ofString z)) k2 p2] env)).any (·.1)=false)(hne:(ofString y==ofString z)=false):
  Bl Γ A env (.Call (.Attribute o (ofString "replace") apos) [.Constant (.str (ofString y)) k1 p1,.Constant (.str (ofString z)) k2 p2] [] pos)
   (λσ Q=>T0 σ λd σ=>∃x,d=.str x/\x.length+(x.length+1)*(cs z).length<=16777216/\Q (.str (Cz x (cs y) (cs z))) σ):=λK G ι σ s Q F q=>
 wpAny_Call_method_late hbase hfew hline rfl (A8 h0 F q λG0 ι0 d v σ0 s0 l0 p0 r0 F0 q0=>by
  refine Au q0 λx Z hb q=>?_
  try clear q0
  subst Z
  refine Ae (Oj F0 r0 ⟨x,rfl⟩) λht hd=>?_
  refine Ad r0 λt Y=>?_
  try clear r0
  subst Y
  refine⟨"str",_,PySem.F.plainAttrs_str,PySem.F.slot_str_replace,PySem.F.type_str_replace,ht,hd,?_⟩
  refine callWith_method1 (wpAny_items_cons (wpAny_Constant_str (wpAny_items_cons (wpAny_Constant_str (wpAny_items_nil ?_))))) hs hp
  have tk:=F0.tk
  refine Ba (Ax (SC.replace (E:=λ_ _=>False) (Q:=λv s'=>∃t' tk,v=.str (Txt.replace ⟨x.toArray⟩ (ofString y) (ofString z)) t'/\s'={s0 with toks:=tk}) (s:={s0 with toks:=s0.toks+1+1}) (x:=⟨x.toArray⟩) (t:=t) (u:=s0.toks) (v:=s0.toks+1) (ne_of_gt tk) (succ_ne_zero _) (ne_of_lt (lt_succ_self _)) hne (by rw[Bm,Fq,Bm];exact hb) λt' k=>⟨t',k,rfl,rfl⟩)) (λv s' V=>Ae V λU hle=>A1 U λt' tk' e1 e2=>?_) λ_ _ x=>x
  subst e1 e2
  refine(Ix (x:=Cz x (cs y) (cs z)) (F0.toks tk' ?_) ?_ q).up l0 p0
  ·exact lt_of_lt_of_le (succ_pos _) hle
  ·unfold Cz;rw[Fq,Fq])
noncomputable def nC (Γ:W) (A:Around) (env:Env) (es:List Expr) (T:List Nat->TT):Prop:=
 ∀K G ι σ s Q out,Aa Γ K env G ι σ s->T out σ Q->wpAny (model Γ.prog Γ.w) A (joinParts ⟨out.toArray⟩ (evalEach es env)) (As Γ K env VR G ι Q) (λ_ _=>False) s
theorem lS:nC Γ A env [] (λout σ Q=>out.length<=sizeLine/\Q (.str out) σ):=λK G ι σ s Q out F q=>
 joinParts_nil (Ix (F.toks _) rfl q.2) (by rw[Bm];exact q.1)
theorem eF {e:Expr}{es:List Expr}{T:TT}{T':List Nat->TT}(h:Bl Γ A env e T)(h':nC Γ A env es T'):
  nC Γ A env (e::es) (λout σ Q=>T σ λd σ=>∃y,d=.str y/\(out++y).length<=sizeLine/\T' (out++y) σ Q):=λK G ι σ s Q out F q=>
 joinParts_cons (A8 h F q λG1 ι1 d v σ1 s1 l1 p1 r1 F1 Z=>Au Z λy e hz q1=>by
  subst e
  refine Ad r1 λt Y=>?_
  try clear r1
  subst Y
  dsimp only
  rw[Hb,Bm]
  exact⟨hz,Ba (h' K G1 ι1 σ1 s1 Q (out++y) F1 q1) (λ_ _ p=>p.up l1 p1) λ_ _ x=>x⟩)
theorem jO {e:Expr}{pos:Pos}{T:TT}(h:Bl Γ A env e T):Bl Γ A env (.FormattedValue e (-1) none pos) (λσ Q=>T σ λd σ=>∃y,d=.str y/\y.length<=sizeLine/\tV (.str y) σ Q):=λK G ι σ s Q F q=>
 FormattedValue_plain (A8 h F q λG1 ι1 d v σ1 s1 l1 p1 r1 F1 Z=>Au Z λy e hz q1=>by
  subst e
  refine Ad r1 λt Y=>?_
  try clear r1
  subst Y
  refine Ba (Ax (formatField_str (E:=λ_ _=>False) (Q:=λv s'=>∃t' tk,v=.str ⟨y.toArray⟩ t'/\s'={s1 with toks:=tk}) (λt' tk=>⟨t',tk,rfl,rfl⟩) (by rw[Bm];exact hz))) (λv s' V=>Ae V λU hle=>A1 U λt' tk e1 e2=>?_) λ_ _ x=>x
  subst e1 e2
  exact(Ix (F1.toks _ (lt_of_lt_of_le F1.tk hle)) rfl q1).up l1 p1)
theorem dP {v₁ v₂:Expr}{rest:List Expr}{pos:Pos}{T:List Nat->TT}(h:nC Γ A env (v₁::v₂::rest) T):Bl Γ A env (.JoinedStr (v₁::v₂::rest) pos) (T []):=λK G ι σ s Q F q=>
 JoinedStr_many (h K G ι σ s Q [] F q)
theorem Q2 (x y:Str)(i j:Int)(t u v w:Tok):Gives (Builtin.«str.find» ⟨[.str x t,.str y u,.int i v,.int j w],[]⟩) (.int (match Builtin.Str.occurrences x y (fromIndex x.length i) (min (fromIndex x.length j) x.length) 1 with|k::_=>(k:Int)|[]=> -1)):=by
 show Gives (match Builtin.Str.occurrences x y (fromIndex x.length i) (min (fromIndex x.length j) x.length) 1 with|k::_=>retInt k|[]=>(do rule "str.find.not-found";retInt (-1))) _
 cases Builtin.Str.occurrences x y (fromIndex x.length i) (min (fromIndex x.length j) x.length) 1 with
 |nil=>exact .rule (.of_eq rfl)
 |cons k _=>exact .of_eq rfl
noncomputable def lM (x y:List Nat) (i j:Int):Int:=match Builtin.Str.occurrences ⟨x.toArray⟩ ⟨y.toArray⟩ (fromIndex x.length i) (min (fromIndex x.length j) x.length) 1 with|k::_=>(k:Int)|[]=> -1
noncomputable def kG (d:D) (ds:List D) (σ:St) (Q:D->St->Prop):Prop:=∃x y i j,d=.str x/\ds=[.str y,.int i,.int j]/\Q (.int (lM x y i j)) σ
theorem jP {o:Expr}{apos pos:Pos}{e:Expr}{es:List Expr}{T0:TT}{T:St->(List D->St->Prop)->Prop}(h0:Bl Γ A env o T0)(h:H8 Γ A env pos (e::es) T)(hs:starEach (e::es) env=(false,eval e env)::starEach es env)(hp:(backTo pos (starEach es env)).any (·.1)=false)
  (hbase:attributeBase o (ofString "find") env (eval o env)=eval o env)
  (hfew:((backTo pos (starEach (e::es) env)).all (λx=> !x.1)&&(backToKw pos (keywordEach [] env)).all (λx=>x.1.isSome)&&decide ((e::es).length+([]:List Keyword).length+(if([]:List Keyword).isEmpty then 0 else 1)<30))=true)
  (hline:(apos.endLine==pos.line)=true):
  Bl Γ A env (.Call (.Attribute o (ofString "find") apos) (e::es) [] pos) (λσ Q=>T0 σ λd σ=>O7 d σ/\T σ λds σ=>kG d ds σ Q):=
 Lq PySem.F.plainAttrs_str PySem.F.slot_str_find PySem.F.type_str_find (λF r h=>Oj F r h) (λ{K G ι σ s d v ds vs Q} F r rl h=>by
  refine Ja h λx y i j z1 z2 q=>?_
  try clear h
  subst z1
  subst z2
  refine Ad r λt z3=>?_
  try clear r
  subst z3
  refine Ag rl λ_ _ z4 Z Y=>?_
  try clear rl
  subst z4
  refine Ad Z λu z5=>?_
  clear Z
  subst z5
  refine Ag Y λ_ _ z6 V U=>?_
  clear Y
  subst z6
  refine Ad V λv z7=>?_
  clear V
  subst z7
  refine Ag U λ_ _ z8 z0 e=>?_
  clear U
  subst z8
  refine Ad z0 λw z9=>?_
  clear z0
  subst z9
  obtain rfl:=Az e
  refine call_gives PySem.F.slot_str_find (typeIs_str _ _ _) PySem.F.entry_str_find (PySem.F.args_str_find_4 _ _ _ _) (Q2 _ _ i j t u v w) ?_
  rw[Bm]
  exact Jx (F.toks _) q) h0 h hs hp hbase hfew hline
theorem L1:mroOf (.type "object")=pure [.type "object"]:=by kernel_rfl
theorem I6:typeLookup (.type "object") "__new__"=pure (some (.builtin "object.__new__")):=by rw[typeLookup_type,builtinLookup_eq_fast];kernel_rfl
theorem Ih:Slot "object" "__init__" "object.__init__":=
 .of (owner:="object") (n:="__init__") (by rw[typeLookup_type,builtinLookup_eq_fast];kernel_rfl) (by decide +kernel) (by decide +kernel) (by decide +kernel)
  (by first|exact .inl (by decide +kernel)|exact .inr (by decide +kernel)) (by rw[isSubtype_type];kernel_rfl)
theorem Nb:TypeCalled "object" "object.__new__" "object.__init__":=
 ⟨by decide +kernel,by decide +kernel,⟨_,_,L1⟩,madeBy_type L1 I6 (by decide +kernel),by decide +kernel,by rw[isSubtype_type];kernel_rfl,Ih⟩
theorem O1:Builtin.«object.__new__» ⟨[.type "object"],[]⟩=(newObj (.type "object") .plain none>>=λv=>ret v):=by kernel_rfl
theorem bG:Meets (Builtin.«object.__new__» ⟨[.type "object"],[]⟩) (λ_ R s=>R (.ok (.ret (.ref s.heap.objs.size))) {s with heap:=s.heap.push {cls:=.type "object",data:=.plain}}):=
 .of_wp λprog w A R s h=>by
  rw[O1]
  exact Ai (wpAny_newObj_type (Be ⟨_,rfl,h⟩) (by size_fits))
theorem Jc:entryFor table "object.__new__"=some Builtin.«object.__new__»:=entryFor_of_tree (by kernel_rfl)
theorem H6:entryFor table "object.__init__"=some Builtin.«object.__init__»:=entryFor_of_tree (by kernel_rfl)
theorem Sp {prog:Program}{w:World}{E:Value->Shared->Prop}{Q:Value->Shared->Prop}(h:Q (.ref s.heap.objs.size) {s with heap:=s.heap.push {cls:=.type "object",data:=.plain}}):
  wpAny (model prog w) A (call (.type "object") []) Q E s:=
 callType_meets (Q₁:=λobj s₁=>obj=.ref s.heap.objs.size/\s₁={s with heap:=s.heap.push {cls:=.type "object",data:=.plain}}) Nb (by kernel_rfl) (by kernel_rfl) Jc H6 bG ⟨rfl,rfl⟩ λobj s₁ h₁=>by
  refine Ae h₁ λZ Y=>?_
  try clear h₁
  subst Z
  subst Y
  exact⟨⟨_,Heap.get?_push_size _ rfl,rfl⟩,by unfold argsOk;kernel_rfl,λ_ R s=>R (.ok (.ret .none)) s,.of_wp λprog w A R s hs=>Be ⟨_,rfl,hs⟩,rfl,h⟩
theorem bA (H:Ev Γ A env){p pos:Pos}(hk:env.kindOf (ofString "object")=some .globalImplicit)(hn:Γ.mg (ofString "object")=none)(hv:Γ.mb (ofString "object")=some (.type "object")):
  Bl Γ A env (.Call (.Name (ofString "object") p) [] [] pos) (λσ Q=>∀a:Addr,Q (.raw (.ref a)) σ):=λK G ι σ s Q F q=>
 wpAny_Call_NameR (Ba (Fb H hk hn hv (by decide) K G ι σ s (λd σ'=>d=.raw (.type "object")/\∀a:Addr,Q (.raw (.ref a)) σ') F ⟨rfl,q⟩) (λv s0 Z=>Cd Z λG0 ι0 d0 σ0 l0 p0 r0 F0 e0 q0=>by
  subst e0;cases r0
  exact callWith_type0 (Sp ((fM (F0.push _ s0.toks F0.tk) (q0 _)).up l0 p0))) λ_ _ x=>x)
end
theorem M8:typeLookup (.type "list") "append"=pure (some (.builtin "list.append")):=slot_list_append.lookup
theorem fU:typeLookup (.type "method_descriptor") "__get__"=pure (some (.builtin "method_descriptor.__get__")):=by rw[typeLookup_type,builtinLookup_eq_fast];kernel_rfl
theorem fT:typeLookup (.type "method_descriptor") "__set__"=pure none:=by rw[typeLookup_type,builtinLookup_eq_fast];kernel_rfl
theorem fW:typeLookup (.type "method_descriptor") "__delete__"=pure none:=by rw[typeLookup_type,builtinLookup_eq_fast];kernel_rfl
theorem Ye (a:Addr)(xs:Array Value)(k:Nat)(sl:Array (Option Value)):
  Meets (Builtin.«method_descriptor.__get__» ⟨[.builtin "list.append",.ref a,.type "list"],[]⟩) (λA R s=>s.heap.get? a=some {cls:=.type "list",dict:=none,data:=.seq xs k,slots:=sl}/\R (.ok (.ret (.ref s.heap.objs.size))) {s with heap:=s.heap.push (En a)}):=
 Meets.of_wp λprog w A R s hs=>by
  obtain⟨hp,g,d,tk,os⟩:=s
  refine Ae hs λhx Z=>?_
  try clear hs
  revert Z
  intro hs
  have hT:(⟨hp,g,d,tk,os⟩:Shared).TypeIs (.ref a) "list":=⟨_,hx,rfl⟩
  unfold Builtin.«method_descriptor.__get__»
  refine Ai (wpAny_of_eq (a:=(.builtin "list.append",some (.ref a),some (.type "list"))) (by first|rfl|kernel_rfl) ?_)
  dsimp only
  have t1:Manifest.toldItsClass.contains "list.append"=false:=by decide +kernel
  rw[Ay (by rw[t1];decide)]
  have e1:".".intercalate ("list.append".cutAt '.').dropLast="list":=by decide +kernel
  have f1:isSubtype (.type "list") (.type (".".intercalate ("list.append".cutAt '.').dropLast))=pure true:=by rw[e1,isSubtype_type];kernel_rfl
  repeat (any_goals (first|assumption|wp_step))
  exact⟨_,rfl,hs⟩
theorem Ko:Slot "method_descriptor" "__get__" "method_descriptor.__get__":=
 .of (owner:="method_descriptor") (n:="__get__") (by rw[typeLookup_type,builtinLookup_eq_fast];kernel_rfl) (by decide +kernel) (by decide +kernel) (by decide +kernel)
  (by first|exact .inl (by decide +kernel)|exact .inr (by decide +kernel)) (by rw[isSubtype_type];kernel_rfl)
theorem Pd:entryFor table "method_descriptor.__get__"=some Builtin.«method_descriptor.__get__»:=entryFor_of_tree (by kernel_rfl)
theorem Ri (a b c:Value):argsOk "method_descriptor.__get__" ⟨[a,b,c],[]⟩:=by unfold argsOk;kernel_rfl
theorem Kb (a:Addr)(xs:Array Value)(k:Nat)(sl:Array (Option Value))(u:Tok):
  Meets (Builtin.«object.__getattribute__» ⟨[.ref a,.str "append" u],[]⟩) (λA R s=>s.heap.get? a=some {cls:=.type "list",dict:=none,data:=.seq xs k,slots:=sl}/\R (.ok (.ret (.ref s.heap.objs.size))) {s with heap:=s.heap.push (En a)}):=
 Meets.of_wp λprog w A R s hs=>by
  obtain⟨hp,g,d,tk,os⟩:=s
  refine Ae hs λhx Z=>?_
  try clear hs
  revert Z
  intro hs
  have hT:(⟨hp,g,d,tk,os⟩:Shared).TypeIs (.ref a) "list":=⟨_,hx,rfl⟩
  have f1:=M8
  have f2:=PySem.F.type_list_append
  have f3:=fU
  have f4:=fT
  have f5:=fW
  unfold Builtin.«object.__getattribute__»
  repeat (any_goals (first|assumption|wp_step))
  refine codeAny_mono (codeAny_call_builtin (R:=λr s'=>r=.ok (.ret (.ref hp.objs.size))/\s'=⟨hp.push (En a),g,d,tk,os⟩) Ko.plain Pd (Ko.check _ _ _ _ _ _ _ _ f2 (Ri _ _ _) (Ye a xs k sl prog w A.in1 (λr s'=>r=.ok (.ret (.ref hp.objs.size))/\s'=⟨hp.push (En a),g,d,tk,os⟩) ⟨hp,g,d,tk,os⟩ ⟨hx,rfl,rfl⟩))) λr s' h=>?_
  refine Ae h λY V=>?_
  try clear h
  subst Y
  subst V
  exact Be ⟨_,rfl,hs⟩
theorem Vs {prog:Program}{w:World}{A:Around}{E:Value->Shared->Prop}{s:Shared}{a:Addr}{xs:Array Value}{Q:Value->Shared->Prop}(hl:s.heap.PlainList a xs)
  (h:Q (.ref s.heap.objs.size) {s with heap:=s.heap.push (En a),toks:=s.toks+1}):wpAny (model prog w) A (getAttr (.ref a) "append" true) Q E s:=by
 refine Ad hl λk hx=>?_
 try clear hl
 obtain⟨hp,g,d,tk,os⟩:=s
 have hT:∀tk',(⟨hp,g,d,tk',os⟩:Shared).TypeIs (.ref a) "list":=λ_=>⟨_,hx,rfl⟩
 have f3:=PySem.F.slot_list_getattribute.lookup
 have f4:=PySem.F.slot_list_getattribute.bind (.ref a)
 unfold getAttr getAttrBy
 repeat (any_goals (first|assumption|exact hT _|((with_reducible show wpAny _ _ (call (Value.builtin "list.__getattribute__") _ _) _ _ _);refine call_meets PySem.F.slot_list_getattribute (hT _) am_entry_list_getattribute (PySem.F.args_list_getattribute_2 _ _) (Kb a xs k _ _) ⟨hx,?_⟩)|wp_step))
 show wpAny _ A (handedOut (.ref _)) Q E _
 exact Be h
section
variable {α β γ δ:Type}{Γ:W}{K:Cj}{A:Around}{env:Env}{G G₀ G':Gh}{ι ι':List Addr}{σ:St}{s s':Shared}
theorem Xq (H:Ev Γ A env){o:Expr}{pos:Pos}{T0:TT}(h0:Bl Γ A env o T0)(hbase:attributeBase o (ofString "append") env (eval o env)=eval o env):
  Bl Γ A env (.Attribute o (ofString "append") pos) (λσ Q=>T0 σ λd σ=>∃k ds,d=.obj k/\σ.own[k]? =some ds/\tV (.app k) σ Q):=λK G ι σ s Q F q=>by
 rw[arm_eval_Attribute,hbase]
 refine Ai (A8 h0 F q λG1 ι1 d v σ1 s1 l1 p1 r1 F1 Z=>Ag Z λk ds e he q1=>?_)
 subst e
 refine Ab r1 λa ha Y=>?_
 try clear r1
 subst Y
 refine Ab (F1.store.at_ k a ds ha he) λvs hl rl=>?_
 refine Ae (F1.alloc H.ok (o:=En a) rfl (s1.toks+1) (succ_pos _)) λle F2=>?_
 refine Ai (wpAny_standAt (Ai (wpAny_holding (Vs hl ?_))))
 exact Ai (wpAny_letTemporaryGo (Be ((Fx (d:=.app k) ⟨_,a,ha,rfl,Gh.put_self _ _ _⟩ F2 q1).up (l1.trans le) p1)))
theorem Sc {m a:Addr}{Q:Keeper->Shared->Prop}{E:Value->Shared->Prop}(ho:s.heap.get? m=some (En a))(h:Q .machine s):wpAny (model Γ.prog Γ.w) A (keeperOf (.ref m)) Q E s:=by
 refine Ai (m:=load m) (wpAny_load ho ?_)
 show wpAny _ _ (if(Value.type "builtin_function_or_method" != Value.type "method")=true then pure (if(Value.type "builtin_function_or_method"==Value.type "builtin_function_or_method"||Value.type "builtin_function_or_method"==Value.type "method-wrapper")=true then Keeper.machine else .caller)else _) _ _ _
 rw[Bc (by decide),Bc (by decide)]
 exact Be h
theorem Pk {m a:Addr}{pos:Pos}{args:List (Bool×Sem Value)}{Q:Value->Shared->Prop}{E:Value->Shared->Prop}(hplain:args.any (·.1)=false)
  (h:wpAny (model Γ.prog Γ.w) A (evalArgs (.ref m) true args []) (λx s₁=>s₁.heap.get? m=some (En a)/\wpAny (model Γ.prog Γ.w) A (call (.ref m) ([]++x.pos) x.kw) Q E s₁) E s):wpAny (model Γ.prog Γ.w) A (callWith pos (.ref m) [] args []) Q E s:=by
 unfold callWith
 refine Ai (wpAny_holding (Ba h (λx s₁ h₁=>Ai (wpAny_standAt ?_)) λ_ _ x=>x))
 refine Ae h₁ λho hcall=>?_
 try clear h₁
 rw[hplain]
 refine Ai (m:=keeperOf (.ref m)) (Sc ho ?_)
 exact Ai (Ba hcall (λr s₂ hr=>Ai (wpAny_holding (wpAny_point (Be hr)))) λ_ _ x=>x)
theorem cR {m a:Addr}{x:Value}{items:Array Value}{Q:Value->Shared->Prop}{E:Value->Shared->Prop}(ho:s.heap.get? m=some (En a))(hl:s.heap.PlainList a items)(hz:items.size<=sizeLine)
  (hQ:∀h',h'.PlainList a (items.push x)->Heap.SameBut a s.heap h'->Q .none {s with heap:=h'}):wpAny (model Γ.prog Γ.w) A (call (.ref m) [x]) Q E s:=by
 refine Ad (id hl) λn hx=>?_
 refine wpAny_call (codeAny_of_tree ?_)
 show wpAny _ A.in1 (callAny (.ref m) ⟨[x],[]⟩) _ _ s
 refine Ai (m:=load m) (wpAny_load ho ?_)
 show wpAny _ _ (if(Value.type "builtin_function_or_method"==Value.type "method"||Value.type "builtin_function_or_method"==Value.type "builtin_function_or_method"||Value.type "builtin_function_or_method"==Value.type "method-wrapper")=true then _ else _) _ _ _
 rw[Bc (by decide)]
 show wpAny _ _ (if(Value.type "builtin_function_or_method" != Value.type "method")=true then(checkBoundCall "list.append" ⟨[.ref a,x],[]⟩>>=λ_=>again (.builtin "list.append" ⟨[.ref a,x],[]⟩))else _) _ _ s
 rw[Bc (by decide)]
 refine Ai ?_
 obtain⟨hp,g,d,tk,os⟩:=s
 have hT:(⟨hp,g,d,tk,os⟩:Shared).TypeIs (.ref a) "list":=⟨_,hx,rfl⟩
 have f1:isSubtype (.type "list") (.type "module")=pure false:=by rw[isSubtype_type];kernel_rfl
 have f2:Manifest.varargsMethods.contains "list.append"=false:=by decide +kernel
 unfold checkBoundCall
 have f3:isSubtype (.type "list") (.type "type")=pure false:=by rw[isSubtype_type];kernel_rfl
 clear f1
 repeat (any_goals (first|assumption|wp_step))
 refine wpAny_of_eq (show isSubtype (.type "list") (.type "module")=pure false by rw[isSubtype_type];kernel_rfl) ?_
 rw[Ay (by rw[f2];decide)]
 refine Ai ?_
 unfold isType
 show wpAny _ _ (loadHead a>>=λo=>pure (match o.data with| .cls _=>true|_=>false)) _ _ _
 first|refine Ai (wpAny_loadPart hx (Be ?_))|refine Ai (wpAny_load hx (Be ?_))|refine Ai (wpAny_loadPart' hx (Be ?_))
 dsimp only
 rw[Ay (by decide)]
 refine Ai (wpAny_typeOf hT ?_)
 dsimp only
 refine wpAny_of_eq (a:=()) (by kernel_rfl) ?_
 refine Be ⟨plainId_quiet slot_list_append.plain _,codeAny_mono (R:=λr s'=>r=.ok (.ret .none)/\s'=⟨hp.update a (Obj.mapSeq λy=>y.push x),g,d,tk,os⟩) (codeAny_builtin entry_list_append ?_) λr s' h=>?_⟩
 ·rw[Around.under_plainId slot_list_append.plain _]
  exact list_append a items n x hz Γ.prog Γ.w A (λr s'=>r=.ok (.ret .none)/\s'=⟨hp.update a (Obj.mapSeq λy=>y.push x),g,d,tk,os⟩) ⟨hp,g,d,tk,os⟩ ⟨hx,rfl,rfl⟩
 ·refine Ae h λZ Y=>?_
  try clear h
  subst Z
  subst Y
  refine hQ _ ?_ (Heap.SameBut.update ..)
  unfold Heap.PlainList
  rw[Heap.get?_update_self _ hx (by simp[Obj.mapSeq,Obj.isFreed])]
  exact⟨_,rfl⟩
theorem Qq (H:Ev Γ A env){f:String}{e:Expr}{p pos:Pos}{T:St->(List D->St->Prop)->Prop}(hd:(ofString f==("__debug__":Str))=false)(hc:(ofString f==("__classdict__":Str))=false)
  (h:H8 Γ A env pos [e] T)(hs:starEach [e] env=(false,eval e env)::starEach [] env):
  Bl Γ A env (.Call (.Name (ofString f) p) [e] [] pos) (λσ Q=>∃k,σ.get f=some (.app k)/\T σ λds σ=>∃x l,ds=[x]/\σ.own[k]? =some l/\l.length<=sizeLine/\tV .none {σ with own:=σ.own.set k (l++[x])} Q):=λK G ι σ s Q F Z=>Ab Z λk hk q=>
 wpAny_Call_NameR (wpAny_Name (D9 H F hk hc λv r=>by
  refine Ag r λm a ha Y hm=>?_
  try clear r
  subst Y
  refine Pk (a:=a) (Jw hs rfl) (Hs hs (A8 h F q λG1 ι1 ds vs σ1 s1 l1 p1 r1 F1 V=>Bz V λx l e1 hl hz q1=>⟨F1.store.gin _ _ (l1 _ _ hm),?_⟩))
  subst e1
  refine Ag r1 λv w U rv e=>?_
  try clear r1
  subst U
  obtain rfl:=Az e
  refine Ab (F1.store.at_ k a l (p1 _ _ ha) hl) λvs hp rl=>?_
  refine cR (F1.store.gin _ _ (l1 _ _ hm)) hp (by rw[size_toArray,rl.length];exact hz) λh' hp' hb=>?_
  have e:vs.toArray.push v=(vs++[v]).toArray:=by simp
  rw[e]at hp'
  exact(X0 (F1.setOwn (p1 _ _ ha) (rl.snoc rv) hp' hb _ F1.tk) q1).up l1 p1) hd)
theorem Xp (H:Ev Γ A env){f:String}{a:Addr}{fd:FuncData}{e:Expr}{es:List Expr}{p pos:Pos}{T:St->(List D->St->Prop)->Prop}{S:Mine.Internal.B3}(hd:(ofString f==("__debug__":Str))=false)(hc:(ofString f==("__classdict__":Str))=false)
  (ho:∃o,Γ.B.get? a=some o/\o.data=.func fd)(hf:Ap Γ A (.ref a) S)(h:H8 Γ A env pos (e::es) T)(hs:starEach (e::es) env=(false,eval e env)::starEach es env):
  Bl Γ A env (.Call (.Name (ofString f) p) (e::es) [] pos) (λσ Q=>σ.get f=some (.raw (.ref a))/\T σ λds σ=>S ds σ.own λd own'=>Q d {σ with own:=own'}):=λK G ι σ s Q F Z=>Ae Z λhx q=>
 wpAny_Call_NameR (wpAny_Name (D9 H F hx hc λv r=>by
  cases r
  refine Ab ho λo Y hd=>?_
  try clear ho
  revert Y
  intro ho
  exact Calls.callWith_function (o:=o) (fd:=fd) (Hs hs (A8 h F q λG1 ι1 ds vs σ1 s1 l1 p1 r1 F1 q1=>
   ⟨⟨F1.store.gin _ _ (F1.store.base _ _ ho),hd⟩,Ba (Ob hf F1 r1 q1) (λ_ _ p=>p.up l1 p1) λ_ _ x=>x⟩))) hd)
theorem Y8 (H:Ev Γ A env){it:Value}{X:Addr->Prop}{C:St->Prop}{P:Gh->List Addr->List D->(Addr->Prop)->Shared->Prop}{n₀ gz:Nat}{e tgt:Expr}{b:List Stmt}{p:Pos}{Ta:D->St->(St->Prop)->Prop}{Tb:TS}{items:List D}{Q:FD->St->Prop}
  (I:Ji Γ A env n₀ gz it C P)(hv:∀{Q':Value->Shared->Prop},Q' it s->wpAny (model Γ.prog Γ.w) A (eval e env) Q' (λ_ _=>False) s)(ha:Sx Γ A env tgt Ta)(hb:Rr Γ A env b Tb)(hs:∀x,foldedSetIterable e env x=pure x)
  (F:Aa Γ K env G ι σ s)(hX:Bv Γ K env G ι X)(hg:K.gens.size<=gz)(hP:P G ι items X s)(hn:ι.length<=n₀)
  (q:Ed C (λx σ Q=>Ta x σ λσ1=>Tb σ1 Q) n₀ items σ Q):wpAny (model Γ.prog Γ.w) A (exec (.For tgt e b [] p) env) (As Γ K env FR G ι Q) (λ_ _=>False) s:=
 wpAny_For (hv (I.self hP _ (codeAny_mono (Pa H I ha hb F hX hg hP hn q) λr s' h=>by
   cases r with
   |ok f=>exact h
   |error e=>exact h.elim))) hs
end
noncomputable def Hr (st:Option Stmt):DefItem:=(scan st.toList ([],[],[])).1.headD ⟨"",⟨[],[],none,[],[],none,[]⟩,[],default,⟨0,0,0,0⟩⟩
noncomputable def Ec (p:Program) (i:Nat):DefRec:=⟨(Hr p.main.body[i]?).name,(Hr p.main.body[i]?).params,(Hr p.main.body[i]?).body,(Hr p.main.body[i]?).scope,(Hr p.main.body[i]?).pos⟩
noncomputable def tB (env:Env) (scope:Scope) (cap:List String):Bool:=
 (cap.all λx=>(env.cells.lookup (ofString x)).isSome)&&(scope.names.filter λp=>p.2== .cell).all λp=> !(cap.map ofString).contains p.1
noncomputable def tA (env:Env) (scope:Scope) (cap:List String) (C:Addr):Bool:=
 (cap.all λx=>((env.kindOf (ofString x)==some .cell)&&((Af scope (Ch env cap) env C).kindOf (ofString x)==some .cell))||((env.kindOf (ofString x)==some .free)&&((Af scope (Ch env cap) env C).kindOf (ofString x)==some .free)))&&
 scope.names.all λp=>(p.2 != .cell||(Af scope (Ch env cap) env C).kindOf p.1==some .cell)&&(p.2 != .local||(Af scope (Ch env cap) env C).kindOf p.1==some .local)
theorem dS {a b:Bool}{P:Prop}(h:(a||b)=true)(p:P->a=false)(x:P):b=true:=by rw[p x]at h;exact h
theorem Gy {env:Env}{scope:Scope}{cap:List String}(h1:closureFor scope env=pure (Ch env cap))(h2:tB env scope cap=true)(h3:∀C,tA env scope cap C=true)(h4:scope.kind=.function):CE env scope cap (Ch env cap):=by
 have h2:=Bool.and_eq_true_iff.mp h2
 have h3:=λC=>Bool.and_eq_true_iff.mp (h3 C)
 have h5:=λC p hp=>Bool.and_eq_true_iff.mp (all_eq_true.mp (h3 C).2 p hp)
 refine⟨h1,So,cP (all_eq_true.mp h2.1),λC x hx=>?_,λC p hp e=>?_,bJ h2.2,λC p hp e=>?_,h4⟩
 ·refine(Bool.or_eq_true_iff.mp (all_eq_true.mp (h3 C).1 x hx)).imp (λh=>?_) λh=>?_
  ·exact⟨eq_of_beq (Bool.and_eq_true_iff.mp h).1,eq_of_beq (Bool.and_eq_true_iff.mp h).2⟩
  ·exact⟨eq_of_beq (Bool.and_eq_true_iff.mp h).1,eq_of_beq (Bool.and_eq_true_iff.mp h).2⟩
 ·exact eq_of_beq (dS (h5 C p hp).1 (λe=>by rw[e];rfl) e)
 ·exact eq_of_beq (dS (h5 C p hp).2 (λe=>by rw[e];rfl) e)
section
noncomputable def L3:List Str:=["_iter_escaped_chars","_strip_quoted_realnames","_check_parenthesis","_twin_re_1","translate","_special_chars_map","escape","_translate","_join_translated_parts","cmp_to_key","_initial_missing","reduce","_law_name","_law_tree","_law_turn","_law_written","_law_told","_law_read","_law_whole","_law_alike"]
noncomputable def q1:Program:=view PySem.Challenge.pw_in0167_02 [0,27]
structure Ca where
 i:Nat
 a:Nat
 c:Nat
 pm:String
 pt:Nat
 dv:Value
 qt:Nat
noncomputable def Cb:List Ca:=[⟨2,38,37,"cpy313.email.utils",282,.none,285⟩,
 ⟨3,45,44,"cpy313.email.utils",282,.none,295⟩,
 ⟨4,52,51,"cpy313.email.utils",282,.none,307⟩,
 ⟨7,64,63,"cpy313.fnmatch",316,.none,357⟩,
 ⟨10,76,75,"re",365,.none,514⟩,
 ⟨12,83,82,"cpy313.fnmatch",520,.none,523⟩,
 ⟨13,90,89,"cpy313.fnmatch",520,.none,542⟩,
 ⟨15,97,96,"cpy313.functools",554,.none,557⟩,
 ⟨17,106,105,"cpy313.functools",554,.ref 99,567⟩,
 ⟨19,113,112,"law_in0167_02",578,.none,581⟩,
 ⟨20,118,117,"law_in0167_02",578,.none,589⟩,
 ⟨21,125,124,"law_in0167_02",578,.none,595⟩,
 ⟨22,130,129,"law_in0167_02",578,.none,603⟩,
 ⟨23,135,134,"law_in0167_02",578,.none,609⟩,
 ⟨24,142,141,"law_in0167_02",578,.none,615⟩,
 ⟨25,147,146,"law_in0167_02",578,.none,625⟩,
 ⟨26,152,151,"law_in0167_02",578,.none,631⟩,
 ⟨27,157,156,"law_in0167_02",578,.none,637⟩]
noncomputable def Ca.fd (r:Ca):FuncData:={docDef (Ec PySem.Challenge.pw_in0167_02 r.i).name (Ec PySem.Challenge.pw_in0167_02 r.i).params (Ec PySem.Challenge.pw_in0167_02 r.i).body (Ec PySem.Challenge.pw_in0167_02 r.i).scope (.str (ofString r.pm) r.pt) (.ref r.c) .none with defaults:=r.dv}
noncomputable def W5 (h:Heap) (r:Ca):Option Data×Option (Option Value):=((h.get? r.a).map (·.data),(h.get? r.c).map λo=>match o.data with| .fields vs=>vs[1]? |_=>none)
noncomputable def Y1 (r:Ca):Option Data×Option (Option Value):=(some (.func r.fd),some (some (.str (Ec PySem.Challenge.pw_in0167_02 r.i).name r.qt)))
noncomputable def lX (n:Nat) (d:Data):Option (List (Value×Value)):=match d with| .dict es _=>some ((es.toList.take n).map λe=>(e.key,e.val))|_=>none
noncomputable def Qj (n:Nat) (o:Option Obj):Option (Value×Option Addr×Array (Option Value)×Option (List (Value×Value))):=o.map λo=>(o.cls,o.dict,o.slots,lX n o.data)
noncomputable def L0:List (Str×Value):=[(ofString "_iter_escaped_chars",.ref 38),(ofString "_strip_quoted_realnames",.ref 45),(ofString "_check_parenthesis",.ref 52),(ofString "translate",.ref 64),(ofString "escape",.ref 76),(ofString "_translate",.ref 83),(ofString "_join_translated_parts",.ref 90),(ofString "cmp_to_key",.ref 97),(ofString "reduce",.ref 106),(ofString "_law_name",.ref 113),(ofString "_law_tree",.ref 118),(ofString "_law_turn",.ref 125),(ofString "_law_written",.ref 130),(ofString "_law_told",.ref 135),(ofString "_law_read",.ref 142),(ofString "_law_whole",.ref 147),(ofString "_law_alike",.ref 152),(ofString "law",.ref 157),(ofString "_twin_re_1",.ref 57),(ofString "_initial_missing",.ref 98),(ofString "_special_chars_map",.ref 66),(ofString "__builtins__",.ref 4)]
noncomputable def Yg:Array DictEntry:=#[⟨hashInt 40,.int 40 368,.str ⟨#[92,40]⟩ 372⟩,⟨hashInt 41,.int 41 374,.str ⟨#[92,41]⟩ 378⟩,⟨hashInt 91,.int 91 380,.str ⟨#[92,91]⟩ 384⟩,⟨hashInt 93,.int 93 386,.str ⟨#[92,93]⟩ 390⟩,⟨hashInt 123,.int 123 392,.str ⟨#[92,123]⟩ 396⟩,⟨hashInt 125,.int 125 398,.str ⟨#[92,125]⟩ 402⟩,⟨hashInt 63,.int 63 404,.str ⟨#[92,63]⟩ 408⟩,⟨hashInt 42,.int 42 410,.str ⟨#[92,42]⟩ 414⟩,⟨hashInt 43,.int 43 416,.str ⟨#[92,43]⟩ 420⟩,⟨hashInt 45,.int 45 422,.str ⟨#[92,45]⟩ 426⟩,⟨hashInt 124,.int 124 428,.str ⟨#[92,124]⟩ 432⟩,⟨hashInt 94,.int 94 434,.str ⟨#[92,94]⟩ 438⟩,⟨hashInt 36,.int 36 440,.str ⟨#[92,36]⟩ 444⟩,⟨hashInt 92,.int 92 446,.str ⟨#[92,92]⟩ 450⟩,⟨hashInt 46,.int 46 452,.str ⟨#[92,46]⟩ 456⟩,⟨hashInt 38,.int 38 458,.str ⟨#[92,38]⟩ 462⟩,⟨hashInt 126,.int 126 464,.str ⟨#[92,126]⟩ 468⟩,⟨hashInt 35,.int 35 470,.str ⟨#[92,35]⟩ 474⟩,⟨hashInt 32,.int 32 476,.str ⟨#[92,32]⟩ 480⟩,⟨hashInt 9,.int 9 482,.str ⟨#[92,9]⟩ 486⟩,⟨hashInt 10,.int 10 488,.str ⟨#[92,10]⟩ 492⟩,⟨hashInt 13,.int 13 494,.str ⟨#[92,13]⟩ 498⟩,⟨hashInt 11,.int 11 500,.str ⟨#[92,11]⟩ 504⟩,⟨hashInt 12,.int 12 506,.str ⟨#[92,12]⟩ 510⟩]
noncomputable def Nv:List (Nat×Obj):=[(4,{cls:=.type "module",dict:=some builtinsNs}),
 (56,{cls:=.type "tuple",data:=.seq #[.int 14 0,.int 14 0,.int 4 0,.int 1 0,.int 1 0,.int 9 0,.int 0 0,.int 64 0,.int 0 0,.int 1342177280 0,.int 0 0,.int 0 0,.int 0 0,.int 0 0,.int 0 0,.int 17 0,.int 0 0,.int 13 0,.int 11 0,.int 9 0,.int 0 0,.int 64 0,.int 0 0,.int 1342177280 0,.int 0 0,.int 0 0,.int 0 0,.int 0 0,.int 0 0,.int 17 0,.int 1 0,.int 1 0]}),
 (57,{cls:=.type "re.Pattern",data:=.fields #[.str (ofString "([&~|])") 319,.int 32 354,.int 1 0,.none,.none,.ref 56,.int 0 0]}),
 (78,{cls:=.none,data:=.fields #[]}),
 (82,{cls:=.type "code",data:=.fields #[.str (ofString "_translate") 522,.str (ofString "_translate") 523,.str (ofString "/claim/cut.py") 524,.int 60 0,.int 3 0,.int 0 0,.int 0 0,.int 3 0,.ref 77,.bool true,.int 276 0,.ref 78,.none,.ref 79,.ref 80,.ref 81,.int 538 0,.int 60 0,.str (ofString "/claim/cut.py") 539]}),
 (92,{cls:=.none,data:=.fields #[]}),
 (96,{cls:=.type "code",data:=.fields #[.str (ofString "cmp_to_key") 556,.str (ofString "cmp_to_key") 557,.str (ofString "/claim/cut.py") 558,.int 150 0,.int 1 0,.int 0 0,.int 0 0,.int 3 0,.ref 91,.bool true,.int 276 0,.ref 92,.none,.ref 93,.ref 94,.ref 95,.int 562 0,.int 150 0,.str (ofString "/claim/cut.py") 563]}),
 (98,{cls:=.type "object"}),
 (99,{cls:=.type "tuple",data:=.seq #[.ref 98]}),
 (120,{cls:=.none,data:=.fields #[]}),
 (124,{cls:=.type "code",data:=.fields #[.str (ofString "_law_turn") 594,.str (ofString "_law_turn") 595,.str (ofString "/claim/cut.py") 596,.int 197 0,.int 1 0,.int 0 0,.int 0 0,.int 3 0,.ref 119,.bool true,.int 276 0,.ref 120,.none,.ref 121,.ref 122,.ref 123,.int 599 0,.int 197 0,.str (ofString "/claim/cut.py") 600]}),
 (132,{cls:=.none,data:=.fields #[]}),
 (134,{cls:=.type "code",data:=.fields #[.str (ofString "_law_told") 608,.str (ofString "_law_told") 609,.str (ofString "/claim/cut.py") 610,.int 203 0,.int 2 0,.int 0 0,.int 0 0,.int 3 0,.ref 131,.bool true,.int 276 0,.ref 132,.none,.none,.none,.ref 133,.int 611 0,.int 203 0,.str (ofString "/claim/cut.py") 612]}),
 (66,{cls:=.type "dict",data:=.dict Yg 24})]
noncomputable def Mh:List (Value×Value):=[(.str (ofString "\x69mport.loaded._sre") 183,.bool true),(.str (ofString "class._frozen_\x69mportlib.BuiltinImporter") 185,.ref 14),(.str (ofString "watched.\x69mport") 206,.ref 18),(.str (ofString "class._frozen_\x69mportlib.ModuleSpec") 216,.ref 22),(.str (ofString "sys.modules.booked-epoch") 245,.int 3 0),(.str (ofString "\x69mport.later-laid._sre") 270,.bool true),(.str (ofString "watched.library") 272,.ref 27),(.str (ofString "watched.library-objects") 0,.str ⟨#[12]⟩ 0),(.str (ofString "watched.library-deep._sre") 273,.str ⟨#[4,0,0,11,4,0,0,11,4,0,0,3,4,0,0,11,8,4,100,105,99,116,2]⟩ 0)]
noncomputable def Q6:List (Value×Value):=[(.str (ofString "__name__") 165,.str (ofString "law_in0167_02") 578),(.str (ofString "__doc__") 166,.none),(.str (ofString "__package__") 167,.none),(.str (ofString "__loader__") 168,.builtin "__main__.__loader__#opaque"),(.str (ofString "__spec__") 169,.none),(.str (ofString "__annotations__") 170,.ref 6),(.str (ofString "__builtins__") 171,.ref 4)]
noncomputable def Rf:List Str:=["len","range","list","sorted","iter","enumerate","object","isinstance","str","max","sum"]
noncomputable def W6 (s:Shared):=(Nat.ble 1 s.toks,L0.map (λp=>s.heap.nsMap mainGlobals p.1),Rf.map (λx=>s.heap.nsMap mainGlobals x),Cb.map (W5 s.heap),Qj 10 (s.heap.get? 2),Qj 7 (s.heap.get? 3),Nv.map (λp=>s.heap.get? p.1),(s.heap.get? 1).isSome)
noncomputable def Y5:=(true,L0.map (λp=>some p.2),Rf.map (λ_=>(none:Option Value)),Cb.map Y1,some (Value.none,(none:Option Addr),(#[]:Array (Option Value)),some Mh),some (Value.type "dict",(none:Option Addr),(#[]:Array (Option Value)),some Q6),Nv.map (λp=>some p.2),true)
noncomputable def L5 (w:World):=(openEnds treeTable PySem.Challenge.pw_in0167_02 w 4088).map (λs=>(openSeen q1 L3 (importedModules PySem.Challenge.pw_in0167_02.main.body) (λs=>xlAt q1 [] s&&recOk [] s) true s,W6 s))
noncomputable def R6:=some (openGood q1 L3,Y5)
open PySem.W.Fast in
theorem l1:∀w:World,L5 ((w.withFollow "comprehension-iter-twice" false).withFollow "special-get-raises" false)=R6:=λw=>by
 unfold L5 openEnds fencedOpening topFrom
 simp only[te4187177175401517315,te14364793385576792824,te5923862056798008813,te14082659384304107361,te10274390034422433532,te14289696077712309145]
 kernel_rfl
end
section
open PySem.W.Fast in
theorem l2:∀w:World,L5 ((w.withFollow "comprehension-iter-twice" false).withFollow "special-get-raises" true)=R6:=λw=>by
 unfold L5 openEnds fencedOpening topFrom
 simp only[te4187177175401517315,te14364793385576792824,te5923862056798008813,te14082659384304107361,te10274390034422433532,te14289696077712309145]
 kernel_rfl
open PySem.W.Fast in
theorem l3:∀w:World,L5 ((w.withFollow "comprehension-iter-twice" true).withFollow "special-get-raises" false)=R6:=λw=>by
 unfold L5 openEnds fencedOpening topFrom
 simp only[te4187177175401517315,te14364793385576792824,te5923862056798008813,te14082659384304107361,te10274390034422433532,te14289696077712309145]
 kernel_rfl
open PySem.W.Fast in
theorem l4:∀w:World,L5 ((w.withFollow "comprehension-iter-twice" true).withFollow "special-get-raises" true)=R6:=λw=>by
 unfold L5 openEnds fencedOpening topFrom
 simp only[te4187177175401517315,te14364793385576792824,te5923862056798008813,te14082659384304107361,te10274390034422433532,te14289696077712309145]
 kernel_rfl
noncomputable def rR (s:Shared):Bool:=xlAt q1 [] s&&recOk [] s
theorem kK:LeftO PySem.Challenge.pw_in0167_02 q1 L3 rR W6 (λ_=>Y5) 4088:=λw=>
 byRow2 "special-get-raises" (P:=λw=>L5 w=R6) (λw=>byRow2 "comprehension-iter-twice" (P:=λw=>L5 (w.withFollow "special-get-raises" false)=R6) l1 l3 w)
  (λw=>byRow2 "comprehension-iter-twice" (P:=λw=>L5 (w.withFollow "special-get-raises" true)=R6) l2 l4 w) w
end
theorem H4 (xs:List (List Nat)):I7 [] xs=xs.flatten:=by
 have h:∀(r:List (List Nat)) (acc:List Nat),r.foldl (λacc p=>acc++[]++p) acc=acc++r.flatten:=by
  intro r
  induction r with
  |nil=>intro acc;simp
  |cons x r ih=>intro acc;simp only[foldl_cons,ih];simp
 cases xs with
 |nil=>rfl
 |cons x r=>show r.foldl _ x=_;rw[h];simp
theorem Kl {Tc:St->(Bool->St->Prop)->Prop}{Tb:TS}{n₀:Nat}{Q:FD->St->Prop}(I:Nat->St->Prop)
  (h:∀n σ (next:St->Prop),I n σ->(∀m σ',m<n->I m σ'->next σ')->Tc σ λc σ1=>if c=true then Tb σ1 λf σ2=>match f with
   | .brk=>Q .next σ2| .ret d=>Q (.ret d) σ2|_=>∃σ3,G9 n₀ σ2 σ3/\next σ3 else Q .next σ1):
  ∀k n σ,n<k->I n σ->Hv Tc Tb n₀ k σ Q
 |0,n,σ,hk,_=>absurd hk (Nat.not_lt_zero _)
 |k+1,n,σ,hk,i=>h n σ _ i λm σ' hm i'=>Kl I h k m σ' (by exact Aq (Bk hm hk)) i'
theorem E6 {Tc:St->(Bool->St->Prop)->Prop}{Tb:TS}{n₀:Nat}{Q:FD->St->Prop}(I:Nat->St->Prop)
  (h:∀n σ (R:FD->St->Prop),I n σ->(∀m σ' σ3,m<n->G9 n₀ σ' σ3->I m σ3->R .next σ')->(∀σ',Q .next σ'->R .brk σ')->Tc σ λc σ1=>if c=true then Tb σ1 R else Q .next σ1)
  (k n:Nat)(σ:St)(hk:n<k)(i:I n σ):Hv Tc Tb n₀ k σ Q:=
 Kl I (λn σ next hi hn=>h n σ _ hi (λm σ' σ3 hm hw hi2=>⟨σ3,hw,hn m σ3 hm hi2⟩) λ_ h=>h) k n σ hk i
theorem Wt (l:List (List Nat))(m:Nat)(h:∀x∈l,x.length<=m):(l.map λx=>x.length+(cs "").length).sum<=l.length*m:=by
 induction l with
 |nil=>simp
 |cons x l ih=>
  have h1:=h x (by simp)
  have h2:=ih λy hy=>h y (mem_cons_of_mem _ hy)
  have h5:(cs "").length=0:=by decide
  rw[Gb,sum_cons,G8,Nat.add_mul,Nat.one_mul,h5]
  rw[h5]at h2
  exact Aq (Bk h1 h2)
theorem Cl {α:Type}{l:List α}{j:Nat}{x:α}(h:l[j]? =some x):K9 l (j:Int)=some x:=by
 have hj:=(H7.mp h).1
 have e:seqIndex? (j:Int) l.length=some j:=by
  unfold seqIndex?
  have h1:¬((j:Int)<0):=by exact fQ (n:=j) rfl
  have h2:(j:Int)<l.length:=by exact Int.ofNat_lt.2 (Aq hj:j<l.length)
  simp only[Ay h1]
  simp[h2]
 unfold K9
 rw[e];exact h
theorem nf {p:Prop}:(false=true->p):=λh=>absurd h (by decide)
theorem An {T1 T2:TS}{σ:St}{R:FD->St->Prop}(h:T1 σ (Wr T2 R)):Uv T1 T2 σ R:=h
theorem Wq (R:FD->St->Prop):Wr (λσ Q=>Q .next σ) R=R:=funext λf=>funext λσ=>by cases f<;>rfl
theorem Ak {T:TS}{σ:St}{R:FD->St->Prop}(h:T σ R):Uv T (λσ Q=>Q .next σ) σ R:=An (by rw[Wq];exact h)
theorem A5 {T1 T2:TS}{σ:St}{Q:FD->St->Prop}(I:St->Prop)(J:D->St->Prop)(h1:∀R:FD->St->Prop,(∀σ',I σ'->R .next σ')->(∀d σ',J d σ'->R (.ret d) σ')->T1 σ R)
  (h2:∀σ',I σ'->T2 σ' Q)(h3:∀d σ',J d σ'->Q (.ret d) σ'):Uv T1 T2 σ Q:=h1 _ h2 h3
theorem Ct {T:TS}{σ:St}{R:FD->St->Prop}(h:∀R':FD->St->Prop,(∀σ',R .next σ'->R' .next σ')->(∀d σ',R (.ret d) σ'->R' (.ret d) σ')->T σ R'):Uv T (λσ Q=>Q .next σ) σ R:=h _ (λ_ h=>h) λ_ _ h=>h
theorem Gu {C:St->Prop}{Tb:D->TS}{n₀:Nat}{Q:FD->St->Prop}(I:List D->St->Prop)
  (h:∀x r σ (R:FD->St->Prop),I (x::r) σ->(∀σ' σ2,G9 n₀ σ' σ2->I r σ2->R .next σ')->(∀d σ',Q (.ret d) σ'->R (.ret d) σ')->(∀σ',Q .next σ'->R .brk σ')->C σ/\Tb x σ R)
  (h0:∀σ,I [] σ->C σ/\Q .next σ)(items:List D)(σ:St)(i:I items σ):Ed C Tb n₀ items σ Q:=
 Ey I (λx r σ next hi hn=>h x r σ _ hi (λσ' σ2 hw hi2=>⟨σ2,hw,hn σ2 hi2⟩) (λ_ _ h=>h) λ_ h=>h) h0 items σ i
theorem sV {d:D}{σ:St}{Q:D->St->Prop}(h:Q d σ):tV d σ Q:=h
theorem Ac {x:String}{d:D}{σ:St}{Q:D->St->Prop}(e:σ.get x=some d)(h:Q d σ):Ws x σ Q:=⟨d,e,h⟩
theorem eY {l:List D}{i:Int}{d:D}{σ:St}{P:D->Prop}(hw:Bb i)(e:K9 l i=some d)(h:P d):Ml (.tup l) (.int i) σ P:=⟨hw,d,e,h⟩
theorem B7 {k:Nat}{l:List D}{i:Int}{d:D}{σ:St}{P:D->Prop}(hl:σ.own[k]? =some l)(hw:Bb i)(e:K9 l i=some d)(h:P d):Ml (.obj k) (.int i) σ P:=⟨l,hl,hw,d,e,h⟩
theorem Tg {k:Nat}{l:List D}{σ:St}{P:Bool->Prop}(hl:σ.own[k]? =some l)(hz:l.length<=20000)(h:P (!l.isEmpty)):Mj (.obj k) σ P:=⟨l,hl,by exact lt_of_le_of_lt hz (by decide),h⟩
theorem Ik {c:Bool}{σ:St}{P:Bool->Prop}(h:P c):Mj (.bool c) σ P:=h
theorem Nn {x y:List Nat}{σ:St}{R:Bool->Prop}(h:R (decide (x=y))):Ee .Eq (.str x) (.str y) σ R:=h
theorem Ck {x:String}{d:D}{σ:St}{Q:St->Prop}(h:Q (σ.set x d)):aP false x d σ Q:=⟨nf,h⟩
theorem W8 {c:Bool}{A B:Prop}(h:c=true->A)(h':c=false->B):if c=true then A else B:=by
 cases c
 ·rw[Ay (by decide)];exact h' rfl
 ·rw[Bc rfl];exact h rfl
theorem sT {A B:Prop}(h:A):if true=true then A else B:=by rw[Bc rfl];exact h
theorem sF {A B:Prop}(h:B):if false=true then A else B:=by rw[Ay (by decide)];exact h
theorem Yy {α:Type}(l:List α)(x:α):seqIndex? (-1) (l++[x]).length=some l.length:=by
 unfold seqIndex?
 rw[Bu]
 simp
 exact kL _
theorem I3 {α:Type}(l:List α)(x:α):K9 (l++[x]) (-1)=some x:=by
 unfold K9
 rw[Yy,Option.bind_some,V9 (le_refl _),sub_self];rfl
theorem Oq {x:List Nat}{c:Nat}{i:Int}{σ:St}{P:D->Prop}(hw:Bb i)(e:K9 x i=some c)(h:P (.str [c])):Ml (.str x) (.int i) σ P:=⟨hw,c,e,h⟩
theorem nM {i:Int}{σ:St}{R:Bool->Prop}(h:R false):Ee .Is (.int i) .none σ R:=h
theorem Os {i j:Int}{σ:St}{R:Bool->Prop}(h:R (i != j)):Ee .NotEq (.int i) (.int j) σ R:=h
theorem Qk {i j:Int}{σ:St}{R:Bool->Prop}(h:R (i==j)):Ee .Eq (.int i) (.int j) σ R:=h
theorem Ot {i j:Int}{σ:St}{R:Bool->Prop}(h:R (decide (i<j))):Ee .Lt (.int i) (.int j) σ R:=h
theorem Ln {i j:Int}{σ:St}{Q:D->St->Prop}(h:Q (.int (i+j)) σ):Q9 .Add (.int i) (.int j) σ Q:=h
theorem Tj {i j:Int}{σ:St}{Q:D->St->Prop}(h:Q (.int (i+j)) σ):Uf .Add (.int i) (.int j) σ Q:=.inl ⟨rfl,h⟩
theorem rU {x y:List Nat}{σ:St}{R:Bool->Prop}(h:R (Eb y x)):Ee .In (.str y) (.str x) σ R:=h
theorem W9 {T:TT}{k:Nat}{σ:St}{Q:St->Prop}(h:T σ λd σ=>∃l,σ.own[k]? =some l/\l.length<=sizeLine/\Q {σ with own:=σ.own.set k (l++[d])}):Ud T k σ Q:=h
theorem Gi {Ti:TT}{Ta:D->St->(St->Prop)->Prop}{Tt:St->(Bool->St->Prop)->Prop}{Tin:Nat->St->(St->Prop)->Prop}{cap:List String}{σ:St}{Q:D->St->Prop}
  (h:Ti σ λd σ1=>Kw d σ1 λitems C=>Ed C (λx σ Q=>Ta x σ λσ'=>Tt σ' λok σ'=>if ok=true then Tin σ1.own.length σ' (Q .next)else Q .next σ') (σ1.own.length+1) items ⟨seen cap σ1,σ1.own++[[]],cap⟩ (M9 λσe=>Q (.obj σ1.own.length) {σ1 with own:=σe.own})):Oa Ti Ta Tt Tin cap σ Q:=h
theorem O8 (own:List (List D))(x:List D)(j:List (List D)):(own++x::j)[own.length]? =some x:=by simp
theorem Dy (own:List (List D))(x y:List D)(j:List (List D)):(own++x::j).set own.length y=own++y::j:=by simp
theorem Nm {k:Nat}{l:List D}{σ:St}{Q:D->St->Prop}(hl:σ.own[k]? =some l)(hz:l.length<=20000)(h:Q (.int l.length) σ):Zl (.obj k) σ Q:=⟨l,hl,by exact lt_of_le_of_lt hz (by decide),h⟩
theorem Dc (own:List (List D))(x:List D)(j y:List (List D)):(own++x::j++y)[own.length]? =some x:=by rw[C4];exact O8 own x (j++y)
theorem Ii (own:List (List D))(x z:List D)(j y:List (List D)):(own++x::j++y).set own.length z=own++z::(j++y):=by rw[C4];exact Dy own x z (j++y)
theorem jB {k n:Nat}{l:List D}{σ:St}{Q:D->St->Prop}(hl:σ.own[k]? =some l)(hn:l.length=n)(hz:n<=20000)(h:Q (.int n) σ):Zl (.obj k) σ Q:=by subst hn;exact Nm hl hz h
theorem aX {x:List Nat}{r:Addr}{σ:St}{R:Bool->Prop}(h:R true):Ee .IsNot (.str x) (.raw (.ref r)) σ R:=⟨⟨r,rfl⟩,h⟩
theorem Jr {l:D}{xs:List (List Nat)}{σ:St}{Q:D->St->Prop}(hi:Al σ.own l=some (xs.map D.str))(hz:xs.flatten.length<=4000000)(h:Q (.str xs.flatten) σ):Yk (.str (cs "")) [l] σ Q:=
 ⟨_,l,xs,rfl,rfl,hi,by
  have e:(xs.map λx=>x.length+(cs "").length).sum=xs.flatten.length:=List.length_flatten.symm
  rw[e];unfold sizeLine;exact Ao hz (by decide),by rw[show I7 (cs "") xs=xs.flatten from H4 xs];exact h⟩
theorem jA {k:Nat}{l:List D}{lo hi st:Option Int}{σ:St}{Q:D->St->Prop}(hl:σ.own[k]? =some l)(hs:st≠some 0)(hz:l.length<=20000)(h:Q (.obj σ.own.length) {σ with own:=σ.own++[K0 l lo hi st]}):Mk (.obj k) lo hi st σ Q:=⟨hs,l,hl,by unfold sizeLine;exact Ao hz (by decide),h⟩
theorem Mz {c:Bool}{A B:Prop}(e:c=true)(h:A):if c=true then A else B:=by rw[Bc e];exact h
theorem Il {c:Bool}{A B:Prop}(e:c=false)(h:B):if c=true then A else B:=by rw[e];exact sF h
theorem R0 {x y:List Nat}{σ:St}{R:Bool->Prop}(h:R (!decide (x=y))):Ee .NotEq (.str x) (.str y) σ R:=h
theorem nQ {i j:Int}{σ:St}{R:Bool->Prop}(h:R (decide (i>=j))):Ee .GtE (.int i) (.int j) σ R:=h
theorem nO {x y:List Nat}{σ:St}{R:Bool->Prop}(h:R (decide (y<x))):Ee .Gt (.str x) (.str y) σ R:=h
theorem Tk {i j:Int}{σ:St}{Q:D->St->Prop}(hj:0<j/\j<1073741824)(h:Q (.int (i/j)) σ):Q9 .FloorDiv (.int i) (.int j) σ Q:=⟨hj,h⟩
theorem Ll {i j:Int}{σ:St}{Q:D->St->Prop}(hj:0<j)(h:Q (.int (i%j)) σ):Q9 .Mod (.int i) (.int j) σ Q:=⟨hj,h⟩
theorem Lm {x y:List Nat}{σ:St}{Q:D->St->Prop}(hz:x.length+y.length<=20000)(h:Q (.str (x++y)) σ):Q9 .Add (.str x) (.str y) σ Q:=⟨rfl,by unfold sizeLine;exact Ao hz (by decide),h⟩
theorem M5 {x:List Nat}{lo hi:Option Int}{σ:St}{Q:D->St->Prop}(hz:x.length<=20000)(h:Q (.str (cut x lo hi)) σ):Mk (.str x) lo hi none σ Q:=⟨rfl,by unfold sizeLine;exact Ao hz (by decide),h⟩
theorem Fm {x:List Nat}{σ:St}{Q:D->St->Prop}(hz:x.length<=20000)(h:Q (.int x.length) σ):Zl (.str x) σ Q:=⟨by exact lt_of_le_of_lt hz (by decide),h⟩
theorem nL {d:D}{c:Bool}{σ:St}{R:Bool->Prop}(e:(d=.none/\c=true)\/(∃x,d=.str x)/\c=false)(h:R c):Ee .Is d .none σ R:=by
 rcases e with⟨rfl,rfl⟩|⟨⟨x,rfl⟩,rfl⟩<;>exact h
theorem Co {X r:List α}{x:α}{t:Nat}(e:X.length=t):(X++x::r)[t]? =some x:=by subst e;rw[V9 (le_refl _),sub_self];rfl
theorem iL {k:Nat}{l:List D}{σ:St}{P:Prop}(hl:σ.own[k]? =some l)(h:P):T9 (.obj k) σ/\P:=⟨⟨k,l,rfl,hl⟩,h⟩
theorem Xb {k:Nat}{x:D}{l:List D}{σ:St}{Q:D->St->Prop}(hl:σ.own[k]? =some l)(hz:l.length<=20000)(h:Q .none {σ with own:=σ.own.set k (l++[x])}):Ty (.obj k) [x] σ Q:=
 ⟨k,x,l,rfl,rfl,hl,by unfold sizeLine;exact Ao hz (by decide),h⟩
theorem eZ {k j:Nat}{n:Int}{x:D}{l:List D}{σ:St}{Q:St->Prop}(hl:σ.own[k]? =some l)(hw:Bb n)(hj:seqIndex? n l.length=some j)(h:Q {σ with own:=σ.own.set k (l.set j x)}):cI (.obj k) (.int n) x σ Q:=
 ⟨l,j,hl,hw,hj,h⟩
theorem Pm (ys:List (List Nat))(u:List Nat):ys.any (·==u)=decide (u∈ys):=by
 by_cases h:u∈ys
 ·rw[decide_eq_true h,List.any_eq_true];exact⟨u,h,by simp⟩
 ·rw[decide_eq_false h,List.any_eq_false]
  intro y hy e
  exact h ((show y=u by simpa using e)▸hy)
section
open Sem (wp)
noncomputable def A3 (i:Nat) (b:Bool):List Nat->List (Int×List Nat)
 |[]=>if b=true then[((i:Int)-1,[92])]else[]
 |c::r=>if b=true then((i:Int),[92,c])::A3 (i+1) false r else if c=92 then A3 (i+1) true r else((i:Int),[c])::A3 (i+1) false r
theorem Me {c:Nat}(h:c≠92)(i:Nat)(r:List Nat):A3 i false (c::r)=((i:Int),[c])::A3 (i+1) false r:=(Ay Bool.false_ne_true).trans (Ay h)
noncomputable def Fh (q:Int×List Nat):D:=.tup [.int q.1,.str q.2]
section
variable {prog:Program}{w:World}{A:Around}{E:Value->Shared->Prop}{s:Shared}
theorem Zh (hh:A.handled=none)(it:Addr)(x:Str)(t:Tok):
  Draws prog w A it [it] x.cps.size (λi v=>∃c u,x.cps[i]? =some c/\v=.str ⟨#[c]⟩ u) (λi h=>h.IsStrIter it (strIterType x) x t i):=by
 cases ha:x.cps.all (·<128)
 ·have e:strIterType x="str_iterator":=by simp[strIterType,ha]
  rw[e];exact Draws.strWide hh it x t
 ·have e:strIterType x="str_ascii_iterator":=by simp[strIterType,ha]
  rw[e];exact Draws.strAscii hh it x t
theorem Ym {h:Heap}{it:Addr}{o:Obj}{f:Array Value->Array Value}{vs:Array Value}(ho:h.get? it=some o)(hd:o.data=.fields vs)(x y:Obj):
  ∃o',(((h.update it λo=>o.mapFields f).push x).push y).get? it=some o':=
 ⟨_,Ft _ (Ft _ (Heap.get?_update_self _ ho (Obj.isFreed_of_fields (Obj.data_mapFields hd _))))⟩
theorem Uc {it:Addr}{o:Obj}{x:Str}{t:Tok}{i:Nat}(hh:A.handled=none)(ho:s.heap.get? it=some o)(hd:o.data=.fields #[.str x t,.int i 0])
  (hE:∀h' e,Heap.ExtBut it s.heap h'->(∃o,h'.get? it=some o)->(∃o,h'.get? e=some o/\o.cls=.type "StopIteration")->E (.ref e) {s with heap:=h'}){Q:Fin->Shared->Prop}{f:Array Value->Array Value}:
  wpAny (model prog w) A.in1 (newExc (.type "StopIteration") []>>=λx=>raiseNew x) Q E {s with heap:=s.heap.update it λo=>o.mapFields f}:=by
 refine Ai ?_
 simp only[newExc,newTuple]
 refine Ai (wpAny_newObj_type ?_ (by size_fits))
 refine Ai (m:=firstArgMember _ _) (wpAny_of_eq (a:=Value.none) (by first|rfl|(simp only[firstArgMember];rfl)) ?_)
 refine wpAny_newObj_type ?_ (by size_fits)
 refine wpAny_raiseNew_none (show A.in1.handled=none from hh) ?_
 exact hE _ _ (((Heap.SameBut.update ..).extBut.push _).push _) (Ym ho hd _ _) ⟨_,Heap.get?_push_size _ rfl,rfl⟩
theorem I4 {it:Addr}{x:Str}{t:Tok}{i:Nat}{Q:Value->Shared->Prop}(hh:A.handled=none)(hit:s.heap.IsStrIter it "str_ascii_iterator" x t i)(hx:x.cps[i]? =none)
  (hE:∀h' e,Heap.ExtBut it s.heap h'->(∃o,h'.get? it=some o)->(∃o,h'.get? e=some o/\o.cls=.type "StopIteration")->E (.ref e) {s with heap:=h'}):
  wpAny (model prog w) A (Builtin.SmallTypes.nextOf (.ref it)) Q E s:=by
 refine Au (id hit) λo ho hc hd=>?_
 unfold Builtin.SmallTypes.nextOf
 refine Ai (wpAny_callSpecial?_slot (name:=ofString "__next__") hit.typeIs PySem.F.slot_str_ascii_iterator_next
  (wpAny_call_entry PySem.F.slot_str_ascii_iterator_next hit.typeIs PySem.F.entry_str_ascii_iterator_next ?_ (PySem.F.args_str_ascii_iterator_next_1 _)))
 show wpAny _ _ (field (.ref it) 0>>=_) _ _ s
 refine Ai (wpAny_field ho hd (x:=.str x t) rfl ?_)
 show wpAny _ _ (field (.ref it) 1>>=_) _ _ s
 refine Ai (wpAny_field ho hd (x:=.int i 0) rfl ?_)
 simp only[Int.toNat_natCast,hx]
 exact Ai (wpAny_rule (Ai (wpAny_setField ho hd (by simp) (Ai (wpAny_letGo (Uc hh ho hd hE))))))
theorem Ka {it:Addr}{x:Str}{t:Tok}{i:Nat}{Q:Value->Shared->Prop}(hh:A.handled=none)(hit:s.heap.IsStrIter it "str_iterator" x t i)(hx:x.cps[i]? =none)
  (hE:∀h' e,Heap.ExtBut it s.heap h'->(∃o,h'.get? it=some o)->(∃o,h'.get? e=some o/\o.cls=.type "StopIteration")->E (.ref e) {s with heap:=h'}):
  wpAny (model prog w) A (Builtin.SmallTypes.nextOf (.ref it)) Q E s:=by
 refine Au (id hit) λo ho hc hd=>?_
 unfold Builtin.SmallTypes.nextOf
 refine Ai (wpAny_callSpecial?_slot (name:=ofString "__next__") hit.typeIs PySem.F.slot_str_iterator_next
  (wpAny_call_entry PySem.F.slot_str_iterator_next hit.typeIs PySem.F.entry_str_iterator_next ?_ (PySem.F.args_str_iterator_next_1 _)))
 show wpAny _ _ (field (.ref it) 0>>=_) _ _ s
 refine Ai (wpAny_field ho hd (x:=.str x t) rfl ?_)
 show wpAny _ _ (field (.ref it) 1>>=_) _ _ s
 refine Ai (wpAny_field ho hd (x:=.int i 0) rfl ?_)
 simp only[Int.toNat_natCast,hx]
 exact Ai (wpAny_rule (Ai (wpAny_setField ho hd (by simp) (Ai (wpAny_letGo (Uc hh ho hd hE))))))
theorem K1 {it:Addr}{x:Str}{t:Tok}{i:Nat}{Q:Value->Shared->Prop}(hh:A.handled=none)(hit:s.heap.IsStrIter it (strIterType x) x t i)(hx:x.cps[i]? =none)
  (hE:∀h' e,Heap.ExtBut it s.heap h'->(∃o,h'.get? it=some o)->(∃o,h'.get? e=some o/\o.cls=.type "StopIteration")->E (.ref e) {s with heap:=h'}):
  wpAny (model prog w) A (Builtin.SmallTypes.nextOf (.ref it)) Q E s:=by
 cases ha:x.cps.all (·<128)
 ·have e:strIterType x="str_iterator":=by simp[strIterType,ha]
  rw[e]at hit;exact Ka hh hit hx hE
 ·have e:strIterType x="str_ascii_iterator":=by simp[strIterType,ha]
  rw[e]at hit;exact I4 hh hit hx hE
theorem Jv {e it:Addr}{x:Str}{t:Tok}{i:Nat}{k:Int}{old:Value}{Q:Option Value->Shared->Prop}(hh:A.handled=none)
  (he:IsEnum s.heap e it k old)(hit:s.heap.IsStrIter it (strIterType x) x t i)(hx:x.cps[i]? =none)
  (hQ:∀h',Heap.ExtBut it s.heap h'->(∃o,h'.get? it=some o)->Q none {s with heap:=h'}):wpAny (model prog w) A (pyNext (.ref e)) Q E s:=by
 have hT:s.TypeIs (.ref e) "enumerate":=⟨_,he,rfl⟩
 unfold pyNext
 refine Ai (wpAny_attempt (wpAny_callSpecial?_slot (name:=ofString "__next__") hT PySem.F.slot_enumerate_next
  (wpAny_call_entry PySem.F.slot_enumerate_next hT PySem.F.entry_enumerate_next ?_ (PySem.F.args_enumerate_next_1 _))))
 show wpAny _ _ (field (.ref e) 2>>=_) _ _ _
 refine Ai (wpAny_field he rfl (x:=.ref it) rfl ?_)
 refine Ai (K1 hh hit hx λh' x he' hl hx'=>?_)
 refine Ab hx' λo ho hc=>?_
 try clear hx'
 refine Ai (wpAny_isInstance (T:="StopIteration") (b:=true) ⟨o,ho,hc⟩ isSubtype_stop ?_)
 exact Be (hQ _ he' hl)
theorem Np {a:Addr}{g n:Nat}{gs:GenState}{P:Nat->Shared->Shared->Prop}{Y:Protocol}{Q:Option Value->Shared->Prop}(hh:A.handled=none)
  (hl:s.heap.NoLimit)(hroom:A.depth<recursionLimit)(hg:s.heap.IsGen a g)(hgs:s.gens[g]? =some gs)
  (hgo:gs.Goes (model prog w) A.in1 (λn s₀ r s₁=>r=.ok (.ret .none)/\P n s₀ s₁) Y n (.send .none) (s.setGen g .running))
  (hY:∀v s₁ gs',gs'.bare=true->Y (n-1) (s.setGen g .running) v s₁ (λr' s''=>match n with
    |0=>False
    |m+1=>gs'.Goes (model prog w) A.in1 (λn s₀ r s₁=>r=.ok (.ret .none)/\P n s₀ s₁) Y m r' s'')->Q (some v) (s₁.setGen g gs'))
  (hP:∀s₁,P n (s.setGen g .running) s₁->∀h',(∀b o,s₁.heap.get? b=some o->h'.get? b=some o)->Q none {s₁.setGen g .finished with heap:=h'}):
  wpAny (model prog w) A (pyNext (.ref a)) Q E s:=by
 unfold pyNext
 refine Ai (wpAny_attempt (wpAny_callSpecial?_slot (name:=ofString "__next__") hg.typeIs slot_gen_next
  (wpAny_call_entry slot_gen_next hg.typeIs entry_gen_next ?_ (args_gen_next _))))
 show wpAny _ _ (Builtin.Generator.genWake (.ref a) (.send .none)) _ _ s
 unfold Builtin.Generator.genWake
 refine Ai (wpAny_holding (wpAny_genNumber hg (Ai (wpAny_genState hgs ?_))))
 cases gs with
 |running=>exact hgo.elim
 |finished=>exact hgo.elim
 |_=>
  refine Ai (wpAny_roomToWake hl hroom ?_)
  show wpAny _ A.in1 (.resume g (.send .none) [] _) _ _ s
  refine wpAny_resumeQ hgs hgo (λx s₁ hx=>?_) (λv s₁ gs' hb hv=>?_)
  ·obtain⟨rfl,hp⟩:=hx
   show wpAny _ A.in1 (newExc (.type "StopIteration") []>>=_) _ _ _
   refine Ai ?_
   simp only[newExc,newTuple]
   refine Ai (wpAny_newObj_type ?_ (by size_fits))
   refine Ai (m:=firstArgMember _ _) (wpAny_of_eq (a:=Value.none) (by first|rfl|(simp only[firstArgMember];rfl)) ?_)
   refine wpAny_newObj_type ?_ (by size_fits)
   refine Ai (wpAny_raiseNew_none (show A.in1.handled=none from hh) ?_)
   refine Ai (wpAny_isInstance (T:="StopIteration") (b:=true) ⟨_,Heap.get?_push_size _ rfl,rfl⟩ isSubtype_stop ?_)
   exact Be (hP s₁ hp _ λb o hb=>Ft _ (Ft _ hb))
  ·exact Be ⟨v,rfl,Be (hY v s₁ gs' hb hv)⟩
theorem Kp {A:Around}{R:GenEnd}{Y:Protocol}{n:Nat}{s₀:Shared}{fs:List Frame}{s:Shared}{env:Env}{target:Expr}{it:Value}{body orelse:List Stmt}
  (h:wpAny (model prog w) (A.over (.forLoop target it body orelse env) fs) (pyNext it) (λr s1=>match r with
   |none=>Seg (model prog w) A R Y n s₀ (.forLoop target it body orelse env) (.pure (.again (.block orelse env))) fs s1
   |some v=>wpAny (model prog w) (A.over (.forLoop target it body orelse env) fs) (letOwnedTupleGo target it v) (λ_ s2=>wpAny (model prog w) (A.over (.forLoop target it body orelse env) fs) (assign target env v) (λ_ s3=>
      Seg (model prog w) A R Y n s₀ (.forLoop target it body orelse env) ((execs body env).wrap (λf=>match f with
      | .next| .cont=>.pure (.again (.forLoop target it body orelse env))
      | .brk=>.pure (.done .next)
      | .ret v=>.pure (.done (.ret v))) (λe=>(do noteFrame e env;theTreesLotGoes e:Sem Unit).wrap (λ_=>.raise e) .raise id id) id id) fs s3) (λ_ _=>False) s2) (λ_ _=>False) s1) (λ_ _=>False) s):
  Seg (model prog w) A R Y n s₀ (.forLoop target it body orelse env) ((model prog w).den (.forLoop target it body orelse env)) fs s:=by
 show Seg _ A R Y n s₀ _ ((forTurn target it body orelse env).onRaise (λx=>do noteFrame x env;theTreesLotGoes x)) fs s
 unfold forTurn
 rw[Sem.onRaise_eq_wrap]
 refine seg_bind_wrap (wpAny_standAt ?_)
 refine seg_bind_wrap (wpAny_onRaise (Ba h (λr s1 h1=>?_) λ_ _ x=>x.elim))
 cases r with
 |none=>exact h1
 |some v=>
  refine seg_bind_wrap (Ba h1 (λ_ s2 h2=>?_) λ_ _ x=>x.elim)
  refine seg_bind_wrap (Ba h2 (λ_ s3 h3=>?_) λ_ _ x=>x.elim)
  rw[Sem.bind_eq_wrap',Sem.wrap_wrap]
  rw[Sem.wrap_congr (execs body env) _ _ (K':=λf=>match f with
      | .next| .cont=>.pure (.again (.forLoop target it body orelse env))
      | .brk=>.pure (.done .next)
      | .ret v=>.pure (.done (.ret v))) (H':=(λe=>(do noteFrame e env;theTreesLotGoes e:Sem Unit).wrap (λ_=>.raise e) .raise id id))
    (λf=>by cases f<;>rfl)
    (λe=>by first|exact Sem.bind_eq_wrap _ _|(show(do noteFrame e env;theTreesLotGoes e:Sem Unit).bind (λ_=>.raise e)=_;rw[Sem.bind_eq_wrap]))]
  exact h3
noncomputable def Ma (env:Env) (K:Flow->Sem Fin) (H:Value->Sem Fin) (gd:Bool->Bool) (lv:List Value->List Value) (c:Code) (p:Pos):Frame:=
 .ret (λr=>((match r with| .ok f=>(.pure f:Sem Flow)| .error e=>.raise e).onRaise λ(x:Value)=>do
    if(<-field x 1)==Value.none then unsupported "frame.own-activation:exception-without-traceback"
    setFlight x env.frame).wrap K H gd lv) none (gd false) (lv []) c p []
theorem aU {M:Model}{A:Around}{R:GenEnd}{Y:Protocol}{n:Nat}{s₀:Shared}{c:Code}{fs:List Frame}{s:Shared}{env:Env}{K:Flow->Sem Fin}{H:Value->Sem Fin}{gd:Bool->Bool}{lv:List Value->List Value}
  {target iter:Expr}{body orelse:List Stmt}{pos:Pos}
  (h:wpAny M (A.over c fs) (eval iter env) (λx s1=>wpAny M (A.over c fs) (pyIter x) (λit s2=>∀p,Seg M A R Y n s₀ (.forLoop target it body orelse env) (M.den (.forLoop target it body orelse env)) (Ma env K H gd lv c p::fs) s2) (λ_ _=>False) s1) (λ_ _=>False) s)
  (hs:∀x,foldedSetIterable iter env x=pure x):Seg M A R Y n s₀ c ((exec (.For target iter body orelse pos) env).wrap K H gd lv) fs s:=by
 rw[exec_For]
 refine seg_bind_wrap (wpAny_standAt ?_)
 refine seg_bind_wrap (Ba h (λx s1 h1=>?_) λ_ _ x=>x.elim)
 refine seg_bind_wrap (wpAny_of_eq (hs x) ?_)
 refine seg_bind_wrap (wpAny_standAt ?_)
 refine seg_bind_wrap (wpAny_holding (Ba h1 (λit s2 h2=>?_) λ_ _ x=>x.elim))
 exact seg_call h2
theorem Rz {M:Model}{A:Around}{R:GenEnd}{Y:Protocol}{n:Nat}{s₀:Shared}{c:Code}{fs:List Frame}{s:Shared}{env:Env}{K:Flow->Sem Fin}{H:Value->Sem Fin}{gd:Bool->Bool}{lv:List Value->List Value}
  {test:Expr}{body orelse:List Stmt}{pos:Pos}
  (h:wpAny M (A.over c fs) (isTrue test env (eval test env)) (λb s1=>Seg M A R Y n s₀ c ((if b=true then execs body env else execs orelse env).wrap K H gd lv) fs s1) (λ_ _=>False) s):
  Seg M A R Y n s₀ c ((exec (.If test body orelse pos) env).wrap K H gd lv) fs s:=by
 rw[exec_If]
 refine seg_bind_wrap (wpAny_standAt ?_)
 exact seg_bind_wrap (Ba h (λb s1 h1=>h1) λ_ _ x=>x.elim)
end
end
section
open Sem (wp)
noncomputable abbrev eQ (pp:Nat->Pos):Expr:=.Tuple [.Name (ofString "pos") (pp 7),.Name (ofString "ch") (pp 8)] 0 (pp 9)
noncomputable abbrev Wm (pp:Nat->Pos):List Stmt:=[.If (.Name (ofString "escape") (pp 35)) [.Expr (.Yield (some (.Tuple [.Name (ofString "pos") (pp 13),.BinOp (.Constant (.str (ofString "\\")) 0 (pp 14)) .Add (.Name (ofString "ch") (pp 15)) (pp 16)] 0 (pp 17))) (pp 18)) (pp 19),.Assign [.Name (ofString "escape") (pp 21)] (.Constant (.bool false) 0 (pp 20)) (pp 22)] [.If (.Compare (.Name (ofString "ch") (pp 31)) [.Eq] [.Constant (.str (ofString "\\")) 0 (pp 32)] (pp 33)) [.Assign [.Name (ofString "escape") (pp 24)] (.Constant (.bool true) 0 (pp 23)) (pp 25)] [.Expr (.Yield (some (.Tuple [.Name (ofString "pos") (pp 26),.Name (ofString "ch") (pp 27)] 0 (pp 28))) (pp 29)) (pp 30)] (pp 34)] (pp 36)]
noncomputable def Uj (pp:Nat->Pos):List Stmt:=[.Assign [.Name (ofString "pos") (pp 2)] (.Constant (.int 0) 0 (pp 1)) (pp 3),.Assign [.Name (ofString "escape") (pp 5)] (.Constant (.bool false) 0 (pp 4)) (pp 6),.For (eQ pp) (.Call (.Name (ofString "enumerate") (pp 10)) [.Name (ofString "addr") (pp 11)] [] (pp 12)) (Wm pp) [] (pp 44),.If (.Name (ofString "escape") (pp 42)) [.Expr (.Yield (some (.Tuple [.Name (ofString "pos") (pp 37),.Constant (.str (ofString "\\")) 0 (pp 38)] 0 (pp 39))) (pp 40)) (pp 41)] [] (pp 43)]
noncomputable abbrev GF (env:Env):Prop:=(env.scope.kind=.function)/\(env.scope.isCoroutine=false)/\(env.kindOf (ofString "addr")=some .local)/\(env.kindOf (ofString "pos")=some .local)/\(env.kindOf (ofString "escape")=some .local)/\(env.kindOf (ofString "ch")=some .local)
section
variable {env:Env}(zs:GF env)
noncomputable abbrev GF.kind:=zs.1
noncomputable abbrev GF.co:=zs.2.1
noncomputable abbrev GF.ka:=zs.2.2.1
noncomputable abbrev GF.kp:=zs.2.2.2.1
noncomputable abbrev GF.ke:=zs.2.2.2.2.1
noncomputable abbrev GF.kc:=zs.2.2.2.2.2
end
noncomputable def Fl (X:Addr->Prop) (s₀ s:Shared):Prop:=∃h' tk,s={s₀ with heap:=h',toks:=tk}/\0<tk/\∀b o,¬X b->s₀.heap.get? b=some o->h'.get? b=some o
theorem Fl.refl (X:Addr->Prop){s:Shared}(h:0<s.toks):Fl X s s:=⟨s.heap,s.toks,rfl,h,λ_ _ _ e=>e⟩
theorem Fl.step {X:Addr->Prop}{s₀ s:Shared}(g:Fl X s₀ s){h':Heap}{tk:Nat}(ht:0<tk)(k:∀b o,¬X b->s.heap.get? b=some o->h'.get? b=some o):Fl X s₀ {s with heap:=h',toks:=tk}:=by
 refine Ag g λh₁ t₁ Z _ k₁=>?_
 try clear g
 subst Z
 exact⟨h',tk,rfl,ht,λb o hb e=>k b o hb (k₁ b o hb e)⟩
noncomputable def X3 (L it e:Addr):Addr->Prop:=λb=>b=L\/b=it\/b=e
structure J (it e:Addr)(L:Addr)(x:Str)(t:Tok)(i:Nat)(b:Bool)(s:Shared):Prop where
 en:∃old,IsEnum s.heap e it i old
 st:s.heap.IsStrIter it (strIterType x) x t i
 ns:∃m p tp,s.heap.Ns L m/\m (ofString "escape")=some (.bool b)/\m (ofString "pos")=some (.int p tp)/\(b=true->p=(i:Int)-1)
noncomputable abbrev Je (it e:Addr) (L:Addr) (i:Nat) (b:Bool) (s:Shared):Prop:=(∃o,s.heap.get? e=some o)/\(∃o,s.heap.get? it=some o)/\(∃m p tp,s.heap.Ns L m/\m (ofString "escape")=some (.bool b)/\m (ofString "pos")=some (.int p tp)/\(b=true->p=(i:Int)-1))
section
variable {it e:Addr}{L:Addr}{i:Nat}{b:Bool}{s:Shared}(zs:Je it e L i b s)
noncomputable abbrev Je.en:=zs.1
noncomputable abbrev Je.st:=zs.2.1
noncomputable abbrev Je.ns:=zs.2.2
end
structure eN (L it e:Addr):Prop where
 a4:L≠it
 a5:L≠e
 a6:it≠e
theorem J.keep {it e L:Addr}{x:Str}{t:Tok}{i:Nat}{b:Bool}{s s':Shared}(j:J it e L x t i b s)(k:∀b o,X3 L it e b->s.heap.get? b=some o->s'.heap.get? b=some o):J it e L x t i b s' where
 en:=by refine Ad j.en λold h=>?_;exact⟨old,k _ _ (.inr (.inr rfl)) h⟩
 st:=by refine Ab j.st λo h r=>?_;exact⟨o,k _ _ (.inr (.inl rfl)) h,r⟩
 ns:=by refine Ce j.ns λm p tp Z q=>?_;refine Ce Z λo es ep ho r=>?_;clear Z;exact⟨m,p,tp,⟨o,es,ep,k _ _ (.inl rfl) ho,r⟩,q⟩
theorem J.live {it e L:Addr}{x:Str}{t:Tok}{i:Nat}{b:Bool}{s:Shared}(j:J it e L x t i b s):∀a,X3 L it e a->∃o,s.heap.get? a=some o:=λa h=>by
 rcases h with rfl|rfl|rfl
 ·refine Ce j.ns λm p tp Z q=>?_
  refine Ce Z λo es ep ho r=>?_
  clear Z;exact⟨o,ho⟩
 ·refine Ab j.st λo h _=>?_;exact⟨o,h⟩
 ·refine Ad j.en λold h=>?_;exact⟨_,h⟩
theorem Je.live {it e L:Addr}{i:Nat}{b:Bool}{s:Shared}(j:Je it e L i b s):∀a,X3 L it e a->∃o,s.heap.get? a=some o:=λa h=>by
 rcases h with rfl|rfl|rfl
 ·refine Ce j.ns λm p tp Z q=>?_
  refine Ce Z λo es ep ho r=>?_
  clear Z;exact⟨o,ho⟩
 ·exact j.st
 ·exact j.en
noncomputable def yP (X:Addr->Prop) (all:List (Int×List Nat)):Protocol:=λn s₀ v s kap=>
 Fl X s₀ s/\(∃tup q u z,v=.ref tup/\s.heap.get? tup=some {cls:=.type "tuple",data:=.seq #[.int q.1 u,.str ⟨q.2.toArray⟩ z]}/\s₀.heap.get? tup=none/\¬X tup/\∃Bp rest,all=Bp++q::rest/\rest.length=n)/\
 (∀b,X b->∃o,s.heap.get? b=some o)/\∀s'':Shared,0<s''.toks->(∀b o,X b->s.heap.get? b=some o->s''.heap.get? b=some o)->kap (.send .none) s''
noncomputable def rP (X:Addr->Prop):GenEnd:=λn s₀ r s₁=>r=.ok (.ret .none)/\(n=0/\Fl X s₀ s₁)
section
variable {prog:Program}{w:World}{A:Around}{E:Value->Shared->Prop}{s:Shared}{env:Env}
theorem Sl {e1 e2:Expr}{p:Pos}{Q:Value->Shared->Prop}(h1:wpAny (model prog w) A (eval e1 env) (λv s1=>wpAny (model prog w) A (eval e2 env) (λv' s2=>
  Q (.ref s2.heap.objs.size) {s2 with heap:=s2.heap.push {cls:=.type "tuple",data:=.seq #[v,v']}}) E s1) E s)
  (a1:starEach [e1,e2] env=(false,eval e1 env)::starEach [e2] env)(a2:starEach [e2] env=(false,eval e2 env)::starEach [] env):
  wpAny (model prog w) A (eval (.Tuple [e1,e2] 0 p) env) Q E s:=
 wpAny_Tuple (wpAny_items_cons (Ba h1 (λv s1 h=>wpAny_items_cons (Ba h (λv' s2 h=>wpAny_items_nil ⟨by show 2<=sizeLine;decide,h⟩) λ_ _ x=>x) a2) λ_ _ x=>x) a1)
theorem Fg (H:env.scope.kind=.function){x:String}{p:Pos}{m:Str->Option Value}{v:Value}{Q:Value->Shared->Prop}(hk:env.kindOf (ofString x)=some .local)(hn:s.heap.Ns env.locals m)(hv:m (ofString x)=some v)(h:Q v s)
  (hd:autoParam ((ofString x==("__debug__":Str))=false) PyProof.Rows.glB_builtin._auto_3):wpAny (model prog w) A (eval (.Name (ofString x) p) env) Q E s:=
 wpAny_Name (wpAny_loadName_local H hk hn hv h) hd
theorem Og {X:Addr->Prop}{all:List (Int×List Nat)}{n:Nat}{s₀:Shared}{q:Int×List Nat}{u z:Tok}{kap:Resume->Shared->Prop}(g:Fl X s₀ s)(hX:∀b,X b->∃o,s.heap.get? b=some o)(hq:∃Bp rest,all=Bp++q::rest/\rest.length=n)
  (hk:∀s'':Shared,0<s''.toks->(∀b o,X b->s.heap.get? b=some o->s''.heap.get? b=some o)->kap (.send .none) s''):
  yP X all n s₀ (.ref s.heap.objs.size) {s with heap:=s.heap.push {cls:=.type "tuple",data:=.seq #[.int q.1 u,.str ⟨q.2.toArray⟩ z]}} kap:=by
 have fr:s.heap.get? s.heap.objs.size=none:=Heap.get?_none_of_le (le_refl _)
 have nX:¬X s.heap.objs.size:=λh=>by refine Ad (hX _ h) λo ho=>?_;rw[fr]at ho;cases ho
 refine⟨g.step (tk:=s.toks) (by refine Ag g λh' tk Z ht _=>?_;try clear g;subst Z;exact ht) λb o _ e=>Ft _ e,⟨_,q,u,z,rfl,Heap.get?_push_size _ rfl,?_,nX,hq⟩,λb hb=>(by refine Ad (hX b hb) λo ho=>?_;exact⟨o,Ft _ ho⟩),λs'' ht k=>hk s'' ht λb o hb e=>k b o hb (Ft _ e)⟩
 refine Ag g λh' tk Y _ k=>?_
 try clear g
 subst Y
 cases e:s₀.heap.get? h'.objs.size with
 |none=>rfl
 |some o=>exact absurd (k _ _ nX e) (by rw[show h'.get? h'.objs.size=none from fr];exact λh=>nomatch h)
theorem Wp {α:Type}{t:Sem α}{Q:α->Shared->Prop}(ht:0<s.toks)(h:wpAny (model prog w) A t (λa s'=>0<s'.toks->Q a s') E s):wpAny (model prog w) A t Q E s:=
 Ba (Ax h) (λa s' h2_=>by refine Ae h2_ λh1 h2=>?_;try clear h2_;exact h1 (lt_of_lt_of_le ht h2)) λ_ _ x=>x
end
end
section
open Sem (wp)
section
variable {prog:Program}{w:World}{A:Around}{E:Value->Shared->Prop}{s:Shared}{env:Env}
theorem aV (N:GF env)(hh:A.handled=none){pp:Nat->Pos}{p:Pos}{it e:Addr}(ap:eN env.locals it e){xs:List Nat}{t:Tok}{all:List (Int×List Nat)}{K:Flow->Sem Fin}{H:Value->Sem Fin}{c:Code}
  (hend:∀(b:Bool) (s₀ s:Shared),(∃Bp,all=Bp++A3 xs.length b [])->Je it e env.locals xs.length b s->Fl (X3 env.locals it e) s₀ s->
   Seg (model prog w) A (rP (X3 env.locals it e)) (yP (X3 env.locals it e) all) (A3 xs.length b []).length s₀ c (K .next) [] s)
  (hsz:xs.length+3<=sizeLine):∀(r:List Nat) (i:Nat) (b:Bool) (s₀ s:Shared),xs.drop i=r->i<=xs.length->(∃Bp,all=Bp++A3 i b r)->J it e env.locals ⟨xs.toArray⟩ t i b s->Fl (X3 env.locals it e) s₀ s->
   Seg (model prog w) A (rP (X3 env.locals it e)) (yP (X3 env.locals it e) all) (A3 i b r).length s₀ (.forLoop (eQ pp) (.ref e) (Wm pp) [] env)
    ((model prog w).den (.forLoop (eQ pp) (.ref e) (Wm pp) [] env)) [Ma env K H id id c p] s:=by
 have hh':∀c',(A.over c' [Ma env K H id id c p]).handled=none:=λ_=>hh
 have hp:(env.scope.kind== .class||(env.scope.kind== .module&&env.locals != env.globals))=false:=by rw[N.kind];rfl
 intro r
 induction r with
 |nil=>
  intro i b s₀ s hdr hi hsuf j g
  have hil:i=xs.length:=by
   have:=congrArg List.length hdr
   simp at this;exact le_antisymm (Aq hi) (Aq (Bk (Cv (xs.length) (i)) (Bt this)))
  subst hil
  refine Ad j.en λold he=>?_
  refine Kp (Jv (hh' _) he j.st (by simp) λh' hx hl=>?_)
  refine seg_again rfl ?_
  show Seg _ _ _ _ _ _ _ (leafOf (.ok .next)) _ _
  refine seg_leaf (.ok .next) ?_
  have k:∀b o,¬X3 env.locals it e b->s.heap.get? b=some o->h'.get? b=some o:=λb o hb e'=>hx b o (λq=>hb (.inr (.inl q))) e'
  have ht:0<s.toks:=by refine Ag g λ_ tk Y ht _=>?_;try clear g;subst Y;exact ht
  refine hend b s₀ _ hsuf ⟨⟨_,hx _ _ ap.a6.symm he⟩,hl,?_⟩ (g.step (tk:=s.toks) ht k)
  refine Ce j.ns λm q tq Z rest=>?_
  refine Ce Z λo es ep ho r=>?_
  clear Z
  exact⟨m,q,tq,⟨o,es,ep,hx _ _ ap.a4 ho,r⟩,rest⟩
 |cons ch r ih=>
  intro i b s₀ s hdr hi hsuf j g
  have hlt:i<xs.length:=by
   have:=congrArg List.length hdr
   simp at this;exact Aq (Bk (Bt (sub_add_cancel (Aq hi:i<=xs.length))) (Bt this.symm))
  have hdr':xs.drop (i+1)=r:=by rw[<-List.tail_drop,hdr];rfl
  have hget:xs[i]? =some ch:=by
   have:(xs.drop i)[0]? =some ch:=by rw[hdr];rfl
   rw[List.getElem?_drop]at this;simpa using this
  refine Ad j.en λold he=>?_
  refine Dm j.ns λm q tq hn hesc hpos hq=>?_
  refine Kp (wpAny_pyNext_enum_itemD (Zh (by exact hh) it ⟨xs.toArray⟩ t) he j.st (by simpa using hlt) (Ne.symm ap.a6) (by simp;exact Ne.symm ap.a6) λv h₁ tk hv heo hst₁ ht₁ hz₁ hk₁=>?_)
  refine A1 hv λc' u hc' V=>?_
  try clear hv
  subst V
  have:c'=ch:=by
   have:xs[i]? =some c':=by simpa using hc'
   rw[hget]at this;cases this;rfl
  subst this
  refine wpAny_letOwnedTupleGo_enum heo λh₂ he₂ hs₂=>?_
  replace hs₂:Heap.SameBut e h₁ h₂:=hs₂
  have heH:e<s.heap.objs.size:=Heap.lt_size he
  have hLH:env.locals<s.heap.objs.size:=hn.lt
  have hiH:it<s.heap.objs.size:=by refine Ab j.st λ_ ho _=>?_;exact Heap.lt_size ho
  have ht₂:h₂.IsTuple s.heap.objs.size #[.int i tk,.str ⟨#[c']⟩ u]:=⟨_,(hs₂.2 _ (ne_of_gt heH)).trans ht₁,rfl,_,rfl⟩
  have hz₂:h₂.objs.size=s.heap.objs.size+1:=hs₂.1.trans hz₁
  refine wpAny_assign_Tuple (hh' _) ht₂ rfl rfl λh₃ hx₃=>?_
  replace hx₃:Heap.ExtBut h₂.objs.size h₂ h₃:=hx₃
  have old₃:∀b o,b<s.heap.objs.size->h₂.get? b=some o->h₃.get? b=some o:=λb o hb x=>hx₃ b o (by rw[hz₂];exact ne_of_lt (lt_succ_of_lt hb)) x
  have hn₃:h₃.Ns env.locals m:=(hn.at λo x=>hk₁ _ o ap.a5 ap.a4 x).sameBut hs₂ ap.a5 |>.at λo x=>old₃ _ o hLH x
  show wpAny _ _ (do holding [Value.str ⟨#[c']⟩ u] (assign (.Name (ofString "pos") (pp 7)) env (.int i tk));do holding [] (assign (.Name (ofString "ch") (pp 8)) env (.str ⟨#[c']⟩ u));pure ()) _ _ _
  refine Ai (wpAny_holding (wpAny_assign_Name (wpAny_storeName_local N.kp hn₃ (λh₄ hn₄ hs₄=>?_) hp)))
  replace hs₄:Heap.SameBut env.locals h₃ h₄:=hs₄
  refine Ai (wpAny_holding (wpAny_assign_Name (wpAny_storeName_local N.kc hn₄ (λh₅ hn₅ hs₅=>Be ?_) hp)))
  replace hs₅:Heap.SameBut env.locals h₄ h₅:=hs₅
  have up:∀b o,b≠env.locals->b<s.heap.objs.size->h₂.get? b=some o->h₅.get? b=some o:=λb o hbL hb x=>
   hs₅.extBut b o hbL (hs₄.extBut b o hbL (old₃ b o hb x))
  have g₅:∀tk',0<tk'->Fl (X3 env.locals it e) s₀ {s with heap:=h₅,toks:=tk'}:=λtk' ht=>g.step ht λb o hb x=>by
   have h1:b≠env.locals:=λz=>hb (.inl z)
   have h2:b≠it:=λz=>hb (.inr (.inl z))
   have h3:b≠e:=λz=>hb (.inr (.inr z))
   exact up b o h1 (Heap.lt_size x) (hs₂.extBut b o h3 (hk₁ b o h3 h2 x))
  have mk:∀(s':Shared) (b':Bool) m',s'.heap.Ns env.locals m'->(∀a o,a≠env.locals->h₅.get? a=some o->s'.heap.get? a=some o)->m' (ofString "escape")=some (.bool b')->m' (ofString "pos")=some (.int i tk)->
    J it e env.locals ⟨xs.toArray⟩ t (i+1) b' s':=λs' b' m' hn' k' he' hp'=>
   ⟨⟨.str ⟨#[c']⟩ u,by
     have e1:((i+1:Nat):Int)=(i:Int)+1:=by push_cast;rfl
     rw[e1];exact k' e _ (Ne.symm ap.a5) (up e _ (Ne.symm ap.a5) heH he₂)⟩,
    (by refine Ab hst₁ λo ho r=>?_;try clear hst₁;exact⟨o,k' it o (Ne.symm ap.a4) (up it o (Ne.symm ap.a4) hiH (hs₂.extBut it o ap.a6 ho)),r⟩),
    ⟨m',i,tk,hn',he',hp',λ_=>by push_cast;exact(rF _).symm⟩⟩
  have e1:¬ofString "escape"=ofString "ch":=λz=>absurd (Bg z) (by decide)
  have e2:¬ofString "escape"=ofString "pos":=λz=>absurd (Bg z) (by decide)
  have e3:¬ofString "pos"=ofString "ch":=λz=>absurd (Bg z) (by decide)
  have e4:¬ofString "pos"=ofString "escape":=λz=>absurd (Bg z) (by decide)
  change Seg _ _ _ _ _ _ _ _ _ ({s with heap:=h₅,toks:=tk+1+1+1}:Shared)
  refine seg_execs_cons (Rz (wpAny_isTrue_value (Fg N.kind N.ke hn₅ (v:=.bool b) ((Ay e1).trans ((Ay e2).trans hesc)) (wpAny_truthy_bool ?_)) rfl))
  have hbs:∀z:Nat,ofString "\\"++(⟨#[z]⟩:Str)=⟨[92,z].toArray⟩:=λz=>by
   rw[Fq,show cs "\\"=[92]by decide];exact Hb [92] [z]
  have tk0:∀{a:Nat},0<a+1:=succ_pos _
  cases b with
  |true=>
   rw[Bc rfl]
   have ee:A3 i true (c'::r)=((i:Int),[92,c'])::A3 (i+1) false r:=rfl
   rw[ee]at hsuf⊢
   rw[G8]
   refine Ad hsuf λpr hpr=>?_
   try clear hsuf
   refine seg_execs_cons (seg_Expr_Yield rfl rfl rfl (Sl (Fg N.kind N.kp hn₅ (v:=.int i tk) ((Ay e3).trans (Bc rfl)) (wpAny_BinOp (wpAny_Constant_str (Fg N.kind N.kc (by exact hn₅) (v:=.str ⟨#[c']⟩ u) (Bc rfl) (Wp tk0 (add_str (λt' tk' ht'=>?_) (by rw[Fq,show cs "\\"=[92]by decide];show 1+1<=sizeLine;decide))))))) rfl rfl) N.co (by first|rfl|(rw[interactive,N.kind];rfl)))
   intro kap hkap
   rw[hbs]
   have J5:=mk {s with heap:=h₅,toks:=tk'} true _ hn₅ (λ_ _ _ x=>x) ((Ay e1).trans ((Ay e2).trans hesc)) ((Ay e3).trans (Bc rfl))
   refine Og (q:=((i:Int),[92,c'])) (g₅ _ ht') (J5.live) ⟨pr,_,hpr,rfl⟩ λs'' ht'' k''=>hkap .none s'' ?_
   refine Dm ((J5.keep k'').ns) λm'' q'' tq'' hn'' he'' hp'' _=>?_
   have j'':=J5.keep k''
   show Seg _ _ _ _ _ _ _ ((execs [_] env).wrap _ _ _ _) _ _
   refine seg_execs_cons (seg_wrap (wpAny_Assign_Name (wpAny_Constant_bool (wpAny_storeName_local N.ke hn'' (λh₆ hn₆ hs₆=>?_) hp)) rfl))
   replace hs₆:Heap.SameBut env.locals s''.heap h₆:=hs₆
   refine seg_again rfl (ih (i+1) false s'' _ hdr' hlt ⟨pr++[((i:Int),[92,c'])],by rw[hpr,C4];rfl⟩ ?_ ((Fl.refl _ ht'').step (succ_pos _) λb o hb x=>hs₆.extBut b o (λz=>hb (.inl z)) x))
   exact{en:=(by refine Ad j''.en λold h=>?_;exact⟨old,hs₆.extBut _ _ (Ne.symm ap.a5) h⟩),st:=(by refine Ab j''.st λo h r=>?_;exact⟨o,hs₆.extBut _ _ (Ne.symm ap.a4) h,r⟩),ns:=⟨_,q'',tq'',hn₆,Bc rfl,(Ay e4).trans hp'',λh=>nomatch h⟩}
  |false=>
   rw[Ay Bool.false_ne_true]
   refine seg_execs_cons (Rz (wpAny_isTrue_Compare1 (Fg N.kind N.kc (by exact hn₅) (v:=.str ⟨#[c']⟩ u) (Bc rfl) (wpAny_Constant_str (eq_str (wpAny_truthy_bool ?_)))) rfl))
   have hcmp:((⟨#[c']⟩:Str)==ofString "\\")=decide (c'=92):=by
    rw[Fq,show cs "\\"=[92]by decide]
    have:=S8 [c'] [92]
    rw[show(⟨#[c']⟩:Str)=⟨[c'].toArray⟩from rfl,this]
    by_cases h:c'=92<;>simp[h]
   rw[hcmp]
   change Seg _ _ _ _ _ _ _ _ _ ({s with heap:=h₅,toks:=tk+1+1+1+1}:Shared)
   by_cases h92:c'=92
   ·rw[Bc (decide_eq_true h92)]
    have ee:A3 i false (c'::r)=A3 (i+1) true r:=(Ay Bool.false_ne_true).trans (Bc h92)
    rw[ee]at hsuf⊢
    refine seg_execs_cons (seg_wrap (wpAny_Assign_Name (wpAny_Constant_bool (wpAny_storeName_local N.ke hn₅ (λh₆ hn₆ hs₆=>?_) hp)) rfl))
    replace hs₆:Heap.SameBut env.locals h₅ h₆:=hs₆
    refine seg_again rfl (ih (i+1) true s₀ _ hdr' hlt hsuf (mk _ true _ hn₆ (λa o ha x=>hs₆.extBut a o ha x) (Bc rfl) ((Ay e4).trans ((Ay e3).trans (Bc rfl)))) ?_)
    exact(g₅ (tk+1+1+1+1) (succ_pos _)).step (succ_pos _) λb o hb x=>hs₆.extBut b o (λz=>hb (.inl z)) x
   ·rw[Ay (λh=>h92 (of_decide_eq_true h))]
    have ee:A3 i false (c'::r)=((i:Int),[c'])::A3 (i+1) false r:=(Ay Bool.false_ne_true).trans (Ay h92)
    rw[ee]at hsuf⊢
    rw[G8]
    refine Ad hsuf λpr hpr=>?_
    try clear hsuf
    refine seg_execs_cons (seg_Expr_Yield rfl rfl rfl (Sl (Fg N.kind N.kp hn₅ (v:=.int i tk) ((Ay e3).trans (Bc rfl)) (Fg N.kind N.kc (by exact hn₅) (v:=.str ⟨#[c']⟩ u) (Bc rfl) ?_)) rfl rfl) N.co (by first|rfl|(rw[interactive,N.kind];rfl)))
    intro kap hkap
    have J5:=mk {s with heap:=h₅,toks:=tk+1+1+1+1} false _ hn₅ (λ_ _ _ x=>x) ((Ay e1).trans ((Ay e2).trans hesc)) ((Ay e3).trans (Bc rfl))
    refine Og (q:=((i:Int),[c'])) (g₅ _ tk0) (J5.live) ⟨pr,_,hpr,rfl⟩ λs'' ht'' k''=>hkap .none s'' ?_
    have j'':=J5.keep k''
    exact seg_again rfl (ih (i+1) false s'' _ hdr' hlt ⟨pr++[((i:Int),[c'])],by rw[hpr,C4];rfl⟩ j'' (Fl.refl _ ht''))
end
end
section
open Sem (wp)
section
variable {α β γ δ:Type}{Γ:W}{K:Cj}{A:Around}{env:Env}{G G₀ G':Gh}{ι ι':List Addr}{σ:St}{s s':Shared}
theorem W4 (ok:Γ.Ok)(N:GF env)(hkn:env.kindOf (ofString "enumerate")=some .globalImplicit)(hgl:env.globals=mainGlobals)(hbu:env.builtins=builtinsNs)(hn0:Γ.mg (ofString "enumerate")=none)(hv0:Γ.mb (ofString "enumerate")=some (.type "enumerate"))
  (hh:A.handled=none){pp:Nat->Pos}{xs:List Nat}{t:Tok}{m:Str->Option Value}
  (hsz:xs.length+3<=sizeLine)(hB:∀b o,Γ.B.get? b=some o->s.heap.get? b=some o)(hBL:Γ.B.get? env.locals=none)(ht:0<s.toks)(hn:s.heap.Ns env.locals m)(hm:m (ofString "addr")=some (.str ⟨xs.toArray⟩ t)):
  Seg (model Γ.prog Γ.w) A (rP (X3 env.locals s.heap.objs.size (s.heap.objs.size+1))) (yP (X3 env.locals s.heap.objs.size (s.heap.objs.size+1)) (A3 0 false xs)) (A3 0 false xs).length s
   (.func (Uj pp) env)
   ((model Γ.prog Γ.w).den (.func (Uj pp) env)) [] s:=by
 have hp:(env.scope.kind== .class||(env.scope.kind== .module&&env.locals != env.globals))=false:=by rw[N.kind];rfl
 have e4:(ofString "pos"=ofString "escape")=False:=eq_false λz=>absurd (Bg z) (by decide)
 have e6:(ofString "addr"=ofString "escape")=False:=eq_false λz=>absurd (Bg z) (by decide)
 have e7:(ofString "addr"=ofString "pos")=False:=eq_false λz=>absurd (Bg z) (by decide)
 have hLl:env.locals<s.heap.objs.size:=hn.lt
 have ap:eN env.locals s.heap.objs.size (s.heap.objs.size+1):=⟨ne_of_lt hLl,ne_of_lt (lt_succ_of_lt hLl),ne_of_lt (lt_succ_self _)⟩
 generalize hX:X3 env.locals s.heap.objs.size (s.heap.objs.size+1)=X
 have XL:X env.locals:=by rw[<-hX];exact .inl rfl
 refine seg_func ?_
 unfold Uj
 refine seg_execs_cons (seg_wrap (wpAny_Assign_Name (wpAny_Constant_int (wpAny_storeName_local N.kp hn (λh₁ hn₁ hs₁=>?_) hp)) rfl))
 replace hs₁:Heap.SameBut env.locals s.heap h₁:=hs₁
 refine seg_execs_cons (seg_wrap (wpAny_Assign_Name (wpAny_Constant_bool (wpAny_storeName_local N.ke hn₁ (λh₂ hn₂ hs₂=>?_) hp)) rfl))
 replace hs₂:Heap.SameBut env.locals h₁ h₂:=hs₂
 change Seg _ _ _ _ _ _ _ _ _ ({s with heap:=h₂,toks:=s.toks+1+1+1}:Shared)
 have g₂:Fl X s ({s with heap:=h₂,toks:=s.toks+1+1+1}:Shared):=(Fl.refl X ht).step (succ_pos _) λb o hb x=>by
  have hbL:b≠env.locals:=λz=>hb (z▸XL)
  exact hs₂.extBut b o hbL (hs₁.extBut b o hbL x)
 have hsize:h₂.objs.size=s.heap.objs.size:=hs₂.1.trans hs₁.1
 have hB₂:∀b o,Γ.B.get? b=some o->b≠env.locals->h₂.get? b=some o:=λb o x hbL=>hs₂.extBut b o hbL (hs₁.extBut b o hbL (hB b o x))
 have hB₃:∀b o,Γ.B.get? b=some o->h₂.get? b=some o:=λb o x=>hB₂ b o x λz=>by rw[z,hBL]at x;cases x
 refine seg_execs_cons (aU (wpAny_Call_NameR (Calls.Name_function_global N.kind hkn (Calls.loadGlobal_builtin (by rw[hgl];exact ok.g.keeps hB₃) hn0 (by rw[hbu];exact ok.b.keeps hB₃) hv0
  (PyProof.Rows.callWith_type (Jw rfl rfl) (Hs rfl (wpAny_items_cons (Fg N.kind N.ka hn₂ (v:=.str ⟨xs.toArray⟩ t) (by simp only[e6,e7,if_false];exact hm) (wpAny_items_nil (call_enumerate_str λh₃ he₃ hit₃ hsz₃ hk₃=>wpAny_pyIter_enum he₃ λp=>?_))) rfl)))) (by decide))) (λ_=>rfl))
 change h₃.objs.size=h₂.objs.size+2 at hsz₃
 change IsEnum h₃ (h₂.objs.size+1) h₂.objs.size 0 .none at he₃
 change h₃.IsStrIter h₂.objs.size _ _ _ _ at hit₃
 rw[hsize]at he₃ hit₃
 change Seg _ _ _ _ _ _ (Code.forLoop _ (.ref (h₂.objs.size+1)) _ _ _) ((model Γ.prog Γ.w).den (Code.forLoop _ (.ref (h₂.objs.size+1)) _ _ _)) _ ({s with heap:=h₃,toks:=s.toks+1+1+1}:Shared)
 rw[hsize]
 have g₃:Fl X s ({s with heap:=h₃,toks:=s.toks+1+1+1}:Shared):=g₂.step (succ_pos _) λb o _ x=>hk₃ b o x
 have ns₃:h₃.Ns env.locals _:=hn₂.keeps hk₃
 subst hX
 refine aV N hh ap (λb s₀ s₁ hsuf je gr=>?_) hsz xs 0 false s _ rfl (zero_le _) ⟨[],rfl⟩ ⟨⟨_,he₃⟩,hit₃,⟨_,0,s.toks,ns₃,by simp only[if_true],by simp only[e4,if_false,if_true],λh=>nomatch h⟩⟩ g₃
 refine Dm je.ns λm₁ q tq hn₁' hesc hpos hq=>?_
 show Seg _ _ _ _ _ _ _ ((execs [_] env).wrap _ _ _ _) _ _
 refine seg_execs_cons (Rz (wpAny_isTrue_value (Fg N.kind N.ke hn₁' (v:=.bool b) hesc (wpAny_truthy_bool ?_)) rfl))
 cases b with
 |true=>
  rw[Bc rfl]
  have ee:A3 xs.length true []=[((xs.length:Int)-1,[92])]:=rfl
  rw[ee]at hsuf⊢
  refine Ad hsuf λpr hpr=>?_
  try clear hsuf
  have hq':=hq rfl
  subst hq'
  have hbs:ofString "\\"=⟨[92].toArray⟩:=by rw[Fq,show cs "\\"=[92]by decide]
  refine seg_execs_cons (seg_Expr_Yield rfl rfl rfl (Sl (Fg N.kind N.kp hn₁' (v:=.int ((xs.length:Int)-1) tq) hpos (wpAny_Constant_str ?_)) rfl rfl) N.co (by first|rfl|(delta interactive;simp[N.kind])))
  intro kap hkap
  rw[hbs]
  refine Og (s:={s₁ with toks:=s₁.toks+1}) (q:=((xs.length:Int)-1,[92])) (gr.step (succ_pos _) λ_ _ _ x=>x) je.live ⟨pr,[],hpr,rfl⟩ λs'' ht'' k''=>hkap .none s'' ?_
  exact seg_end (.ok (.ret .none)) ⟨rfl,rfl,Fl.refl _ ht''⟩
 |false=>
  rw[Ay Bool.false_ne_true]
  have ee:A3 xs.length false []=[]:=rfl
  rw[ee]
  exact seg_end (.ok (.ret .none)) ⟨rfl,rfl,gr⟩
end
end
section
open Sem (wp)
section
variable {α β γ δ:Type}{Γ:W}{K:Cj}{A:Around}{env:Env}{G G₀ G':Gh}{ι ι':List Addr}{σ:St}{s s':Shared}
theorem Aa.live (F:Aa Γ K env G ι σ s){a:Addr}(h:G a≠none\/a∈ι\/a∈Γ.tabs.map (·.2)\/Jm env a\/K.old a≠none):∃o,s.heap.get? a=some o:=by
 rcases h with h|h|h|h|h
 ·cases e:G a with
  |none=>exact absurd e h
  |some o=>exact⟨o,F.store.gin _ _ e⟩
 ·obtain⟨k,hk,e⟩:=List.getElem_of_mem h
  have e1:ι[k]? =some a:=by rw[Fz hk,e]
  have hk2:k<σ.own.length:=F.store.len▸hk
  obtain⟨vs,⟨o,ho⟩,_⟩:=F.store.at_ k a σ.own[k] e1 (Fz hk2)
  exact⟨_,ho⟩
 ·obtain⟨p,hp,rfl⟩:=G7.mp h
  obtain⟨_,_,ps,⟨_,t⟩,_⟩:=F.store.tabs p hp
  exact⟨_,t⟩
 ·rcases h with rfl|⟨x,hk,hl⟩
  ·obtain⟨m,⟨o,es,ep,ho,r⟩,_⟩:=F.ns;exact⟨o,ho⟩
  ·obtain⟨_,⟨v,o,ho,_⟩,_⟩:=F.cell x a hk hl;exact⟨o,ho⟩
 ·cases e:K.old a with
  |none=>exact absurd e h
  |some o=>exact⟨o,(F.far _ _ e).1⟩
theorem Gl (F:Aa Γ K env G ι σ s){X:Addr->Prop}(hX:∀a,X a->s.heap.get? a=none):Bv Γ K env G ι X:=λa xa=>by
 have h:=λq=>F.live (a:=a) q
 have no:∀{p:Prop},(p->∃o,s.heap.get? a=some o)->¬p:=λk hp=>by refine Ad (k hp) λo ho=>?_;rw[hX a xa]at ho;cases ho
 refine⟨Classical.byContradiction λq=>no (λq=>h (.inl q)) q,no λq=>h (.inr (.inl q)),no λq=>h (.inr (.inr (.inl q))),no λq=>h (.inr (.inr (.inr (.inl q)))),Classical.byContradiction λq=>no (λq=>h (.inr (.inr (.inr (.inr q))))) q⟩
theorem Oy (F:Aa Γ K env G ι σ s){X X₁:Addr->Prop}(hX:Bv Γ K env G ι X)(h:∀a,X₁ a->X a\/s.heap.get? a=none):Bv Γ K env G ι X₁:=λa xa=>by
 rcases h a xa with x|x
 ·exact hX a x
 ·exact Gl F (X:=λb=>s.heap.get? b=none) (λ_ e=>e) a x
theorem Aa.ext2 (F:Aa Γ K env G ι σ s){h':Heap}{t:Nat}{g:Array GenState}{dr:Drawn}
  (k:∀a o,(G a=some o\/a∈ι\/a∈Γ.tabs.map (·.2)\/Jm env a\/K.old a=some o)->s.heap.get? a=some o->h'.get? a=some o)(hg:A4 K.gens g)(ht:0<t):Aa Γ K env G ι σ ⟨h',g,dr,t,s.os⟩:=by
 have F1:Aa Γ K env G ι σ ⟨h',s.gens,dr,t,s.os⟩:=F.ext (ht:=ht) k
 exact⟨F1.store,F1.ns,F1.loc,F1.away,F1.cell,F1.freeIn,F1.far,F1.os,hg,F1.tk⟩
theorem O4 {X:Addr->Prop}(hX:Bv Γ K env G ι X){a:Addr}{o:Obj}(h:G a=some o\/a∈ι\/a∈Γ.tabs.map (·.2)\/Jm env a\/K.old a=some o):¬X a:=λx=>by
 refine B6 (hX a x) λy1 y2 y3 y4 y5=>?_
 rcases h with h|h|h|h|h
 ·rw[y1]at h;cases h
 ·exact y2 h
 ·exact y3 h
 ·exact y4 h
 ·rw[y5]at h;cases h
theorem Aa.putPriv (ok:Γ.Ok)(F:Aa Γ K env G ι σ s){a:Addr}{o:Obj}(hp:Bv Γ K env G ι (λb=>b=a))(ho:s.heap.get? a=some o):G.le (G.put a o)/\Aa Γ K env (G.put a o) ι σ s:=by
 refine B6 (hp a rfl) λy1 y2 y3 y4 y5=>?_
 have le:=Gh.put_le (o:=o) y1
 refine⟨le,F.freeze ok le (λb p e=>?_) (λb hb=>?_) λx c hk hl z hz hr=>?_⟩
 ·unfold Gh.put at e
  split at e
  ·rename_i h;subst h;cases e;exact ho
  ·exact F.store.gin _ _ e
 ·have ne:b≠a:=by
   rintro rfl
   rcases hb with h|h|h|h
   ·exact y2 h
   ·exact y3 h
   ·exact y4 (.inl h)
   ·exact h y5
  rw[Gh.put_ne ne]
  rcases hb with h|h|h|h
  ·exact F.store.fresh b h
  ·refine Ab (G7.mp h) λp hp Z=>?_
   subst Z;exact(F.store.tabs p hp).1
  ·rw[h];exact F.loc
  ·cases e:K.old b with
   |none=>exact absurd e h
   |some o=>exact(F.far b o e).2.1
 ·have q:=(F.cell x c hk hl).2.2.2 z hz hr
  have ne:c≠a:=λe=>y4 (.inr ⟨x,hk,by rw[<-e];exact hl⟩)
  exact⟨by rw[Gh.put_ne ne];exact q.1,q.2⟩
theorem A4.set {g0 g1:Array GenState}(h:A4 g0 g1){g:Nat}{x:GenState}(hg:g0.size<=g)(hb:x.bare=true):A4 g0 (g1.setIfInBounds g x):=by
 refine⟨by simpa using h.1,λi hi=>?_,λi y hi e=>?_⟩
 ·rw[Array.getElem?_setIfInBounds_ne (by exact ne_of_gt (Aq (Bk hi hg)))];exact h.2.1 i hi
 ·by_cases q:g=i
  ·subst q
   rw[Array.getElem?_setIfInBounds]at e
   simp only[if_true]at e
   split at e
   ·cases e;exact hb
   ·cases e
  ·rw[Array.getElem?_setIfInBounds_ne q]at e;exact h.2.2 i y hi e
theorem A4.push {g0 g1:Array GenState}(h:A4 g0 g1){x:GenState}(hb:x.bare=true):A4 g0 (g1.push x):=by
 refine⟨by have:=h.1;simp;exact Aq this,λi hi=>?_,λi y hi e=>?_⟩
 ·rw[Array.getElem?_push,Ay (by have:=h.1;exact ne_of_lt (Aq (Bk hi this)))];exact h.2.1 i hi
 ·rw[Array.getElem?_push]at e
  split at e
  ·cases e;exact hb
  ·exact h.2.2 i y hi e
noncomputable def bZ (Γ:W) (A:Around) (ga:Addr) (g:Nat) (all:List (Int×List Nat)):Gh->List Addr->List D->(Addr->Prop)->Shared->Prop:=λ_ _ r X s=>
 ∃rest pr,all=pr++rest/\r=rest.map Fh/\s.heap.IsGen ga g/\X ga/\(∀a,X a->∃o,s.heap.get? a=some o)/\∃gs,s.gens[g]? =some gs/\
  ∀s'':Shared,0<s''.toks->(∀b o,X b->s.heap.get? b=some o->s''.heap.get? b=some o)->(∀b o,Γ.B.get? b=some o->s''.heap.get? b=some o)->
   ∃X₁:Addr->Prop,(∀b,X b->b=ga\/X₁ b)/\¬X₁ ga/\(∀b,X₁ b->X b\/s''.heap.get? b=none)/\gs.Goes (model Γ.prog Γ.w) A.in1 (rP X₁) (yP X₁ all) rest.length (.send .none) s''
theorem H5 {h h':Heap}{a:Addr}{g:Nat}(x:h.IsGen a g)(k:∀o,h.get? a=some o->h'.get? a=some o):h'.IsGen a g:=by refine Ce x λo nm qn ho r=>?_;try clear x;exact⟨o,nm,qn,k _ ho,r⟩
theorem T7 (ok:Γ.Ok)(hh:A.handled=none)(hroom:A.depth<recursionLimit){ga:Addr}{g n₀ gz:Nat}{all:List (Int×List Nat)}(hgz:gz<=g):Ji Γ A env n₀ gz (.ref ga) (λ_=>True) (bZ Γ A ga g all) where
 inn:=λh0_ a xa=>by refine Bz h0_ λ_ _ _ _ _ zz=>At zz λ_ hl _=>?_;try clear h0_;refine Ad (hl a xa) λo ho=>?_;rw[ho];exact Option.some_ne_none _
 keep:=λ{G G' ι ι' r X s s'} zp_ k gx _ _=>by
  refine Bz zp_ λrest pr e1 e2 hg zz=>At zz λxg hl Z=>?_
  try clear zp_
  refine Ab Z λgs hgs hgo=>?_
  clear Z
  refine⟨rest,pr,e1,e2,H5 hg λo=>k _ _ xg,xg,λa xa=>(by refine Ad (hl a xa) λo ho=>?_;exact⟨o,k _ _ xa ho⟩),gs,?_,λs'' ht k' kB=>hgo s'' ht (λb o xb e=>k' b o xb (k b o xb e)) kB⟩
  have hlt:g<s.gens.size:=by
   rcases Nat.lt_or_ge g s.gens.size with h|h
   ·exact h
   ·rw[Array.getElem?_eq_none h]at hgs;cases hgs
  rw[gx.2.1 g hlt];exact hgs
 item:=λ{K G ι σ s x r X} F hX hK _ zp_=>by
  refine Bz zp_ λrest pr e1 e2 hg zz=>At zz λxg hl Y=>?_
  try clear zp_
  refine Ab Y λgs hgs hgo=>?_
  clear Y
  cases rest with
  |nil=>cases e2
  |cons q rest=>
   rw[Gb]at e2
   injection e2 with e3 e4
   subst e3 e4
   have hB:∀b o,Γ.B.get? b=some o->s.heap.get? b=some o:=λb o e=>F.store.gin _ _ (F.store.base _ _ e)
   refine Do (hgo (s.setGen g .running) F.tk (λ_ _ _ e=>e) hB) λX₁ x1 x2 x3 hgo=>?_
   refine Np (P:=λn s₀ s₁=>n=0/\Fl X₁ s₀ s₁) hh (ok.nolimit.keeps hB) hroom hg hgs hgo (λv s₁ gs' hb hv=>?_) (λs₁ hp h' hk=>absurd hp.1 (by simp))
   refine Bn hv λV U hlive hcont=>?_
   try clear hv
   refine Ag V λh' tk z5 htk hk=>?_
   clear V
   subst z5
   refine Cm U λtup q' u z z6 htup hfr hnX z0=>?_
   clear U
   subst z6
   refine A1 z0 λpr' rest' hall hlen=>?_
   clear z0
   replace hk:∀b o,¬X₁ b->s.heap.get? b=some o->h'.get? b=some o:=hk
   replace hfr:s.heap.get? tup=none:=hfr
   replace htup:h'.get? tup=_:=htup
   have hp1:Bv Γ K env G ι X₁:=Oy F hX x3
   have hpt:Bv Γ K env G ι (λb=>b=tup):=Gl F λa e=>by rw[e];exact hfr
   have same:q'=q/\rest'=rest:=by
    have hl':rest'.length=rest.length:=by simpa using hlen
    have:=List.append_inj' (e1.symm.trans hall) (by simp[hl'])
    have h2:=this.2
    injection h2 with h3 h4
    exact⟨h3.symm,h4.symm⟩
   refine Ae same λz7 z8=>?_
   try clear same
   subst z7
   subst z8
   have hnga:tup≠ga:=λe=>by refine Ad (hl ga xg) λo ho=>?_;rw[<-e,hfr]at ho;cases ho
   have F1:Aa Γ K env G ι σ ⟨h',(s.gens.setIfInBounds g .running).setIfInBounds g gs',s.drawn,tk,s.os⟩:=F.ext2 (λa o hh e=>hk a o (O4 hp1 hh) e) ((F.gens.set (Ao hK hgz) rfl).set (Ao hK hgz) hb) htk
   refine Ae (F1.putPriv ok hpt htup) λle F2=>?_
   refine⟨.ref tup,G.put tup _,λb=>b=ga\/X₁ b,rfl,le,λa xa=>?_,F2,?_,rest',pr++[q'],by simp[e1],rfl,?_,.inl rfl,λa xa=>?_,gs',?_,λs'' ht k' kB=>⟨X₁,λb h=>h,x2,λb h=>.inl (.inr h),?_⟩⟩
   ·have hy:Bv Γ K env G ι (λb=>b=ga\/X₁ b):=λa h=>by
     rcases h with rfl|h
     ·exact hX _ xg
     ·exact hp1 a h
    refine Ae (hy a xa) λy1 y=>?_
    refine⟨?_,y⟩
    rw[Gh.put_ne λe=>?_]
    ·exact y1
    ·subst e
     rcases xa with h|h
     ·exact hnga h
     ·exact hnX h
   ·exact⟨tup,[_,_],rfl,⟨_,Gh.put_self _ _ _,rfl,_,rfl⟩,⟨_,_,rfl,⟨u,rfl⟩,_,_,rfl,⟨z,rfl⟩,rfl⟩⟩
   ·exact H5 hg λo e=>hk _ _ x2 e
   ·rcases xa with rfl|h
    ·refine Ad (hl _ xg) λo ho=>?_;exact⟨o,hk _ _ x2 ho⟩
    ·exact hlive a h
   ·exact setGen_self (s:=s.setGen g .running) (gs:=.running) (setGen_self hgs)
   ·exact hcont s'' ht λb o hb e=>k' b o (.inr hb) e
 done:=λ{K G ι σ s X} F hX hK _ zp_=>by
  refine Bz zp_ λrest pr e1 e2 hg zz=>At zz λxg hl z1=>?_
  try clear zp_
  refine Ab z1 λgs hgs hgo=>?_
  clear z1
  cases rest with
  |cons q rest=>cases e2
  |nil=>
   have hB:∀b o,Γ.B.get? b=some o->s.heap.get? b=some o:=λb o e=>F.store.gin _ _ (F.store.base _ _ e)
   refine Do (hgo (s.setGen g .running) F.tk (λ_ _ _ e=>e) hB) λX₁ x1 x2 x3 hgo=>?_
   refine Np (P:=λn s₀ s₁=>n=0/\Fl X₁ s₀ s₁) hh (ok.nolimit.keeps hB) hroom hg hgs hgo (λv s₁ gs' hb hv=>?_) (λs₁ hp h' hk=>⟨rfl,?_⟩)
   ·refine Bn hv λz2 _ _ hcont=>?_
    try clear hv
    refine Ag z2 λh' tk z9 htk hk=>?_
    clear z2
    subst z9
    exact False.elim (hcont {s with heap:=h',toks:=tk} htk λ_ _ _ e=>e)
   ·refine Ae hp λ_ z3=>?_
    try clear hp
    refine Ag z3 λh₁ tk y0 htk hk₁=>?_
    clear z3
    subst y0
    have hp1:Bv Γ K env G ι X₁:=Oy F hX x3
    exact F.ext2 (λa o hh e=>hk a o (hk₁ a o (O4 hp1 hh) e)) ((F.gens.set (Ao hK hgz) rfl).set (Ao hK hgz) rfl) htk
 own:=λh0_ tgt v Q q=>by refine Bz h0_ λ_ _ _ _ z4 _=>?_;try clear h0_;refine Dm z4 λo nm qn ho hc hd hs=>?_;clear z4;exact Eu ho hc hd (by decide) tgt v q
 self:=λh0_ Q q=>by refine Bz h0_ λ_ _ _ _ hg _=>?_;try clear h0_;exact wpAny_pyIter_gen hg q
end
end
section
open Sem (wp)
structure Jj (Γ:W)(a:Addr)(fd:FuncData):Prop where
 fn:∃pp:Nat->Pos,
  Fn Γ a fd ["addr"] (Uj pp)
 gen:fd.scope.isGenerator=true
 gf:∀L,GF (callEnvC fd L a)
 kn:∀L,(callEnvC fd L a).kindOf (ofString "enumerate")=some .globalImplicit
 hn:Γ.mg (ofString "enumerate")=none
 hv:Γ.mb (ofString "enumerate")=some (.type "enumerate")
section
variable {α β γ δ:Type}{Γ:W}{K:Cj}{A:Around}{env:Env}{G G₀ G':Gh}{ι ι':List Addr}{σ:St}{s s':Shared}
theorem cA (H:Ev Γ A env){a:Addr}{fd:FuncData}(N:Jj Γ a fd){xs:List Nat}{v:Value}(hsz:xs.length+3<=sizeLine)(F:Aa Γ K env G ι σ s)(r:A7 G ι (.str xs) v):
  wpAny (model Γ.prog Γ.w) A (call (.ref a) [v]) (λv' s'=>∃ga X,v'=.ref ga/\Aa Γ K env G ι σ s'/\Bv Γ K env G ι X/\(∀A':Around,A'.handled=none->bZ Γ A' ga s.gens.size (A3 0 false xs) G ι ((A3 0 false xs).map Fh) X s')/\s'.heap.IsGen ga s.gens.size) (λ_ _=>False) s:=by
 refine Ad N.fn λpp N1=>?_
 refine Ab N1.obj λo ho hd=>?_
 refine Ad r λt Z=>?_
 try clear r
 subst Z
 have hB:∀b o,Γ.B.get? b=some o->s.heap.get? b=some o:=λb o e=>F.store.gin _ _ (F.store.base _ _ e)
 have hr:A.depth<recursionLimit:=by have:=H.depth;exact Aq this
 refine wpAny_call (codeAny_call_generator hr (hB _ _ ho) hd N1.co N.gen N1.body (N1.code.keeps hB) ?_)
 rw[N1.clo]
 refine N1.bind _ rfl _ _ _ _ _ hB (Ba (Ax (E:=λ_ _=>False) (wpAny_newFunctionEnv_cells (Q:=λenv s'=>env=callEnvC fd s.heap.objs.size a/\InCallC s env.locals (bindL env.kindOf ((["addr"].map ofString).zip [Value.str ⟨xs.toArray⟩ t]) λ_=>none) env.cells (bindC env.kindOf ((["addr"].map ofString).zip [Value.str ⟨xs.toArray⟩ t]) λ_=>none) s') N1.kind (λx hx=>?_) λenv he s' x=>⟨he,x⟩)) (λenv₁ s₁ Y=>Ae Y λV hle=>Ae V λhe x=>?_) λ_ _ x=>x.elim)
 ·refine Ab (G7.mp (of_mem_zip (show(x.1,x.2)∈_ from hx)).1) λy hy e=>?_
  rcases N1.kinds y hy with h|⟨h,h'⟩
  ·exact .inl (e▸h)
  ·exact .inr ⟨e▸h,e▸h' _⟩
 subst he
 have keep:=x.toInCall.keep
 have hns:=x.toInCall.ns
 refine Jb x.toInCall.same λh tk U=>?_
 subst U
 have ht:0<tk:=lt_of_lt_of_le F.tk hle
 have hm:(bindL (callEnvC fd s.heap.objs.size a).kindOf ((["addr"].map ofString).zip [Value.str ⟨xs.toArray⟩ t]) λ_=>none) (ofString "addr")=some (.str ⟨xs.toArray⟩ t):=
  Oc (N.gf s.heap.objs.size).ka ["addr"] [.str ⟨xs.toArray⟩ t] _ N1.nodup rfl
 have hBL:Γ.B.get? s.heap.objs.size=none:=by
  cases e:Γ.B.get? s.heap.objs.size with
  |none=>rfl
  |some o=>exact absurd (Heap.lt_size (hB _ _ e)) (lt_irrefl _)
 refine⟨(H.ok.nolimit.keeps hB).keeps keep,?_⟩
 have hLg:s.heap.objs.size<h.objs.size:=hns.lt
 refine⟨h.objs.size,λb=>b=h.objs.size\/b=s.heap.objs.size,rfl,?_,?_,λA' hA'=>?_,⟨_,_,_,Heap.get?_push_size _ rfl,rfl,rfl,rfl⟩⟩
 ·exact F.ext2 (λb o _ e=>Ft _ (keep b o e)) (F.gens.push rfl) (lt_succ_of_lt (lt_succ_of_lt ht))
 ·refine Gl F λb hb=>?_
  rcases hb with rfl|rfl
  ·exact Heap.get?_none_of_le (le_of_lt hLg)
  ·exact Heap.get?_none_of_le (le_refl _)
 ·refine⟨A3 0 false xs,[],rfl,rfl,⟨_,_,_,Heap.get?_push_size _ rfl,rfl,rfl,rfl⟩,.inl rfl,λb hb=>?_,_,Array.getElem?_push_size ..,λs'' ht'' k' kB=>?_⟩
  ·rcases hb with rfl|rfl
   ·exact⟨_,Heap.get?_push_size _ rfl⟩
   ·refine Ce hns λo es ep ho r=>?_
    try clear hns;exact⟨o,Ft _ ho⟩
  ·have hns'':s''.heap.Ns s.heap.objs.size _:=Ce hns λo es ep ho r=>⟨o,es,ep,k' _ o (.inr rfl) (Ft _ ho),r⟩
   have hga'':h.objs.size<s''.heap.objs.size:=Heap.lt_size (k' _ _ (.inl rfl) (Heap.get?_push_size _ rfl))
   refine⟨X3 s.heap.objs.size s''.heap.objs.size (s''.heap.objs.size+1),λb hb=>hb.imp id .inl,λhx=>?_,λb hb=>?_,rfl,?_⟩
   ·rcases hx with h|h|h
    ·exact ne_of_gt hLg h
    ·exact ne_of_lt hga'' h
    ·exact ne_of_lt (lt_succ_of_lt hga'') h
   ·rcases hb with rfl|rfl|rfl
    ·exact .inl (.inr rfl)
    ·exact .inr (Heap.get?_none_of_le (le_refl _))
    ·exact .inr (Heap.get?_none_of_le (le_succ _))
   ·exact W4 (A:=A'.in1) H.ok (N.gf s.heap.objs.size) (N.kn _) N1.glob N1.bui N.hn N.hv hA' hsz kB hBL ht'' hns'' hm
theorem eH (H:Ev Γ A env){f:String}{a:Addr}{fd:FuncData}{e:Expr}{p pos:Pos}{T:St->(List D->St->Prop)->Prop}(N:Jj Γ a fd)(hk:env.kindOf (ofString f)=some .globalImplicit)(hv:Γ.mg (ofString f)=some (.ref a))
  (hd:(ofString f==("__debug__":Str))=false)(h:H8 Γ A env pos [e] T)(hs:starEach [e] env=(false,eval e env)::starEach [] env){Q:Value->Shared->Prop}{R:List Nat->St->Prop}(F:Aa Γ K env G ι σ s)
  (q:T σ λds σ=>∃xs,ds=[.str xs]/\xs.length+3<=sizeLine/\R xs σ)
  (k:∀xs G' ι' σ' s' ga X g,G.le G'->Bp ι ι'->R xs σ'->Aa Γ K env G' ι' σ' s'->Bv Γ K env G' ι' X->(∀A':Around,A'.handled=none->bZ Γ A' ga g (A3 0 false xs) G' ι' ((A3 0 false xs).map Fh) X s')->K.gens.size<=g->s'.heap.IsGen ga g->Q (.ref ga) s'):
  wpAny (model Γ.prog Γ.w) A (eval (.Call (.Name (ofString f) p) [e] [] pos) env) Q (λ_ _=>False) s:=by
 refine Ad N.fn λpp N1=>?_
 refine Ab N1.obj λo ho hdo=>?_
 refine wpAny_Call_NameR (Ba (Lu H hk hv hd K G ι σ s (λd σ'=>d=.raw (.ref a)/\T σ' λds σ=>∃xs,ds=[.str xs]/\xs.length+3<=sizeLine/\R xs σ) F ⟨rfl,q⟩) (λv s0 Z=>Cd Z λG0 ι0 d0 σ0 l0 p0 r0 F0 e0 q0=>?_) λ_ _ x=>x)
 subst e0;cases r0
 refine Calls.callWith_function (o:=o) (fd:=fd) (Hs hs (A8 h F0 q0 λG1 ι1 ds vs σ1 s1 l1 p1 r1 F1 q1=>⟨⟨F1.store.gin _ _ (F1.store.base _ _ ho),hdo⟩,?_⟩))
 refine Au q1 λxs Y hsz V=>?_
 try clear q1
 revert V
 intro q1
 subst Y
 refine Ag r1 λv w U rv e=>?_
 try clear r1
 subst U
 obtain rfl:=Az e
 exact Ba (cA H N hsz F1 rv) (λv' s' z0=>Bz z0 λga X e F' hX zz=>Ae zz λhP hG=>by
  subst e
  exact k xs G1 ι1 σ1 s' ga X _ (l0.trans l1) (p0.trans p1) q1 F' hX hP F1.gens.1 hG) λ_ _ x=>x
theorem Sz (H:Ev Γ A env){f:String}{a:Addr}{fd:FuncData}{e tgt:Expr}{b:List Stmt}{p pos fpos:Pos}{T:St->(List D->St->Prop)->Prop}{Ta:D->St->(St->Prop)->Prop}{Tb:TS}(N:Jj Γ a fd)(hk:env.kindOf (ofString f)=some .globalImplicit)(hv:Γ.mg (ofString f)=some (.ref a))
  (hd:(ofString f==("__debug__":Str))=false)(h:H8 Γ A env pos [e] T)(hs:starEach [e] env=(false,eval e env)::starEach [] env)(ha:Sx Γ A env tgt Ta)(hb:Rr Γ A env b Tb)(hs2:∀x,foldedSetIterable (.Call (.Name (ofString f) p) [e] [] pos) env x=pure x):
  Cs Γ A env (.For tgt (.Call (.Name (ofString f) p) [e] [] pos) b [] fpos) (λσ Q=>T σ λds σ1=>∃xs,ds=[.str xs]/\xs.length+3<=sizeLine/\Ed (λ_=>True) (λx σ Q=>Ta x σ λσ1=>Tb σ1 Q) σ1.own.length ((A3 0 false xs).map Fh) σ1 Q):=λK G ι σ s Q F q=>
 wpAny_For (eH H N hk hv hd h hs F q λxs G1 ι1 σ1 s1 ga X g l1 p1 q1 F1 hX hP hK hG=>by
  refine wpAny_pyIter_gen hG (codeAny_mono (Pa H (T7 H.ok H.handled (by have:=H.depth;exact Aq this) (le_refl g)) ha hb F1 hX hK (hP A H.handled) (le_refl _) (by rw[F1.store.len];exact q1)) λr s' h=>?_)
  cases r with
  |ok f=>exact h.up l1 p1
  |error e=>exact h.elim) hs2
end
end
section
open Sem (wp)
section
variable {α β γ δ:Type}{Γ:W}{K:Cj}{A:Around}{env:Env}{G G₀ G':Gh}{ι ι':List Addr}{σ:St}{s s':Shared}
theorem W2 {α:Type}{l:List α}{k:Nat}{x:α}(h:l[k]? =some x):l.set k x=l:=by
 apply List.ext_getElem?
 intro i
 by_cases e:k=i
 ·subst e
  have:=(H7.mp h).1
  rw[List.getElem?_set_self this,h]
 ·rw[List.getElem?_set_ne e]
theorem cG {n₀ gz:Nat}{it res:Value}{P:Gh->List Addr->List D->(Addr->Prop)->Shared->Prop}(I:Ji Γ A.in1 env n₀ gz it (λ_=>True) P){k:Nat}{S:Addr}(hn:ι.length<=n₀)(hk:ι[k]? =some S)(hK:K.gens.size<=gz):
  ∀(r acc:List D) {G:Gh} {σ:St} {s:Shared} {X:Addr->Prop},Aa Γ K env G ι σ s->Bv Γ K env G ι X->P G ι r X s->σ.own[k]? =some acc->acc.length+r.length<=sizeLine->
   codeAny (model Γ.prog Γ.w) A (.builtin "list.extend.loop" ⟨[.ref S,it,res],[]⟩) (λrr s'=>rr=.ok (.ret res)/\∃G',G.le G'/\Aa Γ K env G' ι {σ with own:=σ.own.set k (acc++r)} s') s:=by
 intro r
 induction r with
 |nil=>
  intro acc G σ s X F hX hP ha hz
  refine codeAny_builtin PySem.F.entry_extend_loop ?_
  rw[Around.under_plainId PySem.F.plain_extend_loop _]
  show wpAny _ A.in1 (pyNext it>>=_) _ _ s
  refine Ai (Ba (I.done F hX hK trivial hP) (λres' s' V=>Ae V λe F'=>?_) λ_ _ x=>x.elim)
  subst e
  exact Be ⟨rfl,G,Gh.le.refl _,by rw[Pv,W2 ha];exact F'⟩
 |cons x r ih=>
  intro acc G σ s X F hX hP ha hz
  refine codeAny_builtin PySem.F.entry_extend_loop ?_
  rw[Around.under_plainId PySem.F.plain_extend_loop _]
  show wpAny _ A.in1 (pyNext it>>=_) _ _ s
  refine Ai (Ba (I.item F hX hK trivial hP) (λres' s' U=>Gv U λv G2 X2 e l2 hX2 F2 rx P2=>?_) λ_ _ x=>x.elim)
  subst e
  refine Ab (F2.store.at_ k S acc hk ha) λvs Z rl=>?_
  refine Ad Z λn ho=>?_
  clear Z
  have hlen:=rl.length
  rw[G8]at hz
  show wpAny _ A.in1 (updateSeq S (·.push v)>>=_) _ _ _
  refine Ai ?_
  refine wpAny_updateSeq ho rfl (Be ⟨plainId_quiet PySem.F.plain_extend_loop _,?_⟩) (by rw[size_toArray,hlen];exact Aq hz) (by show(vs.toArray.push v).size<=sizeLine+1;rw[Array.size_push,size_toArray,hlen];exact Aq hz)
  have hp:(s'.heap.update S (Obj.mapSeq (·.push v))).PlainList S (vs.toArray.push v):=by
   unfold Heap.PlainList
   rw[Heap.get?_update_self _ ho (by simp[Obj.mapSeq,Obj.isFreed])]
   exact⟨_,rfl⟩
  rw[show vs.toArray.push v=(vs++[v]).toArray by simp]at hp
  have F3:=F2.setOwn hk (rl.snoc rx) hp (Heap.SameBut.update ..) s'.toks F2.tk
  have hS:∀b,X2 b->b≠S:=λb hb e=>(hX2 b hb).2.1 (e▸List.mem_of_getElem? hk)
  have hlt:k<σ.own.length:=(H7.mp ha).1
  refine codeAny_mono (ih (acc++[x]) F3 hX2 (I.keep P2 (λb o hb e=>(Heap.get?_update_other _ _ (Ne.symm (hS b hb))).trans e) (A4.refl _) (Gh.le.refl _) λ_ _ h=>h) (by show(σ.own.set k (acc++[x]))[k]? =_;rw[List.getElem?_set_self hlt]) (by simp;exact Aq hz)) λrr s'' h=>?_
  refine Ae h λe Y=>?_
  try clear h
  refine Ab Y λG3 l3 F4=>?_
  clear Y
  refine⟨e,G3,l2.trans l3,?_⟩
  have:(σ.own.set k (acc++[x])).set k (acc++[x]++r)=σ.own.set k (acc++x::r):=by rw[List.set_set];simp
  rw[<-this];exact F4
theorem Rc (H:Ev Γ A env){ga:Addr}{g:Nat}{all:List (Int×List Nat)}{X:Addr->Prop}{Q:D->St->Prop}(F:Aa Γ K env G ι σ s)(hX:Bv Γ K env G ι X)(hP:∀A':Around,A'.handled=none->bZ Γ A' ga g all G ι (all.map Fh) X s)(hK:K.gens.size<=g)(hG:s.heap.IsGen ga g)(hz:all.length<=sizeLine)
  (q:Q (.obj σ.own.length) {σ with own:=σ.own++[all.map Fh]}):wpAny (model Γ.prog Γ.w) A (call (.type "list") [.ref ga]) (As Γ K env VR G ι Q) (λ_ _=>False) s:=by
 have I:=λA' (hA:A'.handled=none) (hd:A'.depth=A.depth)=>T7 (Γ:=Γ) (A:=A') (env:=env) (ga:=ga) (g:=g) (n₀:=(ι++[s.heap.objs.size]).length) (gz:=K.gens.size) (all:=all) H.ok hA (by have:=H.depth;exact Aq (Bk (Bt hd) this)) hK
 have hga:ga<s.heap.objs.size:=by refine Ce hG λo _ _ ho _=>?_;try clear hG;exact Heap.lt_size ho
 refine callType_codes (Q₁:=λobj s₁=>obj=.ref s.heap.objs.size/\s₁={s with heap:=s.heap.push {cls:=.type "list",data:=.seq #[]}}) PySem.F.called_list (PySem.F.typeCall_list_1 _) PySem.F.entry_list_init
  (code_list_new _ ⟨rfl,rfl⟩) λobj s₁ h₁=>?_
 refine Ae h₁ λY V=>?_
 try clear h₁
 subst Y
 subst V
 have hS:(s.heap.push {cls:=.type "list",data:=.seq #[]}).get? s.heap.objs.size=some {cls:=.type "list",data:=.seq #[]}:=Heap.get?_push_size _ rfl
 refine⟨⟨_,hS,rfl⟩,PySem.F.args_list_init_2 _ _,?_⟩
 have F1:=F.newOwn (ds:=[]) (vs:=[]) rfl 0 s.toks F.tk
 show wpAny _ A.in1.in1 (do let old<-Builtin.List.listItems (.ref s.heap.objs.size);Builtin.List.listUpdate (.ref s.heap.objs.size) (λ_=>#[]);letGo old.toList.reverse;Builtin.List.listExtendWith (.ref s.heap.objs.size) (.ref ga) .none) _ _ _
 refine Ai ?_
 unfold Builtin.List.listItems
 refine Ai (wpAny_seqItems hS rfl (Be ?_))
 show wpAny _ A.in1.in1 (updateSeq s.heap.objs.size (λ_=>#[])>>=λ_=>letGo (#[]:Array Value).toList.reverse>>=λ_=>Builtin.List.listExtendWith (.ref s.heap.objs.size) (.ref ga) .none) _ _ _
 refine Ai (wpAny_updateSeq hS rfl ?_)
 have hS₂:=Heap.get?_update_self (Obj.mapSeq (λ_=>(#[]:Array Value))) hS rfl
 refine Ai (wpAny_letGo ?_)
 have hne:s.heap.objs.size≠ga:=ne_of_gt hga
 have oth:∀b o,b≠s.heap.objs.size->s.heap.get? b=some o->(((s.heap.push {cls:=.type "list",data:=.seq #[]}).update s.heap.objs.size (Obj.mapSeq (λ_=>(#[]:Array Value))))).get? b=some o:=
  λb o hb e=>(Heap.get?_update_other _ _ (Ne.symm hb)).trans (Ft _ e)
 generalize hh:(s.heap.push {cls:=.type "list",data:=.seq #[]}).update s.heap.objs.size (Obj.mapSeq (λ_=>(#[]:Array Value)))=h₂ at hS₂ oth
 have hG₂:h₂.IsGen ga g:=H5 hG λo e=>oth _ o (Ne.symm hne) e
 have hT:∀h',h'.IsGen ga g->({s with heap:=h'}:Shared).TypeIs (.ref ga) "generator":=λh' x=>Heap.IsGen.typeIs (s:={s with heap:=h'}) x
 unfold Builtin.List.listExtendWith
 refine Ai (wpAny_typeOf (hT _ hG₂) ?_)
 have h1:Builtin.List.listSameRef (.ref s.heap.objs.size) (.ref ga)=false:=by simp[Builtin.List.listSameRef,hne]
 have h2:(Value.type "generator"==Value.type "list")=false:=by decide
 have h3:(Value.type "generator"==Value.type "tuple")=false:=by decide
 simp only[h1,h2,h3,Bool.or_false,Bool.false_eq_true,if_false]
 refine Ai (wpAny_pyIter_gen hG₂ ?_)
 refine Ai (wpAny_holding ?_)
 unfold Builtin.List.listLengthHint
 refine Ai (wpAny_specialOf (hT _ hG₂) PySem.F.gen_no_len ?_)
 show wpAny _ A.in1.in1 (specialOf (Value.ref ga) (ofString "__length_hint__")>>=_) _ _ _
 refine Ai (wpAny_specialOf (hT _ hG₂) PySem.F.gen_no_hint ?_)
 refine Be ?_
 show wpAny _ A.in1.in1 (rule "list.extend.makes-room">>=λ_=>Builtin.List.listTouch (.ref s.heap.objs.size)>>=λ_=>
  again (.builtin "list.extend.loop" ⟨[.ref s.heap.objs.size,.ref ga,.none],[]⟩)) _ _ _
 refine Ai (wpAny_rule ?_)
 refine Ai ?_
 show wpAny _ A.in1.in1 (updateSeq s.heap.objs.size (·.push .none)>>=λ_=>updateSeq s.heap.objs.size (·.pop)) _ _ _
 have hS₂':h₂.get? s.heap.objs.size=some {cls:=.type "list",dict:=none,data:=.seq #[] 0,slots:=#[]}:=by rw[hS₂];rfl
 refine Ai (wpAny_updateSeq hS₂' rfl ?_)
 have hS₃:=Heap.get?_update_self (Obj.mapSeq (·.push Value.none)) hS₂' rfl
 refine wpAny_updateSeq (hz:=by seq_fits) hS₃ rfl ?_
 have hS₄:=Heap.get?_update_self (Obj.mapSeq (·.pop)) hS₃ rfl
 have oth₄:∀b o,b≠s.heap.objs.size->s.heap.get? b=some o->((h₂.update s.heap.objs.size (Obj.mapSeq (·.push Value.none))).update s.heap.objs.size (Obj.mapSeq (·.pop))).get? b=some o:=
  λb o hb e=>(Heap.get?_update_other _ _ (Ne.symm hb)).trans ((Heap.get?_update_other _ _ (Ne.symm hb)).trans (oth b o hb e))
 have sm:Heap.SameBut s.heap.objs.size (s.heap.push {cls:=.type "list",data:=.seq #[]}) ((h₂.update s.heap.objs.size (Obj.mapSeq (·.push Value.none))).update s.heap.objs.size (Obj.mapSeq (·.pop))):=by
  rw[<-hh]
  exact((Heap.SameBut.update ..).trans (Heap.SameBut.update ..)).trans (Heap.SameBut.update ..)
 have hk:(ι++[s.heap.objs.size])[σ.own.length]? =some s.heap.objs.size:=by
  rw[<-F.store.len,V9 (le_refl _),sub_self];rfl
 have F2:=F1.setOwn (k:=σ.own.length) (ds':=[]) (vs':=[]) hk rfl (h':=(h₂.update s.heap.objs.size (Obj.mapSeq (·.push Value.none))).update s.heap.objs.size (Obj.mapSeq (·.pop))) ⟨_,hS₄⟩ sm s.toks F.tk
 have hX2:Bv Γ K env G (ι++[s.heap.objs.size]) X:=λa xa=>by
  refine At (hX a xa) λy1 y2 y3=>?_
  refine⟨y1,λhm=>?_,y3⟩
  rcases mem_append.mp hm with h|h
  ·exact y2 h
  ·rw[K2]at h
   obtain⟨o,ho⟩:∃o,s.heap.get? a=some o:=by refine Bz (hP A H.handled) λ_ _ _ _ _ zz=>At zz λ_ hl _=>?_;exact hl a xa
   exact absurd (Heap.lt_size ho) (by rw[h];exact lt_irrefl _)
 have hP2:=(I A.in1.in1 H.handled rfl).keep (s':={s with heap:=(h₂.update s.heap.objs.size (Obj.mapSeq (·.push Value.none))).update s.heap.objs.size (Obj.mapSeq (·.pop))}) (hP A.in1.in1 H.handled) (λb o hb e=>oth₄ b o (λh=>(hX2 b hb).2.1 (by rw[h];simp)) e) (A4.refl _) (Gh.le.refl G) (ι':=ι++[s.heap.objs.size]) (λκ _ h=>h.trans (Bp.append _ _))
 refine Be ⟨plainId_quiet PySem.F.plain_extend_loop _,codeAny_mono (cG (A:=A.in1) (I A.in1.in1 H.handled rfl) (le_refl _) hk (le_refl _) (all.map Fh) [] F2 hX2 hP2 (by show((σ.own++[[]]).set σ.own.length [])[σ.own.length]? =_;rw[Dj];exact Aw _ _) (by simpa using hz)) λrr s' h=>?_⟩
 refine Ae h λU Z=>?_
 try clear h
 subst U
 refine Ab Z λG' l F'=>?_
 clear Z
 refine⟨rfl,G',_,.obj σ.own.length,_,l,Bp.append ι _,⟨_,hk,rfl⟩,F',?_⟩
 show Q _ {σ with own:=((σ.own++[[]]).set σ.own.length []).set σ.own.length ([]++all.map Fh)}
 rw[Dj,Dj]
 exact q
end
end
section
open Sem (wp)
noncomputable def Bd (G:Gh) (cd:Value) (q:Str):Prop:=∃c o vs t,cd=.ref c/\G c=some o/\o.data=.fields vs/\vs[1]? =some (.str q t)
noncomputable def Mx (Γ:W) (A:Around) (G₀:Gh) (f:Value) (S:Mine.Internal.B3):Prop:=
 ∀G ι own s ds vs Q,G₀.le G->Cn Γ G ι own s.heap->Rl G ι ds vs->0<s.toks->S ds own Q->
  codeAny (model Γ.prog Γ.w) A (.call f ⟨vs,[]⟩) (λr s'=>∃v d G' ι' own',r=.ok (.ret v)/\Sv Γ G ι s G' ι' own' s'/\A7 G' ι' d v/\Q d own') s
theorem Mx.imp {Γ:W}{A:Around}{G₀:Gh}{f:Value}{S S':Mine.Internal.B3}(h:Mx Γ A G₀ f S)(k:∀ds own Q,S' ds own Q->S ds own Q):Mx Γ A G₀ f S':=
 λG ι own s ds vs Q l st r ht q=>h G ι own s ds vs Q l st r ht (k _ _ _ q)
structure dG (Γ:W)(G₀:Gh)(a:Addr)(fd:FuncData)(ps:List String)(fr:List (String×D)):Prop where
 obj:∃o,G₀ a=some o/\o.data=.func fd
 code:Bd G₀ fd.code fd.qualname
 glob:fd.globals=mainGlobals
 bui:fd.builtins=builtinsNs
 bind:∀vs:List Value,vs.length=ps.length->bindArgs fd ⟨vs,[]⟩=pure ((ps.map ofString).zip vs)
 kinds:∀p∈ps,fd.scope.names.lookup (ofString p)=some .local
 nodup:ps.Nodup
 nocell:∀x∈fd.scope.names,x.2≠ .cell
 free:∀x d,fr.lookup x=some d->fd.scope.names.lookup (ofString x)=some .free/\∃c o v,fd.closure.lookup (ofString x)=some c/\G₀ c=some o/\o.data=.cell (some v)/\A7 G₀ [] d v
 freeAll:∀x c,fd.closure.lookup x=some c->∃o,G₀ c=some o
 kind:fd.scope.kind=.function
 co:fd.scope.isCoroutine=false
 gen:fd.scope.isGenerator=false
noncomputable def Bw (fd:FuncData) (L a:Addr):Env:=newEnv fd.scope L fd.globals fd.closure (fd.qualname++".<locals>.") (some a) fd.code none fd.builtins
theorem Uz {x:String}{v:Value}:∀(ps:List String) (vs:List Value),ps.Nodup->(ps.zip vs).lookup x=some v->((ps.map ofString).zip vs).reverse.lookup (ofString x)=some v:=by
 intro ps
 induction ps with
 |nil=>exact λ_ _ e=>H1 e
 |cons p ps ih=>
  intro vs
  cases vs with
  |nil=>exact λ_ e=>H1 e
  |cons w vs=>
   intro nd e
   refine Ae (nodup_cons.mp nd) λn1 n2=>?_
   rw[Gb,zip_cons_cons,reverse_cons,List.lookup_append]
   rw[zip_cons_cons,lookup_cons]at e
   by_cases hx:x=p
   ·subst hx
    rw[beq_self_eq_true]at e;cases e
    have hno:((ps.map ofString).zip vs).reverse.lookup (ofString x)=none:=Gp λc hc=>by
     have:=of_mem_zip (mem_reverse.mp hc)
     exact Jz n1 this.1
    rw[hno];simp
   ·rw[show(x==p)=false by simp[hx]]at e
    rw[ih vs n2 e];rfl
section
variable {α β γ δ:Type}{Γ:W}{K:Cj}{A:Around}{env:Env}{G G₀ G':Gh}{ι ι':List Addr}{σ:St}{s s':Shared}
theorem L2 {y:String}{v:Value}:∀(l:List String) (m:List Value),(l.zip m).lookup y=some v->y∈l:=by
 intro l
 induction l with
 |nil=>exact λ_ h=>H1 h
 |cons p l ih=>
  intro m h
  cases m with
  |nil=>exact H1 h
  |cons w m=>
   rw[zip_cons_cons,lookup_cons]at h
   by_cases hp:y=p
   ·exact hp▸Ht
   ·rw[show(y==p)=false by simp[hp]]at h
    exact mem_cons_of_mem _ (ih m h)
theorem Y9 (ok:Γ.Ok){a:Addr}{fd:FuncData}{ps:List String}{fr:List (String×D)}(N:dG Γ G₀ a fd ps fr)(l:G₀.le G){own:List (List D)}{ds:List D}{vs:List Value}{h:Heap}{tk:Nat}(S:Cn Γ G ι own s.heap)(r:Rl G ι ds vs)(ht:0<tk)
  (hns:h.Ns s.heap.objs.size (λy=>((ps.map ofString).zip vs).reverse.lookup y))(keep:∀b o,s.heap.get? b=some o->h.get? b=some o):
  ∃K:Cj,K.os=s.os/\K.gens=s.gens/\(∀b o,s.heap.get? b=some o->G b=none->b∉ι->b∉Γ.tabs.map (·.2)->K.old b=some o)/\Aa Γ K (Bw fd s.heap.objs.size a) G ι ⟨ps.zip ds++fr,own,[]⟩ {s with heap:=h,toks:=tk}:=by
 classical
 refine⟨⟨s.os,s.gens,λb=>if G b=none/\b∉ι/\b∉Γ.tabs.map (·.2)then s.heap.get? b else none⟩,rfl,rfl,λb o e h1 h2 h3=>by dsimp only;rw[Bc ⟨h1,h2,h3⟩];exact e,?_⟩
 have nc:∀y,(Bw fd s.heap.objs.size a).kindOf y≠some .cell:=λy e=>N.nocell (y,.cell) (mem_of_lookup (show fd.scope.names.lookup y=some NameKind.cell from e)) rfl
 have isL:∀b,Jm (Bw fd s.heap.objs.size a) b->b=s.heap.objs.size:=λb hb=>by
  rcases hb with rfl|⟨y,hk,hl⟩
  ·rfl
  ·exact absurd hk (nc y)
 have ltG:∀b o,G b=some o->b<s.heap.objs.size:=λb o e=>Heap.lt_size (S.gin _ _ e)
 have GL:G s.heap.objs.size=none:=by
  cases e:G s.heap.objs.size with
  |none=>rfl
  |some o=>exact absurd (ltG _ o e) (lt_irrefl _)
 have ltT:∀b∈Γ.tabs.map (·.2),b<s.heap.objs.size:=λb hb=>by
  refine Ab (G7.mp hb) λp hp U=>?_
  subst U
  refine At (S.tabs p hp) λ_ _ Z=>?_
  refine Ab Z λps Y _=>?_
  clear Z
  refine Ae Y λ_ t=>?_
  clear Y
  exact Heap.lt_size t
 refine⟨S.ext λb o _ e=>keep b o e,⟨_,hns,λy d e=>?_⟩,GL,λb hb=>⟨λhm=>?_,λhm=>?_⟩,λy c hk hl=>absurd hk (nc y),λy c hk hl=>?_,λb o e=>?_,rfl,A4.refl _,ht⟩
 ·have e':(ps.zip ds++fr).lookup y=some d:=e
  rw[List.lookup_append]at e'
  cases e1:(ps.zip ds).lookup y with
  |some d'=>
   rw[e1]at e';cases e'
   refine Ab (r.zip e1) λv hv rv=>?_
   exact .inl ⟨N.kinds y (L2 _ _ hv),v,Uz ps vs N.nodup hv,rv⟩
  |none=>
   rw[e1]at e'
   refine Ae (N.free y d e') λhk V=>?_
   refine Dm V λc o v hc ho hd rv=>?_
   clear V
   exact .inr (.inr ⟨hk,c,o,v,hc,.inl (l _ _ ho),hd,rv.mono l λk a e=>(H1 e)⟩)
 ·rw[isL b hb]at hm;exact lt_irrefl _ (S.lt _ hm)
 ·rw[isL b hb]at hm;exact lt_irrefl _ (ltT _ hm)
 ·refine Ad (N.freeAll y c hl) λo e=>?_
  exact⟨o,.inl (l _ _ e)⟩
 ·dsimp only at e
  split at e
  ·rename_i hh
   exact⟨keep b o e,hh.1,hh.2.1,hh.2.2,ne_of_lt (Heap.lt_size e)⟩
  ·cases e
theorem Ua (ok:Γ.Ok){a:Addr}{fd:FuncData}{ps:List String}{fr:List (String×D)}(N:dG Γ G₀ a fd ps fr)(l:G₀.le G){own:List (List D)}{ds:List D}{vs:List Value}{R:Env->Shared->Prop}(S:Cn Γ G ι own s.heap)(r:Rl G ι ds vs)(htk:0<s.toks)(hl:ds.length=ps.length)
  (k:∀K s₁,K.os=s.os->K.gens=s.gens->(∀b o,s.heap.get? b=some o->G b=none->b∉ι->b∉Γ.tabs.map (·.2)->K.old b=some o)->Aa Γ K (Bw fd s.heap.objs.size a) G ι ⟨ps.zip ds++fr,own,[]⟩ s₁->s₁.heap.NoLimit->R (Bw fd s.heap.objs.size a) s₁):
  wpAny (model Γ.prog Γ.w) A.in1 (bindArgs fd ⟨vs,[]⟩) (λbinds s₁=>wpAny (model Γ.prog Γ.w) A.in1 (newFunctionEnv fd.scope fd.globals fd.closure binds (fd.qualname++".<locals>.") (some a) fd.code none fd.builtins) R (λ_ _=>False) s₁) (λ_ _=>False) s:=by
 have hB:∀b o,Γ.B.get? b=some o->s.heap.get? b=some o:=λb o e=>S.gin _ _ (S.base _ _ e)
 rw[N.bind vs (by rw[r.length,hl])]
 refine Be (wpAny_newFunctionEnv N.nocell (λx hx=>?_) (λh' hns hsb=>?_) N.kind)
 ·refine Ab (G7.mp (of_mem_zip (show(x.1,x.2)∈_ from hx)).1) λy hy e=>?_
  rw[<-e];exact N.kinds y hy
 ·have keep:∀b o,s.heap.get? b=some o->h'.get? b=some o:=λb o e=>hsb.extBut b o (ne_of_lt (Heap.lt_size e)) (Ft _ e)
  refine Do (Y9 (tk:=s.toks+((ps.map ofString).zip vs).length) ok N l S r (lt_of_lt_of_le htk (le_add_right _ _)) hns keep) λK k1 k2 k3 F=>?_
  exact k K _ k1 k2 k3 F ((ok.nolimit.keeps hB).keeps keep)
theorem dN {K:Cj}{env:Env}{G':Gh}{ι':List Addr}{σ':St}(k1:K.os=s.os)(k2:K.gens=s.gens)(k3:∀b o,s.heap.get? b=some o->G b=none->b∉ι->b∉Γ.tabs.map (·.2)->K.old b=some o)
  (le:G.le G')(pr:Bp ι ι')(F':Aa Γ K env G' ι' σ' s'):Sv Γ G ι s G' ι' σ'.own s':=
 ⟨le,pr,F'.store,λb o e h1 h2 h3=>(by refine Bn (F'.far b o (k3 b o e h1 h2 h3)) λf1 f2 f3 _=>?_;exact⟨f1,f2,f3⟩),F'.os.trans k1,k2▸F'.gens⟩
theorem gP (ok:Γ.Ok){a:Addr}{fd:FuncData}{ps:List String}{fr:List (String×D)}{body:Expr}{T:TT}(N:dG Γ G₀ a fd ps fr)(hb:fd.body=.expr body)(hr:A.depth<recursionLimit)
  (hT:∀L,Bl Γ (A.deeper (Bw fd L a)) (Bw fd L a) body T):Mx Γ A G₀ (.ref a) (λds own Q=>ds.length=ps.length/\T ⟨ps.zip ds++fr,own,[]⟩ λd σ=>Q d σ.own):=λG ι own s ds vs Q l S r htk Z=>Ae Z λhl q=>by
 refine Ab N.obj λo ho hd=>?_
 refine C3 N.code λc oc ws t hc hoc hdc hq=>?_
 refine kla_callFunE hr (S.gin _ _ (l _ _ ho)) hd N.co N.gen hb ⟨c,oc,ws,t,hc,S.gin _ _ (l _ _ hoc),hdc,hq⟩ ?_
 refine Ba (Ua ok N l S r htk hl λK s₁ k1 k2 k3 F hnl=>And.intro hnl (kla_codeExpr (Ba (hT _ K G ι _ s₁ _ F q) (λv s' h=>?_) λ_ _ x=>x.elim))) (λ_ _ h=>Ba h (λ_ _ h=>h) λ_ _ x=>x.elim) λ_ _ x=>x.elim
 refine Cm h λG' ι' d σ' le pr rf F' hq=>?_
 try clear h
 exact⟨v,d,G',ι',_,rfl,dN k1 k2 k3 le pr F',rf,hq⟩
theorem pK (ok:Γ.Ok){a:Addr}{fd:FuncData}{ps:List String}{fr:List (String×D)}{body:List Stmt}{T:TS}(N:dG Γ G₀ a fd ps fr)(hb:fd.body=.stmts body)(hr:A.depth<recursionLimit)
  (hT:∀L,Rr Γ (A.deeper (Bw fd L a)) (Bw fd L a) body T):Mx Γ A G₀ (.ref a) (λds own Q=>ds.length=ps.length/\T ⟨ps.zip ds++fr,own,[]⟩ λf σ=>match f with| .ret d=>Q d σ.own| .next=>Q .none σ.own|_=>False):=λG ι own s ds vs Q l S r htk Z=>Ae Z λhl q=>by
 refine Ab N.obj λo ho hd=>?_
 refine C3 N.code λc oc ws t hc hoc hdc hq=>?_
 refine codeAny_call_function hr (S.gin _ _ (l _ _ ho)) hd N.co N.gen hb ⟨c,oc,ws,t,hc,S.gin _ _ (l _ _ hoc),hdc,hq⟩ ?_
 refine Ba (Ua ok N l S r htk hl λK s₁ k1 k2 k3 F hnl=>And.intro hnl (codeAny_func (Ba (hT _ K G ι _ s₁ _ F q) (λf s' h=>?_) λ_ _ x=>x.elim))) (λ_ _ h=>Ba h (λ_ _ h=>h) λ_ _ x=>x.elim) λ_ _ x=>x.elim
 refine Cm h λG' ι' fd' σ' le pr rf F' hq=>?_
 try clear h
 have R:=dN k1 k2 k3 le pr F'
 cases fd' with
 |next=>cases rf;exact⟨_,.none,G',ι',_,rfl,R,rfl,hq⟩
 |brk=>exact hq.elim
 |cont=>exact hq.elim
 |ret d=>refine Ab rf λv Y rv=>?_;try clear rf;subst Y;exact⟨_,d,G',ι',_,rfl,R,rv,hq⟩
theorem Fj {f:Value}{S:Mine.Internal.B3}{ds:List D}{vs:List Value}{Q:D->St->Prop}(h:Mx Γ A G₀ f S)(l:G₀.le G)(F:Aa Γ K env G ι σ s)(r:Rl G ι ds vs)(q:S ds σ.own λd own'=>Q d {σ with own:=own'}):
  wpAny (model Γ.prog Γ.w) A (call f vs) (As Γ K env VR G ι Q) (λ_ _=>False) s:=
 Ba (Ax (wpAny_call (E:=λ_ _=>False) (Q:=λv s'=>∃d G' ι' own',Sv Γ G ι s G' ι' own' s'/\A7 G' ι' d v/\Q d {σ with own:=own'}) (codeAny_mono (h G ι σ.own s ds vs _ l F.store r F.tk q) λr s' Y=>Mc Y λv d G' ι' own' e R rv hq=>by
  subst e;exact⟨d,G',ι',own',R,rv,hq⟩))) (λv s' h2_=>by refine Ae h2_ λZ hle=>?_;try clear h2_;refine Ja Z λd G' ι' own' R rv hq=>?_;clear Z;exact(As.mk' (R:=VR) rv (F.after R (lt_of_lt_of_le F.tk hle)) hq).up R.le R.pr) λ_ _ x=>x
end
end
section
variable {α β γ δ:Type}{Γ:W}{K:Cj}{A:Around}{env:Env}{G G₀ G':Gh}{ι ι':List Addr}{σ:St}{s s':Shared}
theorem Yw {v:Value}{Q:Value->Shared->Prop}{E:Value->Shared->Prop}(h:wpAny (model Γ.prog Γ.w) A.in1 (pyIter v) Q E s):wpAny (model Γ.prog Γ.w) A (call (.builtin "iter") [v]) Q E s:=by
 refine call_function_entry (by decide +kernel) (by decide +kernel) kdk_entry_iter (kdk_args_iter _) ?_
 unfold Builtin.«iter»
 refine Ai (m:=someArgs "iter" 1 2 _) (wpAny_of_eq (a:=[v]) (by first|rfl|kernel_rfl!) ?_)
 show wpAny _ _ (pyIter v>>=_) _ _ _
 exact Ai (Ba h (λr s' q=>Be ⟨_,rfl,q⟩) λ_ _ x=>x)
theorem dH {b:List Stmt}:Rr Γ A env b (λ_ _=>False):=λK G ι σ s Q F q=>q.elim
theorem cW (H:Ev Γ A env){x g:String}{r:Addr}{p p1 p2:Pos}(hd:(ofString x==("__debug__":Str))=false)(hc:(ofString x==("__classdict__":Str))=false)(hk:env.kindOf (ofString g)=some .globalImplicit)(hv:Γ.mg (ofString g)=some (.ref r))
  (hd2:(ofString g==("__debug__":Str))=false)(hr:∃o,Γ.B.get? r=some o)(hm:behindInMarks .Is (.Name (ofString g) p2)=false):
  Wa Γ A env (.Compare (.Name (ofString x) p1) [.Is] [.Name (ofString g) p2] p) (λσ Q=>(∃k l,σ.get x=some (.obj k)/\σ.own[k]? =some l)/\tU false σ Q):=λK G ι σ s Q F V=>Ae V λU q=>A1 U λk l hx hl=>
 wpAny_isTrue_Compare1 (A8 (Bi H hd hc) F (Q:=λd σ'=>d=.obj k/\σ'.own[k]? =some l/\Q false σ') ⟨_,hx,rfl,hl,q⟩ λG1 ι1 a va σ1 s1 l1 p1 r1 F1 z0=>At z0 λea hl1 q1=>A8 (Lu H hk hv hd2) F1 (Q:=λd σ'=>d=.raw (.ref r)/\σ'.own[k]? =some l/\Q false σ') ⟨rfl,hl1,q1⟩ λG2 ι2 b vb σ2 s2 l2 p2 r2 F2 z1=>At z1 λeb hl2 q2=>by
  subst ea eb
  cases r2
  refine Ab (r1.mono l2 p2) λa ha z2=>?_
  subst z2
  refine Ad hr λo ho=>?_
  try clear hr
  refine Ad (F2.store.at_ k a l ha hl2) λvs Z=>?_
  refine Ae Z λY _=>?_
  clear Z
  refine Ad Y λoo hoo=>?_
  clear Y
  have ho2:=F2.store.gin _ _ (F2.store.base _ _ ho)
  have hne:a≠r:=λe=>by
   have:=F2.store.fresh a (List.mem_of_getElem? ha)
   rw[e,F2.store.base _ _ ho]at this;cases this
  exact kto_is hoo ho2 hne (show(Value.type "list")≠Value.type "tuple" by decide) (wpAny_truthy_bool ((As.mk' (R:=BR) rfl F2 q2).up (l1.trans l2) (p1.trans p2)))) hm
theorem iQ (H:Ev Γ A env){x:String}{e tgt:Expr}{st:Stmt}{b r:List Stmt}{p p1 p2 pos apos fp:Pos}{c:Bool}{T:St->(List D->St->Prop)->Prop}{T2:TS}{Ta:D->St->(St->Prop)->Prop}{Tb T4:TS}
  (hk:env.kindOf (ofString "iter")=some .globalImplicit)(hn:Γ.mg (ofString "iter")=none)(hv:Γ.mb (ofString "iter")=some (.builtin "iter"))
  (h:H8 Γ A env pos [e] T)(hs:starEach [e] env=(false,eval e env)::starEach [] env)(hx:Kd env x c)(hsw:swapsWith (.Call (.Name (ofString "iter") p) [e] [] pos) (some (.Name (ofString x) p1)) apos.line env=pure false)
  (h2:Cs Γ A env st T2)(ha:Sx Γ A env tgt Ta)(hb:Rr Γ A env b Tb)(h4:Rr Γ A env r T4)(hd1:(ofString x==("__debug__":Str))=false)(hd2:(ofString x==("__classdict__":Str))=false)
  (hs2:∀y,foldedSetIterable (.Name (ofString x) p2) env y=pure y):
  Rr Γ A env (.Assign [.Name (ofString x) p1] (.Call (.Name (ofString "iter") p) [e] [] pos) apos::st:: .For tgt (.Name (ofString x) p2) b [] fp::r)
   (λσ Q=>T σ λds σ1=>∃d,ds=[d]/\Kw d σ1 λitems C=>∀it,aP c x (.raw it) σ1 λσ2=>T2 σ2 λf σ3=>match f with
    | .next=>σ3.get x=some (.raw it)/\σ3.own.length<=σ1.own.length/\Ed C (λx σ Q=>Ta x σ λσ1=>Tb σ1 Q) σ1.own.length items σ3 (λf σ4=>match f with| .next=>T4 σ4 Q|f=>Q f σ4)
    |f=>Q f σ3):=λK G ι σ s Q F q=>by
 refine wpAny_execs_cons (wpAny_Assign_Name ?_ hsw)
 refine wpAny_Call_NameR (Ba (Fb H hk hn hv (by decide) K G ι σ s (λd σ'=>d=.raw (.builtin "iter")/\T σ' _) F ⟨rfl,q⟩) (λv s0 Z=>Cd Z λG0 ι0 d0 σ0 l0 p0 r0 F0 e0 q0=>?_) λ_ _ x=>x)
 subst e0;cases r0
 refine Calls.callWith_builtin (Jw hs rfl) (Hs hs (A8 h F0 q0 λG1 ι1 ds vs σ1 s1 l1 p1 r1 F1 q1=>?_))
 refine Ab q1 λd Y V=>?_
 try clear q1
 revert V
 intro q1
 subst Y
 refine Ag r1 λv w U rv e=>?_
 try clear r1
 subst U
 obtain rfl:=Az e
 refine Yw (Ba (Ow (A':=A.in1) H F1 rv q1) (λit s2 z0=>Cd z0 λX C P items I _ _ _ _ zz=>Bn zz λF2 X2 P2 q2=>?_) λ_ _ x=>x)
 have I':=I env K.gens.size H
 have hin:=I'.inn P2
 refine Ae (q2 it) λhro q3=>?_
 refine Jq H (hx.sto hro) (F2.cover X2) (d:=.raw it) rfl λs3 F3=>?_
 refine wpAny_execs_cons (A8 h2 F3 q3 λG4 ι4 f v4 σ4 s4 l4 p4 r4 F4 q4=>?_)
 refine Bn (F2.uncover X2 hin F4 l4) λF5 X5 k5 g5=>?_
 have lall:G.le G4:=(l0.trans l1).trans l4
 have pall:Bp ι ι4:=(p0.trans p1).trans p4
 cases f with
 |brk=>subst r4;exact(As.mk' (R:=FR) (b:=.brk) rfl F5 q4).up lall pall
 |cont=>subst r4;exact(As.mk' (R:=FR) (b:=.cont) rfl F5 q4).up lall pall
 |ret d=>refine Ab r4 λv z1 rr=>?_;try clear r4;subst z1;exact(As.mk' (R:=FR) (b:=.ret d) ⟨v,rfl,rr⟩ F5 q4).up lall pall
 |next=>
  subst r4
  refine At q4 λhget hlen q5=>?_
  try clear q4
  have P4:=I'.keep P2 k5 g5 l4 λκ hk hp=>hp.trans p4
  refine wpAny_execs_cons (Ba (Y8 H I' (λ{Q'} hQ=>wpAny_Name (D9 H F5 hget hd2 λv rv=>by cases rv;exact hQ) hd1) ha hb hs2 F5 X5 (le_refl _) P4 (by rw[F5.store.len,F1.store.len];exact hlen) (by rw[F1.store.len];exact q5)) (λf s' h=>?_) λ_ _ x=>x)
  refine Cm h λG6 ι6 f' σ6 l6 p6 r6 F6 q6=>?_
  try clear h
  have lall:=lall.trans l6
  have pall:=pall.trans p6
  cases f' with
  |brk=>subst r6;exact(As.mk' (R:=FR) (b:=.brk) rfl F6 q6).up lall pall
  |cont=>subst r6;exact(As.mk' (R:=FR) (b:=.cont) rfl F6 q6).up lall pall
  |ret d=>refine Ab r6 λv z2 rr=>?_;try clear r6;subst z2;exact(As.mk' (R:=FR) (b:=.ret d) ⟨v,rfl,rr⟩ F6 q6).up lall pall
  |next=>subst r6;exact Ba (h4 _ _ _ _ _ _ F6 q6) (λ_ _ h=>h.up lall pall) λ_ _ x=>x
end
theorem Mq {β:Type}(Q:β->St->Prop)(σ:St):ap Q σ=λb=>Q b σ:=rfl
theorem Gz {P:List Value->Prop}(h:∀x,P [x])(vs:List Value)(hv:vs.length=1):P vs:=by
 cases vs with
 |nil=>cases hv
 |cons x r=>cases r with
  |nil=>exact h x
  |cons y r=>cases hv
theorem Mn {P:List Value->Prop}(h:∀x y,P [x,y])(vs:List Value)(hv:vs.length=2):P vs:=by
 cases vs with
 |nil=>cases hv
 |cons x r=>exact Gz (P:=λr=>P (x::r)) (h x) r (Nat.succ.inj hv)
theorem Zt {P:List Value->Prop}(h:∀x y z,P [x,y,z])(vs:List Value)(hv:vs.length=3):P vs:=by
 cases vs with
 |nil=>cases hv
 |cons x r=>exact Mn (P:=λr=>P (x::r)) (h x) r (Nat.succ.inj hv)
theorem rG {P:D->Prop}{a:D}(h:P a):∃x,[a]=[x]/\P x:=⟨a,rfl,h⟩
theorem pG {P:Int->Prop}{a:Int}(h:P a):∃x,D.int a=.int x/\P x:=⟨a,rfl,h⟩
theorem sX {P:Int->Int->Prop}{a b:Int}(h:P a b):∃x y,[D.int a,.int b]=[.int x,.int y]/\P x y:=⟨a,b,rfl,h⟩
inductive A6 where
 |node (x:List Nat) (l:List A6)
mutual
noncomputable def Ah (own:List (List D)):A6->Nat->Prop
 | .node x l,k=>∃c ds,own[k]? =some [.str x,.obj c]/\own[c]? =some ds/\Tqa own l ds
noncomputable def Tqa (own:List (List D)):List A6->List D->Prop
 |[],ds=>ds=[]
 |t::l,ds=>∃k r,ds=.obj k::r/\Ah own t k/\Tqa own l r
end
noncomputable def Cc (p:Int×List Nat):D:=.tup [.int p.1,.str p.2]
noncomputable def B8 (n:Nat):D:=.int (n:Int)
theorem Aj {own own':List (List D)}(h:own<+:own'){k:Nat}{l:List D}(e:own[k]? =some l):own'[k]? =some l:=by
 refine Ad h λx h=>?_
 rw[<-h,Ro (H7.mp e).1];exact e
theorem Ah.mono {own own':List (List D)}(h:own<+:own')(t:A6):∀k,Ah own t k->Ah own' t k:=by
 induction t using A6.rec (motive_2:=λl=>∀ds,Tqa own l ds->Tqa own' l ds)with
 |node x l ih=>
  intro k hk
  unfold Ah at hk⊢
  exact Ag hk λc ds e1 e2 e3=>⟨c,ds,Aj h e1,Aj h e2,ih _ e3⟩
 |nil=>rename_i ds hd;unfold Tqa at hd⊢;exact hd
 |cons t l i1 i2=>
  rename_i ds hd
  unfold Tqa at hd⊢
  exact Ag hd λk r e1 e2 e3=>⟨k,r,e1,i1 _ e2,i2 _ e3⟩
noncomputable def NL (b:Nat) (K:Nat->List D):Nat->List (List Nat)->List (List D)
 |_,[]=>[]
 |i,x::r=>K i::[.str x,.obj (b+2*i)]::NL b K (i+1) r
theorem iJ (b:Nat)(K:Nat->List D):∀(l:List (List Nat)) (i:Nat),(NL b K i l).length=2*l.length:=by
 intro l
 induction l with
 |nil=>intro i;rfl
 |cons x r ih=>intro i;show(NL b K (i+1) r).length+1+1=_;rw[ih];rfl
theorem dC (b:Nat)(K:Nat->List D)(y:List Nat):∀(l:List (List Nat)) (i:Nat),NL b K i (l++[y])=NL b K i l++[K (i+l.length),[.str y,.obj (b+2*(i+l.length))]]:=by
 intro l
 induction l with
 |nil=>intro i;rfl
 |cons x r ih=>intro i;show K i::_::NL b K (i+1) (r++[y])=_;rw[ih,add_assoc,add_comm 1];rfl
theorem dE (b:Nat)(K:Nat->List D):∀(l:List (List Nat)) (i j:Nat),j<l.length->(NL b K i l)[2*j]? =some (K (i+j)):=by
 intro l
 induction l with
 |nil=>intro i j h;exact absurd h (Nat.not_lt_zero _)
 |cons x r ih=>
  intro i j h
  cases j with
  |zero=>rfl
  |succ j=>exact(ih (i+1) j (Nat.lt_of_succ_lt_succ h)).trans (by rw[add_assoc,add_comm 1])
theorem dD (b:Nat)(K:Nat->List D):∀(l:List (List Nat)) (i j:Nat) (x:List Nat),l[j]? =some x->(NL b K i l)[2*j+1]? =some [.str x,.obj (b+2*(i+j))]:=by
 intro l
 induction l with
 |nil=>intro i j x h;cases h
 |cons y r ih=>
  intro i j x h
  cases j with
  |zero=>cases h;rfl
  |succ j=>exact(ih (i+1) j x h).trans (by rw[add_assoc,add_comm 1])
noncomputable def Ie (K:Nat->List D) (j:Nat) (l:List D):Nat->List D:=λi=>if i=j then l else K i
theorem Wb (b:Nat)(K:Nat->List D)(j:Nat)(d:List D):∀(l:List (List Nat)) (i:Nat),j<i->NL b (Ie K j d) i l=NL b K i l:=by
 intro l
 induction l with
 |nil=>intro i _;rfl
 |cons x r ih=>
  intro i h
  show Ie K j d i::_::NL b (Ie K j d) (i+1) r=_
  rw[ih (i+1) (lt_succ_of_lt h),show Ie K j d i=K i from Ay (ne_of_gt h)];rfl
theorem iI (b:Nat)(K:Nat->List D)(d:List D):∀(l:List (List Nat)) (i j:Nat),j<l.length->(NL b K i l).set (2*j) d=NL b (Ie K (i+j) d) i l:=by
 intro l
 induction l with
 |nil=>intro i j h;exact absurd h (Nat.not_lt_zero _)
 |cons x r ih=>
  intro i j h
  cases j with
  |zero=>
   show d::_::NL b K (i+1) r=Ie K (i+0) d i::_::NL b (Ie K (i+0) d) (i+1) r
   rw[Wb b K (i+0) d r (i+1) (lt_succ_self i),show Ie K (i+0) d i=d from Bc rfl]
  |succ j=>
   show K i::_::(NL b K (i+1) r).set (2*j) d=Ie K (i+(j+1)) d i::_::NL b (Ie K (i+(j+1)) d) (i+1) r
   rw[ih (i+1) j (Nat.lt_of_succ_lt_succ h),show Ie K (i+(j+1)) d i=K i from Ay (ne_of_lt (Nat.lt_add_of_pos_right (succ_pos j))),add_assoc,add_comm 1]
theorem W7 {i j:Int}{σ:St}{Q:D->St->Prop}(h:Q (.int (i-j)) σ):Q9 .Sub (.int i) (.int j) σ Q:=h
noncomputable def D5 (names:List (List Nat)) (kids:Nat->List Nat):Nat->Nat->A6
 |0,i=>.node (names.getD i []) []
 |f+1,i=>.node (names.getD i []) ((kids i).map (D5 names kids f))
theorem Uo {own:List (List D)}{b e:Nat}{names:List (List Nat)}{kids:Nat->List Nat}{K:Nat->List D}
  (hK:∀i,K i=(kids i).map λk=>.obj (e+2*k))(hk:∀i,∀k∈kids i,i<k/\k<names.length)
  (h1:∀j,j<names.length->own[b+2*j]? =some (K j))(h2:∀j x,names[j]? =some x->own[e+2*j]? =some [.str x,.obj (b+2*j)]):
  ∀(f i:Nat),i<names.length->names.length<=i+f+1->Ah own (D5 names kids f i) (e+2*i):=by
 intro f
 induction f with
 |zero=>
  intro i hi hf
  unfold D5 Ah
  refine⟨b+2*i,K i,h2 _ _ (by rw[List.getD_eq_getElem?_getD,Fz hi];rfl),h1 i hi,?_⟩
  have hz:kids i=[]:=List.eq_nil_iff_forall_not_mem.mpr λk h=>by
   have:=hk i k h
   exact lt_irrefl _ (lt_of_lt_of_le this.2 (Ao hf this.1))
  rw[hK,hz];unfold Tqa;rfl
 |succ f ih=>
  intro i hi hf
  unfold D5 Ah
  refine⟨b+2*i,K i,h2 _ _ (by rw[List.getD_eq_getElem?_getD,Fz hi];rfl),h1 i hi,?_⟩
  rw[hK]
  have:∀l:List Nat,(∀k∈l,i<k/\k<names.length)->Tqa own (l.map (D5 names kids f)) (l.map λk=>.obj (e+2*k)):=by
   intro l
   induction l with
   |nil=>intro _;unfold Tqa;rfl
   |cons k r ihl=>
    intro h
    have hh:=h k Ht
    rw[Gb,Gb]
    unfold Tqa
    exact⟨_,_,rfl,ih k hh.2 (by exact Aq (Bk hf hh.1)),ihl λk hk=>h k (mem_cons_of_mem _ hk)⟩
  exact this _ (hk i)
theorem pL {α:Type}{d:D}{B:D->TS}{n₀:Nat}{ro:List String}{Q:FD->St->Prop}(g:α->D)(S:List α->List (List D))(xs:List α)(loc:List (String×D))
  (hi:∀don,Al (S don) d=some (xs.map g))
  (hB:∀x don res (R:FD->St->Prop),xs=don++x::res->(∀m,R .next ⟨loc++m,S (don++[x]),ro⟩)->(∀d' σ',Q (.ret d') σ'->R (.ret d') σ')->B (g x) ⟨loc,S don,ro⟩ R)
  (hF:Q .next ⟨loc,S xs,ro⟩):Kw d ⟨loc,S [],ro⟩ λitems C=>Ed C B n₀ items ⟨loc,S [],ro⟩ Q:=by
 refine Cf (hi []) ?_
 refine Gu (λitems σ=>∃don res,xs=don++res/\items=res.map g/\σ=⟨loc,S don,ro⟩) ?_ ?_ _ _ ⟨[],xs,rfl,rfl,rfl⟩
 ·intro x r σ R hI hn hr _
  refine Ag hI λdon res e e2 e3=>?_
  subst e3
  cases res with
  |nil=>cases e2
  |cons p res=>
   have e2:=List.cons.inj e2
   refine⟨hi don,?_⟩
   rw[e2.1]
   exact hB p don res R e (λm=>hn _ _ (Hl loc m) ⟨don++[p],res,by rw[e,C4];rfl,e2.2,rfl⟩) hr
 ·intro σ hI
  refine Ag hI λdon res e e2 e3=>?_
  subst e3
  have h:=map_eq_nil_iff.mp e2.symm
  rw[h,Pv]at e
  subst e
  exact⟨hi xs,hF⟩
theorem T6 {α:Type}{d:D}{σ1:St}{B:D->TS}{n₀:Nat}{s:List (String×D)}{cap:List String}{F:St->Prop}(g:α->D)(S:List α->List (List D))(xs:List α)
  (hi:Al σ1.own d=some (xs.map g))(h0:S []=[[]])
  (hB:∀x don res (R:FD->St->Prop),xs=don++x::res->(∀m,R .next ⟨s++m,σ1.own++S (don++[x]),cap⟩)->B (g x) ⟨s,σ1.own++S don,cap⟩ R)
  (hF:F ⟨s,σ1.own++S xs,cap⟩):Kw d σ1 λitems C=>Ed C B n₀ items ⟨s,σ1.own++[[]],cap⟩ (M9 F):=by
 refine Cf hi ?_
 rw[<-h0]
 refine Ey (λitems σ=>∃don res,xs=don++res/\items=res.map g/\σ=⟨s,σ1.own++S don,cap⟩) ?_ ?_ _ _ ⟨[],xs,rfl,rfl,rfl⟩
 ·intro x r σ next hI hk
  refine Ag hI λdon res e e2 e3=>?_
  subst e3
  cases res with
  |nil=>cases e2
  |cons p res=>
   have e2:=List.cons.inj e2
   refine⟨Gr hi _,?_⟩
   rw[e2.1]
   exact hB p don res _ e λm=>⟨_,Hl s m,hk _ ⟨don++[p],res,by rw[e,C4];rfl,e2.2,rfl⟩⟩
 ·intro σ hI
  refine Ag hI λdon res e e2 e3=>?_
  subst e3
  have h:=map_eq_nil_iff.mp e2.symm
  rw[h,Pv]at e
  subst e
  exact⟨Gr hi _,hF⟩
section
variable {α β γ δ:Type}{Γ:W}{K:Cj}{A:Around}{env:Env}{G G₀ G':Gh}{ι ι':List Addr}{σ:St}{s s':Shared}
theorem Rl.unsnoc {ds:List D}{d:D}:∀{vs:List Value},Rl G ι (ds++[d]) vs->∃ws w,vs=ws++[w]/\Rl G ι ds ws/\A7 G ι d w:=by
 induction ds with
 |nil=>exact λh=>Ag h λv r e hv hr=>⟨[],v,by rw[e,Az hr];rfl,rfl,hv⟩
 |cons x ds ih=>exact λh=>Ag h λv r e hv hr=>Ag (ih hr) λws w e2 h1 h2=>⟨v::ws,w,by rw[e,e2];rfl,⟨v,ws,rfl,hv,h1⟩,h2⟩
theorem Xv {k:Nat}{a:Addr}{ds:List D}{d:D}{Q:D->St->Prop}(F:Aa Γ K env G ι σ s)(ha:ι[k]? =some a)(hds:σ.own[k]? =some (ds++[d]))(hz:ds.length+1<=sizeLine)
  (q:Q d {σ with own:=σ.own.set k ds}):wpAny (model Γ.prog Γ.w) A (call (.builtin "list.pop") [.ref a]) (As Γ K env VR G ι Q) (λ_ _=>False) s:=by
 refine Ab (F.store.at_ k a _ ha hds) λvs hl rl=>?_
 refine Ag rl.unsnoc λws w e r1 r2=>?_
 subst e
 refine Ad hl λn ho=>?_
 have hk:(ws++[w]).toArray.size - 1=ws.length:=by rw[size_toArray,Bu];rfl
 have hy:(ws++[w]).toArray[(ws++[w]).toArray.size - 1]? =some w:=by rw[hk,List.getElem?_toArray];exact Co rfl
 refine call_meets PySem.F.slot_list_pop ⟨_,ho,rfl⟩ PySem.F.entry_list_pop (PySem.F.args_list_pop_1 _) (PySem.MeetsSeq.list_pop_last a _ n w hy (by rw[size_toArray,Bu,r1.length];exact hz)) ⟨ho,?_⟩
 have e0:(ws++[w]).toArray.eraseIdxIfInBounds ((ws++[w]).toArray.size - 1)=ws.toArray:=by rw[hk,kl_erase,Pv]
 have q2:=PySem.IsL.update (l:=a) ho (λxs=>xs.eraseIdxIfInBounds ((ws++[w]).toArray.size - 1))
 rw[e0]at q2
 exact Fx r2 (F.setOwn (h':=s.heap.update a (Obj.mapSeq λxs=>xs.eraseIdxIfInBounds ((ws++[w]).toArray.size - 1))) ha r1 ⟨_,q2⟩ (Heap.SameBut.update ..) s.toks F.tk) q
noncomputable def oV (d:D) (σ:St) (Q:D->St->Prop):Prop:=∃k l x,d=.obj k/\σ.own[k]? =some (l++[x])/\l.length+1<=sizeLine/\Q x {σ with own:=σ.own.set k l}
theorem nU {o:Expr}{apos pos:Pos}{T0:TT}(h0:Bl Γ A env o T0)
  (hbase:attributeBase o (ofString "pop") env (eval o env)=eval o env)
  (hfew:((backTo pos (starEach [] env)).all (λx=> !x.1)&&(backToKw pos (keywordEach [] env)).all (λx=>x.1.isSome)&&decide (([]:List Expr).length+([]:List Keyword).length+(if([]:List Keyword).isEmpty then 0 else 1)<30))=true)
  (hline:(apos.endLine==pos.line)=true):
  Bl Γ A env (.Call (.Attribute o (ofString "pop") apos) [] [] pos) (λσ Q=>T0 σ λd σ=>T9 d σ/\oV d σ Q):=λK G ι σ s Q F q=>
 wpAny_Call_method_late hbase hfew hline rfl (A8 h0 F q λG0 ι0 d v σ0 s0 l0 p0 r0 F0 q0=>by
  refine Ae (dR F0 r0 q0.1) λht hd=>?_
  refine⟨"list","list.pop",PySem.F.plainAttrs_list,PySem.F.slot_list_pop,PySem.F.type_list_pop,ht,hd,?_⟩
  refine callWith_method0 ?_
  refine Dm q0.2 λk l x e h1 h2 q1=>?_
  subst e
  refine Ab r0 λa ha e=>?_
  subst e
  exact Ba (Xv F0 ha h1 h2 q1) (λ_ _ p=>p.up l0 p0) λ_ _ x=>x)
theorem Aa.newAt (F:Aa Γ K env G ι σ s){ds:List D}{vs:List Value}(r:Rl G ι ds vs){h':Heap}{n t:Nat}(k:∀a o,s.heap.get? a=some o->h'.get? a=some o)
  (e:h'.get? s.heap.objs.size=some {cls:=.type "list",dict:=none,data:=.seq vs.toArray n,slots:=#[]})(ht:0<t):
  Aa Γ K env G (ι++[s.heap.objs.size]) {σ with own:=σ.own++[ds]} {s with heap:=h',toks:=t}:=
 (F.newOwn r n t ht).keepsTo (λa o h=>(Heap.get?_push_cases h).elim (λh=>by rw[h.1,h.2];exact e) (k a o)) t ht
noncomputable def Yj (ds:List D) (σ:St) (Q:D->St->Prop):Prop:=∃d l,ds=[d]/\((Al σ.own d=some l)\/∃a b c n,d=.rng a b c/\Builtin.Range.small a b c=true/\Builtin.Range.rangeSize a b c=(n:Nat)/\l=Cx a c n)/\l.length<=20000/\Q (.obj σ.own.length) {σ with own:=σ.own++[l]}
theorem R7 {G:Gh}{ι:List Addr}(c:Int):∀(n:Nat) (a:Int) (vs:List Value),vs.length=n->(∀(j:Nat) v,vs[j]? =some v->∃t,v=.int (a+j*c) t)->Rl G ι (Cx a c n) vs:=by
 intro n
 induction n with
 |zero=>intro a vs h _;exact List.length_eq_zero_iff.mp h
 |succ n ih=>
  intro a vs h hv
  cases vs with
  |nil=>cases h
  |cons v vs=>
   rw[Gj]
   refine⟨v,vs,rfl,?_,ih (a+c) vs (Nat.succ.inj h) λj w e=>?_⟩
   ·refine Ad (hv 0 v rfl) λt e=>?_
    rw[Int.natCast_zero,Int.zero_mul,Int.add_zero]at e
    exact⟨t,e⟩
   ·refine Ad (hv (j+1) w e) λt e=>⟨t,?_⟩
    rw[e,Int.natCast_succ,Int.add_mul,Int.one_mul,Int.add_comm (j*c) c,Int.add_assoc]
theorem Vh (H:Ev Γ A env){ds:List D}{vs:List Value}{Q:D->St->Prop}(F:Aa Γ K env G ι σ s)(r:Rl G ι ds vs)(h:Yj ds σ Q):wpAny (model Γ.prog Γ.w) A (call (.type "list") vs) (As Γ K env VR G ι Q) (λ_ _=>False) s:=by
 refine Bz h λd l e hd hz q=>?_
 subst e
 refine Ag r λv w e rv hw=>?_
 rw[Az hw]at e
 subst e
 rcases hd with hi|⟨a,b,c,n,e1,hs,hn,e2⟩
 ·refine Ag (A2 F.store rv hi) λad ws e hl rl=>?_
  subst e
  refine Au hl λo ho hc hn=>?_
  refine Ad hn λn hd=>?_
  exact call_list_seq ad (.inl rfl) ho hc hd (λh' c' k e=>(Fx (d:=.obj σ.own.length) (Iy F) (F.newAt rl k e F.tk) q).up (Gh.le.refl _) (Bp.append _ _)) (by rw[size_toArray,rl.length];exact Ao hz (by decide))
 ·subst e1 e2
  refine Q5 rv λra t u x e g=>?_
  subst e
  have hln:n<=20000:=by
   have:(Cx a c n).length=n:=by unfold Cx;rw[B2,length_range]
   rw[this]at hz;exact hz
  refine Ba (Ax (call_list_range (Q:=λv s'=>v=.ref s.heap.objs.size/\∃h' tk acc' c',(∀b o,s.heap.get? b=some o->h'.get? b=some o)/\h'.get? s.heap.objs.size=some {cls:=.type "list",dict:=none,data:=.seq acc' c',slots:=#[]}/\ItemsOf (λi v=>∃t,v=.int (a+i*c) t) acc' n/\s'={s with heap:=h',toks:=tk}) H.handled (F.store.gin _ _ g) hs hn (Ao hln (by decide)) λh' tk acc' c' k e hacc=>⟨rfl,h',tk,acc',c',k,e,hacc,rfl⟩)) (λv s' zt=>?_) λ_ _ x=>x
  refine Ae zt λz hle=>Ae z λe1 z=>C3 z λh' tk acc' c' k e hacc e2=>?_
  subst e1 e2
  refine(Fx (d:=.obj σ.own.length) (Iy F) (F.newAt (vs:=acc'.toList) (R7 c n a _ (by rw[Array.length_toList];exact hacc.1) λj v hv=>hacc.2 j v (by rw[<-Array.getElem?_toList];exact hv)) k (by rw[Array.toArray_toList];exact e) (lt_of_lt_of_le F.tk hle)) q).up (Gh.le.refl _) (Bp.append _ _)
theorem Ov (H:Ev Γ A env){e:Expr}{p pos:Pos}{T:St->(List D->St->Prop)->Prop}(hk:env.kindOf (ofString "list")=some .globalImplicit)(hn:Γ.mg (ofString "list")=none)(hv:Γ.mb (ofString "list")=some (.type "list"))
  (h:H8 Γ A env pos [e] T)(hs:starEach [e] env=(false,eval e env)::starEach [] env):
  Bl Γ A env (.Call (.Name (ofString "list") p) [e] [] pos) (λσ Q=>T σ λds σ=>Yj ds σ Q):=
 Tm H hk hn hv (by decide) (λF r q=>Vh H F r q) h hs rfl
theorem Qo {ds:List D}{vs:List Value}{Q:D->St->Prop}(H:Ev Γ A env)(F:Aa Γ K env G ι σ s)(r:Rl G ι ds vs)(h:∃b,ds=[.int b]/\tV (.rng 0 b 1) σ Q):
  wpAny (model Γ.prog Γ.w) A (call (.type "range") vs) (As Γ K env VR G ι Q) (λ_ _=>False) s:=by
 refine Ab h λb e q=>?_
 subst e
 refine Ag r λv w e rv hw=>?_
 rw[Az hw]at e
 subst e
 refine Ad rv λt e=>?_
 subst e
 refine call_range_1 ?_
 refine Ae (F.alloc H.ok (o:={cls:=.type "range",data:=.fields #[.int 0 s.toks,.int b t,.int 1 (s.toks+1)]}) rfl (s.toks+1+1) (succ_pos _)) λle F'=>?_
 exact(Fx (d:=.rng 0 b 1) ⟨_,s.toks,t,s.toks+1,rfl,Gh.put_self _ _ _⟩ F' q).up le (Bp.refl _)
theorem Qn {ds:List D}{vs:List Value}{Q:D->St->Prop}(H:Ev Γ A env)(F:Aa Γ K env G ι σ s)(r:Rl G ι ds vs)(h:∃a b,ds=[.int a,.int b]/\tV (.rng a b 1) σ Q):
  wpAny (model Γ.prog Γ.w) A (call (.type "range") vs) (As Γ K env VR G ι Q) (λ_ _=>False) s:=by
 refine A1 h λa b e q=>?_
 subst e
 refine Ag r λv w e rv hw=>?_
 refine Ag hw λv2 w2 e2 rv2 hw2=>?_
 rw[Az hw2]at e2
 subst e2
 subst e
 refine Ad rv λt e=>Ad rv2 λt2 e2=>?_
 subst e e2
 refine call_range_2 ?_
 refine Ae (F.alloc H.ok (o:={cls:=.type "range",data:=.fields #[.int a t,.int b t2,.int 1 s.toks]}) rfl (s.toks+1) (succ_pos _)) λle F'=>?_
 exact(Fx (d:=.rng a b 1) ⟨_,t,t2,s.toks,rfl,Gh.put_self _ _ _⟩ F' q).up le (Bp.refl _)
theorem aZ (H:Ev Γ A env){e:Expr}{p pos:Pos}{T:St->(List D->St->Prop)->Prop}(hk:env.kindOf (ofString "range")=some .globalImplicit)(hn:Γ.mg (ofString "range")=none)(hv:Γ.mb (ofString "range")=some (.type "range"))
  (h:H8 Γ A env pos [e] T)(hs:starEach [e] env=(false,eval e env)::starEach [] env):
  Bl Γ A env (.Call (.Name (ofString "range") p) [e] [] pos) (λσ Q=>T σ λds σ=>∃b,ds=[.int b]/\tV (.rng 0 b 1) σ Q):=
 Tm H hk hn hv (by decide) (λF r q=>Qo H F r q) h hs rfl
theorem To (H:Ev Γ A env){e e':Expr}{p pos:Pos}{T:St->(List D->St->Prop)->Prop}(hk:env.kindOf (ofString "range")=some .globalImplicit)(hn:Γ.mg (ofString "range")=none)(hv:Γ.mb (ofString "range")=some (.type "range"))
  (h:H8 Γ A env pos [e,e'] T)(hs:starEach [e,e'] env=(false,eval e env)::starEach [e'] env)(hp:(backTo pos (starEach [e'] env)).any (·.1)=false):
  Bl Γ A env (.Call (.Name (ofString "range") p) [e,e'] [] pos) (λσ Q=>T σ λds σ=>∃a b,ds=[.int a,.int b]/\tV (.rng a b 1) σ Q):=
 Tm H hk hn hv (by decide) (λF r q=>Qn H F r q) h hs hp
theorem A9.le {n m:Nat}{A:Around}(h:A9 n A)(l:m<=n):A9 m A:=⟨h.handled,by have:=h.depth;exact Aq (Bk this (mul_le_mul_left 4 l)),by have:=h.units;exact Aq (Bk this (mul_le_mul_left 16 l))⟩
theorem L8 {f:Value}{S:Mine.Internal.B3}(h:∀ds own Q,¬S ds own Q):Ap Γ A f S:=λ_ _ own _ ds _ Q _ _ _ z=>(h ds own Q z).elim
theorem Nz {α:Type}{σ1:St}{B:D->TS}{n₀:Nat}{s:List (String×D)}{cap:List String}{F:St->Prop}{C:St->Prop}(g:α->D)(out:List α->List D)(xs:List α)(h0:out []=[])
  (hC:∀es junk,C ⟨s,σ1.own++es::junk,cap⟩)
  (hB:∀x don res (junk:List (List D)) (R:FD->St->Prop),xs=don++x::res->(∀m j,R .next ⟨s++m,σ1.own++out (don++[x])::(junk++j),cap⟩)->B (g x) ⟨s,σ1.own++out don::junk,cap⟩ R)
  (hF:∀junk,F ⟨s,σ1.own++out xs::junk,cap⟩):Ed C B n₀ (xs.map g) ⟨s,σ1.own++[[]],cap⟩ (M9 F):=by
 refine Ey (λitems σ=>∃don res junk,xs=don++res/\items=res.map g/\σ=⟨s,σ1.own++out don::junk,cap⟩) ?_ ?_ _ _ ⟨[],xs,[],rfl,rfl,by rw[h0]⟩
 ·intro x r σ next hI hk
  refine Ez hI λdon res junk e e2 e3=>?_
  subst e3
  cases res with
  |nil=>cases e2
  |cons p res=>
   have e2:=List.cons.inj e2
   refine⟨hC _ _,?_⟩
   rw[e2.1]
   exact hB p don res junk _ e λm j=>⟨_,Hl s m,hk _ ⟨don++[p],res,junk++j,by rw[e,C4];rfl,e2.2,rfl⟩⟩
 ·intro σ hI
  refine Ez hI λdon res junk e e2 e3=>?_
  subst e3
  have h:=map_eq_nil_iff.mp e2.symm
  rw[h,Pv]at e
  subst e
  exact⟨hC _ _,hF _⟩
theorem U2 {n:Nat}(h:n<=5):Builtin.Range.small 0 (n:Int) 1=true/\Cx 0 1 (Builtin.Range.rangeSize 0 (n:Int) 1).toNat=(List.range n).map λ(k:Nat)=>D.int (k:Int):=by
 have h2:=(by decide:∀n:Nat,n<6->Builtin.Range.small 0 (n:Int) 1=true/\(Builtin.Range.rangeSize 0 (n:Int) 1).toNat=n) n (lt_succ_of_le h)
 refine⟨h2.1,?_⟩
 rw[h2.2]
 unfold Cx
 exact map_congr_left λk _=>by rw[Int.mul_one,Int.zero_add]
end
mutual
noncomputable def E4 (g:Nat->Option (List D)):A6->Nat->Prop
 | .node x l,k=>∃c ds,g k=some [.str x,.obj c]/\g c=some ds/\Tqf g l ds
noncomputable def Tqf (g:Nat->Option (List D)):List A6->List D->Prop
 |[],ds=>ds=[]
 |t::l,ds=>∃k r,ds=.obj k::r/\E4 g t k/\Tqf g l r
end
theorem E4.mono {g g':Nat->Option (List D)}(h:∀i l,g i=some l->g' i=some l)(t:A6):∀k,E4 g t k->E4 g' t k:=by
 induction t using A6.rec (motive_2:=λl=>∀ds,Tqf g l ds->Tqf g' l ds)with
 |node x l ih=>
  intro k hk
  unfold E4 at hk⊢
  exact Ag hk λc ds e1 e2 e3=>⟨c,ds,h _ _ e1,h _ _ e2,ih _ e3⟩
 |nil=>rename_i ds hd;unfold Tqf at hd⊢;exact hd
 |cons t l i1 i2=>
  rename_i ds hd
  unfold Tqf at hd⊢
  exact Ag hd λk r e1 e2 e3=>⟨k,r,e1,i1 _ e2,i2 _ e3⟩
theorem Tqf.mono {g g':Nat->Option (List D)}(h:∀i l,g i=some l->g' i=some l):∀(l:List A6) ds,Tqf g l ds->Tqf g' l ds:=by
 intro l
 induction l with
 |nil=>intro ds hd;unfold Tqf at hd⊢;exact hd
 |cons t l ih=>
  intro ds hd
  unfold Tqf at hd⊢
  exact Ag hd λk r e1 e2 e3=>⟨k,r,e1,E4.mono h _ _ e2,ih _ e3⟩
theorem Tqf.snoc {g:Nat->Option (List D)}{t:A6}{k:Nat}(ht:E4 g t k):∀(l:List A6) ds,Tqf g l ds->Tqf g (l++[t]) (ds++[.obj k]):=by
 intro l
 induction l with
 |nil=>intro ds hd;unfold Tqf at hd;subst hd;show Tqf g [t] [.obj k];unfold Tqf;exact⟨k,[],rfl,ht,by unfold Tqf;rfl⟩
 |cons u l ih=>
  intro ds hd
  unfold Tqf at hd
  refine Ag hd λj r e1 e2 e3=>?_
  subst e1
  show Tqf g (u::(l++[t])) (.obj j::(r++[.obj k]))
  unfold Tqf
  exact⟨j,_,rfl,e2,ih _ e3⟩
theorem Tqf.len {g:Nat->Option (List D)}:∀(l:List A6) (ds:List D),Tqf g l ds->ds.length=l.length:=by
 intro l
 induction l with
 |nil=>intro ds h;unfold Tqf at h;rw[h];rfl
 |cons t l ih=>
  intro ds h
  unfold Tqf at h
  exact Ag h λk r e _ h=>by rw[e,G8,ih _ h];rfl
structure Eo where
 st:Int
 nm:List Nat
 kids:List A6
noncomputable def My (g:Nat->Option (List D)) (own:List (List D)) (f:Eo) (a c:Nat):Prop:=own[a]? =some [.int f.st,.str f.nm,.obj c]/\∃kd,own[c]? =some kd/\Tqf g f.kids kd
noncomputable def Dd (g:Nat->Option (List D)) (own:List (List D)):List Eo->List Nat->List Nat->Prop
 |[],fs,cs=>fs=[]/\cs=[]
 |f::r,fs,cs=>∃a fs' c cs',fs=a::fs'/\cs=c::cs'/\My g own f a c/\Dd g own r fs' cs'
theorem Dd.unsnoc {g:Nat->Option (List D)}{own:List (List D)}{f:Eo}:∀(r:List Eo) (fs cs:List Nat),Dd g own (r++[f]) fs cs->∃fs' a cs' c,fs=fs'++[a]/\cs=cs'++[c]/\Dd g own r fs' cs'/\My g own f a c:=by
 intro r
 induction r with
 |nil=>
  intro fs cs h
  refine Cm h λa fs' c cs' e1 e2 h1 e3 e4=>?_
  try clear h
  exact⟨[],a,[],c,by rw[e1,e3];rfl,by rw[e2,e4];rfl,⟨rfl,rfl⟩,h1⟩
 |cons f0 r ih=>
  intro fs cs h
  refine C3 h λa fs' c cs' e1 e2 h1 h2=>?_
  try clear h
  refine C3 (ih _ _ h2) λfs2 a2 cs2 c2 e3 e4 h3 h4=>?_
  exact⟨a::fs2,a2,c::cs2,c2,by rw[e1,e3];rfl,by rw[e2,e4];rfl,⟨a,fs2,c,cs2,rfl,rfl,h1,h3⟩,h4⟩
theorem Dd.snoc {g:Nat->Option (List D)}{own:List (List D)}{f:Eo}{a c:Nat}(h:My g own f a c):∀(r:List Eo) (fs cs:List Nat),Dd g own r fs cs->Dd g own (r++[f]) (fs++[a]) (cs++[c]):=by
 intro r
 induction r with
 |nil=>intro fs cs h2;rw[h2.1,h2.2];exact⟨a,[],c,[],rfl,rfl,h,rfl,rfl⟩
 |cons f0 r ih=>
  intro fs cs h2
  refine C3 h2 λa0 fs' c0 cs' e1 e2 h3 h4=>?_
  try clear h2
  subst e1 e2
  exact⟨a0,fs'++[a],c0,cs'++[c],rfl,rfl,h3,ih _ _ h4⟩
theorem My.mono {g g':Nat->Option (List D)}{own own':List (List D)}{f:Eo}{a c:Nat}(hg:∀i l,g i=some l->g' i=some l)(h1:own'[a]? =own[a]?)(h2:own'[c]? =own[c]?)(h:My g own f a c):My g' own' f a c:=
 ⟨h1.trans h.1,Ab h.2 λkd e t=>⟨kd,h2.trans e,Tqf.mono hg _ _ t⟩⟩
theorem Dd.mono {g g':Nat->Option (List D)}{own own':List (List D)}(hg:∀i l,g i=some l->g' i=some l):∀(r:List Eo) (fs cs:List Nat),(∀i∈fs++cs,own'[i]? =own[i]?)->Dd g own r fs cs->Dd g' own' r fs cs:=by
 intro r
 induction r with
 |nil=>exact λfs cs _ h=>h
 |cons f r ih=>
  intro fs cs ho h
  refine C3 h λa fs' c cs' e1 e2 h1 h2=>?_
  try clear h
  subst e1 e2
  refine⟨a,fs',c,cs',rfl,rfl,h1.mono hg (ho _ (.head _)) (ho _ (M2 _ (.head _))),ih _ _ (λi hi=>ho i ?_) h2⟩
  exact(mem_append.mp hi).elim (λh=>.tail _ (Z5 _ h)) λh=>M2 _ (.tail _ h)
noncomputable def I5 (own:List (List D)) (M:List Nat):Nat->Option (List D):=λi=>if i∈M then none else own[i]?
theorem Hf {own:List (List D)}{M:List Nat}{i:Nat}{l:List D}(h:I5 own M i=some l):i∉M/\own[i]? =some l:=by
 unfold I5 at h
 by_cases hi:i∈M
 ·rw[Bc hi]at h;cases h
 ·rw[Ay hi]at h;exact⟨hi,h⟩
theorem He {own:List (List D)}{M:List Nat}{i:Nat}{l:List D}(h:i∉M)(e:own[i]? =some l):I5 own M i=some l:=by unfold I5;rw[Ay h];exact e
noncomputable abbrev SA (n₀:Nat) (own:List (List D)) (k:Nat) (r:List Eo) (fs cs:List Nat):Prop:=(own[k]? =some (fs.map D.obj))/\((k::(fs++cs)).Nodup)/\(∀i∈k::(fs++cs),n₀<=i)/\(Dd (I5 own (k::(fs++cs))) own r fs cs)
section
variable {n₀:Nat}{own:List (List D)}{k:Nat}{r:List Eo}{fs cs:List Nat}(zs:SA n₀ own k r fs cs)
noncomputable abbrev SA.top:=zs.1
noncomputable abbrev SA.nd:=zs.2.1
noncomputable abbrev SA.lo:=zs.2.2.1
noncomputable abbrev SA.at_:=zs.2.2.2
end
theorem C9 {k a c:Nat}{fs cs:List Nat}:(k::((fs++[a])++(cs++[c]))).Perm (a::c::k::(fs++cs)):=by
 have h:((fs++[a])++(cs++[c])).Perm (a::c::(fs++cs)):=by
  rw[C4,List.singleton_append]
  refine(List.perm_middle).trans (.cons a ?_)
  rw[<-C4]
  exact List.perm_append_singleton c (fs++cs)
 exact(h.cons k).trans ((List.Perm.swap a k _).trans ((List.Perm.swap c k _).cons a))
theorem Dd.last {g:Nat->Option (List D)}{own:List (List D)}{f:Eo}{r:List Eo}{fs cs:List Nat}{a c:Nat}(h:Dd g own (r++[f]) (fs++[a]) (cs++[c])):Dd g own r fs cs/\My g own f a c:=by
 refine C3 (Dd.unsnoc _ _ _ h) λfs' a' cs' c' e1 e2 h1 h2=>?_
 have e1:=List.append_inj' e1 rfl
 have e2:=List.append_inj' e2 rfl
 rw[e1.1,e2.1,(List.cons.inj e1.2).1,(List.cons.inj e2.2).1]
 exact⟨h1,h2⟩
theorem B4 {own:List (List D)}{a i:Nat}{l:List D}(h:i≠a):(own.set a l)[i]? =own[i]? :=List.getElem?_set_ne (Ne.symm h)
theorem Ij {own:List (List D)}{a:Nat}{l z:List D}(h:own[a]? =some z):(own.set a l)[a]? =some l:=List.getElem?_set_self (H7.mp h).1
theorem SA.setTop {n₀ k:Nat}{own:List (List D)}{r:List Eo}{f:Eo}{fs cs:List Nat}{a c:Nat}(h:SA n₀ own k (r++[f]) (fs++[a]) (cs++[c]))(st:Int)(nm:List Nat):
  SA n₀ (own.set a [D.int st,D.str nm,D.obj c]) k (r++[⟨st,nm,f.kids⟩]) (fs++[a]) (cs++[c]):=by
 have hn:=(C9.nodup_iff).mp h.nd
 have hl:=h.at_.last
 have ha:=(nodup_cons.mp hn).1
 have hg:∀i l,I5 own (k::((fs++[a])++(cs++[c]))) i=some l->I5 (own.set a [D.int st,D.str nm,D.obj c]) (k::((fs++[a])++(cs++[c]))) i=some l:=λi l e=>by
  have e:=Hf e
  refine He e.1 ((B4 λz=>e.1 ?_).trans e.2)
  rw[z];exact .tail _ (Z5 _ (M2 _ (.head _)))
 refine⟨(B4 λz=>ha (by rw[<-z];exact .tail _ (.head _))).trans h.top,h.nd,h.lo,Dd.snoc (f:=⟨st,nm,f.kids⟩) (c:=c) ⟨Ij hl.2.1,?_⟩ _ _ _ (Dd.mono hg _ _ _ (λi hi=>B4 λz=>ha (by rw[<-z];exact .tail _ (.tail _ hi))) hl.1)⟩
 exact Ab hl.2.2 λkd e t=>⟨kd,(B4 λz=>ha (by rw[<-z];exact .head _)).trans e,Tqf.mono hg _ _ t⟩
theorem SA.lt {n₀ k:Nat}{own:List (List D)}:∀{r:List Eo} {fs cs:List Nat} {g:Nat->Option (List D)},Dd g own r fs cs->∀i∈fs++cs,i<own.length:=by
 intro r
 induction r with
 |nil=>intro fs cs g h i hi;rw[h.1,h.2]at hi;cases hi
 |cons f r ih=>
  intro fs cs g h i hi
  refine C3 h λa fs' c cs' e1 e2 h1 h2=>?_
  try clear h
  subst e1 e2
  have ha:a<own.length:=(H7.mp h1.1).1
  have hc:c<own.length:=Ab h1.2 λ_ e _=>(H7.mp e).1
  rcases mem_append.mp hi with h|h
  ·exact(E1.mp h).elim (λz=>by rw[z];exact ha) λh=>ih h2 i (Z5 _ h)
  ·exact(E1.mp h).elim (λz=>by rw[z];exact hc) λh=>ih h2 i (M2 _ h)
theorem SA.push {n₀ k:Nat}{own:List (List D)}{r:List Eo}{fs cs:List Nat}(h:SA n₀ own k r fs cs)(hn:n₀<=own.length):
  SA n₀ (((own++[[]])++[[D.int 0,D.str [],D.obj own.length]]).set k (fs.map D.obj++[D.obj (own++[[]]).length])) k (r++[⟨0,[],[]⟩]) (fs++[(own++[[]]).length]) (cs++[own.length]):=by
 have hl2:(own++[[]]).length=own.length+1:=Bu
 have hk:k<own.length:=(H7.mp h.top).1
 have hlt:∀i∈k::(fs++cs),i<own.length:=λi hi=>(E1.mp hi).elim (λz=>by rw[z];exact hk) λhi=>SA.lt (n₀:=n₀) (k:=k) h.at_ i hi
 have hg0:∀(i:Nat) (l:List D),own[i]? =some l->((own++[[]])++[[D.int 0,D.str [],D.obj own.length]])[i]? =some l:=λi l e=>Aj (Dg _ _) (Aj (Dg _ _) e)
 have hgi:∀(i:Nat),i<own.length->((own++[[]])++[[D.int 0,D.str [],D.obj own.length]])[i]? =own[i]? :=λi hi=>by rw[C4,Ro hi]
 rw[hl2]
 have hM:∀i,i<own.length->i∉k::(fs++cs)->i∉k::((fs++[own.length+1])++(cs++[own.length])):=λi hi hm hz=>by
  rcases E1.mp (C9.mem_iff.mp hz)with z|z
  ·exact ne_of_lt (lt_succ_of_lt hi) z
  ·rcases E1.mp z with z|z
   ·exact ne_of_lt hi z
   ·exact hm z
 have hg:∀i l,I5 own (k::(fs++cs)) i=some l->I5 (((own++[[]])++[[D.int 0,D.str [],D.obj own.length]]).set k (fs.map D.obj++[D.obj (own.length+1)])) (k::((fs++[own.length+1])++(cs++[own.length]))) i=some l:=λi l e=>by
  have e:=Hf e
  have hi:=(H7.mp e.2).1
  exact He (hM i hi e.1) ((B4 λz=>e.1 (by rw[z];exact .head _)).trans (hg0 _ _ e.2))
 refine⟨?_,?_,?_,Dd.snoc ⟨?_,[],?_,by unfold Tqf;rfl⟩ _ _ _ (Dd.mono hg _ _ _ (λi hi=>?_) h.at_)⟩
 ·rw[Ij (hg0 _ _ h.top),Id];rfl
 ·refine C9.nodup_iff.mpr (nodup_cons.mpr ⟨λhz=>?_,nodup_cons.mpr ⟨λhz=>lt_irrefl _ (hlt _ hz),h.nd⟩⟩)
  rcases E1.mp hz with z|z
  ·exact Nat.succ_ne_self _ z
  ·exact lt_irrefl _ (lt_trans (lt_succ_self _) (hlt _ z))
 ·intro i hi
  rcases E1.mp (C9.mem_iff.mp hi)with z|z
  ·rw[z];exact Nat.le_succ_of_le hn
  ·exact(E1.mp z).elim (λz=>by rw[z];exact hn) λz=>h.lo i z
 ·rw[B4 (ne_of_gt (lt_succ_of_lt hk))]
  exact Co hl2
 ·rw[B4 (ne_of_gt hk),C4];exact Co rfl
 ·rw[B4 λz=>(nodup_cons.mp h.nd).1 (by rw[<-z];exact hi)];exact hgi i (hlt i (.tail _ hi))
theorem SA.pop {n₀ k:Nat}{own:List (List D)}{r:List Eo}{p f:Eo}{fs cs:List Nat}{a b c d:Nat}(h:SA n₀ own k ((r++[p])++[f]) ((fs++[b])++[a]) ((cs++[d])++[c])){kd:List D}(hd:own[d]? =some kd):
  SA n₀ ((own.set k ((fs++[b]).map D.obj)++[[D.str f.nm,D.obj c]]).set d (kd++[D.obj own.length])) k (r++[⟨p.st,p.nm,p.kids++[.node f.nm f.kids]⟩]) (fs++[b]) (cs++[d]):=by
 have hn:=(C9.nodup_iff).mp h.nd
 have hl:=h.at_.last
 have hp:=hl.1.last
 have hnd2:=(nodup_cons.mp (nodup_cons.mp hn).2).2
 have ha:=(nodup_cons.mp hn).1
 have hc:=(nodup_cons.mp (nodup_cons.mp hn).2).1
 have hq:=(C9.nodup_iff).mp hnd2
 have hb:=(nodup_cons.mp hq).1
 have hdn:=(nodup_cons.mp (nodup_cons.mp hq).2).1
 have hk:k<own.length:=(H7.mp h.top).1
 have hdl:d<own.length:=(H7.mp hd).1
 have memd:d∈k::((fs++[b])++(cs++[d])):=.tail _ (M2 _ (M2 _ (.head _)))
 have memb:b∈k::((fs++[b])++(cs++[d])):=.tail _ (Z5 _ (M2 _ (.head _)))
 have old:∀i,i<own.length->i≠k->i≠d->((own.set k ((fs++[b]).map D.obj)++[[D.str f.nm,D.obj c]]).set d (kd++[D.obj own.length]))[i]? =own[i]? :=λi hi h1 h2=>by
  rw[B4 h2,Ro (by rw[length_set];exact hi),B4 h1]
 have hlen:((own.set k ((fs++[b]).map D.obj)++[[D.str f.nm,D.obj c]]).set d (kd++[D.obj own.length]))[own.length]? =some [D.str f.nm,D.obj c]:=by
  rw[B4 (ne_of_gt hdl)];exact Co (length_set ..)
 have hM:∀i,i∉k::(((fs++[b])++[a])++((cs++[d])++[c]))->i∉k::((fs++[b])++(cs++[d])):=λi hi hz=>hi (C9.mem_iff.mpr (.tail _ (.tail _ hz)))
 have hg:∀i l,I5 own (k::(((fs++[b])++[a])++((cs++[d])++[c]))) i=some l->I5 ((own.set k ((fs++[b]).map D.obj)++[[D.str f.nm,D.obj c]]).set d (kd++[D.obj own.length])) (k::((fs++[b])++(cs++[d]))) i=some l:=λi l e=>by
  have e:=Hf e
  have h1:=hM i e.1
  exact He h1 ((old i (H7.mp e.2).1 (λz=>h1 (by rw[z];exact .head _)) λz=>h1 (by rw[z];exact memd)).trans e.2)
 have hnew:own.length∉k::((fs++[b])++(cs++[d])):=λhz=>by
  rcases E1.mp hz with z|z
  ·exact lt_irrefl _ (by rw[<-z]at hk;exact hk)
  ·exact lt_irrefl _ (SA.lt (n₀:=n₀) (k:=k) hl.1 _ z)
 refine Ab hl.2.2 λkf ek tk=>?_
 refine Ab hp.2.2 λkd' ed td=>?_
 obtain rfl:kd'=kd:=Option.some.inj (ed.symm.trans hd)
 have hcl:c<own.length:=(H7.mp ek).1
 have ht:E4 (I5 ((own.set k ((fs++[b]).map D.obj)++[[D.str f.nm,D.obj c]]).set d (kd'++[D.obj own.length])) (k::((fs++[b])++(cs++[d])))) (.node f.nm f.kids) own.length:=by
  unfold E4
  exact⟨c,kf,He hnew hlen,He hc ((old c hcl (λz=>hc (by rw[z];exact .head _)) λz=>hc (by rw[z];exact memd)).trans ek),Tqf.mono hg _ _ tk⟩
 have kb:k≠b:=λz=>hb (by rw[<-z];exact .tail _ (.head _))
 have kdd:k≠d:=λz=>hdn (by rw[<-z];exact .head _)
 have bd:b≠d:=λz=>hb (by rw[z];exact .head _)
 refine⟨?_,hnd2,λi hi=>h.lo i (C9.mem_iff.mpr (.tail _ (.tail _ hi))),Dd.snoc (f:=⟨p.st,p.nm,p.kids++[.node f.nm f.kids]⟩) ⟨?_,kd'++[D.obj own.length],?_,Tqf.snoc ht _ _ (Tqf.mono hg _ _ td)⟩ _ _ _ (Dd.mono hg _ _ _ (λi hi=>old i (SA.lt (n₀:=n₀) (k:=k) hp.1 i hi) (λz=>?_) λz=>?_) hp.1)⟩
 ·rw[B4 kdd,Ro (by rw[length_set];exact hk),Ij h.top]
 ·exact(old b (H7.mp hp.2.1).1 kb.symm bd).trans hp.2.1
 ·exact Ij (by rw[Ro (by rw[length_set];exact hdl),B4 kdd.symm];exact hd)
 ·exact(nodup_cons.mp (nodup_cons.mp (nodup_cons.mp hq).2).2).1 (by rw[<-z];exact hi)
 ·exact hdn (by rw[<-z];exact .tail _ hi)
noncomputable def Yn:List (Str×Str)->List (Option Expr)->List Expr->Prop
 |[],ks,vs=>ks=[]/\vs=[]
 |(a,b)::r,ks,vs=>∃n p n' p' ks' vs',ks=some (.Constant (.str a) n p)::ks'/\vs=.Constant (.str b) n' p'::vs'/\Yn r ks' vs'
theorem Yo {a b:Str}{r:List (Str×Str)}{n n':Nat}{p p':Pos}{ks:List (Option Expr)}{vs:List Expr}(h:Yn r ks vs):Yn ((a,b)::r) (some (.Constant (.str a) n p)::ks) (.Constant (.str b) n' p'::vs):=⟨n,p,n',p',ks,vs,rfl,rfl,h⟩
noncomputable def KV:List (Str×Str)->List (Str×Value)->Prop
 |[],l=>l=[]
 |(a,b)::r,l=>∃t l',l=(a,.str b t)::l'/\KV r l'
noncomputable def Nh (tab:List (Str×Str)) (k:Str):Option Str:=(tab.find? λp=>decide (p.1=k)).map (·.2)
noncomputable def mH:Option Str->Option Value->Prop
 |some z,o=>∃t,o=some (.str z t)
 |none,o=>o=none
theorem KV.keys:∀{tab:List (Str×Str)} {l:List (Str×Value)},KV tab l->l.map (·.1)=tab.map (·.1):=by
 intro tab
 induction tab with
 |nil=>intro l h;rw[show l=[]from h];rfl
 |cons p r ih=>intro l h;exact A1 h λt l' e h2=>by rw[e,Gb,Gb,ih h2]
theorem KV.at {k:Str}:∀{tab:List (Str×Str)} {l:List (Str×Value)},KV tab l->mH (Nh tab k) (valueAt l k):=by
 intro tab
 induction tab with
 |nil=>intro l h;rw[show l=[]from h];rfl
 |cons p r ih=>
  intro l h
  refine A1 h λt l' e h2=>?_
  subst e
  unfold Nh valueAt
  rw[List.find?_cons,List.find?_cons]
  by_cases hk:p.1=k
  ·rw[show decide (p.1=k)=true from decide_eq_true hk];exact⟨t,rfl⟩
  ·rw[show decide (p.1=k)=false from decide_eq_false hk];exact ih h2
theorem O5 {K:Type}[DecidableEq K]:∀(more acc:List (K×Value)),((acc++more).map (·.1)).Nodup->merged acc more=acc++more:=by
 intro more
 induction more with
 |nil=>intro acc _;exact(Pv _).symm
 |cons p r ih=>
  intro acc h
  show merged (stored acc p.1 p.2) r=_
  have hno:acc.any (λkv=>kv.1=p.1)=false:=by
   rw[List.any_eq_false]
   intro q hq
   rw[decide_eq_true_eq]
   intro e
   rw[Id,List.nodup_append]at h
   exact h.2.2 q.1 (mem_map_of_mem hq) p.1 (mem_map_of_mem Ht) e
  rw[show stored acc p.1 p.2=acc++[p]from Ay (by rw[hno];exact Bool.false_ne_true),ih _ (by rw[C4];exact h),C4]
  rfl
section
variable {α β γ δ:Type}{Γ:W}{K:Cj}{A:Around}{env:Env}{G G₀ G':Gh}{ι ι':List Addr}{σ:St}{s s':Shared}
noncomputable def Jk (Γ:W)(tab:List (Str×Str)):(Addr->Option Obj)->Value->Prop:=λG v=>∃(a:Addr) (o:Obj) (es:Array DictEntry) (ep:Nat) (f:Str->Option Value),v=.ref a/\(a==sysModules)=false/\G a=some o/\o.ExactDict/\o.data=.dict es ep/\PySem.KeysOf (PySem.strKind Γ.prog Γ.w) es/\(∀k,findBy Value.isStrOf es k=f k)/\∀k,mH (Nh tab k) (f k)
theorem Aa.allocAt (ok:Γ.Ok)(F:Aa Γ K env G ι σ s){h':Heap}{o:Obj}(k:∀a o,s.heap.get? a=some o->h'.get? a=some o)(e:h'.get? s.heap.objs.size=some o)(t:Nat)(ht:0<t):
  G.le (G.put s.heap.objs.size o)/\Aa Γ K env (G.put s.heap.objs.size o) ι σ {s with heap:=h',toks:=t}:=by
 have le:=Gh.put_le (o:=o) F.store.gfresh
 have ne:∀a,(a∈ι\/a∈Γ.tabs.map (·.2)\/Jm env a\/K.old a≠none)->a≠s.heap.objs.size:=λa h=>ne_of_lt (F.lt_own (.inr h))
 refine⟨le,(F.keepsTo k t ht).freeze ok le (λa p e2=>?_) (λa ha=>?_) λx c hk hl z hx hz=>?_⟩
 ·unfold Gh.put at e2
  split at e2
  ·rename_i h;subst h;cases e2;exact e
  ·exact k _ _ (F.store.gin a p e2)
 ·rw[Gh.put_ne (ne a (by rcases ha with h|h|h|h;exact .inl h;exact .inr (.inl h);exact .inr (.inr (.inl (.inl h)));exact .inr (.inr (.inr h))))]
  rcases ha with h|h|h|h
  ·exact F.store.fresh a h
  ·refine Ab (G7.mp h) λp hp e=>?_
   subst e;exact(F.store.tabs p hp).1
  ·rw[h];exact F.loc
  ·cases e:K.old a with
   |none=>exact absurd e h
   |some o=>exact(F.far a o e).2.1
 ·have q:=(F.cell x c hk hl).2.2.2 z hx hz
  exact⟨by rw[Gh.put_ne (ne c (.inr (.inr (.inl (.inr ⟨x,hk,hl⟩)))))];exact q.1,q.2⟩
theorem cH {prog:Program}{w:World}{pos:Pos}{E:Value->Shared->Prop}:∀(tab:List (Str×Str)) (ks:List (Option Expr)) (vs:List Expr) (s:Shared) (Q:List (Value×Value)->Shared->Prop),Yn tab ks vs->
  (∀ps kvs tk,s.toks<=tk->Carries (PySem.strKind prog w) ps kvs->KV tab kvs->Q ps {s with toks:=tk})->wpAny (model prog w) A (evalPairs (pairTrees ks vs env pos)) Q E s:=by
 intro tab
 induction tab with
 |nil=>
  intro ks vs s Q h q
  rw[h.1,h.2]
  exact pairTrees_nil_walk (q [] [] s.toks (le_refl _) trivial rfl)
 |cons p r ih=>
  intro ks vs s Q h q
  refine Bj h λn1 p1 n2 p2 ks' h=>Au h λvs' e1 e2 e3=>?_
  rw[e1,e2]
  refine pairTrees_cons_walk (wpAny_Constant_str (wpAny_Constant_str ?_))
  refine ih ks' vs' _ _ e3 λps kvs tk ht hc hk=>?_
  exact q _ ((p.1,.str p.2 (s.toks+1))::kvs) tk (Ao (le_add_right _ 2) ht) ⟨by show Value.isStrOf p.1 (.str p.1 s.toks)=true;exact decide_eq_true rfl,rfl,hc⟩ ⟨_,kvs,rfl,hk⟩
theorem fH (H:Ev Γ A env)(hsm:∃o,Γ.B.get? sysModules=some o){keys:List (Option Expr)}{values:List Expr}{pos:Pos}{tab:List (Str×Str)}(hl:Yn tab keys values)(hn:(tab.map (·.1)).Nodup)(hall:keys.all (·.isSome)=true)(hlen:keys.length=values.length)(h0:keys≠[])(h15:keys.length<=15):
  Bl Γ A env (.Dict keys values pos) (tV (.sem (Jk Γ tab))):=λK G ι σ s Q F q=>by
 refine wpAny_Dict_walk (knd:=PySem.strKind Γ.prog Γ.w) hall hlen h0 h15 (cH tab keys values _ _ hl λps kvs tk ht hc hk=>?_)
 refine⟨kvs,hc,Heap.DictOf.new s.heap,λh' hd hs=>?_⟩
 have hm:=O5 (K:=Str) kvs [] (by rw[nil_append,hk.keys];exact hn)
 rw[hm,nil_append]at hd
 refine Fp hd.mapOf λo es ep ho hx hdat hks hf=>?_
 have hk2:∀a o,s.heap.get? a=some o->h'.get? a=some o:=λa o e=>by
  rw[hs.2 a (ne_of_lt (Heap.lt_size e))];exact Ft _ e
 refine Ae (F.allocAt H.ok hk2 ho (tk+ps.length) (lt_of_lt_of_le F.tk (Ao ht (le_add_right _ _)))) λle F'=>?_
 refine(Fx (d:=.sem (Jk Γ tab)) ⟨_,λ_ _ h=>h,s.heap.objs.size,o,es,ep,valueAt kvs,rfl,?_,Gh.put_self _ _ _,hx,hdat,hks,hf,λk=>hk.at⟩ F' q).up le (Bp.refl _)
 ·rw[beq_eq_false_iff_ne]
  intro e
  refine Ad hsm λo ho=>?_
  exact lt_irrefl _ (e▸Heap.lt_size (F.store.gin _ _ (F.store.base _ _ ho)))
noncomputable def dX (Γ:W) (d:D) (ds:List D) (σ:St) (Q:D->St->Prop):Prop:=∃tab x y,d=.sem (Jk Γ tab)/\ds=[.str x,.str y]/\Q (.str (match Nh tab ⟨x.toArray⟩with|some z=>z.cps.toList|none=>y)) σ
theorem Vr (H:Ev Γ A env){d:D}{v:Value}{ds:List D}{vs:List Value}{Q:D->St->Prop}(F:Aa Γ K env G ι σ s)(r:A7 G ι d v)(rl:Rl G ι ds vs)(h:dX Γ d ds σ Q):wpAny (model Γ.prog Γ.w) A (call (.builtin "dict.get") (v::vs)) (As Γ K env VR G ι Q) (λ_ _=>False) s:=by
 refine Ez h λtab x y e1 e2 q=>?_
 try clear h
 subst e1 e2
 refine Ag rl λv1 w1 e rv1 hw=>?_
 refine Ag hw λv2 w2 e2 rv2 hw2=>?_
 rw[Az hw2]at e2
 subst e2 e
 refine Ad rv1 λt1 e=>Ad rv2 λt2 e2=>?_
 subst e e2
 refine Ab r λG₀ hG Z=>?_
 try clear r
 refine Cq Z λa o es ep f e hne hg hx zz=>Bn zz λhd hk hf hv=>?_
 clear Z
 subst e
 have hm:s.heap.MapOf (PySem.strKind Γ.prog Γ.w) a f:=⟨o,es,ep,F.store.gin _ _ (hG _ _ hg),hx,hd,hk,hf⟩
 refine call_meetsIn PySem.F.slot_dict_get hm.typeIs PySem.F.entry_dict_get (PySem.F.args_dict_get_3 _ _ _) (meets_dict_get_default (PySem.strKind Γ.prog Γ.w) a (k:=⟨x.toArray⟩) (by show Value.isStrOf (⟨x.toArray⟩:Str) (.str ⟨x.toArray⟩ t1)=true;exact decide_eq_true rfl) hne _) ⟨f,hm,?_⟩
 have:=hv ⟨x.toArray⟩
 revert this q
 cases Nh tab ⟨x.toArray⟩with
 |none=>intro q h;rw[show f _=none from h];exact Ix (F.toks _) rfl q
 |some z=>intro q h;refine Ad h λt h=>?_;rw[h];exact Ix (F.toks _) rfl q
theorem gZ {d:D}{v:Value}(F:Aa Γ K env G ι σ s)(r:A7 G ι d v)(h:∃tab,d=.sem (Jk Γ tab)):s.TypeIs v "dict"/\∀a,v=.ref a->∃ob,s.heap.get? a=some ob/\ob.dict=none:=by
 refine Ad h λtab e=>?_
 subst e
 refine Ab r λG₀ hG Z=>?_
 try clear r
 refine Cq Z λa o es ep f e hne hg hx zz=>Bn zz λhd hk hf hv=>?_
 clear Z
 subst e
 have hm:s.heap.MapOf (PySem.strKind Γ.prog Γ.w) a f:=⟨o,es,ep,F.store.gin _ _ (hG _ _ hg),hx,hd,hk,hf⟩
 exact⟨hm.typeIs,λa' e=>by cases e;exact⟨o,F.store.gin _ _ (hG _ _ hg),hx.2.1⟩⟩
theorem jN (H:Ev Γ A env){o:Expr}{apos pos:Pos}{e e':Expr}{T0:TT}{T:St->(List D->St->Prop)->Prop}(h0:Bl Γ A env o T0)(h:H8 Γ A env pos [e,e'] T)(hs:starEach [e,e'] env=(false,eval e env)::starEach [e'] env)
  (hp:(backTo pos (starEach [e'] env)).any (·.1)=false)
  (hbase:attributeBase o (ofString "get") env (eval o env)=eval o env)
  (hfew:((backTo pos (starEach [e,e'] env)).all (λx=> !x.1)&&(backToKw pos (keywordEach [] env)).all (λx=>x.1.isSome)&&decide ([e,e'].length+([]:List Keyword).length+(if([]:List Keyword).isEmpty then 0 else 1)<30))=true)
  (hline:(apos.endLine==pos.line)=true):
  Bl Γ A env (.Call (.Attribute o (ofString "get") apos) [e,e'] [] pos) (λσ Q=>T0 σ λd σ=>(∃tab,d=.sem (Jk Γ tab))/\T σ λds σ=>dX Γ d ds σ Q):=
 Lq PySem.F.plainAttrs_dict PySem.F.slot_dict_get PySem.F.type_dict_get (λF r h=>gZ F r h) (λF r rl h=>Vr H F r rl h) h0 h hs hp hbase hfew hline
end
section
set_option genInjectivity false
set_option genSizeOf false
open PySem.W.X (postR postA postC postE tableObj y_call y_code y_start)
inductive Op where
 |n (i:Nat)
 |o (j:Nat)
 |t
 |p
 |s (j:Nat)
 |a (id:String)
inductive Wd (α:Type) where
 |top (k:Result->Sem α)
 |ret (c:Code) (hd:Option Value) (k:Result->Sem Fin) (κ:Wd α)
inductive Ep (α:Type) where
 |top (t:Sem α)
 |inn (c:Code) (κ:Wd α) (t:Sem Fin)
structure SS where
 T:BT
 m:Nat
 i:Nat
 vs:Array Value
 L:List (Addr×Addr):=[]
 C:List (Code×Code):=[]
noncomputable def SS.Good (S:SS):Prop:=S.L.map (·.1)=S.L.map (·.2)/\S.C.map (·.1)=S.C.map (·.2)
structure pV where
 c:Code
 r:Result
 eff:SS->Option SS
structure XO where
 prog:Program
 w:World
 h₀:Heap
 n₁:Nat
 olds:List (Addr×Obj)
 P:Addr
 A:Around
 g:Array GenState
 d:Drawn
 t₀:Nat
 os:OsState
 sums:List pV:=[]
section
variable {α:Type}(V:XO)(Q:α->Shared->Prop)
noncomputable abbrev XO.M:Model:=model V.prog V.w
noncomputable def XO.ar:Wd α->Around
 | .top _=>V.A
 | .ret c hd _ κ=>((ar κ).under c).mark hd
noncomputable def XO.en:Wd α->Result->Shared->Prop
 | .top k=>postA V.prog V.w V.A Q (λ_ _=>False) k
 | .ret c _ k κ=>postR V.prog V.w (V.ar κ) c (postC V.prog V.w (V.ar κ) (en κ)) (postE (en κ)) k
noncomputable def XO.Means:Ep α->Shared->Prop
 | .top t,s=>wpAny V.M V.A t Q (λ_ _=>False) s
 | .inn c κ t,s=>wpOwn V.M (V.ar κ) c t (postC V.prog V.w (V.ar κ) (V.en Q κ)) (postE (V.en Q κ)) s
noncomputable def XO.at (S:SS) (h:Heap):Shared:=⟨h,V.g,V.d,V.t₀+S.i,V.os⟩
structure XO.Rep (h:Heap)(S:SS):Prop where
 size:h.objs.size=V.n₁+S.m
 own:∀i o,S.T.get i=some o->i<S.m/\h.get? (V.n₁+i)=some o
 keep:∀b o,V.h₀.get? b=some o->b≠V.P->h.get? b=some o
 tab:h.get? V.P=some (tableObj S.vs)
 lt:V.P<V.n₁
structure XO.Ok0:Prop where
 size:V.h₀.objs.size=V.n₁
 olds:∀p∈V.olds,V.h₀.get? p.1=some p.2/\p.1≠V.P
noncomputable def XO.Told (X:pV):Prop:=∀A R S S' h,X.eff S=some S'->S'.L=S.L/\S'.C=S.C/\(V.Rep h S->(∀h',V.Rep h' S'->R X.r (V.at S' h'))->codeAny V.M A X.c R (V.at S h))
structure XO.Ok:Prop extends XO.Ok0 V where
 sums:∀X∈V.sums,V.Told X
noncomputable def X9 (ops:List Op) (S:SS) (a:Addr):Option (List Op×SS×Obj):=match ops with
 | .n j::ops=>(S.T.get j).map λo=>(ops,{S with L:=(a,V.n₁+j)::S.L},o)
 | .o j::ops=>V.olds[j]?.map λp=>(ops,{S with L:=(a,p.1)::S.L},p.2)
 | .t::ops=>some (ops,{S with L:=(a,V.P)::S.L},tableObj S.vs)
 |_=>none
noncomputable def dI (ops:List Op) (S:SS) (a:Addr) (f:Obj->Obj):Option (List Op×SS):=match ops with
 | .n j::ops=>match S.T.get j with
  |some o=>match(f o).isFreed with
   |true=>none
   |false=>some (ops,{S with L:=(a,V.n₁+j)::S.L,T:=S.T.set j f})
  |none=>none
 | .t::ops=>(PySem.W.X.tabOf (f (tableObj S.vs))).map λvs'=>(ops,{S with L:=(a,V.P)::S.L,vs:=vs'})
 |_=>none
noncomputable def Po (S:SS) (o:Obj):Option SS:=match o.isFreed with
 |true=>none
 |false=>match(S.T.ins S.m o).get S.m with
  |some _=>some {S with T:=S.T.ins S.m o,m:=S.m+1}
  |none=>none
inductive iP (β:Type) where
 |pure (a:β)
 |raise (e:Value)
 |go (t:Sem β)
 |fresh (k:Tok->Sem β)
 |alloc (o:Obj) (k:Addr->Sem β)
 |load (a:Addr) (p:Option Value) (k:Obj->Sem β)
 |alive (a:Addr) (k:Option Obj->Sem β)
 |update (a:Addr) (p:Option Value) (f:Obj->Obj) (k:Unit->Sem β)
 |handled (k:Option Value->Sem β)
 |call (c:Code) (hd:Option Value) (g:Bool) (l:List Value) (k:Result->Sem β)
 |other
noncomputable def Ps {β:Type} (st:Setting) (t:Sem β):iP β:=match t with
 | .pure a=>.pure a
 | .raise e=>.raise e
 | .rule _ k=>.go (k ())
 | .at _ k=>.go (k ())
 | .point _ k=>.go (k ())
 | .ask k=>.go (k st)
 | .fresh k=>.fresh k
 | .alloc o k=>.alloc o k
 | .load a p k=>.load a p k
 | .loadIfAlive a k=>.alive a k
 | .update a p f k=>.update a p f k
 | .handled own k=>if own then .other else .handled k
 | .call c hd g l k=>.call c hd g l k
 |_=>.other
noncomputable def Hw (r:Result):Wd α->Ep α
 | .top k=>.top (k r)
 | .ret c₁ _ k κ=>.inn c₁ κ (k r)
noncomputable def Pl (tb:String->Option Builtin) (ops:List Op) (S:SS) (c:Code) (inn:Wd α):Option (List Op×SS×Ep α):=match ops with
 | .s j::ops=>match V.sums[j]? with
  |some X=>(X.eff S).map λS'=>(ops,{S' with C:=(c,X.c)::S'.C},Hw X.r inn)
  |none=>none
 |ops=>some (ops,S,.inn c inn (denote tb c))
noncomputable def lN (tb:String->Option Builtin) (ops:List Op) (S:SS) (κ:Wd α):Fin->Option (List Op×SS×Ep α)
 | .done f=>some (ops,S,Hw (.ok f) κ)
 | .again c'=>match c'.quiet with
  |true=>some (ops,S,.inn c' κ (denote tb c'))
  |false=>none
noncomputable def Wx {β:Type} (wrap:Sem β->Ep α) (ops:List Op) (S:SS) (hv:Option Value):iP β->Option (List Op×SS×Ep α)
 | .go t=>some (ops,S,wrap t)
 | .fresh k=>some (ops,{S with i:=S.i+1},wrap (k (V.t₀+S.i)))
 | .alloc o k=>(Po S o).map λS'=>(ops,S',wrap (k (V.n₁+S.m)))
 | .load a _ k=>(X9 V ops S a).map λr=>(r.1,r.2.1,wrap (k r.2.2))
 | .alive a k=>(X9 V ops S a).map λr=>(r.1,r.2.1,wrap (k (some r.2.2)))
 | .update a _ f k=>(dI V ops S a f).map λr=>(r.1,r.2,wrap (k ()))
 | .handled k=>some (ops,S,wrap (k hv))
 |_=>none
noncomputable def dJ (tb:String->Option Builtin) (ops:List Op) (S:SS):iP α->Option (List Op×SS×Ep α)
 | .call c hd _ _ k=>match hd with
  |none=>Pl V tb ops S c (.top k)
  |some _=>none
 |t=>Wx V .top ops S V.A.handled t
noncomputable def dK (tb:String->Option Builtin) (ops:List Op) (S:SS) (c:Code) (κ:Wd α):iP Fin->Option (List Op×SS×Ep α)
 | .pure fin=>lN tb ops S κ fin
 | .raise e=>some (ops,S,Hw (.error e) κ)
 | .call c' hd _ _ k=>match PySem.W.X.okMark hd with
  |true=>Pl V tb ops S c' (.ret c hd k κ)
  |false=>none
 |t=>Wx V (.inn c κ) ops S ((V.ar κ).under c).handled t
noncomputable def Td (tb:String->Option Builtin) (ops:List Op) (S:SS):Ep α->Option (List Op×SS×Ep α)
 | .top t=>dJ V tb ops S (Ps ⟨V.prog,V.w.params⟩ t)
 | .inn c κ t=>dK V tb ops S c κ (Ps ⟨V.prog,V.w.params⟩ t)
noncomputable def pC:List Op->Bool
 | .p::_=>true
 |_=>false
noncomputable def Yx:Ep α->Bool
 | .top t=>match Ps ⟨V.prog,V.w.params⟩ t with
  | .pure _=>true
  |_=>false
 | .inn .. =>false
noncomputable def Qu:Ep α->Option (Code×Bool)
 | .top t=>match Ps ⟨V.prog,V.w.params⟩ t with
  | .call c hd _ _ _=>some (c,hd.isNone)
  |_=>none
 | .inn _ _ t=>match Ps ⟨V.prog,V.w.params⟩ t with
  | .call c hd _ _ _=>some (c,PySem.W.X.okMark hd)
  | .pure fin=>match fin with
   | .again c=>some (c,c.quiet)
   | .done _=>none
  |_=>none
noncomputable def Xd (r:Result):Ep α->Ep α
 | .top t=>match Ps ⟨V.prog,V.w.params⟩ t with
  | .call _ _ _ _ k=>.top (k r)
  |_=>.top t
 | .inn c κ t=>match Ps ⟨V.prog,V.w.params⟩ t with
  | .call _ _ _ _ k=>.inn c κ (k r)
  |_=>Hw r κ
noncomputable def sU (id:String):Code->Bool
 | .builtin i _=>i==id
 |_=>false
noncomputable def pT (ops:List Op) (x:Ep α):Bool:=match ops with
 | .a id::_=>match Qu V x with
  |some p=>sU id p.1
  |none=>false
 |_=>false
noncomputable def Ry (tb:String->Option Builtin):Nat->List Op->SS->Ep α->Option (SS×Ep α)
 |0,_,_,_=>none
 |n+1,ops,S,x=>match pC ops||pT V ops x with
  |true=>some (S,x)
  |false=>match Yx V x with
   |true=>some (S,x)
   |false=>match Td V tb ops S x with
    |some (ops,S,x)=>Ry tb n ops S x
    |none=>none
end
end
section
open PySem.W.X (postR postA postC postE tableObj y_call y_code y_start)
section
variable {α β:Type}{V:XO}{Q:α->Shared->Prop}{h:Heap}{S S':SS}
theorem SS.Good.cons {S:SS}{p:Addr×Addr}{L:List (Addr×Addr)}(e:S.L=p::L)(g:S.Good):p.1=p.2/\SS.Good {S with L:=L}:=by
 refine Ae g λa b=>?_
 try clear g
 rw[e,Gb,Gb,List.cons.injEq]at a
 exact⟨a.1,a.2,b⟩
theorem XO.Ok0.old (O:V.Ok0){b:Addr}{o:Obj}(e:V.h₀.get? b=some o):b<V.n₁:=O.size▸Heap.lt_size e
theorem far {a n:Nat}(h:a<n)(j:Nat):a≠n+j:=λe=>by exact rM (Bk h (Bt e.symm))
theorem XO.Rep.same (D:V.Rep h S){S':SS}(e1:S'.T=S.T)(e2:S'.m=S.m)(e3:S'.vs=S.vs):V.Rep h S':=
 ⟨e2▸D.size,λi o e=>e2▸D.own i o (e1▸e),D.keep,e3▸D.tab,D.lt⟩
theorem XO.Rep.alloc (D:V.Rep h S){o:Obj}(hf:o.isFreed=false)(hg:((S.T.ins S.m o).get S.m).isSome=true):V.Rep (h.push o) {S with T:=S.T.ins S.m o,m:=S.m+1}:=by
 refine⟨by rw[Heap.size_push,D.size];exact add_assoc ..,λi o' e=>?_,λb o' e q=>Ft _ (D.keep b o' e q),Ft _ D.tab,D.lt⟩
 have e:(S.T.ins S.m o).get i=some o':=e
 rw[BT.get_ins o S.T S.m hg]at e
 by_cases hi:i=S.m
 ·subst hi
  rw[Bc rfl]at e
  cases e
  refine⟨lt_succ_self _,?_⟩
  rw[<-D.size];exact Heap.get?_push_size _ hf
 ·rw[Ay hi]at e
  have z:=D.own i o' e
  exact⟨lt_succ_of_lt z.1,Ft _ z.2⟩
theorem XO.Rep.update (O:V.Ok0)(D:V.Rep h S){j:Nat}{o:Obj}{f:Obj->Obj}(e:S.T.get j=some o)(hf:(f o).isFreed=false):V.Rep (h.update (V.n₁+j) f) {S with T:=S.T.set j f}:=by
 have z:=D.own _ _ e
 have hs:Heap.SameBut (V.n₁+j) h (h.update (V.n₁+j) f):=Heap.SameBut.update ..
 refine⟨by rw[hs.1,D.size],λi o' e'=>?_,λb o' e' q=>(hs.2 b (far (O.old e') j)).trans (D.keep b o' e' q),(hs.2 _ (far D.lt j)).trans D.tab,D.lt⟩
 have e':(S.T.set j f).get i=some o':=e'
 rw[BT.get_set]at e'
 by_cases hi:i=j
 ·subst hi
  rw[Bc rfl,e]at e'
  cases e'
  exact⟨z.1,by first|exact Heap.get?_update_self f z.2 hf|exact Heap.get?_update_self _ z.2 hf⟩
 ·rw[Ay hi]at e'
  have y:=D.own i o' e'
  exact⟨y.1,(hs.2 _ λx=>hi (Nat.add_left_cancel x)).trans y.2⟩
theorem XO.Rep.table (O:V.Ok0)(D:V.Rep h S){f:Obj->Obj}{vs':Array Value}(hn:f (tableObj S.vs)=tableObj vs'):V.Rep (h.update V.P f) {S with vs:=vs'}:=by
 have hs:Heap.SameBut V.P h (h.update V.P f):=Heap.SameBut.update ..
 have hf:(f (tableObj S.vs)).isFreed=false:=by rw[hn];rfl
 refine⟨by rw[hs.1,D.size],λi o' e'=>?_,λb o' e' q=>(hs.2 b q).trans (D.keep b o' e' q),?_,D.lt⟩
 ·have y:=D.own i o' e'
  exact⟨y.1,(hs.2 _ (far D.lt i).symm).trans y.2⟩
 ·show(h.update V.P f).get? V.P=some (tableObj vs')
  rw[<-hn]
  first|exact Heap.get?_update_self f D.tab hf|exact Heap.get?_update_self _ D.tab hf
variable (V Q) in
noncomputable def Kz (S:SS)(x:Ep α)(S':SS)(x':Ep α):Prop:=S'.Good->S.Good/\((∀h',V.Rep h' S'->V.Means Q x' (V.at S' h'))->∀h,V.Rep h S->V.Means Q x (V.at S h))
theorem Kz.trans {S S' S'':SS}{x x' x'':Ep α}(a:Kz V Q S x S' x')(b:Kz V Q S' x' S'' x''):Kz V Q S x S'' x'':=λg=>
 have z:=b g
 have y:=a z.1
 ⟨y.1,λk=>y.2 (z.2 k)⟩
theorem Kt (O:V.Ok0){ops ops':List Op}{S S':SS}{a:Addr}{o:Obj}(e:X9 V ops S a=some (ops',S',o)):S'.Good->S.Good/\(∀h,V.Rep h S->V.Rep h S'/\h.get? a=some o)/\S'.i=S.i:=by
 intro g
 cases ops with
 |nil=>exact H1 e
 |cons op ops=>
  cases op with
  |n j=>
   refine Ab (Option.map_eq_some_iff.mp (show(S.T.get j).map _=_ from e)) λx e1 e2=>?_
   cases e2
   refine Ae (g.cons rfl) λq g=>?_
   exact⟨g,λh D=>⟨D.same rfl rfl rfl,by rw[show a=_ from q];exact(D.own _ _ e1).2⟩,rfl⟩
  |o j=>
   refine Ab (Option.map_eq_some_iff.mp (show V.olds[j]?.map _=_ from e)) λx e1 e2=>?_
   cases e2
   refine Ae (g.cons rfl) λq g=>?_
   refine Ae (O.olds x (List.mem_of_getElem? e1)) λy1 y2=>?_
   exact⟨g,λh D=>⟨D.same rfl rfl rfl,by rw[show a=_ from q];exact D.keep _ _ y1 y2⟩,rfl⟩
  |t=>
   cases (show some (_,_,_)=some _ from e)
   refine Ae (g.cons rfl) λq g=>?_
   exact⟨g,λh D=>⟨D.same rfl rfl rfl,by rw[show a=_ from q];exact D.tab⟩,rfl⟩
  |_=>exact H1 e
theorem P7 (O:V.Ok0){ops ops':List Op}{S S':SS}{a:Addr}{f:Obj->Obj}(e:dI V ops S a f=some (ops',S')):S'.Good->S.Good/\(∀h,V.Rep h S->V.Rep (h.update a f) S'/\∃o,h.get? a=some o)/\S'.i=S.i:=by
 intro g
 cases ops with
 |nil=>exact H1 e
 |cons op ops=>
  cases op with
  |n j=>
   have e:(match S.T.get j with|some o=>(match(f o).isFreed with|true=>none|false=>some (ops,{S with L:=(a,V.n₁+j)::S.L,T:=S.T.set j f}))|none=>none)=some (ops',S'):=e
   cases e1:S.T.get j with
   |none=>rw[e1]at e;exact H1 e
   |some o=>
    rw[e1]at e
    cases hf:(f o).isFreed with
    |true=>exact H1 ((congrArg (λb=>match b with|true=>none|false=>some (ops,{S with L:=(a,V.n₁+j)::S.L,T:=S.T.set j f})) hf).symm.trans e)
    |false=>
     cases (congrArg (λb=>match b with|true=>none|false=>some (ops,{S with L:=(a,V.n₁+j)::S.L,T:=S.T.set j f})) hf).symm.trans e
     refine Ae (g.cons rfl) λq g=>?_
     rw[show a=_ from q]
     exact⟨g,λh D=>⟨(D.update O e1 hf).same rfl rfl rfl,o,(D.own _ _ e1).2⟩,rfl⟩
  |t=>
   refine Ab (Option.map_eq_some_iff.mp (show(PySem.W.X.tabOf _).map _=_ from e)) λx e1 e2=>?_
   cases e2
   refine Ae (g.cons rfl) λq g=>?_
   rw[show a=_ from q]
   exact⟨g,λh D=>⟨(D.table O (PySem.W.X.tabOf_eq e1)).same rfl rfl rfl,_,D.tab⟩,rfl⟩
  |_=>exact H1 e
theorem Nd {S S':SS}{o:Obj}(e:Po S o=some S'):(S'.Good->S.Good)/\(∀h,V.Rep h S->V.Rep (h.push o) S')/\S'.i=S.i:=by
 unfold Po at e
 cases hf:o.isFreed with
 |true=>rw[hf]at e;exact H1 e
 |false=>
  rw[hf]at e
  cases e1:(S.T.ins S.m o).get S.m with
  |none=>rw[e1]at e;exact H1 e
  |some o'=>
   rw[e1]at e
   cases (show some _=some _ from e)
   exact⟨λg=>g,λh D=>D.alloc hf (by rw[e1];rfl),rfl⟩
noncomputable def iK (M:Model) (t:Sem β):iP β->Prop
 | .pure a=>t=.pure a
 | .raise e=>t=.raise e
 | .go t'=>∀Γ p Q E s,(∀p',Sem.wp M Γ t' Q E p' s)->Sem.wp M Γ t Q E p s
 | .fresh k=>t=.fresh k
 | .alloc o k=>t=.alloc o k
 | .load a p k=>t=.load a p k
 | .alive a k=>t=.loadIfAlive a k
 | .update a p f k=>t=.update a p f k
 | .handled k=>t=.handled false k
 | .call c hd g l k=>t=.call c hd g l k
 | .other=>True
theorem cU (V:XO)(t:Sem β):iK V.M t (Ps ⟨V.prog,V.w.params⟩ t):=by
 cases t with
 |handled own k=>cases own with
  |true=>trivial
  |false=>rfl
 |rule=>exact λΓ p Q E s h=>h p
 |«at» q k=>exact λΓ p Q E s h=>h q
 |point=>exact λΓ p Q E s h=>h p
 |ask=>exact λΓ p Q E s h=>h p
 |_=>first|rfl|trivial
noncomputable def Zz (V:XO) (Q:α->Shared->Prop) (wrap:Sem β->Ep α) (hv:Option Value):Prop:=∃C:Ctx->Prop,∃R:β->Shared->Prop,∃E:Value->Shared->Prop,
 (∀Γ,C Γ->∃A:Around,Γ.In A/\A.handled=hv)/\∀t s,V.Means Q (wrap t) s↔∀Γ p,C Γ->Sem.wp V.M Γ t (λa _ s'=>R a s') (λe _ s'=>E e s') p s
theorem Xs:Zz V Q (Ep.top:Sem α->Ep α) V.A.handled:=⟨λΓ=>Γ.In V.A,Q,λ_ _=>False,λ_ h=>⟨_,h,rfl⟩,λt s=>Iff.rfl⟩
theorem Xt (c:Code)(κ:Wd α):Zz V Q (Ep.inn c κ) ((V.ar κ).under c).handled:=
 ⟨λΓ=>Γ.code=c/\Γ.Below (V.ar κ),postC V.prog V.w (V.ar κ) (V.en Q κ),postE (V.en Q κ),λ_ h=>⟨_,h.1▸h.2.in,rfl⟩,λt s=>⟨λH Γ p h=>H Γ p h.1 h.2,λH Γ p h1 h2=>H Γ p ⟨h1,h2⟩⟩⟩
theorem fJ {wrap:Sem β->Ep α}{hv:Option Value}(W:Zz V Q wrap hv){t t':Sem β}{s:Shared}(b:iK V.M t (.go t'))(h:V.Means Q (wrap t') s):V.Means Q (wrap t) s:=by
 refine Ce W λC R E hC hW=>?_
 try clear W
 rw[hW]at h⊢
 exact λΓ p hp=>b Γ p _ _ s λp'=>h Γ p' hp
theorem Et {γ:Type}{wrap:Sem β->Ep α}{hv:Option Value}(W:Zz V Q wrap hv){t:Sem γ}{k:γ->Sem β}{s:Shared}(h:∀A:Around,A.handled=hv->wpAny V.M A t (λa s'=>V.Means Q (wrap (k a)) s') (λ_ _=>False) s):V.Means Q (wrap (t>>=k)) s:=by
 refine Ce W λC R E hC hW=>?_
 try clear W
 rw[hW]
 intro Γ p hp
 refine Ab (hC Γ hp) λA hA hv=>?_
 have z:=h A hv Γ p hA
 rw[Sem.wp_bind']
 exact Sem.wp_mono _ _ t (λa p' s' x=>(hW _ _).mp x Γ p' hp) (λ_ _ _ x=>x.elim) p s z
theorem Kn (O:V.Ok0){wrap:Sem β->Ep α}{hv:Option Value}(W:Zz V Q wrap hv){ops ops':List Op}{S S':SS}{t:Sem β}{x:Ep α}(d:iP β)(b:iK V.M t d)(e:Wx V wrap ops S hv d=some (ops',S',x)):Kz V Q S (wrap t) S' x:=by
 intro g
 cases d with
 |go t'=>cases e;exact⟨g,λk h D=>fJ W b (k h D)⟩
 |fresh k=>cases e;cases b;exact⟨g,λK h D=>Et W (t:=fresh) (k:=k) λA _=>wpAny_fresh (K h (D.same rfl rfl rfl))⟩
 |alloc o k=>
  cases b
  refine Ab (Option.map_eq_some_iff.mp e) λS₁ e1 e2=>?_
  cases e2
  refine At (Nd (V:=V) e1) λy1 y2 y3=>?_
  refine⟨y1 g,λK h D=>Et W (t:=PySem.alloc o) (k:=k) λA _=>wpAny_alloc ?_⟩
  have z:=K _ (y2 h D)
  unfold XO.at at z
  rw[y3,<-D.size]at z
  exact z
 |load a p k=>
  cases b
  refine Ab (Option.map_eq_some_iff.mp e) λr e1 e2=>?_
  cases e2
  refine At (Kt O (S':=r.2.1) (o:=r.2.2) (ops':=r.1) e1 g) λy1 y2 y3=>?_
  refine⟨y1,λK h D=>Et W (t:=loadPart a p) (k:=k) λA _=>wpAny_loadPart (y2 h D).2 ?_⟩
  have z:=K h (y2 h D).1
  unfold XO.at at z
  rw[y3]at z
  exact z
 |alive a k=>
  cases b
  refine Ab (Option.map_eq_some_iff.mp e) λr e1 e2=>?_
  cases e2
  refine At (Kt O (S':=r.2.1) (o:=r.2.2) (ops':=r.1) e1 g) λy1 y2 y3=>?_
  refine⟨y1,λK h D=>Et W (t:=.loadIfAlive a .pure) (k:=k) λA _ Γ p hΓ=>?_⟩
  have z:=K h (y2 h D).1
  unfold XO.at at z
  rw[y3,<-(y2 h D).2]at z
  exact z
 |update a p f k=>
  cases b
  refine Ab (Option.map_eq_some_iff.mp e) λr e1 e2=>?_
  cases e2
  refine At (P7 O (S':=r.2) (ops':=r.1) e1 g) λy1 y2 y3=>?_
  refine⟨y1,λK h D=>Et W (t:=updatePart a p f) (k:=k) λA _=>wpAny_updatePart (y2 h D).2.choose_spec ?_⟩
  have z:=K _ (y2 h D).1
  unfold XO.at at z
  rw[y3]at z
  exact z
 |handled k=>
  cases e;cases b
  exact⟨g,λK h D=>Et W (t:=handled) (k:=k) λA hA=>wpAny_handled (by rw[hA];exact K h D)⟩
 |_=>cases e
theorem Eh {r:Result}{κ:Wd α}{s:Shared}(h:V.Means Q (Hw r κ) s):V.en Q κ r s:=by
 cases κ<;>exact h
theorem Jd (O:V.Ok){ops ops':List Op}{S S':SS}{c:Code}{κ:Wd α}{x:Ep α}(e:Pl V table ops S c κ=some (ops',S',x)):S'.Good->S.Good/\((∀h',V.Rep h' S'->V.Means Q x (V.at S' h'))->∀h,V.Rep h S->codeAny V.M (V.ar κ) c (V.en Q κ) (V.at S h)):=by
 intro g
 have pl:(ops,S,Ep.inn c κ (denote table c))=(ops',S',x)->S'.Good->S.Good/\((∀h',V.Rep h' S'->V.Means Q x (V.at S' h'))->∀h,V.Rep h S->codeAny V.M (V.ar κ) c (V.en Q κ) (V.at S h)):=λe g=>by
  cases e
  exact⟨g,λK h D=>y_code _ _ _ _ _ _ (K h D)⟩
 cases ops with
 |nil=>exact pl (Option.some.inj e) g
 |cons op ops=>
  cases op with
  |s j=>
   have e:(match V.sums[j]? with|some X=>(X.eff S).map λS'=>(ops,{S' with C:=(c,X.c)::S'.C},Hw X.r κ)|none=>none)=some (ops',S',x):=e
   cases eX:V.sums[j]? with
   |none=>rw[eX]at e;exact H1 e
   |some X=>
   rw[eX]at e
   refine Ab (Option.map_eq_some_iff.mp e) λS₁ e1 e2=>?_
   cases e2
   refine At (O.sums X (List.mem_of_getElem? eX) (V.ar κ) (V.en Q κ) S S₁ default e1) λy1 y2 y3=>?_
   refine Ae g λg1 g2=>?_
   try clear g
   have g2:c=X.c/\S₁.C.map (·.1)=S₁.C.map (·.2):=by
    have:c::S₁.C.map (·.1)=X.c::S₁.C.map (·.2):=g2
    rw[List.cons.injEq]at this;exact this
   refine⟨⟨?_,?_⟩,λK h D=>?_⟩
   ·rw[<-y1];exact g1
   ·rw[<-y2];exact g2.2
   ·refine At (O.sums X (List.mem_of_getElem? eX) (V.ar κ) (V.en Q κ) S S₁ h e1) λ_ _ y3=>?_
    rw[g2.1]
    exact y3 D λh' D'=>Eh (K h' (D'.same rfl rfl rfl))
  |_=>exact pl (Option.some.inj e) g
theorem Qe (O:V.Ok){ops ops':List Op}{S S':SS}{x x':Ep α}(e:Td V table ops S x=some (ops',S',x')):Kz V Q S x S' x':=by
 cases x with
 |top t=>
  have b:=cU V t
  have e:dJ V table ops S (Ps ⟨V.prog,V.w.params⟩ t)=_:=e
  generalize Ps ⟨V.prog,V.w.params⟩ t=d at b e
  cases d with
  |call c hd g l k=>
   cases hd with
   |some _=>cases e
   |none=>
    cases b
    intro g
    refine Ae (Jd O (Q:=Q) e g) λy1 y2=>?_
    exact⟨y1,λK h D=>y_start _ _ _ _ _ _ _ _ _ _ _ _ (λe=>nomatch e) (y2 K h D)⟩
  |_=>first|exact Kn O.toOk0 Xs _ b e|cases e
 |inn c κ t=>
  have b:=cU V t
  have e:dK V table ops S c κ (Ps ⟨V.prog,V.w.params⟩ t)=_:=e
  generalize Ps ⟨V.prog,V.w.params⟩ t=d at b e
  cases d with
  |pure fin=>
   cases b
   cases fin with
   |done f=>cases e;exact λg=>⟨g,λK h D=>PySem.W.X.y_pure _ _ _ _ _ _ _ _ _ (PySem.W.X.y_done _ _ _ _ _ _ (Eh (K h D)))⟩
   |again c'=>
    have e:(match c'.quiet with|true=>some (ops,S,Ep.inn c' κ (denote table c'))|false=>none)=some (ops',S',x'):=e
    cases q:c'.quiet with
    |false=>rw[q]at e;cases e
    |true=>
     rw[q]at e
     cases e
     exact λg=>⟨g,λK h D=>PySem.W.X.y_pure _ _ _ _ _ _ _ _ _ (PySem.W.X.y_again _ _ _ _ _ _ q (y_code _ _ _ _ _ _ (K h D)))⟩
  |raise v=>
   cases b;cases e
   exact λg=>⟨g,λK h D=>PySem.W.X.y_raise _ _ _ _ _ _ _ _ _ (PySem.W.X.y_err _ _ _ (Eh (K h D)))⟩
  |call c' hd g l k=>
   cases b
   have e:(match PySem.W.X.okMark hd with|true=>Pl V table ops S c' (.ret c hd k κ)|false=>none)=some (ops',S',x'):=e
   cases q:PySem.W.X.okMark hd with
   |false=>rw[q]at e;cases e
   |true=>
    rw[q]at e
    intro g
    refine Ae (Jd O (Q:=Q) e g) λy1 y2=>?_
    exact⟨y1,λK h D=>y_call _ _ _ _ _ _ _ _ _ _ _ _ _ (by rintro rfl;simp[PySem.W.X.okMark]at q) (y2 K h D)⟩
  |_=>first|exact Kn O.toOk0 (Xt c κ) _ b e|cases e
theorem Rx (O:V.Ok):∀n ops S (x:Ep α) r,Ry V table n ops S x=some r->Kz V Q S x r.1 r.2:=by
 intro lq
 induction lq with
 |zero=>intro _ _ _ _ e;exact nomatch e
 |succ n ih=>
  intro ops S x r e
  have e:(match pC ops||pT V ops x with
   |true=>some (S,x)
   |false=>match Yx V x with
    |true=>some (S,x)
    |false=>match Td V table ops S x with
     |some (ops,S,x)=>Ry V table n ops S x
     |none=>none)=some r:=e
  have same:some (S,x)=some r->Kz V Q S x r.1 r.2:=λe=>by cases e;exact λg=>⟨g,λK=>K⟩
  cases q1:(pC ops||pT V ops x)with
  |true=>rw[q1]at e;exact same e
  |false=>
   rw[q1]at e
   cases q2:Yx V x with
   |true=>rw[q2]at e;exact same e
   |false=>
    rw[q2]at e
    cases q:Td V table ops S x with
    |none=>rw[q]at e;exact H1 e
    |some y=>
     rw[q]at e
     exact(Qe O q).trans (ih _ _ _ _ e)
theorem Zo {x:Ep α}{c:Code}{s:Shared}(hx:Qu V x=some (c,true))(h:∀A R,(∀r s',V.Means Q (Xd V r x) s'->R r s')->codeAny V.M A c R s):V.Means Q x s:=by
 cases x with
 |top t=>
  have b:=cU V t
  have hx:(match Ps ⟨V.prog,V.w.params⟩ t with| .call c hd _ _ _=>some (c,hd.isNone)|_=>none)=some (c,true):=hx
  have h:∀A R,(∀r s',V.Means Q (match Ps ⟨V.prog,V.w.params⟩ t with| .call _ _ _ _ k=>.top (k r)|_=>.top t) s'->R r s')->codeAny V.M A c R s:=h
  generalize Ps ⟨V.prog,V.w.params⟩ t=d at b hx h
  cases d with
  |call c' hd g l k=>
   cases b
   cases hd with
   |some _=>cases hx
   |none=>cases hx;exact y_start _ _ _ _ _ _ _ _ _ _ _ _ (λe=>nomatch e) (h _ _ λr s' x=>x)
  |_=>cases hx
 |inn c₀ κ t=>
  have b:=cU V t
  have hx:(match Ps ⟨V.prog,V.w.params⟩ t with| .call c hd _ _ _=>some (c,PySem.W.X.okMark hd)| .pure fin=>(match fin with| .again c=>some (c,c.quiet)| .done _=>none)|_=>none)=some (c,true):=hx
  have h:∀A R,(∀r s',V.Means Q (match Ps ⟨V.prog,V.w.params⟩ t with| .call _ _ _ _ k=>.inn c₀ κ (k r)|_=>Hw r κ) s'->R r s')->codeAny V.M A c R s:=h
  generalize Ps ⟨V.prog,V.w.params⟩ t=d at b hx h
  cases d with
  |call c' hd g l k=>
   cases b
   have q:PySem.W.X.okMark hd=true:=(Prod.mk.inj (Option.some.inj hx)).2
   have e:c'=c:=(Prod.mk.inj (Option.some.inj hx)).1
   subst e
   exact y_call _ _ _ _ _ _ _ _ _ _ _ _ _ (by rintro rfl;simp[PySem.W.X.okMark]at q) (h _ _ λr s' x=>x)
  |pure fin=>
   cases b
   cases fin with
   |done f=>cases hx
   |again c'=>
    have q:c'.quiet=true:=(Prod.mk.inj (Option.some.inj hx)).2
    have e:c'=c:=(Prod.mk.inj (Option.some.inj hx)).1
    subst e
    exact PySem.W.X.y_pure _ _ _ _ _ _ _ _ _ (PySem.W.X.y_again _ _ _ _ _ _ q (h _ _ λr s' x=>Eh x))
  |_=>cases hx
end
end
section
variable {α:Type}{V:XO}{Q:α->Shared->Prop}{h:Heap}{S:SS}
theorem nI (V:XO)(n:Nat)(ops:List Op)(S:SS)(x:Ep α):Ry V table n ops S x=Ry V PySem.W.ZFast.tableZ n ops S x:=by rw[PySem.W.ZFast.tableZ_eq]
noncomputable def Lb (V:XO) (n:Nat) (ops:List Op) (S:SS) (x:Ep α):SS×Ep α:=(Ry V PySem.W.ZFast.tableZ n ops S x).getD (S,x)
noncomputable def X8 (V:XO) (n:Nat) (ops:List Op) (S:SS) (x:Ep α):Bool:=(Ry V PySem.W.ZFast.tableZ n ops S x).isSome
theorem fA (O:V.Ok){n:Nat}{ops:List Op}{x:Ep α}(hs:X8 V n ops S x=true)(g:(Lb V n ops S x).1.Good)(D:V.Rep h S)(k:∀h',V.Rep h' (Lb V n ops S x).1->V.Means Q (Lb V n ops S x).2 (V.at (Lb V n ops S x).1 h')):
  V.Means Q x (V.at S h):=by
 unfold X8 at hs
 refine Ad (Option.isSome_iff_exists.mp hs) λr e=>?_
 have eg:Lb V n ops S x=r:=by unfold Lb;rw[e];rfl
 rw[eg]at g k
 exact((Rx O n ops S x r (by rw[nI];exact e)) g).2 k h D
theorem XO.arEq {V V':XO}(hA:V.A=V'.A):∀κ:Wd α,V.ar κ=V'.ar κ
 | .top _=>hA
 | .ret c hd _ κ=>by show((V.ar κ).under c).mark hd=((V'.ar κ).under c).mark hd;rw[arEq hA κ]
theorem XO.enEq {V V':XO}(hp:V.prog=V'.prog)(hw:V.w=V'.w)(hA:V.A=V'.A):∀κ:Wd α,V.en Q κ=V'.en Q κ
 | .top k=>by show PySem.W.X.postA V.prog V.w V.A Q _ k=PySem.W.X.postA V'.prog V'.w V'.A Q _ k;rw[hp,hw,hA]
 | .ret c hd k κ=>by
  show PySem.W.X.postR V.prog V.w (V.ar κ) c (PySem.W.X.postC V.prog V.w (V.ar κ) (V.en Q κ)) (PySem.W.X.postE (V.en Q κ)) k=PySem.W.X.postR V'.prog V'.w (V'.ar κ) c (PySem.W.X.postC V'.prog V'.w (V'.ar κ) (V'.en Q κ)) (PySem.W.X.postE (V'.en Q κ)) k
  rw[hp,hw,arEq hA κ,enEq hp hw hA κ]
theorem XO.meansEq {V V':XO}(hp:V.prog=V'.prog)(hw:V.w=V'.w)(hA:V.A=V'.A)(x:Ep α)(s:Shared):V.Means Q x s=V'.Means Q x s:=by
 cases x with
 |top t=>show wpAny (model V.prog V.w) V.A t Q _ s=wpAny (model V'.prog V'.w) V'.A t Q _ s;rw[hp,hw,hA]
 |inn c κ t=>
  show wpOwn (model V.prog V.w) (V.ar κ) c t (PySem.W.X.postC V.prog V.w (V.ar κ) (V.en Q κ)) (PySem.W.X.postE (V.en Q κ)) s=wpOwn (model V'.prog V'.w) (V'.ar κ) c t (PySem.W.X.postC V'.prog V'.w (V'.ar κ) (V'.en Q κ)) (PySem.W.X.postE (V'.en Q κ)) s
  rw[hp,hw,XO.arEq hA κ,XO.enEq hp hw hA κ]
theorem XO.Rep.to (D:V.Rep h S)(S':SS)(e1:S'.T=S.T)(e2:S'.m=S.m)(e3:S'.vs=S.vs)(e4:S'.i=S.i):V.Rep h S'/\V.at S h=V.at S' h:=⟨D.same e1 e2 e3,by unfold XO.at;rw[e4]⟩
noncomputable def mW (V:XO) (n:Nat) (ops:List Op) (S:SS) (x:Ep α):SS:={(Lb V n ops S x).1 with L:=[],C:=[]}
theorem Hj (O:V.Ok){E:Value->Shared->Prop}{t:Sem α}(n:Nat)(ops:List Op)(a:α)(D:V.Rep h S)(hs:X8 V n ops S (.top t)=true)(ha:(Lb V n ops S (.top t)).2=.top (.pure a))(g1:(Lb V n ops S (.top t)).1.L.map (·.1)=(Lb V n ops S (.top t)).1.L.map (·.2))
  (g2:(Lb V n ops S (.top t)).1.C.map (·.1)=(Lb V n ops S (.top t)).1.C.map (·.2))(k:∀h',V.Rep h' (mW V n ops S (.top t))->Q a (V.at (mW V n ops S (.top t)) h')):wpAny V.M V.A t Q E (V.at S h):=by
 have:=fA (Q:=Q) O hs ⟨g1,g2⟩ D λh' D'=>by rw[ha];exact Be (k h' (D'.same rfl rfl rfl))
 exact Ba this (λ_ _ x=>x) λ_ _ x=>x.elim
end
theorem Wj {α:Type}{M:Model}{A:Around}{c:Bool}{t u:Sem α}{Q:α->Shared->Prop}{E:Value->Shared->Prop}{s:Shared}(hc:c=false)(h:wpAny M A u Q E s):wpAny M A (if c=true then t else u) Q E s:=by rw[hc];exact h
noncomputable def en (hs:Int) (k:String) (t:Nat) (v:Value):DictEntry:=⟨hs,.str (ofString k) t,v⟩
noncomputable def Sn (hh:Nat->Int) (ct:Nat->Nat) (cv:Nat->Value) (n:Nat):Obj:={cls:=.none,data:=.dict #[en (hh 0) "\x69mport.loaded._sre" (ct 0) (cv 0),en (hh 1) "class._frozen_\x69mportlib.BuiltinImporter" (ct 1) (cv 1),en (hh 2) "watched.\x69mport" (ct 2) (cv 2),en (hh 3) "class._frozen_\x69mportlib.ModuleSpec" (ct 3) (cv 3),en (hh 4) "sys.modules.booked-epoch" (ct 4) (cv 4),en (hh 5) "\x69mport.later-laid._sre" (ct 5) (cv 5),en (hh 6) "watched.library" (ct 6) (cv 6),en (hh 7) "watched.library-objects" (ct 7) (cv 7),en (hh 8) "watched.library-deep._sre" (ct 8) (cv 8)] n}
theorem Ra {prog:Program}{w:World}{A:Around}{s:Shared}{R:Result->Shared->Prop}(it:Addr){T:String}{o:Obj}{items:Array Value}{n:Nat}(hT:T="list"\/T="tuple")
  (ho:s.heap.get? it=some o)(hc:o.cls=.type T)(hd:o.data=.seq items n)(hsz:items.size<=sizeLine)
  (hQ:R (.ok (.ret (.ref s.heap.objs.size))) {s with heap:=(s.heap.push {cls:=.type "list",data:=.seq #[]}).update s.heap.objs.size (Obj.mapSeq (·++items))}):
  codeAny (model prog w) A (.builtin "proto.collect" ⟨[.ref it],[]⟩) R s:=by
 refine codeAny_builtin PySem.F.entry_proto_collect ?_
 rw[Around.under_plainId PySem.F.plain_proto_collect _]
 show wpAny _ A.in1 (newList []>>=λl=>again (.builtin "list.__iadd__" ⟨[l,.ref it],[]⟩)) _ _ s
 refine Ai (wpAny_newObj_type ?_)
 refine Be ⟨plainId_quiet PySem.F.plain_list_iadd _,codeAny_builtin PySem.F.entry_list_iadd ?_⟩
 rw[Around.under_plainId PySem.F.plain_list_iadd _]
 show wpAny _ A.in1 (Builtin.List.listExtendWith (.ref s.heap.objs.size) (.ref it) (.ref s.heap.objs.size)) _ _ _
 have hS:(s.heap.push {cls:=.type "list",data:=.seq ([]:List Value).toArray}).get? s.heap.objs.size=some {cls:=.type "list",data:=.seq #[] 0}:=Heap.get?_push_size _ rfl
 exact wpAny_extend_seq (hsz:=hsz) (A:=A) (R:=R) _ it _ 0 hT hS (Ft _ ho) hc hd hQ
noncomputable def Im (n₁ it:Nat) (items:Array Value):pV:=⟨.builtin "proto.collect" ⟨[.ref it],[]⟩,.ok (.ret (.ref n₁)),λS=>match S.m with
 |0=>match(S.T.ins 0 {cls:=.type "list",data:=.seq #[]}).get 0 with
  |some _=>some {S with T:=(S.T.ins 0 {cls:=.type "list",data:=.seq #[]}).set 0 (Obj.mapSeq (·++items)),m:=1}
  |none=>none
 |_=>none⟩
theorem M4 {V:XO}(O:V.Ok0){it:Nat}{items:Array Value}{n:Nat}(hi:V.h₀.get? it=some {cls:=.type "list",data:=.seq items n})(hp:it≠V.P)(hsz:items.size<=sizeLine):V.Told (Im V.n₁ it items):=by
 intro A R S S' h e
 unfold Im at e
 dsimp only at e
 split at e
 ·rename_i hm
  split at e
  ·rename_i o hg
   cases e
   refine⟨rfl,rfl,λD k=>Ra it (.inl rfl) (D.keep _ _ hi hp) rfl rfl hsz ?_⟩
   have D1:=D.alloc (o:={cls:=.type "list",data:=.seq #[]}) rfl (by rw[hm,hg];rfl)
   have e0:((S.T.ins S.m {cls:=.type "list",data:=.seq #[]}).get 0)=some {cls:=.type "list",data:=.seq #[]}:=by
    rw[hm,BT.get_ins _ _ _ (by rw[hg];rfl),Bc rfl]
   have D2:=D1.update O (j:=0) (f:=Obj.mapSeq (·++items)) e0 rfl
   have hs:h.objs.size=V.n₁:=by rw[D.size,hm];rfl
   have z:=k _ (D2.same (S':={S with T:=(S.T.ins 0 {cls:=.type "list",data:=.seq #[]}).set 0 (Obj.mapSeq (·++items)),m:=1}) (by rw[hm]) (by show 1=S.m+1;rw[hm]) rfl)
   rw[show(V.at S h).heap.objs.size=V.n₁ from hs]
   exact z
  ·cases e
 ·cases e
theorem Wf {V:XO}{vs:Array Value}(hs:V.h₀.objs.size=V.n₁)(hP:V.h₀.get? V.P=some (PySem.W.X.tableObj vs)):V.Rep V.h₀ ⟨.nil,0,0,vs,[],[]⟩:=
 ⟨hs,λi o e=>(H1 e),λ_ _ e _=>e,hP,hs▸Heap.lt_size hP⟩
section
variable {prog:Program}{w:World}{M:Model}{A:Around}{E:Value->Shared->Prop}{h:Heap}{g:Array GenState}{d:Drawn}{t:Nat}{os:OsState}
noncomputable def Jp:Obj:={cls:=.type "super",data:=.fields #[.none,.none,.none]}
noncomputable def Ej (i:Nat) (v:Value):Obj->Obj:=Obj.mapFields λx=>x.setIfInBounds i v
theorem bK {D:Addr}{oD:Obj}{cd:ClassData}(hD:h.get? D=some oD)(hDt:oD.data=.cls cd):Looks M h (mroOf (.ref D)) cd.mro:=λA Q E s k q=>by
 unfold mroOf classData
 refine Ai (Ai (wpAny_load (k _ _ hD) ?_))
 rw[hDt]
 exact Be (Be q)
theorem aH {D:Addr}{oD:Obj}{cd:ClassData}(hD:h.get? D=some oD)(hDt:oD.data=.cls cd)(hm:cd.mro=[.ref D,.type "object"]):Looks M h (isSubtype (.ref D) (.ref D)) true:=λA Q E s k q=>by
 unfold isSubtype
 refine Ai ((bK hD hDt).keeps k |>.here ?_)
 rw[hm]
 refine Be ?_
 have:([Value.ref D,Value.type "object"].contains (Value.ref D))=true:=by simp
 rw[this]
 exact q
theorem V7 {D:Addr}{oD:Obj}{cd:ClassData}{Q:Value->Shared->Prop}(hD:h.get? D=some oD)(hDt:oD.data=.cls cd)(hm:cd.mro=[.ref D,.type "object"])
  (hq:Q (.ref h.objs.size) ⟨(((h.push Jp).update h.objs.size (Ej 0 (.ref D))).update h.objs.size (Ej 1 (.ref D))).update h.objs.size (Ej 2 (.ref D)),g,d,t,os⟩):
  wpAny (model prog w) A (call (.type "super") [.ref D,.ref D]) Q E ⟨h,g,d,t,os⟩:=by
 refine ks_callType_codesW (Q₁:=λobj s₁=>obj=.ref h.objs.size/\s₁=⟨h.push {cls:=.type "super",data:=.fields #[.none,.none,.none]},g,d,t,os⟩) PySem.F.ks_called_super (ks_wpAny_checkTypeCall_super hD hDt) PySem.F.ks_entry_super_init
  (ks_code_super_new _ _ ⟨rfl,rfl⟩) λobj s₁ h₁=>?_
 refine Ae h₁ λZ Y=>?_
 try clear h₁
 subst Z
 subst Y
 have up:∀y o,h.get? y=some o->(h.push {cls:=.type "super",data:=.fields #[.none,.none,.none]}).get? y=some o:=λy o e=>Ft _ e
 have hso:(h.push {cls:=.type "super",data:=.fields #[.none,.none,.none]}).get? h.objs.size=some {cls:=.type "super",dict:=none,data:=.fields #[.none,.none,.none],slots:=#[]}:=Heap.get?_push_at rfl rfl
 have hD':=up _ _ hD
 have hsub:=aH (M:=model prog w) hD' hDt hm
 refine⟨⟨_,hso,rfl⟩,PySem.F.ks_initArgs_super _ _ _,?_⟩
 unfold Builtin.«super.__init__» noKeywords
 repeat (first|(with_reducible refine ks_wpAny_isType_cls hD' hDt ?_)|(with_reducible refine Looks.at hsub ?_)|wp_step)
 all_goals exact⟨rfl,hq⟩
noncomputable def eB (prog:Program) (w:World) (h:Heap) (b P:Nat) (A:Around) (g:Array GenState) (d:Drawn) (t₀:Nat) (os:OsState) (hh:Nat->Int) (ct:Nat->Nat) (cv:Nat->Value) (cn:Nat) (so C:Nat) (od:Option Addr) (cd:ClassData) (sl:Array (Option Value)):XO:=
 {prog,w,h₀:=h,n₁:=b+8,olds:=[(2,Sn hh ct cv cn),(so,{cls:=.type "super",dict:=none,data:=.fields #[.ref C,.ref C,.ref C],slots:=#[]}),(C,⟨.type "type",od,.cls {cd with mro:=[.ref C,.type "object"]},sl⟩)],P,A,g,d,t₀,os}
noncomputable def Rd (C:Nat):Obj:={cls:=.type "builtin_function_or_method",data:=.fields #[.builtin "object.__init_subclass__",.ref C]}
theorem Zg {C:Addr}:([Value.ref C,.type "object"].dropWhile (λx=>x != .ref C)).drop 1=[.type "object"]:=by simp
theorem gY {α:Type}(C:Addr)(x y:α):(if(Value.ref C==Value.ref C)=true then x else y)=x:=by simp
theorem cB {so C b P:Nat}{cd:ClassData}{od:Option Addr}{sl:Array (Option Value)}{Q:PySem.Fin->Shared->Prop}{tk cn:Nat}{hh:Nat->Int}{ct:Nat->Nat}{cv:Nat->Value}{vs:Array Value}
  (O:(eB prog w h b P A g d t os hh ct cv cn so (C+8) od cd sl).Ok)(D:(eB prog w h b P A g d t os hh ct cv cn so (C+8) od cd sl).Rep h ⟨.nil,0,0,vs,[],[]⟩)
  (hq:∀h',(eB prog w h b P A g d t os hh ct cv cn so (C+8) od cd sl).Rep h' ⟨.node (Rd (C+8)) .nil .nil,1,0,vs,[],[]⟩->Q (.done (.ret (.ref (b+8)))) ⟨h',g,d,t,os⟩):
  wpAny (model prog w) A (Builtin.«super.__getattribute__» ⟨[.ref so,.str (ofString "__init_subclass__") tk],[]⟩) Q E ((eB prog w h b P A g d t os hh ct cv cn so (C+8) od cd sl).at ⟨.nil,0,0,vs,[],[]⟩ h):=by
 refine Ai (Hj O 100 [] (some (ofString "__init_subclass__")) D (by kernel_rfl) (by kernel_rfl) (by kernel_rfl) (by kernel_rfl) λh D=>?_)
 refine Ai (Hj O 100 [] (some (ofString "__init_subclass__")) D (by kernel_rfl) (by kernel_rfl) (by kernel_rfl) (by kernel_rfl) λh D=>?_)
 refine Ai (Hj O 100 [.o 1] (Value.ref (C+8)) D (by kernel_rfl) (by kernel_rfl) (by kernel_rfl) (by kernel_rfl) λh D=>?_)
 refine Ai (Hj O 100 [.o 1] (Value.ref (C+8)) D (by kernel_rfl) (by kernel_rfl) (by kernel_rfl) (by kernel_rfl) λh D=>?_)
 refine Ai (Hj O 100 [.o 1] (Value.ref (C+8)) D (by kernel_rfl) (by kernel_rfl) (by kernel_rfl) (by kernel_rfl) λh D=>?_)
 refine Wj (by kernel_rfl) ?_
 refine Ai (Hj O 100 [.o 0] () D (by kernel_rfl) (by kernel_rfl) (by kernel_rfl) (by kernel_rfl) λh D=>?_)
 refine Wj (by kernel_rfl) ?_
 refine Ai (Hj O 100 [.o 2] [Value.ref (C+8),Value.type "object"] D (by kernel_rfl) (by kernel_rfl) (by kernel_rfl) (by kernel_rfl) λh D=>?_)
 rw[Zg]
 rw[gY]
 refine Ai (Hj O 2000 [.o 2,.o 2] (some (.done (.ret (.ref (b+8)))),()) D (by kernel_rfl) (by kernel_rfl) (by kernel_rfl) (by kernel_rfl) λh D=>?_)
 refine Ae (D.to ⟨.node (Rd (C+8)) .nil .nil,1,0,vs,[],[]⟩ (by kernel_rfl) (by kernel_rfl) (by kernel_rfl) (by kernel_rfl)) λD e=>?_
 rw[e]
 exact Be (hq _ D)
end
section
variable {α:Type}{V:XO}{Q:Value->Shared->Prop}{E:Value->Shared->Prop}{h:Heap}{S:SS}
theorem XO.Rep.join {V2:XO}{o:Obj}{h':Heap}(D:V.Rep h S)(e1:V2.h₀=h)(e2:V2.n₁=V.n₁+S.m)(e3:V2.P=V.P)(hg:((S.T.ins S.m o).get S.m).isSome=true)(D2:V2.Rep h' ⟨.node o .nil .nil,1,0,S.vs,[],[]⟩):V.Rep h' {S with T:=S.T.ins S.m o,m:=S.m+1}:=by
 refine⟨by rw[D2.size,e2];exact add_assoc ..,λi o' e=>?_,λb o' e q=>D2.keep b o' (by rw[e1];exact D.keep b o' e q) (by rw[e3];exact q),by rw[<-e3];exact D2.tab,D.lt⟩
 have e:(S.T.ins S.m o).get i=some o':=e
 rw[BT.get_ins o S.T S.m hg]at e
 by_cases hi:i=S.m
 ·subst hi
  rw[Bc rfl]at e
  cases e
  refine⟨lt_succ_self _,?_⟩
  have z:=(D2.own 0 o rfl).2
  rw[e2]at z
  exact z
 ·rw[Ay hi]at e
  have z:=D.own i o' e
  exact⟨lt_succ_of_lt z.1,D2.keep _ _ (by rw[e1];exact z.2) (by rw[e3];exact(far D.lt i).symm)⟩
theorem aG {c:Nat}(O:V.Ok)(D:V.Rep h S)(hc:S.m=c){cd:ClassData}{od:Option Addr}{sl:Array (Option Value)}(e:S.T.get 2=some ⟨.type "type",od,.cls cd,sl⟩)(hm:cd.mro=[.ref (V.n₁+2),.type "object"])(hg:((S.T.ins S.m Jp).get S.m).isSome=true)
  (k:∀h',V.Rep h' {S with T:=(((S.T.ins S.m Jp).set S.m (Ej 0 (.ref (V.n₁+2)))).set S.m (Ej 1 (.ref (V.n₁+2)))).set S.m (Ej 2 (.ref (V.n₁+2))),m:=S.m+1}->
   Q (.ref (V.n₁+c)) (V.at {S with T:=(((S.T.ins S.m Jp).set S.m (Ej 0 (.ref (V.n₁+2)))).set S.m (Ej 1 (.ref (V.n₁+2)))).set S.m (Ej 2 (.ref (V.n₁+2))),m:=S.m+1} h')):
  wpAny V.M V.A (call (.type "super") [.ref (V.n₁+2),.ref (V.n₁+2)]) Q E (V.at S h):=by
 subst hc
 refine V7 (D.own _ _ e).2 rfl hm ?_
 have D1:=D.alloc (o:=Jp) rfl hg
 have g1:(S.T.ins S.m Jp).get S.m=some Jp:=by rw[BT.get_ins _ _ _ hg,Bc rfl]
 have D2:=D1.update O.toOk0 (f:=Ej 0 (.ref (V.n₁+2))) g1 rfl
 have g2:((S.T.ins S.m Jp).set S.m (Ej 0 (.ref (V.n₁+2)))).get S.m=some (Ej 0 (.ref (V.n₁+2)) Jp):=by rw[BT.get_set,Bc rfl,g1];rfl
 have D3:=D2.update O.toOk0 (f:=Ej 1 (.ref (V.n₁+2))) g2 rfl
 have g3:(((S.T.ins S.m Jp).set S.m (Ej 0 (.ref (V.n₁+2)))).set S.m (Ej 1 (.ref (V.n₁+2)))).get S.m=some (Ej 1 (.ref (V.n₁+2)) (Ej 0 (.ref (V.n₁+2)) Jp)):=by rw[BT.get_set,Bc rfl,g2];rfl
 have D4:=D3.update O.toOk0 (f:=Ej 2 (.ref (V.n₁+2))) g3 rfl
 rw[D.size]
 exact k _ D4
theorem gM (O:V.Ok)(D:V.Rep h S){b c:Nat}(hn:V.n₁=b+8)(hmm:S.m=c){cd:ClassData}{od:Option Addr}{sl:Array (Option Value)}{cn:Nat}{hh:Nat->Int}{ct:Nat->Nat}{cv:Nat->Value}(e:S.T.get 2=some ⟨.type "type",od,.cls {cd with mro:=[.ref (b+2+8),.type "object"]},sl⟩)
  (hc:V.h₀.get? 2=some (Sn hh ct cv cn))(hP:V.P≠2)(e4:S.T.get 4=some {cls:=.type "super",dict:=none,data:=.fields #[.ref (b+2+8),.ref (b+2+8),.ref (b+2+8)],slots:=#[]})(hg:((S.T.ins S.m (Rd (b+2+8))).get S.m).isSome=true)
  (k:∀h',V.Rep h' {S with T:=S.T.ins S.m (Rd (b+2+8)),m:=S.m+1,i:=S.i+1}->Q (.ref (V.n₁+c)) (V.at {S with T:=S.T.ins S.m (Rd (b+2+8)),m:=S.m+1,i:=S.i+1} h')):
  wpAny V.M V.A (getAttr (.ref (V.n₁+4)) (ofString "__init_subclass__")) Q E (V.at S h):=by
 subst hmm
 have hso:=(D.own _ _ e4).2
 have hT:∀t',(⟨h,V.g,V.d,t',V.os⟩:Shared).TypeIs (.ref (V.n₁+4)) "super":=λ_=>⟨_,hso,rfl⟩
 have hlk:=PySem.F.ks_slot_super_ga.lookup
 show wpAny _ _ _ _ _ ⟨h,V.g,V.d,V.t₀+S.i,V.os⟩
 unfold getAttr getAttrBy
 refine Ai (wpAny_mkText (wpAny_holding (Ai (wpAny_typeOf (hT _) (Ai (wpAny_of_eq hlk ?_))))))
 show wpAny _ _ (getAttrByItsOwn (.ref (V.n₁+4)) (.str _ _) (.type "super") (.builtin "super.__getattribute__") true false) _ _ _
 unfold getAttrByItsOwn hookBefore callGetattribute boundAndCalled
 refine Ai (wpAny_of_eq (show(if onTheHeap (.type "super")then typeLookup (.type "super") "__getattr__" else pure none)=pure none from rfl) ?_)
 refine Ai (wpAny_attempt (wpAny_holding ?_))
 show wpAny _ _ (bindSpecial (.builtin "super.__getattribute__") (.ref (V.n₁+4))>>=_) _ _ _
 refine Ai (wpAny_of_eq (PySem.F.ks_slot_super_ga.bind _) ?_)
 have hb:(V.n₁+S.m)=(b+S.m)+8:=by exact le_antisymm (Aq (Bt hn)) (Aq (Bt hn.symm))
 have O2:∀A',(eB V.prog V.w h (b+S.m) V.P A' V.g V.d (V.t₀+S.i+1) V.os hh ct cv cn (V.n₁+4) (b+2+8) od cd sl).Ok:=by
  intro A'
  refine⟨⟨D.size.trans hb,λq hq=>?_⟩,λ_ h=>absurd h not_mem_nil⟩
  simp only[eB,E1,not_mem_nil,or_false]at hq
  have h2:b+2+8=V.n₁+2:=by exact le_antisymm (Aq (Bt hn.symm)) (Aq (Bt hn))
  rcases hq with rfl|rfl|rfl
  ·exact⟨D.keep _ _ hc (Ne.symm hP),Ne.symm hP⟩
  ·exact⟨hso,(far D.lt 4).symm⟩
  ·refine⟨?_,?_⟩
   ·have z:=(D.own _ _ e).2
    rw[<-h2]at z
    exact z
   ·show b+2+8≠V.P
    rw[h2]
    exact(far D.lt 2).symm
 refine Ba (Q:=λv s'=>∃h',v=.ref (b+S.m+8)/\(eB V.prog V.w h (b+S.m) V.P V.A V.g V.d (V.t₀+S.i+1) V.os hh ct cv cn (V.n₁+4) (b+2+8) od cd sl).Rep h' ⟨.node (Rd (b+2+8)) .nil .nil,1,0,S.vs,[],[]⟩/\s'=⟨h',V.g,V.d,V.t₀+S.i+1,V.os⟩) (E:=λ_ _=>False)
  (wpAny_call_entry PySem.F.ks_slot_super_ga (hT _) PySem.F.ks_entry_super_ga (cB (O2 _) (Wf (D.size.trans hb) D.tab) λh' D'=>⟨_,rfl,h',rfl,⟨D'.size,D'.own,D'.keep,D'.tab,D'.lt⟩,rfl⟩) (PySem.F.ks_gaArgs_super _ _)) (λv s' hv=>?_) λ_ _ z=>z.elim
 refine Au hv λh' Z D' Y=>?_
 try clear hv
 subst Z
 subst Y
 refine Be ?_
 have:=k h' ((D.join (V2:=eB V.prog V.w h (b+S.m) V.P V.A V.g V.d (V.t₀+S.i+1) V.os hh ct cv cn (V.n₁+4) (b+2+8) od cd sl) rfl hb.symm rfl hg D').same rfl rfl rfl)
 rw[hb]at this
 exact this
end
structure KP where
 bT:Nat
 lst:Nat
 ns:Nat
 st:Nat
 f1:Nat
 f2:Nat
 f3:Nat
 f4:Nat
 f5:Nat
 f6:Nat
 hs:Nat->Int
 tk:Nat->Nat
 nn:Nat->Nat
 e:Nat->Data
 ss:Array Value
 ch:Nat->Int
 ct:Nat->Nat
 cv:Nat->Value
 cn:Nat
noncomputable def KP.ents (p:KP):Array DictEntry:=#[en (p.hs 0) "__module__" (p.tk 0) (.str (ofString "cpy313.functools") (p.tk 1)),en (p.hs 1) "__qualname__" (p.tk 2) (.str (ofString "cmp_to_key.<locals>.K") (p.tk 3)),
 en (p.hs 2) "__firstlineno__" (p.tk 4) (.int 152 (p.tk 5)),en (p.hs 3) "__slots__" (p.tk 6) (.ref p.lst),en (p.hs 4) "__init__" (p.tk 7) (.ref p.f1),en (p.hs 5) "__lt__" (p.tk 8) (.ref p.f2),en (p.hs 6) "__gt__" (p.tk 9) (.ref p.f3),
 en (p.hs 7) "__eq__" (p.tk 10) (.ref p.f4),en (p.hs 8) "__le__" (p.tk 11) (.ref p.f5),en (p.hs 9) "__ge__" (p.tk 12) (.ref p.f6),en (p.hs 10) "__hash__" (p.tk 13) .none,en (p.hs 11) "__static_attributes__" (p.tk 14) (.ref p.st)]
noncomputable def dZ (p:KP):List (Addr×Obj):=[
 (2,Sn p.ch p.ct p.cv p.cn),
 (p.bT,{cls:=.type "tuple",data:=.seq #[.type "object"] (p.nn 0)}),
 (p.lst,{cls:=.type "list",data:=.seq #[.str (ofString "obj") (p.tk 15)] (p.nn 1)}),
 (p.ns+2,{cls:=.type "dict",data:=.dict p.ents (p.nn 2)}),
 (p.f1,{cls:=.type "function",data:=p.e 0}),(p.f2,{cls:=.type "function",data:=p.e 1}),(p.f3,{cls:=.type "function",data:=p.e 2}),
 (p.f4,{cls:=.type "function",data:=p.e 3}),(p.f5,{cls:=.type "function",data:=p.e 4}),(p.f6,{cls:=.type "function",data:=p.e 5}),
 (p.st,{cls:=.type "tuple",data:=.seq p.ss (p.nn 3)})]
noncomputable def kV (prog:Program) (w:World) (h₀:Heap) (b P:Nat) (A:Around) (g:Array GenState) (d:Drawn) (t₀:Nat) (os:OsState) (p:KP):XO:=
 {prog,w,h₀,n₁:=b+8,olds:=dZ p,P,A,g,d,t₀,os,sums:=[Im (b+8) p.lst #[.str (ofString "obj") (p.tk 15)]]}
noncomputable def Tx (w:World) (x:String):Int:=if(ofString x).cps.isEmpty=true then 0 else reduceHash (w.params.strHash (ofString x).cps)
noncomputable def bR (w:World) (p:KP) (a t₀:Nat):Array DictEntry:=#[en (p.hs 0) "__module__" (p.tk 0) (.str (ofString "cpy313.functools") (p.tk 1)),
 en (p.hs 2) "__firstlineno__" (p.tk 4) (.int 152 (p.tk 5)),en (p.hs 3) "__slots__" (p.tk 6) (.ref p.lst),en (p.hs 4) "__init__" (p.tk 7) (.ref p.f1),en (p.hs 5) "__lt__" (p.tk 8) (.ref p.f2),en (p.hs 6) "__gt__" (p.tk 9) (.ref p.f3),
 en (p.hs 7) "__eq__" (p.tk 10) (.ref p.f4),en (p.hs 8) "__le__" (p.tk 11) (.ref p.f5),en (p.hs 9) "__ge__" (p.tk 12) (.ref p.f6),en (p.hs 10) "__hash__" (p.tk 13) .none,en (p.hs 11) "__static_attributes__" (p.tk 14) (.ref p.st),
 en (Tx w "obj") "obj" (t₀+1) (.ref (a+1)),en (Tx w "__doc__") "__doc__" (t₀+2) .none]
noncomputable def iM (w:World) (p:KP) (a t₀ n:Nat):Obj:={cls:=.type "dict",data:=.dict (bR w p a t₀) n}
noncomputable def mU (a nsA:Nat):ClassData:={name:=ofString "K",bases:=[.type "object"],mro:=[.ref a,.type "object"],ns:=nsA,qualname:=ofString "cmp_to_key.<locals>.K",hasDict:=false,slotNames:=[ofString "obj"]}
noncomputable def kO (p:KP):Array (Option Value):=#[some (.ref p.bT),none,some (.str (ofString "K") (p.tk 16)),some (.str (ofString "cmp_to_key.<locals>.K") (p.tk 3)),some (.builtin "object.__new__"),some (.bool false)]
noncomputable def Qy (p:KP) (a nsA:Nat):Obj:=⟨.type "type",none,.cls (mU a nsA),kO p⟩
noncomputable def iN (a t₀:Nat):Obj:={cls:=.type "member_descriptor",data:=.fields #[.str (ofString "obj") t₀,.ref a,.builtin "proto.slot",.builtin "proto.slot#set",rawInt 0]}
theorem Zb (C:Addr):List.filter (λx=>x != Value.ref C) [Value.ref C,.type "object"]=[.type "object"]:=by simp
section
variable {α β:Type}{V:XO}{S:SS}
noncomputable def Mu (V:XO)(S:SS)(t:Sem α)(Q:α->Shared->Prop)(E:Value->Shared->Prop):Prop:=∀h,V.Rep h S->wpAny V.M V.A t Q E (V.at S h)
theorem dY (_:True:=by kernel_rfl):True:=trivial
theorem Am (O:V.Ok){Q:β->Shared->Prop}{E:Value->Shared->Prop}{t:Sem α}{k:α->Sem β}(n:Nat)(ops:List Op)(a:α)(hs:autoParam (X8 V n ops S (.top t)=true) dY._auto_1)(ha:autoParam ((Lb V n ops S (.top t)).2=.top (.pure a)) dY._auto_1)
  (g1:autoParam ((Lb V n ops S (.top t)).1.L.map (·.1)=(Lb V n ops S (.top t)).1.L.map (·.2)) dY._auto_1)(g2:autoParam ((Lb V n ops S (.top t)).1.C.map (·.1)=(Lb V n ops S (.top t)).1.C.map (·.2)) dY._auto_1)(r:Mu V (mW V n ops S (.top t)) (k a) Q E):Mu V S (t>>=k) Q E:=
 λ_ D=>Ai (Hj O n ops a D hs ha g1 g2 λh' D'=>r h' D')
theorem Wy {Q:β->Shared->Prop}{E:Value->Shared->Prop}{t:Sem α}{k:α->Sem β}(r:Mu V S t (λv s=>wpAny V.M V.A (k v) Q E s) E):Mu V S (t>>=k) Q E:=λh D=>Ai (r h D)
theorem aN (O:V.Ok){Q:β->Shared->Prop}{E E':Value->Shared->Prop}{t:Sem α}{k:α->Sem β}(n:Nat)(ops:List Op)(a:α)(hs:autoParam (X8 V n ops S (.top t)=true) dY._auto_1)(ha:autoParam ((Lb V n ops S (.top t)).2=.top (.pure a)) dY._auto_1)
  (g1:autoParam ((Lb V n ops S (.top t)).1.L.map (·.1)=(Lb V n ops S (.top t)).1.L.map (·.2)) dY._auto_1)(g2:autoParam ((Lb V n ops S (.top t)).1.C.map (·.1)=(Lb V n ops S (.top t)).1.C.map (·.2)) dY._auto_1)(r:Mu V (mW V n ops S (.top t)) (k a) Q E):Mu V S t (λv s=>wpAny V.M V.A (k v) Q E s) E':=
 λ_ D=>Hj O n ops a D hs ha g1 g2 λh' D'=>r h' D'
theorem Es {Q:α->Shared->Prop}{E:Value->Shared->Prop}{vs:List Value}{t:Sem α}(r:Mu V S t Q E):Mu V S (holding vs t) Q E:=λh D=>wpAny_holding (r h D)
theorem Ef {c:Bool}{t u:Sem α}{Q:α->Shared->Prop}{E:Value->Shared->Prop}(hc:c=false)(r:Mu V S u Q E):Mu V S (if c=true then t else u) Q E:=λh D=>Wj hc (r h D)
theorem Gf {Q:β->Shared->Prop}{E:Value->Shared->Prop}{a:α}{k:α->Sem β}(r:Mu V S (k a) Q E):Mu V S (pure a>>=k) Q E:=λh D=>Ai (Be (r h D))
theorem aL {Q:β->Shared->Prop}{E:Value->Shared->Prop}{vs:List Value}{t:Sem α}{c:Value->Sem α}{k:α->Sem β}(r:∀E',Mu V S t (λv s=>wpAny V.M V.A (k v) Q E s) E'):Mu V S (tryCatch (holding vs t) c>>=k) Q E:=λh D=>Ai (wpAny_tryCatch (wpAny_holding (r _ h D)))
theorem aM {Q:β->Shared->Prop}{E:Value->Shared->Prop}{k:Value->Sem β}{c:Nat}(O:V.Ok)(hc:S.m=c){cd:ClassData}{od:Option Addr}{sl:Array (Option Value)}(e:S.T.get 2=some ⟨.type "type",od,.cls cd,sl⟩)(hm:cd.mro=[.ref (V.n₁+2),.type "object"])(hg:((S.T.ins S.m Jp).get S.m).isSome=true)
  (r:Mu V {S with T:=(((S.T.ins S.m Jp).set S.m (Ej 0 (.ref (V.n₁+2)))).set S.m (Ej 1 (.ref (V.n₁+2)))).set S.m (Ej 2 (.ref (V.n₁+2))),m:=S.m+1} (k (.ref (V.n₁+c))) Q E):
  Mu V S (call (.type "super") [.ref (V.n₁+2),.ref (V.n₁+2)]>>=k) Q E:=λh D=>Ai (aG O D hc e hm hg λh' D'=>r h' D')
theorem eU {Q:β->Shared->Prop}{E:Value->Shared->Prop}{vs:List Value}{k:Value->Sem β}(O:V.Ok){b c:Nat}(hn:V.n₁=b+8)(hmm:S.m=c){cd:ClassData}{od:Option Addr}{sl:Array (Option Value)}{cn:Nat}{hh:Nat->Int}{ct:Nat->Nat}{cv:Nat->Value}(e:S.T.get 2=some ⟨.type "type",od,.cls {cd with mro:=[.ref (b+2+8),.type "object"]},sl⟩)
  (hc:V.h₀.get? 2=some (Sn hh ct cv cn))(hP:V.P≠2)(e4:S.T.get 4=some {cls:=.type "super",dict:=none,data:=.fields #[.ref (b+2+8),.ref (b+2+8),.ref (b+2+8)],slots:=#[]})(hg:((S.T.ins S.m (Rd (b+2+8))).get S.m).isSome=true)
  (r:Mu V {S with T:=S.T.ins S.m (Rd (b+2+8)),m:=S.m+1,i:=S.i+1} (k (.ref (V.n₁+c))) Q E):Mu V S (holding vs (getAttr (.ref (V.n₁+4)) (ofString "__init_subclass__"))>>=k) Q E:=
 λh D=>Ai (wpAny_holding (gM O D hn hmm e hc hP e4 hg λh' D'=>r h' D'))
theorem aO {Q:β->Shared->Prop}{E E':Value->Shared->Prop}{a:α}{k:α->Sem β}(r:Mu V S (k a) Q E):Mu V S (pure a) (λv s=>wpAny V.M V.A (k v) Q E s) E':=λh D=>Be (r h D)
end
theorem iX {prog:Program}{w:World}{h₀:Heap}{b P:Nat}{A:Around}{g:Array GenState}{d:Drawn}{t₀:Nat}{os:OsState}{p:KP}(O:(kV prog w h₀ b P A g d t₀ os p).Ok)(hP:P≠2){h:Heap}{vs:Array Value}
  (D:(kV prog w h₀ b P A g d t₀ os p).Rep h ⟨.nil,0,0,vs,[],[]⟩){Q:PySem.Fin->Shared->Prop}{E:Value->Shared->Prop}
  (k:∀h' S',(kV prog w h₀ b P A g d t₀ os p).Rep h' S'->S'.m=6/\S'.i=4/\S'.vs=vs/\S'.T.get 1=some (iM w p (b+10) t₀ 3)/\S'.T.get 2=some (Qy p (b+10) (b+9))/\S'.T.get 3=some (iN (b+10) t₀)->
   Q (.done (.ret (.ref (b+10)))) ((kV prog w h₀ b P A g d t₀ os p).at S' h')):
  wpAny (model prog w) A (Builtin.«type.__new__» ⟨[.type "type",.str (ofString "K") (p.tk 16),.ref p.bT,.ref (p.ns+2)],[]⟩) Q E ((kV prog w h₀ b P A g d t₀ os p).at ⟨.nil,0,0,vs,[],[]⟩ h):=by
 refine(show Mu (kV prog w h₀ b P A g d t₀ os p) ⟨.nil,0,0,vs,[],[]⟩ (Builtin.«type.__new__» ⟨[.type "type",.str (ofString "K") (p.tk 16),.ref p.bT,.ref (p.ns+2)],[]⟩) Q E from ?_) h D
 refine Am O 100 [] (some (ofString "K")) (r:=?_)
 refine Am O 100 [.o 1] true (r:=?_)
 refine Am O 100 [.o 3] true (r:=?_)
 refine Am O 100 [.o 1] (some #[Value.type "object"]) (r:=?_)
 refine Am O 100 [] PUnit.unit (r:=?_)
 refine Am O 100 [] (Value.type "type") (r:=?_)
 refine Am O 100 [] () (r:=?_)
 refine Am O 100 [] (Value.type "object") (r:=?_)
 refine Am O 100 [.o 3] p.ents (r:=?_)
 refine Am O 100 [.o 3] (some (.builtin "dict.__iter__")) (r:=?_)
 refine Am O 100 [] (p.ents,([]:List Value)) (r:=?_)
 refine Am O 1000 [.o 2,.s 0,.n 0] {names:=[ofString "obj"],dict:=false,weak:=false,inherited:=[]:Builtin.Slots.Plan} (r:=?_)
 refine Am O 100 [] (Value.ref (b+8+1)) (r:=?_)
 refine Ef (by kernel_rfl) ?_
 refine Am O 100 [] () (r:=?_)
 refine Ef (by kernel_rfl) ?_
 refine Am O 100 [.n 1] (some (Value.str (ofString "cmp_to_key.<locals>.K") (p.tk 3))) (r:=?_)
 refine Am O 100 [.n 1] (some (Value.str (ofString "cmp_to_key.<locals>.K") (p.tk 3))) (r:=?_)
 refine Am O 100 [] (some (ofString "cmp_to_key.<locals>.K")) (r:=?_)
 refine Am O 100 [] (ofString "cmp_to_key.<locals>.K") (r:=?_)
 refine Am O 100 [.n 1] none (r:=?_)
 refine Am O 100 [] (b+8+2) (r:=?_)
 refine Am O 100 [.n 2] () (r:=?_)
 refine Am O 100 [.n 2] () (r:=?_)
 refine Am O 100 [.n 2] () (r:=?_)
 refine Am O 100 [.n 1,.n 1] true (r:=?_)
 refine Am O 100 [.n 1] none (r:=?_)
 refine Am O 100 [.n 1,.n 1] PUnit.unit (r:=?_)
 refine Am O 100 [.n 1] none (r:=?_)
 refine Am O 100 [.n 1] none (r:=?_)
 refine Am O 100 [] none (r:=?_)
 refine Am O 100 [] [Value.type "object"] (r:=?_)
 refine Gf ?_
 refine Wy ?_
 rw[Zb]
 refine aN O 100 [] false (r:=?_)
 refine Am O 100 [.n 2,.n 2,.n 2] () (r:=?_)
 refine Am O 100 [] (some "object.__new__") (r:=?_)
 refine Am O 100 [.n 2] () (r:=?_)
 refine Am O 100 [.n 2,.n 2,.n 2,.n 1] () (r:=?_)
 refine Am O 1000 [.n 1,.n 1,.n 1,.n 1,.n 2,.n 2,.n 2] () (r:=?_)
 refine Am O 100 [] false (r:=?_)
 refine Am O 100 [.n 2] () (r:=?_)
 refine Am O 100 [.n 1] none (r:=?_)
 refine Am O 100 [.n 1,.n 1] () (r:=?_)
 refine Am O 100 [.n 1] (some (.ref p.f4)) (r:=?_)
 refine Am O 100 [.n 1] (some .none) (r:=?_)
 refine Am O 100 [] PUnit.unit (r:=?_)
 refine aL λE2=>?_
 refine Am O 100 [.n 1] (bR w p (b+10) t₀) (r:=?_)
 refine Am O 100 [] false (r:=?_)
 refine Am O 100 [.n 1] (bR w p (b+10) t₀) (r:=?_)
 refine Am O 3000 [.o 2,.o 4,.o 5,.o 6,.o 7,.o 8,.o 9,.o 10,.n 3] PUnit.unit (r:=?_)
 refine aM (c:=4) (cd:=mU (b+10) (b+9)) (od:=none) (sl:=kO p) O (by kernel_rfl) (by kernel_rfl) (by kernel_rfl) (by kernel_rfl) ?_
 refine eU (b:=b) (c:=5) (cd:=mU (b+10) (b+9)) (od:=none) (sl:=kO p) O rfl (by kernel_rfl) (by kernel_rfl) (O.olds _ (Ht ..)).1 hP (by kernel_rfl) (by kernel_rfl) ?_
 refine Am O 2000 [.n 5,.n 2,.n 2,.n 2,.n 2,.n 2,.n 2,.n 2] Value.none (r:=?_)
 exact aO λh D=>Be (k _ _ D ⟨by kernel_rfl,by kernel_rfl,by kernel_rfl,by kernel_rfl,by kernel_rfl,by kernel_rfl⟩)
theorem Mf:entryFor table "type.__new__"=some Builtin.«type.__new__»:=entryFor_of_tree (by kernel_rfl)
theorem rE {prog:Program}{w:World}{h:Heap}{b P:Nat}{A:Around}{g:Array GenState}{d:Drawn}{t₀:Nat}{os:OsState}{p:KP}(O:(kV prog w h b P A g d t₀ os p).Ok0):(kV prog w h b P A g d t₀ os p).Ok:=⟨O,λX hX=>by
 have hX:X∈[Im (b+8) p.lst #[.str (ofString "obj") (p.tk 15)]]:=hX
 rw[K2.mp hX]
 refine Ae (O.olds (p.lst,{cls:=.type "list",data:=.seq #[.str (ofString "obj") (p.tk 15)] (p.nn 1)}) (.tail _ (.tail _ (.head _)))) λe1 e2=>?_
 exact M4 O e1 e2 (by show 1<=_;decide)⟩
noncomputable abbrev Made (w:World) (p:KP) (b P t₀:Nat) (vs:Array Value) (h h':Heap):Prop:=(∀a o,a≠P->h.get? a=some o->h'.get? a=some o)/\(h'.get? P=some (PySem.W.X.tableObj vs))/\(b+14<=h'.objs.size)/\(h'.get? (b+9)=some (iM w p (b+10) t₀ 3))/\(h'.get? (b+10)=some (Qy p (b+10) (b+9)))/\(h'.get? (b+11)=some (iN (b+10) t₀))
section
variable {w:World}{p:KP}{b P t₀:Nat}{vs:Array Value}{h h':Heap}(zs:Made w p b P t₀ vs h h')
noncomputable abbrev Made.keep:=zs.1
noncomputable abbrev Made.tab:=zs.2.1
noncomputable abbrev Made.size:=zs.2.2.1
noncomputable abbrev Made.ns:=zs.2.2.2.1
noncomputable abbrev Made.cls:=zs.2.2.2.2.1
noncomputable abbrev Made.md:=zs.2.2.2.2.2
end
noncomputable def kN (prog:Program) (w:World) (h:Heap) (b P:Nat) (A:Around) (g:Array GenState) (d:Drawn) (t₀:Nat) (os:OsState) (p:KP):XO:=
 {prog,w,h₀:=h,n₁:=b+14,olds:=[(b+10,Qy p (b+10) (b+9))],P,A,g,d,t₀:=t₀+4,os}
theorem Zr {prog:Program}{w:World}{h:Heap}{b P:Nat}{A:Around}{g:Array GenState}{d:Drawn}{t₀:Nat}{os:OsState}{p:KP}(O0:(kV prog w h b P A g d t₀ os p).Ok0)(hP:P≠2){vs:Array Value}(hT:h.get? P=some (PySem.W.X.tableObj vs))
  {Q:Value->Shared->Prop}{E:Value->Shared->Prop}(k:∀h',Made w p b P t₀ vs h h'->Q (.ref (b+10)) ⟨h',g,d,t₀+4,os⟩):
  wpAny (model prog w) A (call (.type "type") [.str (ofString "K") (p.tk 16),.ref p.bT,.ref (p.ns+2)]) Q E ⟨h,g,d,t₀,os⟩:=by
 have O:=rE O0
 refine Ba (Q:=Q) (E:=λ_ _=>False) ?_ (λ_ _ x=>x) λ_ _ x=>x.elim
 have D0:(kV prog w h b P A g d t₀ os p).Rep h ⟨.nil,0,0,vs,[],[]⟩:=Wf O.size hT
 refine fA (Q:=Q) O (n:=2000) (ops:=[.a "type.__new__"]) (x:=.top (call (.type "type") [.str (ofString "K") (p.tk 16),.ref p.bT,.ref (p.ns+2)])) (by kernel_rfl) ⟨by kernel_rfl,by kernel_rfl⟩ D0 λh1 D1=>?_
 refine Ae (D1.to ⟨.nil,0,0,vs,[],[]⟩ (by kernel_rfl) (by kernel_rfl) (by kernel_rfl) (by kernel_rfl)) λD1 e1=>?_
 rw[e1]
 refine Zo (c:=.builtin "type.__new__" ⟨[.type "type",.str (ofString "K") (p.tk 16),.ref p.bT,.ref (p.ns+2)],[]⟩) (by kernel_rfl) λA' R hR=>?_
 refine codeAny_builtin Mf ?_
 refine iX (A:=A'.under (.builtin "type.__new__" ⟨[.type "type",.str (ofString "K") (p.tk 16),.ref p.bT,.ref (p.ns+2)],[]⟩)) (rE ⟨O.size,O.olds⟩) hP ⟨D1.size,D1.own,D1.keep,D1.tab,D1.lt⟩ ?_
 intro h' S' D' zq
 refine Bn zq λem ei ev zq=>?_
 refine At zq λe1 e2 e3=>?_
 refine hR _ _ ?_
 have g1:=(D'.own _ _ e1).2
 have g2:=(D'.own _ _ e2).2
 have g3:=(D'.own _ _ e3).2
 have hz:h'.objs.size=b+14:=D'.size.trans (by rw[em];rfl)
 have hP':P<b+8:=D'.lt
 have D3:=Wf (V:=kN prog w h' b P A g d t₀ os p) (vs:=vs) (hz.trans rfl) (by rw[<-ev];exact D'.tab)
 have O3:(kN prog w h' b P A g d t₀ os p).Ok:=⟨⟨hz.trans rfl,λq hq=>by
  have hq:q∈[(b+10,Qy p (b+10) (b+9))]:=hq
  rw[K2.mp hq]
  exact⟨g2,(far hP' 2).symm⟩⟩,λ_ x=>absurd x not_mem_nil⟩
 have es:(kV prog w h b P (A'.under (.builtin "type.__new__" ⟨[.type "type",.str (ofString "K") (p.tk 16),.ref p.bT,.ref (p.ns+2)],[]⟩)) g d t₀ os p).at S' h'=(kN prog w h' b P A g d t₀ os p).at ⟨.nil,0,0,vs,[],[]⟩ h':=by
  unfold XO.at;rw[ei];rfl
 rw[XO.meansEq (V:=kV prog w h b P A g d t₀ os p) (V':=kN prog w h' b P A g d t₀ os p) rfl rfl rfl,show(kV (kV prog w h b P A g d t₀ os p).prog (kV prog w h b P A g d t₀ os p).w h b P (A'.under (.builtin "type.__new__" ⟨[.type "type",.str (ofString "K") (p.tk 16),.ref p.bT,.ref (p.ns+2)],[]⟩)) g d t₀ os p).at S' h'=_ from es]
 refine fA (Q:=Q) O3 (n:=2000) (ops:=[.o 0,.o 0,.o 0,.o 0,.o 0,.o 0]) (by kernel_rfl) ⟨by kernel_rfl,by kernel_rfl⟩ D3 λh4 D4=>?_
 refine Ae (D4.to ⟨.nil,0,0,vs,[],[]⟩ (by kernel_rfl) (by kernel_rfl) (by kernel_rfl) (by kernel_rfl)) λD4 e4=>?_
 rw[e4,show(Lb (kN prog w h' b P A g d t₀ os p) 2000 [.o 0,.o 0,.o 0,.o 0,.o 0,.o 0] ⟨.nil,0,0,vs,[],[]⟩ (Xd (kV prog w h b P A g d t₀ os p) (Except.ok (Flow.ret (Value.ref (b+10))))
   (Lb (kV prog w h b P A g d t₀ os p) 2000 [Op.a "type.__new__"] {T:=BT.nil,m:=0,i:=0,vs:=vs} (Ep.top (call (Value.type "type") [Value.str (ofString "K") (p.tk 16),Value.ref p.bT,Value.ref (p.ns+2)]))).snd)).2=.top (.pure (.ref (b+10)))by kernel_rfl]
 refine Be (k h4 ⟨λa o na e=>D4.keep _ _ (D'.keep _ _ e na) na,D4.tab,by rw[D4.size];exact le_refl _,?_,D4.keep _ _ g2 (far hP' 2).symm,?_⟩)
 ·exact D4.keep _ _ g1 (far hP' 1).symm
 ·exact D4.keep _ _ g3 (far hP' 3).symm
noncomputable def hH:DefRec:=Ec PySem.Challenge.pw_in0167_02 15
noncomputable def T5 {α:Type} (z:α) (f:List Stmt->Scope->List Str->Pos->α):α:=match hH.body with
 | .ClassDef _ _ _ body _ _ scope _ _ statics pos::_=>f body scope statics pos
 |_=>z
noncomputable def Gq:List Stmt:=T5 [] λb _ _ _=>b
noncomputable def Ke:Scope:=T5 hH.scope λ_ s _ _=>s
noncomputable def Ew:List Str:=T5 [] λ_ _ s _=>s
noncomputable def Vk:Pos:=T5 ⟨0,0,0,0⟩ λ_ _ _ p=>p
noncomputable def gN (hh:Nat->Int) (ct:Nat->Nat) (cv:Nat->Value) (rest:List DictEntry) (n:Nat):Obj:={cls:=.type "dict",data:=.dict ⟨en (hh 0) "__name__" (ct 0) (cv 0)::en (hh 1) "__doc__" (ct 1) (cv 1)::en (hh 2) "__package__" (ct 2) (cv 2)::
 en (hh 3) "__loader__" (ct 3) (cv 3)::en (hh 4) "__spec__" (ct 4) (cv 4)::en (hh 5) "__annotations__" (ct 5) (cv 5)::en (hh 6) "__builtins__" (ct 6) (.ref 4)::rest⟩ n}
noncomputable def jW:Obj:={cls:=.type "module",dict:=some builtinsNs}
noncomputable def eI (kt:Nat->Nat) (x8 x12 x13 x14 x15 x16:Value) (P:Nat):Obj:={cls:=.type "code",data:=.fields #[.str (ofString "cmp_to_key") (kt 0),.str (ofString "cmp_to_key") (kt 1),.str (ofString "/claim/cut.py") (kt 2),.int 150 0,.int 1 0,.int 0 0,.int 0 0,.int 3 0,x8,.bool true,.int 276 0,.ref P,x12,x13,x14,x15,x16,.int 150 0,.str (ofString "/claim/cut.py") (kt 3)]}
noncomputable def mV (cc:Nat) (pm doc:Value):FuncData:=docDef hH.name hH.params hH.body hH.scope pm (.ref cc) doc
structure FP where
 L:Nat
 a:Nat
 cc:Nat
 P:Nat
 pm:Value
 doc:Value
 hh:Nat->Int
 ct:Nat->Nat
 cv:Nat->Value
 gn:Nat
 rest:List DictEntry
 kt:Nat->Nat
 x:Nat->Value
 ch:Nat->Int
 ct2:Nat->Nat
 cv2:Nat->Value
 cn:Nat
noncomputable def Zd (f:FP):List (Addr×Obj):=[(2,Sn f.ch f.ct2 f.cv2 f.cn),(3,gN f.hh f.ct f.cv f.rest f.gn),(4,jW),(f.cc,eI f.kt (f.x 0) (f.x 1) (f.x 2) (f.x 3) (f.x 4) (f.x 5) f.P)]
noncomputable def I9 (f:FP):Env:=callEnvC (mV f.cc f.pm f.doc) f.L f.a
noncomputable def fV (prog:Program) (w:World) (h:Heap) (b:Nat) (A:Around) (g:Array GenState) (d:Drawn) (t₀:Nat) (os:OsState) (f:FP):XO:=
 {prog,w,h₀:=h,n₁:=b+8,olds:=Zd f,P:=f.P,A,g,d,t₀,os}
theorem dT {V:XO}{h:Heap}{S:SS}(D:V.Rep h S)(hl:V.h₀.NoLimit)(hP:V.P≠2):h.NoLimit:=by
 refine Ab hl λmc Z hn=>?_
 try clear hl
 refine Ce Z λo es ep e r=>?_
 clear Z
 exact⟨mc,⟨o,es,ep,D.keep _ _ e (Ne.symm hP),r⟩,hn⟩
theorem Zv {V:XO}{h:Heap}{S:SS}{Q:Value->Shared->Prop}{E:Value->Shared->Prop}(D:V.Rep h S)(p:KP)(b5 i:Nat)(vs:Array Value)(hn:V.n₁+S.m=b5+8)(hi:S.i=i)(hv:S.vs=vs)(hP:V.P≠2)(ho:∀q∈dZ p,(∃j,S.T.get j=some q.2/\q.1=V.n₁+j)\/(V.h₀.get? q.1=some q.2/\q.1≠V.P))
  (k:∀h',Made V.w p b5 V.P (V.t₀+i) vs h h'->Q (.ref (b5+10)) ⟨h',V.g,V.d,V.t₀+i+4,V.os⟩):
  wpAny V.M V.A (call (.type "type") [.str (ofString "K") (p.tk 16),.ref p.bT,.ref (p.ns+2)]) Q E (V.at S h):=by
 subst hi hv
 refine Zr (b:=b5) (P:=V.P) (p:=p) ⟨D.size.trans hn,λq hq=>?_⟩ hP D.tab k
 rcases ho q hq with⟨j,e1,e2⟩|⟨e1,e2⟩
 ·rw[e2]
  exact⟨(D.own _ _ e1).2,(far D.lt j).symm⟩
 ·exact⟨D.keep _ _ e1 e2,e2⟩
noncomputable def Go (i:Nat):Str×Arguments×List Stmt×Scope:=((Hr Gq[i+2]?).name,(Hr Gq[i+2]?).params,(Hr Gq[i+2]?).body,(Hr Gq[i+2]?).scope)
noncomputable def N7 (i code:Nat) (clt pm:Value) (cm:Nat):FuncData:={name:=(Go i).1,qualname:=ofString "cmp_to_key.<locals>.K."++(Go i).1,params:=(Go i).2.1,body:=.stmts (Go i).2.2.1,scope:=(Go i).2.2.2,globals:=mainGlobals,closure:=(match i with|0=>[]|_=>[(ofString "mycmp",cm)]),defaults:=.none,kwdefaults:=.none,doc:=.none,pyModule:=pm,code:=.ref code,closureTuple:=clt,builtins:=builtinsNs}
noncomputable def Ys:List String:=["__module__","__qualname__","__firstlineno__","__slots__","__init__","__lt__","__gt__","__eq__","__le__","__ge__","__hash__","__static_attributes__"]
noncomputable def pM (w:World) (f:FP) (b t₀:Nat):KP:={bT:=b+8,lst:=b+15,ns:=b+8,st:=b+63,f1:=b+22,f2:=b+30,f3:=b+38,f4:=b+46,f5:=b+54,f6:=b+62,hs:=λi=>Tx w (Ys.getD i ""),tk:=λi=>t₀+[8,13,10,9,12,11,16,24,33,42,51,60,69,70,72,15,0].getD i 0,nn:=λi=>[0,0,12,0].getD i 0,e:=λi=>.func (N7 i (b+21+8*i) (match i with|0=>.none|i+1=>.ref (b+23+8*i)) (f.cv 0) (f.L+1)),ss:=#[.str (ofString "obj") (t₀+71)],ch:=f.ch,ct:=f.ct2,cv:=f.cv2,cn:=f.cn}
noncomputable def kF (i:Nat):Pos:=(Hr Gq[i+2]?).pos
noncomputable def mB (x:Nat->Value) (tb ft:Nat):Obj:={cls:=.type "code",data:=.fields #[x 0,x 1,x 2,x 3,x 4,x 5,x 6,.int 0 0,x 7,.bool true,.int 276 0,.ref tb,x 8,x 9,x 10,x 11,x 12,x 13,.str (ofString "/claim/cut.py") ft]}
noncomputable def Vf (k:Nat->Nat) (i:Nat):List Value:=[rawInt (kF i).line,rawInt (kF i).col,.ref (k i)]
noncomputable def Yi (k:Nat->Nat):Array Value:=⟨Vf k 0++Vf k 1++Vf k 2++Vf k 3++Vf k 4++Vf k 5⟩
noncomputable def Gn (i:Nat):Str:=ofString "cmp_to_key.<locals>.K."++(Go i).1
noncomputable def Ek (o:Option Obj):Option Value:=match o with
 |some o=>match o.data with
  | .fields vs=>vs[1]?
  |_=>none
 |none=>none
theorem Xr {V:XO}{h:Heap}{S:SS}(D:V.Rep h S)(j:Nat)(v:Value)(e:Ek (S.T.get j)=some v):∃o,h.get? (V.n₁+j)=some o/\Ek (some o)=some v:=by
 cases q:S.T.get j with
 |none=>rw[q]at e;cases e
 |some o=>rw[q]at e;exact⟨o,(D.own _ _ q).2,e⟩
noncomputable abbrev H9 (w:World) (f:FP) (b5:Nat) (p:KP) (t₁:Nat) (vs:Array Value) (cc9 tb9 ft:Nat) (x:Nat->Value) (k:Nat->Nat) (h h':Heap):Prop:=(∀a o,a≠f.P->h.get? a=some o->h'.get? a=some o)/\(h'.get? f.P=some (PySem.W.X.tableObj vs))/\(b5+14<=h'.objs.size)/\(h'.get? (b5+9)=some (iM w p (b5+10) t₁ 3))/\(h'.get? (b5+10)=some (Qy p (b5+10) (b5+9)))/\(h'.get? (b5+11)=some (iN (b5+10) t₁))/\(h'.get? p.f1=some {cls:=.type "function",data:=.func (N7 0 (k 0) .none (f.cv 0) (f.L+1))})/\(∃clt,h'.get? p.f2=some {cls:=.type "function",data:=.func (N7 1 (k 1) clt (f.cv 0) (f.L+1))})/\(h'.get? cc9=some (mB x tb9 ft))/\(h'.get? tb9=some (PySem.W.X.tableObj (Yi k)))/\(∃t,Ek (h'.get? (k 0))=some (.str (Gn 0) t))/\(∃t,Ek (h'.get? (k 1))=some (.str (Gn 1) t))
section
variable {w:World}{f:FP}{b5:Nat}{p:KP}{t₁:Nat}{vs:Array Value}{cc9 tb9 ft:Nat}{x:Nat->Value}{k:Nat->Nat}{h h':Heap}(zs:H9 w f b5 p t₁ vs cc9 tb9 ft x k h h')
noncomputable abbrev H9.keep:=zs.1
noncomputable abbrev H9.tab:=zs.2.1
noncomputable abbrev H9.size:=zs.2.2.1
noncomputable abbrev H9.ns:=zs.2.2.2.1
noncomputable abbrev H9.cls:=zs.2.2.2.2.1
noncomputable abbrev H9.md:=zs.2.2.2.2.2.1
noncomputable abbrev H9.f1:=zs.2.2.2.2.2.2.1
noncomputable abbrev H9.f2:=zs.2.2.2.2.2.2.2.1
noncomputable abbrev H9.cc:=zs.2.2.2.2.2.2.2.2.1
noncomputable abbrev H9.tb:=zs.2.2.2.2.2.2.2.2.2.1
noncomputable abbrev H9.q0:=zs.2.2.2.2.2.2.2.2.2.2.1
noncomputable abbrev H9.q1:=zs.2.2.2.2.2.2.2.2.2.2.2
end
noncomputable def xM (b t₀:Nat) (i:Nat):Value:=[.str (ofString "K") (t₀+2),.str (ofString "cmp_to_key.<locals>.K") (t₀+3),.str (ofString "/claim/cut.py") (t₀+4),.int 152 0,.int 0 0,.int 0 0,.int 0 0,.ref (b+11),.none,.none,.none,.none,rawInt (t₀+6:Nat),.int 152 0].getD i .none
theorem hU {prog:Program}{w:World}{h₀:Heap}{b:Nat}{A:Around}{g:Array GenState}{d:Drawn}{t₀:Nat}{os:OsState}{f:FP}(O:(fV prog w h₀ b A g d t₀ os f).Ok)(hlim:h₀.NoLimit)(hP:f.P≠2)(hA:A.depth<recursionLimit){h:Heap}
  (D:(fV prog w h₀ b A g d t₀ os f).Rep h ⟨.nil,0,0,#[],[],[]⟩){Q:Value->Shared->Prop}{E:Value->Shared->Prop}
  (k:∀h',H9 w f (b+56) (pM w f b t₀) (t₀+73) #[rawInt 152,rawInt 4,.ref (b+13)] (b+13) (b+12) (t₀+7) (xM b t₀) (λi=>b+21+8*i) h₀ h'->Q (.ref (b+66)) ⟨h',g,d,t₀+77,os⟩):
  wpAny (model prog w) A (buildClass (ofString "K") (ofString "cmp_to_key.<locals>.K") [.type "object"] [] Gq Ke Ew 152 (I9 f) Vk none) Q E ((fV prog w h₀ b A g d t₀ os f).at ⟨.nil,0,0,#[],[],[]⟩ h):=by
 refine(show Mu (fV prog w h₀ b A g d t₀ os f) ⟨.nil,0,0,#[],[],[]⟩ (buildClass (ofString "K") (ofString "cmp_to_key.<locals>.K") [.type "object"] [] Gq Ke Ew 152 (I9 f) Vk none) Q E from ?_) h D
 unfold buildClass
 refine Am O 200 [] (.ref (b+8)) (r:=?_)
 refine Am O 200 [] ([Value.type "object"],false) (r:=?_)
 refine Am O 200 [] (Value.type "type") (r:=?_)
 refine Am O 200 [] true (r:=?_)
 refine Am O 200 [] (Value.type "type") (r:=?_)
 refine Am O 200 [] (.str (ofString "K") t₀) (r:=?_)
 refine Am O 200 [] (Value.ref (b+8)) (r:=?_)
 refine Es ?_
 refine Am O 2000 [] (some (Value.ref (b+9))) (r:=?_)
 refine Am O 2000 [.n 1] (Value.ref (b+10)) (r:=?_)
 refine Am O 200 [] () (r:=?_)
 refine Am O 200 [.n 2] (some (Value.builtin "dict.__getitem__")) (r:=?_)
 refine Ef (by kernel_rfl) ?_
 refine Es ?_
 refine Ef (by kernel_rfl) ?_
 refine Gf ?_
 refine Ef (by kernel_rfl) ?_
 refine Gf ?_
 refine Am O 2000 [.o 3,.t,.t,.t,.t] (Value.ref (b+13)) (r:=?_)
 refine Am O 200 [.o 1,.o 2] builtinsNs (r:=?_)
 refine Am O 200 [.o 1] (b+14) (r:=?_)
 refine Am O 200 [] [(ofString "mycmp",f.L+1)] (r:=?_)
 refine Es ?_
 intro h D
 refine Ai (wpAny_enterFrame (dT D hlim hP) hA ?_)
 refine Ai (Hj O 3000 [.n 2,.n 2,.o 1,.n 2,.n 2,.n 2,.n 2,.n 2,.n 2,.n 2,.n 2,.n 2] () D (by kernel_rfl) (by kernel_rfl) (by kernel_rfl) (by kernel_rfl) λh D=>?_)
 refine Ai (Hj O 6000 [.n 2,.n 2,.n 2,.n 2,.n 2,.n 2,.n 5,.n 4,.n 4,.n 4,.n 4,.o 1,.o 2,.o 1,.n 2,.n 2,.n 2,.n 5,.n 4,.n 4,.n 4,.n 4,.o 1,.o 2,.o 1,.n 2,.n 2,.n 2,.n 5,.n 4,.n 4,.n 4,.n 4,.o 1,.o 2,.o 1,.n 2,.n 2,.n 2,.n 5,.n 4,.n 4,.n 4,.n 4,.o 1,.o 2,.o 1,.n 2,.n 2,.n 2,.n 5,.n 4,.n 4,.n 4,.n 4,.o 1,.o 2,.o 1,.n 2,.n 2,.n 2,.n 5,.n 4,.n 4,.n 4,.n 4,.o 1,.o 2,.o 1,.n 2,.n 2,.n 2,.n 2,.n 2,.n 2] Flow.next D (by kernel_rfl) (by kernel_rfl) (by kernel_rfl) (by kernel_rfl) λh D=>?_)
 refine Ai (Hj O 1000 [.n 2,.n 2,.n 2] () D (by kernel_rfl) (by kernel_rfl) (by kernel_rfl) (by kernel_rfl) λh D=>?_)
 refine Ai (Zv D (pM w f b t₀) (b+56) 73 #[rawInt 152,rawInt 4,.ref (b+13)] (by kernel_rfl) (by kernel_rfl) (by kernel_rfl) hP ?_ ?_)
 ·intro q hq
  have hq:q∈[_,_,_,_,_,_,_,_,_,_,_]:=hq
  simp only[E1,not_mem_nil,or_false]at hq
  rcases hq with rfl|rfl|rfl|rfl|rfl|rfl|rfl|rfl|rfl|rfl|rfl
  ·exact .inr (O.olds _ (Ht ..))
  ·exact .inl ⟨0,by kernel_rfl,rfl⟩
  ·exact .inl ⟨7,by kernel_rfl,rfl⟩
  ·exact .inl ⟨2,by kernel_rfl,rfl⟩
  ·exact .inl ⟨14,by kernel_rfl,rfl⟩
  ·exact .inl ⟨22,by kernel_rfl,rfl⟩
  ·exact .inl ⟨30,by kernel_rfl,rfl⟩
  ·exact .inl ⟨38,by kernel_rfl,rfl⟩
  ·exact .inl ⟨46,by kernel_rfl,rfl⟩
  ·exact .inl ⟨54,by kernel_rfl,rfl⟩
  ·exact .inl ⟨55,by kernel_rfl,rfl⟩
 intro h' M
 refine Be (k h' ?_)
 have N:=D.lt
 have e4:=(D.own 4 (PySem.W.X.tableObj (Yi λi=>b+21+8*i)) (by kernel_rfl)).2
 have e5:=(D.own 5 (mB (xM b t₀) (b+12) (t₀+7)) (by kernel_rfl)).2
 have e14:=(D.own 14 {cls:=.type "function",data:=.func (N7 0 (b+21+8*0) .none (f.cv 0) (f.L+1))} (by kernel_rfl)).2
 have e22:=(D.own 22 {cls:=.type "function",data:=.func (N7 1 (b+21+8*1) (.ref (b+23+8*0)) (f.cv 0) (f.L+1))} (by kernel_rfl)).2
 refine Ab (Xr D 13 (.str (Gn 0) (t₀+18)) (by kernel_rfl)) λo13 e13 q13=>?_
 refine Ab (Xr D 21 (.str (Gn 1) (t₀+26)) (by kernel_rfl)) λo21 e21 q21=>?_
 exact⟨λa o na e=>M.keep a o na (D.keep a o e na),M.tab,M.size,M.ns,M.cls,M.md,M.keep _ _ (far N 14).symm e14,⟨_,M.keep _ _ (far N 22).symm e22⟩,M.keep _ _ (far N 5).symm e5,M.keep _ _ (far N 4).symm e4,
  ⟨_,by rw[show h'.get? (b+21+8*0)=some o13 from M.keep _ _ (far N 13).symm e13];exact q13⟩,⟨_,by rw[show h'.get? (b+21+8*1)=some o21 from M.keep _ _ (far N 21).symm e21];exact q21⟩⟩
structure CP where
 t1:Nat
 t2:Nat
 rest:List Value
 cc:Nat
 tb:Nat
 ft:Nat
 x:Nat->Value
 k:Nat->Nat
noncomputable def hV (prog:Program) (w:World) (h:Heap) (b:Nat) (A:Around) (g:Array GenState) (d:Drawn) (t₀:Nat) (os:OsState) (f:FP) (c:CP):XO:=
 {prog,w,h₀:=h,n₁:=b+8,olds:=Zd f++[(c.cc,mB c.x c.tb c.ft),(c.tb,PySem.W.X.tableObj (Yi c.k))],P:=f.P,A,g,d,t₀,os}
noncomputable def pH (w:World) (f:FP) (c:CP) (b t₀:Nat):KP:={bT:=b+8,lst:=b+12,ns:=b+8,st:=b+24,f1:=b+13,f2:=b+15,f3:=b+17,f4:=b+19,f5:=b+21,f6:=b+23,hs:=λi=>Tx w (Ys.getD i ""),tk:=λi=>t₀+[2,7,4,3,6,5,10,11,12,13,14,15,16,17,19,9,0].getD i 0,nn:=λi=>[0,0,12,0].getD i 0,e:=λi=>.func (N7 i (c.k i) (match i with|0=>.none|i+1=>.ref (b+14+2*i)) (f.cv 0) (f.L+1)),ss:=#[.str (ofString "obj") (t₀+18)],ch:=f.ch,ct:=f.ct2,cv:=f.cv2,cn:=f.cn}
noncomputable def Vq (c:CP):Array Value:=⟨.int 152 c.t1:: .int 4 c.t2:: .ref c.cc::c.rest⟩
theorem mE {prog:Program}{w:World}{h₀:Heap}{b:Nat}{A:Around}{g:Array GenState}{d:Drawn}{t₀:Nat}{os:OsState}{f:FP}{c:CP}(O:(hV prog w h₀ b A g d t₀ os f c).Ok)(hlim:h₀.NoLimit)(hP:f.P≠2)(hA:A.depth<recursionLimit){h:Heap}
  (D:(hV prog w h₀ b A g d t₀ os f c).Rep h ⟨.nil,0,0,Vq c,[],[]⟩)(hq0:∃t,Ek (h₀.get? (c.k 0))=some (.str (Gn 0) t))(hq1:∃t,Ek (h₀.get? (c.k 1))=some (.str (Gn 1) t))(hk:∀i,i<2->c.k i≠f.P){Q:Value->Shared->Prop}{E:Value->Shared->Prop}
  (k:∀h',H9 w f (b+17) (pH w f c b t₀) (t₀+20) (Vq c) c.cc c.tb c.ft c.x c.k h₀ h'->Q (.ref (b+27)) ⟨h',g,d,t₀+24,os⟩):
  wpAny (model prog w) A (buildClass (ofString "K") (ofString "cmp_to_key.<locals>.K") [.type "object"] [] Gq Ke Ew 152 (I9 f) Vk none) Q E ((hV prog w h₀ b A g d t₀ os f c).at ⟨.nil,0,0,Vq c,[],[]⟩ h):=by
 refine(show Mu (hV prog w h₀ b A g d t₀ os f c) ⟨.nil,0,0,Vq c,[],[]⟩ (buildClass (ofString "K") (ofString "cmp_to_key.<locals>.K") [.type "object"] [] Gq Ke Ew 152 (I9 f) Vk none) Q E from ?_) h D
 unfold buildClass
 refine Am O 200 [] (.ref (b+8)) (r:=?_)
 refine Am O 200 [] ([Value.type "object"],false) (r:=?_)
 refine Am O 200 [] (Value.type "type") (r:=?_)
 refine Am O 200 [] true (r:=?_)
 refine Am O 200 [] (Value.type "type") (r:=?_)
 refine Am O 200 [] (.str (ofString "K") t₀) (r:=?_)
 refine Am O 200 [] (Value.ref (b+8)) (r:=?_)
 refine Es ?_
 refine Am O 2000 [] (some (Value.ref (b+9))) (r:=?_)
 refine Am O 2000 [.n 1] (Value.ref (b+10)) (r:=?_)
 refine Am O 200 [] () (r:=?_)
 refine Am O 200 [.n 2] (some (Value.builtin "dict.__getitem__")) (r:=?_)
 refine Ef (by kernel_rfl) ?_
 refine Es ?_
 refine Ef (by kernel_rfl) ?_
 refine Gf ?_
 refine Ef (by kernel_rfl) ?_
 refine Gf ?_
 refine Am O 2000 [.o 3,.t] (Value.ref c.cc) (r:=?_)
 refine Am O 200 [.o 1,.o 2] builtinsNs (r:=?_)
 refine Am O 200 [.o 1] (b+11) (r:=?_)
 refine Am O 200 [] [(ofString "mycmp",f.L+1)] (r:=?_)
 refine Es ?_
 intro h D
 refine Ai (wpAny_enterFrame (dT D hlim hP) hA ?_)
 refine Ai (Hj O 3000 [.n 2,.n 2,.o 1,.n 2,.n 2,.n 2,.n 2,.n 2,.n 2,.n 2,.n 2,.n 2] () D (by kernel_rfl) (by kernel_rfl) (by kernel_rfl) (by kernel_rfl) λh D=>?_)
 refine Ai (Hj O 6000 [.n 2,.n 2,.n 2,.n 2,.n 2,.n 2,.o 4,.o 5,.o 1,.o 2,.o 1,.n 2,.n 2,.n 2,.o 4,.o 5,.o 1,.o 2,.o 1,.n 2,.n 2,.n 2,.o 4,.o 5,.o 1,.o 2,.o 1,.n 2,.n 2,.n 2,.o 4,.o 5,.o 1,.o 2,.o 1,.n 2,.n 2,.n 2,.o 4,.o 5,.o 1,.o 2,.o 1,.n 2,.n 2,.n 2,.o 4,.o 5,.o 1,.o 2,.o 1,.n 2,.n 2,.n 2,.n 2,.n 2,.n 2] Flow.next D (by kernel_rfl) (by kernel_rfl) (by kernel_rfl) (by kernel_rfl) λh D=>?_)
 refine Ai (Hj O 1000 [.n 2,.n 2,.n 2] () D (by kernel_rfl) (by kernel_rfl) (by kernel_rfl) (by kernel_rfl) λh D=>?_)
 refine Ai (Zv D (pH w f c b t₀) (b+17) 20 (Vq c) (by kernel_rfl) (by kernel_rfl) (by kernel_rfl) hP ?_ ?_)
 ·intro q hq
  have hq:q∈[_,_,_,_,_,_,_,_,_,_,_]:=hq
  simp only[E1,not_mem_nil,or_false]at hq
  rcases hq with rfl|rfl|rfl|rfl|rfl|rfl|rfl|rfl|rfl|rfl|rfl
  ·exact .inr (O.olds _ (Ht ..))
  ·exact .inl ⟨0,by kernel_rfl,rfl⟩
  ·exact .inl ⟨4,by kernel_rfl,rfl⟩
  ·exact .inl ⟨2,by kernel_rfl,rfl⟩
  ·exact .inl ⟨5,by kernel_rfl,rfl⟩
  ·exact .inl ⟨7,by kernel_rfl,rfl⟩
  ·exact .inl ⟨9,by kernel_rfl,rfl⟩
  ·exact .inl ⟨11,by kernel_rfl,rfl⟩
  ·exact .inl ⟨13,by kernel_rfl,rfl⟩
  ·exact .inl ⟨15,by kernel_rfl,rfl⟩
  ·exact .inl ⟨16,by kernel_rfl,rfl⟩
 intro h' M
 refine Be (k h' ?_)
 have N:=D.lt
 have e14:=(D.own 5 {cls:=.type "function",data:=.func (N7 0 (c.k 0) .none (f.cv 0) (f.L+1))} (by kernel_rfl)).2
 have e22:=(D.own 7 {cls:=.type "function",data:=.func (N7 1 (c.k 1) (.ref (b+14+2*0)) (f.cv 0) (f.L+1))} (by kernel_rfl)).2
 have up:∀a o,a≠f.P->h₀.get? a=some o->h'.get? a=some o:=λa o na e=>M.keep a o na (D.keep a o e na)
 refine Ad hq0 λt0 q0=>?_
 try clear hq0
 refine Ad hq1 λt1 q1=>?_
 try clear hq1
 have old:∀i v,i<2->Ek (h₀.get? (c.k i))=some v->Ek (h'.get? (c.k i))=some v:=λi v hi e=>by
  cases q:h₀.get? (c.k i)with
  |none=>rw[q]at e;cases e
  |some o=>rw[q]at e;rw[up _ _ (hk i hi) q];exact e
 have o4:=O.olds (c.cc,mB c.x c.tb c.ft) (.tail _ (.tail _ (.tail _ (.tail _ (.head _)))))
 have o5:=O.olds (c.tb,PySem.W.X.tableObj (Yi c.k)) (.tail _ (.tail _ (.tail _ (.tail _ (.tail _ (.head _))))))
 exact⟨up,M.tab,M.size,M.ns,M.cls,M.md,M.keep _ _ (far N 5).symm e14,⟨_,M.keep _ _ (far N 7).symm e22⟩,up _ _ o4.2 o4.1,up _ _ o5.2 o5.1,⟨_,old 0 _ (by decide) q0⟩,⟨_,old 1 _ (by decide) q1⟩⟩
section
variable {α β γ δ:Type}{Γ:W}{K:Cj}{A:Around}{env:Env}{G G₀ G':Gh}{ι ι':List Addr}{σ:St}{s s':Shared}
theorem Km {l:List Value}(h:TriplesOk l):l=[]\/∃a t b u x r,l=.int a t:: .int b u::x::r/\TriplesOk r:=by
 cases l with
 |nil=>exact .inl rfl
 |cons v l=>
  cases v with
  |int a t=>
   cases l with
   |nil=>exact h.elim
   |cons v l=>
    cases v with
    |int b u=>
     cases l with
     |nil=>exact h.elim
     |cons x r=>exact .inr ⟨a,t,b,u,x,r,rfl,h⟩
    |_=>exact h.elim
  |_=>exact h.elim
theorem Gd {P:List Value->Prop}(h0:P [])(h1:∀a t b u x r,TriplesOk r->P r->P (.int a t:: .int b u::x::r))(l:List Value)(h:TriplesOk l):P l:=by
 have key:∀(n:Nat) (l:List Value),l.length<=n->TriplesOk l->P l:=λn=>by
  induction n with
  |zero=>intro l hl _;rw[List.eq_nil_of_length_eq_zero (Nat.le_zero.mp hl)];exact h0
  |succ n ih=>
   intro l hl h
   rcases Km h with rfl|⟨a,t,b,u,x,r,rfl,hr⟩
   ·exact h0
   ·exact h1 a t b u x r hr (ih r (Ao (le_add_right _ 2) (Nat.le_of_succ_le_succ hl)) hr)
 exact key l.length l (le_refl _) h
theorem Oi (l:List Value)(a b:Int)(c:Value)(h:TriplesOk l):TriplesOk (l++[rawInt a,rawInt b,c]):=
 Gd (P:=λl=>TriplesOk (l++[rawInt a,rawInt b,c])) trivial (λ_ _ _ _ _ _ _ ih=>ih) l h
theorem Yc (l:List Value)(a b:Nat)(c:Value)(h:TriplesOk l):Sw l->Sw (l++[rawInt a,rawInt b,c]):=
 Gd (P:=λl=>Sw l->Sw (l++[rawInt a,rawInt b,c])) (λ_=>⟨Int.natCast_nonneg a,Int.natCast_nonneg b,trivial⟩) (λ_ _ _ _ _ _ _ ih h=>⟨h.1,h.2.1,ih h.2.2⟩) l h
theorem Ss (pos pos':Pos)(c c2:Value)(l:List Value)(h:TriplesOk l):codeAmong pos' (l++[rawInt pos.line,rawInt pos.col,c])=some c2->codeAmong pos' l=some c2\/(pos'.line=pos.line/\pos'.col=pos.col/\c2=c):=by
 refine Gd (P:=λl=>codeAmong pos' (l++[rawInt pos.line,rawInt pos.col,c])=some c2->codeAmong pos' l=some c2\/(pos'.line=pos.line/\pos'.col=pos.col/\c2=c)) (λh=>?_) (λa t b u x r _ ih h=>?_) l h
 ·have h:(if((pos.line:Int)==pos'.line&&(pos.col:Int)==pos'.col)=true then some c else none)=some c2:=h
  by_cases hh:((pos.line:Int)==pos'.line&&(pos.col:Int)==pos'.col)=true
  ·rw[Bc hh]at h
   cases h
   refine Ae (Bool.and_eq_true_iff.mp hh) λh1 h2=>?_
   exact .inr ⟨(Int.ofNat.inj (eq_of_beq h1)).symm,(Int.ofNat.inj (eq_of_beq h2)).symm,rfl⟩
  ·rw[Ay hh]at h;cases h
 ·have h:(if(a==pos'.line&&b==pos'.col)=true then some x else codeAmong pos' (r++[rawInt pos.line,rawInt pos.col,c]))=some c2:=h
  show(if(a==pos'.line&&b==pos'.col)=true then some x else codeAmong pos' r)=some c2\/_
  by_cases hh:(a==pos'.line&&b==pos'.col)=true
  ·rw[Bc hh]at h⊢;exact .inl h
  ·rw[Ay hh]at h⊢;exact ih h
theorem Aa.grow (ok:Γ.Ok)(F:Aa Γ K env G ι σ s){c P c':Addr}(hcP:(c,P)∈Γ.tabs){ps:Array Value}(hps:s.heap.get? P=some (tabObj ps)){pos:Pos}{h':Heap}(hx:Heap.ExtBut P s.heap h')(le:G.le G')(hin:∀a o,G' a=some o->h'.get? a=some o)
  (hnew:∀a,a<s.heap.objs.size->G' a=G a)(hP:h'.get? P=some (tabObj (ps++#[rawInt pos.line,rawInt pos.col,.ref c'])))(hcode:∀pos':Pos,pos'.line=pos.line->pos'.col=pos.col->Γ.codeOk P pos' G' (.ref c'))(t:Nat)(ht:0<t):
  Aa Γ K env G' ι σ {s with heap:=h',toks:=t}:=by
 have pn:∀{a:Addr},(G a≠none\/a∈ι\/a∈Γ.tabs.map (·.2)\/Jm env a\/K.old a≠none)->G' a=G a:=λh=>hnew _ (F.lt_own h)
 refine At (F.store.tabs _ hcP) λtP1 tP2 _=>?_
 have hPt:P∈Γ.tabs.map (·.2):=mem_map_of_mem (f:=(·.2)) hcP
 have hPo:∀b,Jm env b->b≠P:=λb hb e=>(F.away b hb).2 (e▸hPt)
 have hPold:K.old P=none:=by
  cases e:K.old P with
  |none=>rfl
  |some o=>exact absurd hPt (F.far _ _ e).2.2.2.1
 have kk:∀a o,(G a=some o\/a∈ι\/Jm env a\/K.old a=some o)->s.heap.get? a=some o->h'.get? a=some o:=λa o h e=>hx a o (λq=>by
  subst q
  rcases h with h|h|h|h
  ·rw[tP1]at h;cases h
  ·exact tP2 h
  ·exact hPo _ h rfl
  ·rw[hPold]at h;cases h) e
 refine⟨⟨λa o e=>le _ _ (F.store.base a o e),hin,F.store.len,λn a ds e e'=>?_,F.store.nodup,λa ha=>by rw[pn (.inr (.inl ha))];exact F.store.fresh a ha,λp hp=>?_⟩,?_,?_,F.away,λx cc hk hl=>?_,λx cc hk hl=>?_,λa o e=>?_,F.os,F.gens,ht⟩
 ·refine Ab (F.store.at_ n a ds e e') λvs Z r=>?_
  refine Ad Z λn' ho=>?_
  clear Z
  exact⟨vs,⟨n',kk a _ (.inr (.inl (List.mem_of_getElem? e))) ho⟩,r.mono le (Bp.refl _)⟩
 ·refine At (F.store.tabs p hp) λa b Y=>?_
  refine Do Y λps0 t0 ic V q=>?_
  clear Y
  refine Ad V λog eg=>?_
  clear V
  refine⟨by rw[pn (.inr (.inr (.inl (mem_map_of_mem hp))))];exact a,b,?_⟩
  by_cases hpp:p.2=P
  ·have:=ok.tinj p hp (c,P) hcP hpp
   subst this
   refine⟨ps++#[rawInt pos.line,rawInt pos.col,.ref c'],?_,?_,⟨og,le _ _ eg⟩,λpos' c2 e=>?_,?_⟩
   ·refine Ae t0 λU _=>?_
    try clear t0
    refine A1 U λo vs e1 r=>?_
    clear U
    exact⟨⟨o,vs,kk _ _ (.inl (by have:=F.store.gin _ _ eg;rw[this]at e1;cases e1;exact eg)) e1,r⟩,hP⟩
   ·refine Bj ic λo vs file tf flags zz=>Cq zz λtg inF text tt op a1 r1 r2 r3 zz=>B6 zz λr4 r5 r6 b1 zz=>At zz λb2 b3 b4=>?_
    try clear ic
    rw[hps]at b1;cases b1
    refine⟨o,vs,file,tf,flags,tg,inF,text,tt,_,kk _ _ (.inl (by have:=F.store.gin _ _ eg;rw[this]at a1;cases a1;exact eg)) a1,r1,r2,r3,r4,r5,r6,hP,rfl,?_,b4⟩
    have e0:ps=ps0:=by cases b2;rfl
    rw[<-e0]at b3
    simpa using Oi ps.toList pos.line pos.col (.ref c') b3
   ·have h1:=t0.2
    rw[hps]at h1
    have e0:ps=ps0:=by cases h1;rfl
    refine Bj ic λ_ _ _ _ _ zz=>Cq zz λ_ _ _ _ _ _ _ _ _ zz=>B6 zz λ_ _ _ _ zz=>At zz λ_ b3 _=>?_
    try clear ic
    rw[<-e0]at q b3
    rcases Ss pos pos' (.ref c') c2 ps.toList b3 (by simpa using e)with h|⟨l1,l2,l3⟩
    ·exact ok.codeMono _ _ _ _ _ le (q.1 pos' c2 h)
    ·subst l3;exact hcode pos' l1 l2
   ·have h1:=t0.2
    rw[hps]at h1
    have e0:ps=ps0:=by cases h1;rfl
    refine Bj ic λ_ _ _ _ _ zz=>Cq zz λ_ _ _ _ _ _ _ _ _ zz=>B6 zz λ_ _ _ _ zz=>At zz λ_ b3 _=>?_
    try clear ic
    rw[<-e0]at q b3
    simpa using Yc ps.toList pos.line pos.col (.ref c') b3 q.2
  ·have hp1:p.1≠P:=λe=>by rw[e,tP1]at eg;cases eg
   exact⟨ps0,t0.extBut hx hp1 hpp,ic.extBut hx hp1 hpp,⟨og,le _ _ eg⟩,λpos' c2 e=>ok.codeMono _ _ _ _ _ le (q.1 pos' c2 e),q.2⟩
 ·refine Ab F.ns λm z0 q=>?_
  refine Ce z0 λo es ep ho r=>?_
  clear z0
  refine⟨m,⟨o,es,ep,kk _ _ (.inr (.inr (.inl (.inl rfl)))) ho,r⟩,λx d e=>(q x d e).mono (λv r=>r.mono le (Bp.refl _)) ?_ (λc o=>Fc le)⟩
  intro c v hk hl z1
  refine Ab z1 λo ho hd=>?_
  clear z1
  exact⟨o,kk _ _ (.inr (.inr (.inl (.inr ⟨_,hk,hl⟩)))) ho,hd⟩
 ·show G' env.locals=none
  rw[pn (.inr (.inr (.inr (.inl (.inl rfl)))))];exact F.loc
 ·refine Bn (F.cell x cc hk hl) λc1 z2 c3 c4=>?_
  refine A1 z2 λv o ho hd=>?_
  clear z2
  refine⟨c1,⟨v,o,kk _ _ (.inr (.inr (.inl (.inr ⟨x,hk,hl⟩)))) ho,hd⟩,c3,λz hz hr=>⟨?_,(c4 z hz hr).2⟩⟩
  rw[pn (.inr (.inr (.inr (.inl (.inr ⟨x,hk,hl⟩)))))];exact(c4 z hz hr).1
 ·refine Ad (F.freeIn x cc hk hl) λo e=>?_
  exact⟨o,Fc le e⟩
 ·refine At (F.far a o e) λf1 f2 f3=>?_
  exact⟨kk _ _ (.inr (.inr (.inr e))) f1,by rw[pn (.inr (.inr (.inr (.inr (by rw[e];exact Option.some_ne_none _)))))];exact f2,f3⟩
theorem Aa.growTab (ok:Γ.Ok)(F:Aa Γ K env G ι σ s){c P c':Addr}(hcP:(c,P)∈Γ.tabs){ps:Array Value}(hps:s.heap.get? P=some (tabObj ps)){pos:Pos}{oc:Obj}{h':Heap}(hx:Heap.ExtBut P s.heap h')(hge:s.heap.objs.size<=c')
  (hc':h'.get? c'=some oc)(hP:h'.get? P=some (tabObj (ps++#[rawInt pos.line,rawInt pos.col,.ref c'])))(hcode:∀pos':Pos,pos'.line=pos.line->pos'.col=pos.col->Γ.codeOk P pos' (G.put c' oc) (.ref c'))(t:Nat)(ht:0<t):
  G.le (G.put c' oc)/\Aa Γ K env (G.put c' oc) ι σ {s with heap:=h',toks:=t}:=by
 have hGc:G c'=none:=by
  cases e:G c' with
  |none=>rfl
  |some o=>exact absurd (Heap.lt_size (F.store.gin _ _ e)) (not_lt.mpr hge)
 have le:=Gh.put_le (o:=oc) hGc
 refine⟨le,F.grow ok hcP hps hx le (λa o e=>?_) (λa ha=>Gh.put_ne (ne_of_lt (lt_of_lt_of_le ha hge))) hP hcode t ht⟩
 unfold Gh.put at e
 split at e
 ·rename_i h;subst h;cases e;exact hc'
 ·refine hx a o (λq=>?_) (F.store.gin a o e)
  subst q
  rw[(F.store.tabs _ hcP).1]at e;cases e
theorem Aa.freezeNew (ok:Γ.Ok)(F:Aa Γ K env G ι σ s){h':Heap}(hx:∀a o,s.heap.get? a=some o->h'.get? a=some o)(le:G.le G')(hin:∀a o,G' a=some o->h'.get? a=some o)
  (hnew:∀a,a<s.heap.objs.size->G' a=G a)(t:Nat)(ht:0<t):Aa Γ K env G' ι σ {s with heap:=h',toks:=t}:=by
 have pn:∀{a:Addr},(G a≠none\/a∈ι\/a∈Γ.tabs.map (·.2)\/Jm env a\/K.old a≠none)->G' a=G a:=λh=>hnew _ (F.lt_own h)
 refine(F.keepsTo hx t ht).freeze ok (ro:=σ.ro) le hin (λa ha=>?_) λx c hk hl z hx hz=>?_
 ·rcases ha with h|h|h|h
  ·rw[pn (.inr (.inl h))];exact F.store.fresh a h
  ·rw[pn (.inr (.inr (.inl h)))];refine Ab (G7.mp h) λp hp Z=>?_;subst Z;exact(F.store.tabs p hp).1
  ·rw[pn (.inr (.inr (.inr (.inl (.inl h)))))];rw[h];exact F.loc
  ·rw[pn (.inr (.inr (.inr (.inr h))))]
   cases e:K.old a with
   |none=>exact absurd e h
   |some o=>exact(F.far a o e).2.1
 ·have q:=(F.cell x c hk hl).2.2.2 z hx hz
  exact⟨by rw[pn (.inr (.inr (.inr (.inl (.inr ⟨x,hk,hl⟩)))))];exact q.1,q.2⟩
noncomputable def Gh.upto (G:Gh) (n:Nat) (h:Heap):Gh:=λa=>if n<=a then h.get? a else G a
theorem Gh.upto_le {n:Nat}{h:Heap}(hG:∀a o,G a=some o->a<n):G.le (G.upto n h):=λa o e=>by unfold Gh.upto;rw[Ay (not_le.mpr (hG a o e))];exact e
theorem Gh.upto_new {n a:Nat}{h:Heap}(ha:a<n):G.upto n h a=G a:=by unfold Gh.upto;rw[Ay (not_le.mpr ha)]
theorem Gh.upto_at {n a:Nat}{h:Heap}(ha:n<=a):G.upto n h a=h.get? a:=by unfold Gh.upto;rw[Bc ha]
theorem Gh.upto_in {n:Nat}{h:Heap}(k:∀a o,G a=some o->h.get? a=some o):∀a o,G.upto n h a=some o->h.get? a=some o:=λa o e=>by
 unfold Gh.upto at e
 split at e
 ·exact e
 ·exact k a o e
end
noncomputable def Oe (G:Gh) (v:Value):Prop:=∃(c tb ft:Nat) (x:Nat->Value) (k:Nat->Nat),v=.ref c/\G c=some (mB x tb ft)/\G tb=some (PySem.W.X.tableObj (Yi k))/\Bd G (.ref (k 0)) (Gn 0)/\Bd G (.ref (k 1)) (Gn 1)
theorem Bd.mono {G G':Gh}{v:Value}{q:Str}(h:Bd G v q)(l:G.le G'):Bd G' v q:=by refine C3 h λc o vs t e a b d=>?_;try clear h;exact⟨c,o,vs,t,e,l _ _ a,b,d⟩
theorem Oe.mono {G G':Gh}{v:Value}(h:Oe G v)(l:G.le G'):Oe G' v:=by refine Cq h λc tb ft x k e a b d d'=>?_;try clear h;exact⟨c,tb,ft,x,k,e,l _ _ a,l _ _ b,d.mono l,d'.mono l⟩
noncomputable abbrev Rp (Γ:W) (f:FP):Prop:=(Γ.B.get? 2=some (Sn f.ch f.ct2 f.cv2 f.cn))/\(Γ.B.get? 3=some (gN f.hh f.ct f.cv f.rest f.gn))/\(Γ.B.get? 4=some jW)/\(Γ.B.get? f.cc=some (eI f.kt (f.x 0) (f.x 1) (f.x 2) (f.x 3) (f.x 4) (f.x 5) f.P))/\((f.cc,f.P)∈Γ.tabs)/\(8<=f.cc)/\(∀pos G c,Γ.codeOk f.P pos G c->pos.line=152/\pos.col=4/\Oe G c)/\(∀pos G c,pos.line=152->pos.col=4->Oe G c->Γ.codeOk f.P pos G c)/\(Γ.mb "__build_class__"=some (.builtin "__build_class__"))/\(Γ.mg (ofString "object")=none)/\(Γ.mb (ofString "object")=some (.type "object"))
section
variable {Γ:W}{f:FP}(zs:Rp Γ f)
noncomputable abbrev Rp.e2:=zs.1
noncomputable abbrev Rp.e3:=zs.2.1
noncomputable abbrev Rp.e4:=zs.2.2.1
noncomputable abbrev Rp.ec:=zs.2.2.2.1
noncomputable abbrev Rp.tab:=zs.2.2.2.2.1
noncomputable abbrev Rp.big:=zs.2.2.2.2.2.1
noncomputable abbrev Rp.out:=zs.2.2.2.2.2.2.1
noncomputable abbrev Rp.inn:=zs.2.2.2.2.2.2.2.1
noncomputable abbrev Rp.bc:=zs.2.2.2.2.2.2.2.2.1
noncomputable abbrev Rp.obn:=zs.2.2.2.2.2.2.2.2.2.1
noncomputable abbrev Rp.obb:=zs.2.2.2.2.2.2.2.2.2.2
end
noncomputable abbrev Ga (w:World) (P:Gh->Value->Prop) (G:Gh) (p:KP) (b5 t₁:Nat) (k:Nat->Nat) (clt cv0:Value) (cm:Nat):Prop:=(G (b5+9)=some (iM w p (b5+10) t₁ 3))/\(G (b5+10)=some (Qy p (b5+10) (b5+9)))/\(G (b5+11)=some (iN (b5+10) t₁))/\(G p.f1=some {cls:=.type "function",data:=.func (N7 0 (k 0) .none cv0 cm)})/\(G p.f2=some {cls:=.type "function",data:=.func (N7 1 (k 1) clt cv0 cm)})/\(Bd G (.ref (k 0)) (Gn 0))/\(Bd G (.ref (k 1)) (Gn 1))/\(∃o u,G cm=some o/\o.data=.cell (some u)/\∃G₀:Gh,G₀.le G/\P G₀ u)
section
variable {w:World}{P:Gh->Value->Prop}{G:Gh}{p:KP}{b5 t₁:Nat}{k:Nat->Nat}{clt cv0:Value}{cm:Nat}(zs:Ga w P G p b5 t₁ k clt cv0 cm)
noncomputable abbrev Ga.ns:=zs.1
noncomputable abbrev Ga.cls:=zs.2.1
noncomputable abbrev Ga.md:=zs.2.2.1
noncomputable abbrev Ga.f1:=zs.2.2.2.1
noncomputable abbrev Ga.f2:=zs.2.2.2.2.1
noncomputable abbrev Ga.c0:=zs.2.2.2.2.2.1
noncomputable abbrev Ga.c1:=zs.2.2.2.2.2.2.1
noncomputable abbrev Ga.cell:=zs.2.2.2.2.2.2.2
end
noncomputable def Z1 (w:World) (P:Gh->Value->Prop) (G:Gh) (v:Value):Prop:=∃(p:KP) (b5 t₁:Nat) (k:Nat->Nat) (clt cv0:Value) (cm:Nat),v=.ref (b5+10)/\Ga w P G p b5 t₁ k clt cv0 cm
theorem dQ {G:Gh}{a:Nat}{q:Str}{h:Heap}(e:∃t,Ek (h.get? a)=some (.str q t))(hG:G a=h.get? a):Bd G (.ref a) q:=by
 refine Ad e λt Z=>?_
 try clear e
 revert Z
 intro e
 cases ho:h.get? a with
 |none=>rw[ho]at e;exact H1 e
 |some o=>
  rw[ho]at e
  have e:(match o.data with| .fields vs=>vs[1]? |_=>none)=_:=e
  cases hd:o.data with
  |fields vs=>rw[hd]at e;exact⟨a,o,vs,t,rfl,hG.trans ho,hd,e⟩
  |_=>rw[hd]at e;exact H1 e
theorem eD {G:Gh}{a:Nat}{q:Str}{h:Heap}(c:Bd G (.ref a) q)(hG:∀a o,G a=some o->h.get? a=some o):∃t,Ek (h.get? a)=some (.str q t):=by
 refine C3 c λa' o vs t e g d z=>?_
 try clear c
 cases e
 exact⟨t,by rw[hG _ _ g];show(match o.data with| .fields vs=>vs[1]? |_=>none)=_;rw[d];exact z⟩
section
variable {α β γ δ:Type}{Γ:W}{K:Cj}{A:Around}{env:Env}{G G₀ G':Gh}{ι ι':List Addr}{σ:St}{s s':Shared}
theorem hO {f:FP}(H:Ev Γ A (I9 f))(X:Rp Γ f)(F:Aa Γ K (I9 f) G ι σ s){P:Gh->Value->Prop}(hm:∃o u,G (f.L+1)=some o/\o.data=.cell (some u)/\∃G₀:Gh,G₀.le G/\P G₀ u){Q:Value->Shared->Prop}
  (k:∀G' v s',G.le G'->Z1 Γ.w P G' v->Aa Γ K (I9 f) G' ι σ s'->Q v s'):
  wpAny (model Γ.prog Γ.w) A (buildClass (ofString "K") (ofString "cmp_to_key.<locals>.K") [.type "object"] [] Gq Ke Ew 152 (I9 f) Vk none) Q (λ_ _=>False) s:=by
 refine At (F.store.tabs _ X.tab) λtP1 tP2 Z=>?_
 refine Do Z λps t0 ic Y q=>?_
 clear Z
 refine Ad Y λog eg=>?_
 clear Y
 have hin:=F.store.gin
 have hB:∀b o,Γ.B.get? b=some o->s.heap.get? b=some o:=λb o e=>hin _ _ (F.store.base _ _ e)
 have hlim:s.heap.NoLimit:=H.ok.nolimit.keeps hB
 have hps:s.heap.get? f.P=some (tabObj ps):=t0.2
 have ht:TriplesOk ps.toList:=by
  refine Bj ic λ_ _ _ _ _ zz=>Cq zz λ_ _ _ _ op _ _ _ _ zz=>B6 zz λ_ _ _ b1 zz=>At zz λb2 b3 _=>?_
  try clear ic
  rw[hps]at b1;cases b1;cases b2;exact b3
 have neP:∀b o,Γ.B.get? b=some o->b≠f.P:=λb o e h=>by
  have:=F.store.base _ _ e
  rw[h,tP1]at this;cases this
 refine Ad (show∃b,s.heap.objs.size=b+8 from⟨s.heap.objs.size-8,by have h1:f.cc<s.heap.objs.size:=Heap.lt_size (hB _ _ X.ec);have h2:=X.big;exact le_antisymm (Aq (Cv (s.heap.objs.size) (8))) (Aq (Bt (sub_add_cancel (Aq (Bk h2 h1):8<=s.heap.objs.size))))⟩) λb hb=>?_
 have ltP:f.P<b+8:=hb▸Heap.lt_size hps
 have ltG:∀a o,G a=some o->a<b+8:=λa o e=>hb▸Heap.lt_size (hin _ _ e)
 have hP2:f.P≠2:=(neP _ _ X.e2).symm
 have hd:A.depth<recursionLimit:=by have:=H.depth;exact Aq this
 have olds:∀p∈Zd f,s.heap.get? p.1=some p.2/\p.1≠f.P:=λp hp=>by
  have hp:p∈[_,_,_,_]:=hp
  simp only[E1,not_mem_nil,or_false]at hp
  rcases hp with rfl|rfl|rfl|rfl
  ·exact⟨hB _ _ X.e2,neP _ _ X.e2⟩
  ·exact⟨hB _ _ X.e3,neP _ _ X.e3⟩
  ·exact⟨hB _ _ X.e4,neP _ _ X.e4⟩
  ·exact⟨hB _ _ X.ec,neP _ _ X.ec⟩
 have up:∀{h':Heap},(∀a o,a≠f.P->s.heap.get? a=some o->h'.get? a=some o)->∀a o,G a=some o->h'.get? a=some o:=λkk a o e=>kk a o (λz=>by subst z;rw[tP1]at e;cases e) (hin _ _ e)
 rcases Km ht with e|⟨n1,u1,n2,u2,c,r,e,_⟩
 ·have ep:ps=#[]:=by rw[<-Array.toArray_toList (xs:=ps),e]
  subst ep
  refine hU (b:=b) (t₀:=s.toks) ⟨⟨hb,olds⟩,λ_ h=>absurd h not_mem_nil⟩ hlim hP2 hd (h:=s.heap) ⟨hb,λi o e=>(H1 e),λ_ _ e _=>e,hps,ltP⟩ λh' R=>?_
  have le:G.le (G.upto (b+8) h'):=Gh.upto_le ltG
  have nw:∀a,b+8<=a->G.upto (b+8) h' a=h'.get? a:=λa ha=>Gh.upto_at ha
  have c0:=dQ R.q0 (nw _ (by show b+8<=b+21+8*0;simp +arith only))
  have c1:=dQ R.q1 (nw _ (by show b+8<=b+21+8*1;simp +arith only))
  have F':Aa Γ K (I9 f) (G.upto (b+8) h') ι σ ⟨h',s.gens,s.drawn,s.toks+77,s.os⟩:=F.grow H.ok X.tab hps (pos:=⟨152,4,0,0⟩) (λa o n e=>R.keep a o n e) le (Gh.upto_in (up R.keep))
   (λa ha=>Gh.upto_new (by have:a<b+8:=hb▸ha;exact this)) R.tab (λpos' e1 e2=>X.inn _ _ _ e1 e2 ⟨_,_,_,_,_,rfl,(nw _ (by simp +arith only)).trans R.cc,(nw _ (by simp +arith only)).trans R.tb,c0,c1⟩) (s.toks+77) (succ_pos _)
  refine Ad R.f2 λclt f2=>?_
  refine Ag hm λo u m1 m2 V=>?_
  try clear hm
  refine Ab V λG₀ m3 m4=>?_
  clear V
  exact k _ _ _ le ⟨_,b+56,_,λi=>b+21+8*i,_,_,_,rfl,(nw _ (by simp +arith only)).trans R.ns,(nw _ (by simp +arith only)).trans R.cls,(nw _ (by simp +arith only)).trans R.md,(nw _ (by show b+8<=b+22;simp +arith only)).trans R.f1,(nw _ (by show b+8<=b+30;simp +arith only)).trans f2,c0,c1,o,u,le _ _ m1,m2,G₀,m3.trans le,m4⟩ F'
 ·refine At (show 0<=n1/\0<=n2/\Sw r from by have:=q.2;rw[e]at this;exact this) λz1 z2 _=>?_
  refine At (X.out ⟨n1.toNat,n2.toNat,0,0⟩ G c (q.1 _ _ (by
   rw[e];unfold codeAmong
   rw[Bc (by simp only[Bool.and_eq_true,beq_iff_eq];exact⟨(Int.toNat_of_nonneg z1).symm,(Int.toNat_of_nonneg z2).symm⟩)]))) λw1 w2 U=>?_
  refine Cq U λcc tb ft x kk z3 y1 y2 y3 y4=>?_
  clear U
  subst z3
  dsimp only at w1 w2
  obtain rfl:n1=152:=tn (k:=151) w1
  obtain rfl:n2=4:=tn (k:=3) w2
  have ep:ps=Vq ⟨u1,u2,r,cc,tb,ft,x,kk⟩:=by rw[<-Array.toArray_toList (xs:=ps),e];rfl
  subst ep
  have nP:∀a o,G a=some o->a≠f.P:=λa o e z=>by subst z;rw[tP1]at e;cases e
  have nk:∀i,i<2->kk i≠f.P:=λi hi=>by
   match i,hi with
   |0,_=>refine Ja y3 λa o _ _ e g _=>?_;try clear y3;cases e;exact nP _ _ g
   |1,_=>refine Ja y4 λa o _ _ e g _=>?_;try clear y4;cases e;exact nP _ _ g
  refine mE (b:=b) (t₀:=s.toks) (c:=⟨u1,u2,r,cc,tb,ft,x,kk⟩) ⟨⟨hb,λp hp=>(mem_append.mp hp).elim (olds p) λhp=>?_⟩,λ_ h=>absurd h not_mem_nil⟩ hlim hP2 hd (h:=s.heap) ⟨hb,λi o e=>(H1 e),λ_ _ e _=>e,hps,ltP⟩ (eD y3 hin) (eD y4 hin) nk λh' R=>?_
  ·simp only[E1,not_mem_nil,or_false]at hp
   rcases hp with rfl|rfl
   ·exact⟨hin _ _ y1,nP _ _ y1⟩
   ·exact⟨hin _ _ y2,nP _ _ y2⟩
  have le:G.le (G.upto (b+8) h'):=Gh.upto_le ltG
  have nw:∀a,b+8<=a->G.upto (b+8) h' a=h'.get? a:=λa ha=>Gh.upto_at ha
  have kp:∀a o,s.heap.get? a=some o->h'.get? a=some o:=λa o e=>by
   by_cases ha:a=f.P
   ·subst ha
    rw[show s.heap.get? f.P=_ from hps]at e;cases e;exact R.tab
   ·exact R.keep a o ha e
  have F':Aa Γ K (I9 f) (G.upto (b+8) h') ι σ ⟨h',s.gens,s.drawn,s.toks+24,s.os⟩:=F.freezeNew H.ok kp le (Gh.upto_in (up R.keep)) (λa ha=>Gh.upto_new (by have:a<b+8:=hb▸ha;exact this)) (s.toks+24) (succ_pos _)
  refine Ad R.f2 λclt f2=>?_
  refine Ag hm λo u m1 m2 z0=>?_
  try clear hm
  refine Ab z0 λG₀ m3 m4=>?_
  clear z0
  exact k _ _ _ le ⟨_,b+17,_,kk,_,_,_,rfl,(nw _ (by simp +arith only)).trans R.ns,(nw _ (by simp +arith only)).trans R.cls,(nw _ (by simp +arith only)).trans R.md,(nw _ (by show b+8<=b+13;simp +arith only)).trans R.f1,(nw _ (by show b+8<=b+15;simp +arith only)).trans f2,y3.mono le,y4.mono le,o,u,le _ _ m1,m2,G₀,m3.trans le,m4⟩ F'
theorem Vu {M:Model}{A:Around}{E:Value->Shared->Prop}{s:Shared}{f:Value}{x:Sem Value}{rest:List (Bool×Sem Value)}{Q:Args->Shared->Prop}
  (h:wpAny M A (spliced ((false,x)::rest)) (λvs s'=>Q ⟨vs,[]⟩ s') E s):wpAny M A (evalArgs f false ((false,x)::rest) []) Q E s:=by
 unfold evalArgs
 show wpAny M A (spliced ((false,x)::rest)>>=_) Q E s
 refine Ai (Ba h (λvs s' h'=>?_) λ_ _ x=>x)
 refine wpAny_holding ?_
 exact Ai (Be (Ai (Be (Be h'))))
theorem Z7 {f:FP}(H:Ev Γ A (I9 f))(X:Rp Γ f){p:Pos}{ts:Option Scope}:Cs Γ A (I9 f) (.ClassDef (ofString "K") [.Name (ofString "object") p] [] Gq [] [] Ke ts (ofString "K") Ew Vk)
  (λσ Q=>∃P,σ.get "mycmp"=some (.sem P)/\"mycmp"∉σ.ro/\aP false "K" (.sem (Z1 Γ.w P)) {σ with ro:="mycmp"::σ.ro} (Q .next)):=λK G ι σ s Q F Z=>Au Z λP hg hro hq=>by
 rw[arm_exec_ClassDef]
 refine Ai (Be (a:=([]:List Value)) (Ai (wpAny_standAt (Ai ?_))))
 unfold buildClassGuard
 refine Ai (wpAny_nsGet (H.ok.b.keeps λb o e=>F.store.gin _ _ (F.store.base _ _ e)) ?_)
 rw[X.bc]
 refine Be ?_
 refine Ai (wpAny_holding ?_)
 have hk:(I9 f).kindOf (ofString "mycmp")=some .cell:=by kernel_rfl
 have hc:(I9 f).cells.lookup (ofString "mycmp")=some (f.L+1):=by kernel_rfl
 refine Ai (Vu (Calls.spliced_cons (Ba (Fb H (by kernel_rfl) X.obn X.obb (by decide) K G ι σ s (λd σ'=>d=.raw (.type "object")/\σ'=σ) F ⟨rfl,rfl⟩) (λv s1 Y=>Cd Y λG1 ι1 d1 σ1 l1 p1 r1 F1 e1 e2=>Calls.spliced_nil ?_) λ_ _ x=>x)))
 subst e1 e2
 obtain rfl:v=.type "object":=r1
 refine Ai (wpAny_standAt (wpAny_holding ?_))
 refine Ab F1.ns λm _ n=>?_
 refine Ag (show∃o u,s1.heap.get? (f.L+1)=some o/\o.data=.cell (some u)/\A7 G1 ι1 (.sem P) u from by
  rcases n "mycmp" _ hg with⟨k,_⟩|⟨_,c,v,e,⟨o,ho,hd⟩,r⟩|⟨k,_⟩
  ·exact(La k hk (by decide)).elim
  ·rw[hc]at e;cases e;exact⟨o,v,ho,hd,r⟩
  ·exact(La k hk (by decide)).elim) λo u ho hd hr=>?_
 refine Ae (F1.roCell H.ok hk hc hro ho) λl2 F2=>?_
 refine Ab hr λG₀ l3 hp=>?_
 try clear hr
 refine hO H X F2 ⟨o,u,Gh.put_self _ _ _,hd,G₀,l3.trans l2,hp⟩ λG3 v s3 l4 hv F3=>?_
 show wpAny _ _ (decorate [] v>>=_) _ _ _
 refine Ai (Be (Ai (wpAny_standAt (Ai (wpAny_bindName (Jq H (.inl (by kernel_rfl)) F3 (show A7 G3 ι1 (.sem (Z1 Γ.w P)) v from⟨G3,Gh.le.refl _,hv⟩) λs4 F4=>Be ?_))))))
 exact(As.mk' (R:=FR) (b:=.next) rfl F4 hq.2).up ((l1.trans l2).trans l4) p1
end
noncomputable abbrev Jh (X:Frag) (w:World) (p:KP) (b5 t₁:Nat) (k:Nat->Nat) (clt cv0:Value) (cm:Nat):Prop:=(X.lookup (b5+9)=some (iM w p (b5+10) t₁ 3))/\(X.lookup (b5+10)=some (Qy p (b5+10) (b5+9)))/\(X.lookup (b5+11)=some (iN (b5+10) t₁))/\(X.lookup p.f1=some {cls:=.type "function",data:=.func (N7 0 (k 0) .none cv0 cm)})/\(X.lookup p.f2=some {cls:=.type "function",data:=.func (N7 1 (k 1) clt cv0 cm)})
section
variable {X:Frag}{w:World}{p:KP}{b5 t₁:Nat}{k:Nat->Nat}{clt cv0:Value}{cm:Nat}(zs:Jh X w p b5 t₁ k clt cv0 cm)
noncomputable abbrev Jh.ns:=zs.1
noncomputable abbrev Jh.cls:=zs.2.1
noncomputable abbrev Jh.md:=zs.2.2.1
noncomputable abbrev Jh.f1:=zs.2.2.2.1
noncomputable abbrev Jh.f2:=zs.2.2.2.2
end
theorem oU {a:Nat}{o:Obj}:∀{l:Frag},l.lookup a=some o->(a,o)∈l:=by
 intro l
 induction l with
 |nil=>exact λh=>H1 h
 |cons q r ih=>
  intro h
  cases q with|mk y e=>
  rw[lookup_cons]at h
  split at h
  ·rename_i q;cases h;rw[beq_iff_eq.mp q];exact Ht
  ·exact mem_cons_of_mem _ (ih h)
section
variable {w:World}{P:Gh->Value->Prop}{G:Gh}{p:KP}{b5 t₁:Nat}{k:Nat->Nat}{clt cv0:Value}{cm:Nat}{X:Frag}
theorem Ga.frag (h:Ga w P G p b5 t₁ k clt cv0 cm):∃X:Frag,Jh X w p b5 t₁ k clt cv0 cm/\∀h:Heap,(∀a o,G a=some o->h.get? a=some o)->X.In h:=by
 have ne:∀{a b:Nat} {o o':Obj},G a=some o->G b=some o'->o≠o'->(a==b)=false:=λe e' n=>by
  rw[beq_eq_false_iff_ne];intro z;subst z;rw[e]at e';cases e';exact n rfl
 have q1:=ne h.f1 h.cls (by intro z;have:=congrArg Obj.cls z;revert this;show Value.type _=Value.type _->False;decide)
 have q2:=ne h.f1 h.ns (by intro z;have:=congrArg Obj.cls z;revert this;show Value.type _=Value.type _->False;decide)
 have q3:=ne h.f1 h.md (by intro z;have:=congrArg Obj.cls z;revert this;show Value.type _=Value.type _->False;decide)
 have q4:=ne h.f2 h.cls (by intro z;have:=congrArg Obj.cls z;revert this;show Value.type _=Value.type _->False;decide)
 have q5:=ne h.f2 h.ns (by intro z;have:=congrArg Obj.cls z;revert this;show Value.type _=Value.type _->False;decide)
 have q6:=ne h.f2 h.md (by intro z;have:=congrArg Obj.cls z;revert this;show Value.type _=Value.type _->False;decide)
 have q7:=ne h.f2 h.f1 (by
  intro z
  have:=congrArg (λo=>match o.data with| .func fd=>fd.name|_=>"") z
  revert this
  show(Go 1).1=(Go 0).1->False
  decide +kernel)
 refine⟨[(b5+10,Qy p (b5+10) (b5+9)),(b5+9,iM w p (b5+10) t₁ 3),(b5+11,iN (b5+10) t₁),(p.f1,{cls:=.type "function",data:=.func (N7 0 (k 0) .none cv0 cm)}),(p.f2,{cls:=.type "function",data:=.func (N7 1 (k 1) clt cv0 cm)})],⟨?_,?_,?_,?_,?_⟩,λhh hin a o e=>?_⟩
 ·simp only[lookup_cons,show(b5+9==b5+10)=false by simp,beq_self_eq_true]
 ·simp only[lookup_cons,beq_self_eq_true]
 ·simp only[lookup_cons,show(b5+11==b5+10)=false by simp,show(b5+11==b5+9)=false by simp,beq_self_eq_true]
 ·simp only[lookup_cons,q1,q2,q3,beq_self_eq_true]
 ·simp only[lookup_cons,q4,q5,q6,q7,beq_self_eq_true]
 ·have:=oU e
  simp only[E1,not_mem_nil,or_false,Prod.mk.injEq]at this
  rcases this with⟨rfl,rfl⟩|⟨rfl,rfl⟩|⟨rfl,rfl⟩|⟨rfl,rfl⟩|⟨rfl,rfl⟩
  ·exact hin _ _ h.cls
  ·exact hin _ _ h.ns
  ·exact hin _ _ h.md
  ·exact hin _ _ h.f1
  ·exact hin _ _ h.f2
variable (F:Jh X w p b5 t₁ k clt cv0 cm)
include F
theorem Jh.find (name:Str):findIn X (.ref (b5+10)) name=match(bR w p (b5+10) t₁).toList.find? (·.key.isStr name)with
  |some e=>some (some e.val)
  |none=>if(bR w p (b5+10) t₁).toList.any (·.refKey)then none else alongIn [] name [.type "object"]:=by
 unfold findIn
 dsimp only
 rw[F.cls]
 show alongIn X name [.ref (b5+10),.type "object"]=_
 unfold alongIn ownIn
 dsimp only
 rw[F.cls]
 show(match nsIn X (b5+9) name with|some (some v)=>some (some v)|some none=>alongIn X name [.type "object"]|none=>none)=_
 unfold nsIn
 rw[F.ns]
 show(match(match(bR w p (b5+10) t₁).toList.find? (·.key.isStr name)with|some e=>some (some e.val)|none=>if(bR w p (b5+10) t₁).toList.any (·.refKey)=true then none else some none)with|some (some v)=>some (some v)|some none=>alongIn X name [.type "object"]|none=>none)=_
 cases (bR w p (b5+10) t₁).toList.find? (·.key.isStr name)with
 |some e=>rfl
 |none=>
  dsimp only
  cases (bR w p (b5+10) t₁).toList.any (·.refKey)<;>rfl
theorem Jh.cd:clsIn X (b5+10)=some (mU (b5+10) (b5+9)):=by unfold clsIn;rw[F.cls];rfl
theorem Jh.init:findIn X (.ref (b5+10)) "__init__"=some (some (.ref p.f1)):=(F.find _).trans (by kernel_rfl)
theorem Jh.lt:findIn X (.ref (b5+10)) "__lt__"=some (some (.ref p.f2)):=(F.find _).trans (by kernel_rfl)
theorem Jh.obj:findIn X (.ref (b5+10)) "obj"=some (some (.ref (b5+11))):=(F.find _).trans (by kernel_rfl)
theorem Jh.geta:findIn X (.ref (b5+10)) "__getattribute__"=some (some (.builtin "object.__getattribute__")):=(F.find _).trans (by kernel_rfl)
theorem Jh.getn:findIn X (.ref (b5+10)) "__getattr__"=some none:=(F.find _).trans (by kernel_rfl)
theorem Jh.seta:findIn X (.ref (b5+10)) "__setattr__"=some (some (.builtin "object.__setattr__")):=(F.find _).trans (by kernel_rfl)
theorem Jh.tC:typeIn X (.ref (b5+10))=some (.type "type"):=by unfold typeIn;dsimp only;rw[F.cls];rfl
theorem Jh.tM:typeIn X (.ref (b5+11))=some (.type "member_descriptor"):=by unfold typeIn;dsimp only;rw[F.md];rfl
theorem Jh.t1:typeIn X (.ref p.f1)=some (.type "function"):=by unfold typeIn;dsimp only;rw[F.f1];rfl
theorem Jh.t2:typeIn X (.ref p.f2)=some (.type "function"):=by unfold typeIn;dsimp only;rw[F.f2];rfl
theorem Jh.mget:specialIn X (.ref (b5+11)) "__get__"=some (some (.builtin "member_descriptor.__get__")):=by unfold specialIn;rw[F.tM];kernel_rfl
theorem Jh.mset:takesIn X (.ref (b5+11))=some true:=by unfold takesIn specialIn;rw[F.tM];kernel_rfl
theorem Jh.taker:takerIn X (b5+10) "obj"=some (some (.ref (b5+11))):=by unfold takerIn;rw[F.obj,Option.bind_some];dsimp only;rw[F.mset];rfl
theorem Jh.slot:slotIn X (b5+11) (b5+10)=some 0:=by
 have h1:recIn X (b5+11) "member_descriptor"=some [.str (ofString "obj") t₁,.ref (b5+10),.builtin "proto.slot",.builtin "proto.slot#set",rawInt 0]:=by unfold recIn;rw[F.md];rfl
 unfold slotIn
 rw[h1,F.cd]
 show(if(("proto.slot"=="proto.slot"&&"proto.slot#set"=="proto.slot#set"&& !([Value.ref (b5+10),.type "object"]:List Value).isEmpty&&([Value.ref (b5+10),.type "object"]:List Value).contains (.ref (b5+10))&&decide (Int.toNat 0<1))=true)then some (1-1-Int.toNat 0)else none)=some 0
 rw[Bc (by simp)]
 rfl
theorem Jh.over:plainOver X (b5+10)=true:=by unfold plainOver;rw[F.cd];kernel_rfl
theorem Jh.plain:plainGet X (b5+10) "obj"=true:=by unfold plainGet;rw[F.geta,F.getn];kernel_rfl
theorem Jh.isC:isClsIn X (b5+10)=true:=by unfold isClsIn;rw[F.cd];rfl
theorem Jh.makes:makesIn X (b5+10)=true:=by
 unfold makesIn
 rw[F.cls]
 show(!false&& !false&&((kO p).toList[4]?).join==some (.builtin "object.__new__")&& !([Value.ref (b5+10),.type "object"]:List Value).isEmpty&&([Value.ref (b5+10),.type "object"]:List Value).contains (.ref (b5+10))&&([Value.ref (b5+10),.type "object"]:List Value).contains (.type "object")&&
   specialIn X (.ref (b5+10)) "__call__"==some (some (.builtin "type.__call__"))&&instIn X (.ref (b5+10)) (.type "type")==some true)=true
 have h1:specialIn X (.ref (b5+10)) "__call__"=some (some (.builtin "type.__call__")):=by unfold specialIn;rw[F.tC];kernel_rfl
 have h2:instIn X (.ref (b5+10)) (.type "type")=some true:=by unfold instIn;rw[F.tC];kernel_rfl
 rw[h1,h2]
 simp[kO]
end
theorem bI:∀x∈(Go 0).2.2.2.names,x.2≠ .cell:=by decide +kernel
noncomputable def N2 (C dx:Addr) (v:Value):Obj:={cls:=.ref C,dict:=some dx,data:=.plain,slots:=#[some v]}
theorem Ze {M:Model}{A:Around}{s:Shared}{env:Env}{Q:Flow->Shared->Prop}{E:Value->Shared->Prop}{p1 p2 p3 p4:Pos}{m:Str->Option Value}{a v:Value}(hk:env.scope.kind=.function)(k1:env.kindOf (ofString "self")=some .local)(k2:env.kindOf (ofString "obj")=some .local)
  (hn:s.heap.Ns env.locals m)(e1:m (ofString "self")=some a)(e2:m (ofString "obj")=some v)(h:wpAny M A (setAttr a (ofString "obj") v) (λ_=>Q .next) E s):
  wpAny M A (execs [.Assign [.Attribute (.Name (ofString "self") p1) (ofString "obj") p2] (.Name (ofString "obj") p3) p4] env) Q E s:=
 wpAny_execs_cons (plainObj_wpAny_Assign_Attribute (wpAny_Name (wpAny_loadName_local hk k2 hn e2 (wpAny_Name (wpAny_loadName_local hk k1 hn e1 (Ba h (λ_ s' q=>wpAny_execs_nil q) λ_ _ x=>x)) (by decide))) (by decide)) rfl)
section
variable {prog:Program}{w w0:World}{A:Around}{p:KP}{b5 t₁:Nat}{k:Nat->Nat}{clt cv0:Value}{cm:Nat}{X:Frag}{s:Shared}{R:Result->Shared->Prop}
theorem kE {v:Value}(F:Jh X w p b5 t₁ k clt cv0 cm)(I:X.In s.heap)(hl:s.heap.NoLimit)(hc:s.heap.CodeRec (.ref (k 0)) (Gn 0))(hd:A.depth+1<recursionLimit)
  (hk:∀x dx h' tk,(∀b o,s.heap.get? b=some o->h'.get? b=some o)->s.heap.objs.size<=x->s.heap.objs.size<=dx->h'.get? x=some (N2 (b5+10) dx v)->h'.get? dx=some emptyDict->s.toks<=tk->R (.ok (.ret (.ref x))) ⟨h',s.gens,s.drawn,tk,s.os⟩):
  codeAny (model prog w0) A (.call (.ref (b5+10)) ⟨[v],[]⟩) R s:=by
 refine make_core (makes_of I F.makes) (looks_findIn I F.init) (λself=>bind_fn I self F.t1) (.inl rfl) ?_
 have kp:∀b o,s.heap.get? b=some o->((s.heap.push emptyDict).push (instObj (b5+10) s.heap.objs.size)).get? b=some o:=λb o e=>Ft _ (Ft _ e)
 have I2:=I.keeps kp
 refine codeAny_call_function (body:=(Go 0).2.2.1) (fd:=N7 0 (k 0) .none cv0 cm) (by show(A.under _).depth<_;exact hd) (I2 _ _ F.f1) rfl (by kernel_rfl) (by kernel_rfl) rfl (hc.keeps kp) ?_
 rw[show bindArgs (N7 0 (k 0) .none cv0 cm) ⟨[.ref (s.heap.objs.size+1),v],[]⟩=pure [(ofString "self",.ref (s.heap.objs.size+1)),(ofString "obj",v)]by kernel_rfl]
 refine Be (wpAny_newFunctionEnv bI (λx hx=>?_) (λh' hns hsb=>?_) (by kernel_rfl))
 ·simp only[E1,not_mem_nil,or_false]at hx
  rcases hx with rfl|rfl<;>kernel_rfl
 have hsz:((s.heap.push emptyDict).push (instObj (b5+10) s.heap.objs.size)).objs.size=s.heap.objs.size+2:=by rw[Heap.size_push,Heap.size_push]
 have kp3:∀b o,((s.heap.push emptyDict).push (instObj (b5+10) s.heap.objs.size)).get? b=some o->h'.get? b=some o:=λb o e=>hsb.extBut b o (ne_of_lt (Heap.lt_size e)) (Ft _ e)
 have kp2:∀b o,s.heap.get? b=some o->h'.get? b=some o:=λb o e=>kp3 _ _ (kp _ _ e)
 dsimp only at hns
 rw[hsz]at hns
 have g1:h'.get? (s.heap.objs.size+1)=some (instObj (b5+10) s.heap.objs.size):=kp3 _ _ (by heap_get)
 have g2:h'.get? s.heap.objs.size=some emptyDict:=kp3 _ _ (by heap_get)
 refine⟨(hl.keeps kp2),codeAny_func ?_⟩
 refine Ze (a:=.ref (s.heap.objs.size+1)) (v:=v) (m:=λx=>List.lookup x [(ofString "self",.ref (s.heap.objs.size+1)),(ofString "obj",v)].reverse) (by kernel_rfl) (by kernel_rfl) (by kernel_rfl) (show h'.Ns ((s.heap.push emptyDict).push (instObj (b5+10) s.heap.objs.size)).objs.size _ by rw[hsz];exact hns) (by kernel_rfl) (by kernel_rfl) ?_
 refine set_slot (K:=X) (C:=b5+10) (p:=b5+11) (i:=0) (h₀:=s.heap) (L:=s.heap.objs.size+2) (od:=emptyDict) (news:=[(s.heap.objs.size+1,instObj (b5+10) s.heap.objs.size),(s.heap.objs.size,emptyDict)]) (ox:=instObj (b5+10) s.heap.objs.size) (ox':=N2 (b5+10) s.heap.objs.size v) ⟨hns,kp2,by simp +arith only⟩ I ?_ ⟨g1,rfl,rfl,g2⟩ F.seta F.over F.taker F.tM F.slot (by decide) rfl rfl (.head λq hq=>?_) λh4 F4 N4=>?_
 ·intro q hq
  simp only[E1,not_mem_nil,or_false]at hq
  rcases hq with rfl|rfl
  ·exact⟨g1,ne_of_lt (lt_succ_self (s.heap.objs.size+1)),Heap.get?_none_of_le (le_succ _)⟩
  ·exact⟨g2,ne_of_lt (Nat.lt_add_of_pos_right (by decide)),Heap.get?_none_of_le (le_refl _)⟩
 ·obtain rfl:=K2.mp hq
  exact ne_of_lt (lt_succ_self _)
 ·exact⟨rfl,hk _ _ _ _ F4.keep (le_succ _) (le_refl _) (N4 _ (.head _)).1 (N4 _ (.tail _ (.head _))).1 (by dsimp only;simp +arith only)⟩
end
noncomputable def Od (name qual:Str) (params:Arguments) (body:Expr) (scope:Scope) (clos:List (Str×Addr)) (pm:Value) (G₀:Gh) (v:Value):Prop:=∃a o cv ctv,v=.ref a/\G₀ a=some o/\o.cls=.type "function"/\
 o.data=.func (kla_fn name qual params body scope clos pm cv ctv)/\Bd G₀ cv qual
section
variable {α β γ δ:Type}{Γ:W}{K:Cj}{A:Around}{env:Env}{G G₀ G':Gh}{ι ι':List Addr}{σ:St}{s s':Shared}
theorem dV (H:Ev Γ A env){c P:Addr}{name qual:Str}{params:Arguments}{body:Expr}{scope:Scope}{clos:List (Str×Addr)}{pos:Pos}{ln:Nat}(hcode:env.code=.ref c)(hcP:(c,P)∈Γ.tabs)(hcl:closureFor scope env=pure clos)
  (hit:∀G cv,Γ.codeOk P pos G cv->Bd G cv qual)(mk:∀G cv pos',pos'.line=pos.line->pos'.col=pos.col->Bd G cv qual->Γ.codeOk P pos' G cv)(F:Aa Γ K env G ι σ s){Q:Value->Shared->Prop}
  (k:∀G' v s',G.le G'->Od name qual params body scope clos ((Γ.mg "__name__").getD .none) G' v->Aa Γ K env G' ι σ s'->Q v s'):
  wpAny (model Γ.prog Γ.w) A (makeFunction name qual params (.expr body) scope env [] [] [] pos ln) Q (λ_ _=>False) s:=by
 refine At (F.store.tabs _ hcP) λtP1 tP2 Z=>?_
 refine Do Z λps t0 ic Y q=>?_
 clear Z
 refine Ad Y λog eg=>?_
 clear Y
 have hin:=F.store.gin
 have hB:∀b o,Γ.B.get? b=some o->s.heap.get? b=some o:=λb o e=>hin _ _ (F.store.base _ _ e)
 have C:CodeHd s.heap c P:=CodeHd.of ic t0
 have hP:s.heap.get? P=some (tabObj ps):=t0.2
 have ht:TriplesOk ps.toList:=by
  refine Bj ic λ_ _ _ _ _ zz=>Cq zz λ_ _ _ _ op _ _ _ _ zz=>B6 zz λ_ _ _ b1 zz=>At zz λb2 b3 _=>?_
  try clear ic
  rw[hP]at b1;cases b1;cases b2;exact b3
 have hg:=H.ok.g.keeps hB
 have neP:∀b o,Γ.B.get? b=some o->b≠P:=λb o e h=>by
  have:=F.store.base _ _ e
  rw[h,tP1]at this;cases this
 refine Bz H.ok.bm λbm ob hm1 hm2 hm3 zz=>Bn zz λhm4 hm5 hm6 hm7=>?_
 have hb:s.heap.BuiltinsAt Γ.mg P:=⟨bm,ob,hm1,hm2,hm3,neP _ _ hm4,hB _ _ hm4,hm5,hm6,hm7⟩
 have hgP:mainGlobals≠P:=by
  refine Ce H.ok.g λo es ep ho _=>?_
  exact neP _ _ ho
 cases hf:codeAmong pos ps.toList with
 |none=>
  refine Ba (Ax (kla_makeFunction (E:=λ_ _=>False) (Q:=λv s'=>∃(c':Addr) (ctv:Value) (h':Heap) (tk:Nat) (oc:Obj),Heap.ExtBut P s.heap h'/\s.heap.objs.size<=c'/\h'.get? c'=some oc/\(∀G:Gh,G c'=some oc->Bd G (.ref c') qual)/\h'.get? P=some (tabObj (ps++#[rawInt pos.line,rawInt pos.col,.ref c']))/\
   v=.ref h'.objs.size/\s'={s with heap:=h'.push (kla_obj name qual params body scope clos ((Γ.mg "__name__").getD .none) c' ctv),toks:=tk}) hcl H.glob hg hcode C hP ht hf hgP hb ?_)) (λv s' V=>Ae V λU hle=>Cq U λc' ctv h' tk oc h1 h2 h3 h4 zz=>At zz λh5 e1 e2=>?_) λ_ _ x=>x
  ·intro c' ctv h' tk hx hge hlt hrec hP'
   refine C3 hrec λc2 oc vs t e h3 h4 h5=>?_
   try clear hrec
   cases e
   exact⟨c',ctv,h',tk,oc,hx,hge,h3,λG hG=>⟨c',oc,vs,t,rfl,hG,h4,h5⟩,hP',rfl,rfl⟩
  ·subst e1 e2
   refine Ae (F.growTab H.ok hcP hP h1 h2 h3 h5 (λpos' e1 e2=>mk _ _ pos' e1 e2 (h4 _ (Gh.put_self _ _ _))) tk (lt_of_lt_of_le F.tk hle)) λl1 F1=>?_
   refine Ae (F1.alloc H.ok (o:=kla_obj name qual params body scope clos ((Γ.mg "__name__").getD .none) c' ctv) rfl tk (lt_of_lt_of_le F.tk hle)) λl2 F2=>?_
   refine k _ _ _ (l1.trans l2) ⟨_,_,.ref c',ctv,rfl,Gh.put_self _ _ _,rfl,rfl,h4 _ (l2 _ _ (Gh.put_self _ _ _))⟩ F2
 |some cv=>
  refine Ba (Ax (kla_makeFunctionHit (E:=λ_ _=>False) (Q:=λv s'=>∃(ctv:Value) (h':Heap) (tk:Nat),(∀b o,s.heap.get? b=some o->h'.get? b=some o)/\v=.ref h'.objs.size/\
   s'={s with heap:=h'.push {cls:=.type "function",data:=.func (kla_fn name qual params body scope clos ((Γ.mg "__name__").getD .none) cv ctv)},toks:=tk}) hcl H.glob hg hcode C hP ht hf hb ?_)) (λv s' z0=>Ae z0 λz1 hle=>Ez z1 λctv h' tk h1 e1 e2=>?_) λ_ _ x=>x
  ·exact λctv h' tk h1 _=>⟨ctv,h',tk,h1,rfl,rfl⟩
  ·subst e1 e2
   have F1:=F.keepsTo h1 tk (lt_of_lt_of_le F.tk hle)
   refine Ae (F1.alloc H.ok (o:={cls:=.type "function",data:=.func (kla_fn name qual params body scope clos ((Γ.mg "__name__").getD .none) cv ctv)}) rfl tk (lt_of_lt_of_le F.tk hle)) λl2 F2=>?_
   refine C3 (hit _ _ (q.1 pos cv hf)) λcc oc vs t e h3 h4 h5=>?_
   exact k _ _ _ l2 ⟨_,_,cv,ctv,rfl,Gh.put_self _ _ _,rfl,rfl,cc,oc,vs,t,e,l2 _ _ h3,h4,h5⟩ F2
theorem nW (H:Ev Γ A env){c P:Addr}{params:Arguments}{body:Expr}{scope:Scope}{clos:List (Str×Addr)}{pos:Pos}(hcode:env.code=.ref c)(hcP:(c,P)∈Γ.tabs)(hdef:defaultsOf params env=([],[]))(hcl:closureFor scope env=pure clos)
  (hit:∀G cv,Γ.codeOk P pos G cv->Bd G cv (env.qual++"<lambda>"))(mk:∀G cv pos',pos'.line=pos.line->pos'.col=pos.col->Bd G cv (env.qual++"<lambda>")->Γ.codeOk P pos' G cv):
  Bl Γ A env (.Lambda params body scope pos) (λσ Q=>∃P,(∀G v,Od "<lambda>" (env.qual++"<lambda>") params body scope clos ((Γ.mg "__name__").getD .none) G v->P G v)/\Q (.sem P) σ):=λK G ι σ s Q F Z=>Ab Z λP' hP' q=>
 kla_eval hdef (dV H hcode hcP hcl hit mk F λG' v s' l hL F'=>(As.mk' (R:=VR) (b:=.sem P') ⟨G',Gh.le.refl _,hP' _ _ hL⟩ F' q).up l (Bp.refl _))
end
noncomputable def Cu (w:World) (P:Gh->Value->Prop) (C:Value) (d:D) (G:Gh) (v:Value):Prop:=∃(p:KP) (b5 t₁:Nat) (k:Nat->Nat) (clt cv0:Value) (cm x dx:Nat) (u:Value),v=.ref x/\C=.ref (b5+10)/\Ga w P G p b5 t₁ k clt cv0 cm/\G x=some (N2 (b5+10) dx u)/\G dx=some emptyDict/\A7 G [] d u
noncomputable def Hi (Γ:W) (n:Nat) (S:Mine.Internal.B3) (G:Gh) (v:Value):Prop:=(∃a o fd,v=.ref a/\G a=some o/\o.data=.func fd)/\∀A':Around,A9 n A'->Mx Γ A' G v S
theorem Ga.mono {w:World}{P:Gh->Value->Prop}{G G':Gh}{p:KP}{b5 t₁:Nat}{k:Nat->Nat}{clt cv0:Value}{cm:Nat}(h:Ga w P G p b5 t₁ k clt cv0 cm)(l:G.le G'):Ga w P G' p b5 t₁ k clt cv0 cm:=
 ⟨l _ _ h.ns,l _ _ h.cls,l _ _ h.md,l _ _ h.f1,l _ _ h.f2,h.c0.mono l,h.c1.mono l,(by refine Ag h.cell λo u a b Z=>?_;refine Ab Z λG₀ c d=>?_;clear Z;exact⟨o,u,l _ _ a,b,G₀,c.trans l,d⟩)⟩
noncomputable def D7:D->Bool
 | .raw _=>false
 | .sem _=>false
 |_=>true
theorem Vp {G:Gh}{ι:List Addr}{d:D}{u:Value}(r:A7 G ι d u)(h:D7 d=true):handedIn u=true:=by
 cases d with
 |none=>cases r;rfl
 |bool b=>cases r;rfl
 |int i=>refine Ad r λt Z=>?_;try clear r;subst Z;rfl
 |str l=>refine Ad r λt Y=>?_;try clear r;subst Y;rfl
 |tup l=>refine A1 r λa vs V _=>?_;try clear r;subst V;rfl
 |lst l=>refine A1 r λa vs U _=>?_;try clear r;subst U;rfl
 |obj k=>refine Ab r λa _ z0=>?_;try clear r;subst z0;rfl
 |raw v=>cases h
 |app k=>refine Ag r λm a _ z1 _=>?_;try clear r;subst z1;rfl
 |rng a b c=>refine Q5 r λm _ _ _ z2 _=>?_;try clear r;subst z2;rfl
 |sem P=>cases h
section
variable {α β γ δ:Type}{Γ:W}{K:Cj}{A:Around}{env:Env}{G G₀ G':Gh}{ι ι':List Addr}{σ:St}{s s':Shared}
theorem dO (H:Ev Γ A env){o:Expr}{pos:Pos}{T0:TT}(h0:Bl Γ A env o T0)(hbase:attributeBase o (ofString "obj") env (eval o env)=eval o env):
  Bl Γ A env (.Attribute o (ofString "obj") pos) (λσ Q=>T0 σ λd σ=>∃P C d',d=.sem (Cu Γ.w P C d')/\D7 d'=true/\Q d' σ):=λK G ι σ s Q F q=>by
 rw[arm_eval_Attribute,hbase]
 refine Ai (A8 h0 F q λG1 ι1 d v σ1 s1 l1 p1 r1 F1 Y=>Ez Y λP C d' e hpl q1=>?_)
 subst e
 refine Ab r1 λG₀ l2 Z=>?_
 try clear r1
 refine Bj Z λp b5 t₁ k clt zz=>Cq zz λcv0 cm x dx u V eC hc hx zz=>Ae zz λhdx hr=>?_
 clear Z
 subst V
 refine Ab ((hc.mono l2).frag) λX FX hX=>?_
 have I:=hX _ F1.store.gin
 have inst:InstAt s1.heap x (N2 (b5+10) dx u) (b5+10) (some emptyDict):=⟨F1.store.gin _ _ (l2 _ _ hx),rfl,rfl,F1.store.gin _ _ (l2 _ _ hdx)⟩
 have ru:A7 G1 ι1 d' u:=hr.mono l2 λk a e=>(H1 e)
 refine Ai (wpAny_standAt (Ai (wpAny_holding ?_)))
 refine get_bind (K:=X) (C:=b5+10) (a:=.ref (b5+11)) I inst (plainGet_of FX.plain).1 (findObj_data FX.isC FX.obj FX.mget FX.mset) (plainGet_of (name:="obj") FX.plain).2
   (wpAny_call (slot_get (s:={s1 with toks:=s1.toks+1}) (i:=0) I inst FX.slot rfl (handed_on (Vp ru hpl) ?_)))
 exact Ai (wpAny_letTemporaryGo (Be ((Fx ru (F1.toks _ (succ_pos _)) q1).up l1 p1)))
theorem fI (H:Ev Γ A env){n:Nat}(hA:A9 n A){f:String}{e:Expr}{es:List Expr}{p pos:Pos}{T:St->(List D->St->Prop)->Prop}{S:Mine.Internal.B3}(hd:(ofString f==("__debug__":Str))=false)(hc:(ofString f==("__classdict__":Str))=false)
  (h:H8 Γ A env pos (e::es) T)(hs:starEach (e::es) env=(false,eval e env)::starEach es env):
  Bl Γ A env (.Call (.Name (ofString f) p) (e::es) [] pos) (λσ Q=>σ.get f=some (.sem (Hi Γ n S))/\T σ λds σ=>S ds σ.own λd own'=>Q d {σ with own:=own'}):=λK G ι σ s Q F Y=>Ae Y λhx q=>
 wpAny_Call_NameR (wpAny_Name (D9 H F hx hc λv r=>by
  refine Au r λG₀ l0 Z hf=>?_
  try clear r
  refine Ez Z λa o fd V ho hd=>?_
  clear Z
  subst V
  exact Calls.callWith_function (o:=o) (fd:=fd) (Hs hs (A8 h F q λG1 ι1 ds vs σ1 s1 l1 p1 r1 F1 q1=>
   ⟨⟨F1.store.gin _ _ (l1 _ _ (l0 _ _ ho)),hd⟩,Ba (Fj (hf A hA) (l0.trans l1) F1 r1 q1) (λ_ _ p=>p.up l1 p1) λ_ _ x=>x⟩))) hd)
noncomputable def fX (p1 p2 p3 p4 p5 p6 p7 p8 p9:Pos):List Stmt:=[.Return (some (.Compare (.Call (.Name (ofString "mycmp") p1) [.Attribute (.Name (ofString "self") p2) (ofString "obj") p3,.Attribute (.Name (ofString "other") p4) (ofString "obj") p5] [] p6) [.Lt] [.Constant (.int 0) 0 p7] p8)) p9]
theorem bH:∀x∈(Go 1).2.2.2.names,x.2≠ .cell:=by decide +kernel
theorem oW {S:Mine.Internal.B3}{n:Nat}{p:KP}{b5 t₁:Nat}{k:Nat->Nat}{clt cv0:Value}{cm:Nat}(hc:Ga Γ.w (Hi Γ n S) G p b5 t₁ k clt cv0 cm):dG Γ G p.f2 (N7 1 (k 1) clt cv0 cm) ["self","other"] [("mycmp",.sem (Hi Γ n S))] where
 obj:=⟨_,hc.f2,rfl⟩
 code:=hc.c1
 glob:=rfl
 bui:=rfl
 bind:=λvs hv=>by
  refine Jb (Rs hv) λa b e=>?_
  subst e
  kernel_rfl
 kinds:=λq hq=>by
  simp only[E1,not_mem_nil,or_false]at hq
  rcases hq with rfl|rfl<;>kernel_rfl
 nodup:=by decide
 nocell:=bH
 free:=λx d e=>by
  rw[lookup_cons]at e
  split at e
  ·rename_i hx
   obtain rfl:=beq_iff_eq.mp hx
   cases e
   refine Ag hc.cell λo u h1 h2 Z=>?_
   refine Ab Z λG₀ h3 h4=>?_
   clear Z
   exact⟨by kernel_rfl,cm,o,u,by kernel_rfl,h1,h2,G₀,h3,h4⟩
  ·cases e
 freeAll:=λx c e=>by
  refine A1 hc.cell λo u h1 _=>?_
  have e:([(ofString "mycmp",cm)]:List (Str×Addr)).lookup x=some c:=e
  rw[lookup_cons]at e
  split at e
  ·cases e;exact⟨o,h1⟩
  ·cases e
 kind:=by kernel_rfl
 co:=by kernel_rfl
 gen:=by kernel_rfl
theorem kH (ok:Γ.Ok){S:Mine.Internal.B3}(hS:∀ds own Q Q',(∀d o,Q d o->Q' d o)->S ds own Q->S ds own Q'){n:Nat}{p:KP}{b5 t₁:Nat}{k:Nat->Nat}{clt cv0:Value}{cm:Nat}(hc:Ga Γ.w (Hi Γ n S) G p b5 t₁ k clt cv0 cm)(hA:A9 (n+1) A):
  Mx Γ A G (.ref p.f2) (λds own Q=>∃P1 C1 d1 P2 C2 d2,ds=[.sem (Cu Γ.w P1 C1 d1),.sem (Cu Γ.w P2 C2 d2)]/\D7 d1=true/\D7 d2=true/\S [d1,d2] own λr own'=>∃i,r=.int i/\Q (.bool (decide (i<0))) own'):=by
 have N:=oW hc
 have r1:=hA.depth
 have r2:=hA.units
 refine'(pK ok N (body:=fX _ _ _ _ _ _ _ _ _) rfl (by exact Aq r1) (λL=>?w)).imp ?p
 case w=>
  have hA':A9 n (A.deeper (Bw (N7 1 (k 1) clt cv0 cm) L p.f2)):=⟨hA.handled,by rw[depth_deeper];exact Aq r1,by show A.units+3+500+16*n<_;exact Aq r2⟩
  have H:Ev Γ (A.deeper (Bw (N7 1 (k 1) clt cv0 cm) L p.f2)) (Bw (N7 1 (k 1) clt cv0 cm) L p.f2):=⟨ok,N.kind,rfl,rfl,hA.handled,by rw[depth_deeper];exact Aq r1,by show A.units+3+500<_;exact Aq r2⟩
  exact Av (Dx (Xo H (fI (S:=S) H hA' (by decide) (by decide) (A0 (dO H (Bi H (by decide) (by decide)) rfl) (A0 (dO H (Bi H (by decide) (by decide)) rfl) Br rfl) rfl) rfl) Ds rfl)) Dr
 case p=>
  intro ds own Q Z
  refine Bj Z λP1 C1 d1 P2 C2 zz=>Do zz λd2 Y h1 h2 q=>?_
  clear Z
  subst Y
  refine⟨rfl,rfl,⟨_,rfl,_,_,_,rfl,h1,⟨_,rfl,_,_,_,rfl,h2,?_⟩⟩⟩
  refine hS _ _ _ _ (λd o h=>?_) q
  refine Ab h λi V U=>?_
  try clear h
  revert U
  intro h
  subst V
  exact h
theorem pA (ok:Γ.Ok){S:Mine.Internal.B3}(hS:∀ds own Q Q',(∀d o,Q d o->Q' d o)->S ds own Q->S ds own Q'){n:Nat}(hA:A9 (n+1) A)(F:Aa Γ K env G ι σ s){P2:Gh->Value->Prop}{C1 C2:Value}{d1 d2:D}{v1 v2:Value}(r1:A7 G ι (.sem (Cu Γ.w (Hi Γ n S) C1 d1)) v1)(r2:A7 G ι (.sem (Cu Γ.w P2 C2 d2)) v2)
  (h1:D7 d1=true)(h2:D7 d2=true){Q:Bool->St->Prop}(q:S [d1,d2] σ.own λr own'=>∃i,r=.int i/\Q (decide (i<0)) {σ with own:=own'}):
  wpAny (model Γ.prog Γ.w) A (keyLt' oneType' v1 v2) (λb s'=>∃G' ι' σ',G.le G'/\Bp ι ι'/\Aa Γ K env G' ι' σ' s'/\Q b σ') (λ_ _=>False) s:=by
 have r1':=r1
 refine Ab r1' λG₀ l2 Z=>?_
 try clear r1'
 refine Bj Z λp b5 t₁ k clt zz=>Cq zz λcv0 cm x dx u V eC hc hx zz=>Ae zz λhdx hr=>?_
 clear Z
 subst V
 have hc':=hc.mono l2
 refine Ab hc'.frag λX FX hX=>?_
 have I:=hX _ F.store.gin
 have inst:InstAt s.heap x (N2 (b5+10) dx u) (b5+10) (some emptyDict):=⟨F.store.gin _ _ (l2 _ _ hx),rfl,rfl,F.store.gin _ _ (l2 _ _ hdx)⟩
 rw[keyLt'_oneType,oneLt'_eq]
 rw[Bc rfl]
 refine Ai (wpAny_cRoomFor (by have:=hA.units;exact Aq this) ?_)
 refine Ai (ifBound_K I inst FX.lt (by unfold isFn;rw[FX.t2];rfl) (Ba (Fj (Q:=λd σ'=>∃b,d=.bool b/\Q b σ') (kH ok hS hc' hA) (Gh.le.refl _) F (ds:=[.sem (Cu Γ.w (Hi Γ n S) C1 d1),.sem (Cu Γ.w P2 C2 d2)]) ⟨_,_,rfl,r1,_,_,rfl,r2,rfl⟩ ⟨_,_,_,_,_,_,rfl,h1,h2,hS _ _ _ _ (λd o h=>?_) q⟩) (λv s' hv=>?_) λ_ _ e=>e))
 ·refine Ab h λi e U=>?_
  try clear h
  revert U
  intro h
  exact⟨i,e,_,rfl,h⟩
 ·refine Cm hv λG' ι' d σ' l pr rf F' Y=>?_
  try clear hv
  refine Ab Y λb z0 hq=>?_
  clear Y
  subst z0
  cases rf
  exact wpAny_truthy_bool ⟨G',ι',σ',l,pr,F',hq⟩
end
theorem Xg {G:Gh}{ι κ:List Addr}{n:Nat}(f:∀d v,Ib n d=true->A7 G ι d v->A7 G κ d v):∀(ds:List D) (vs:List Value),okDs n ds=true->Rl G ι ds vs->Rl G κ ds vs:=by
 intro ds
 induction ds with
 |nil=>exact λ_ _ h=>h
 |cons d r ih=>
  intro vs k h
  refine Ag h λv w e x t=>?_
  exact⟨v,w,e,f d v (Hd k).1 x,ih w (Hd k).2 t⟩
theorem Tl {G:Gh}{ι κ:List Addr}:∀(n:Nat) (d:D) (v:Value),Ib n d=true->A7 G ι d v->A7 G κ d v:=by
 intro n
 induction n with
 |zero=>exact λd v k h=>by cases d<;>first|exact h|exact absurd k Bool.false_ne_true
 |succ n ih=>
  intro d v k h
  cases d<;>first
   |exact h
   |exact absurd k Bool.false_ne_true
   |(refine Ag h λa vs e s r=>?_;exact⟨a,vs,e,s,Xg ih _ vs k r⟩)
theorem Va {n:Nat}{d:D}(h:Ib n d=true):D7 d=true:=by
 cases d<;>first|rfl|(cases n<;>exact absurd h Bool.false_ne_true)
section
variable {α β γ δ:Type}{Γ:W}{K:Cj}{A:Around}{env:Env}{G G₀ G':Gh}{ι ι':List Addr}{σ:St}{s s':Shared}
theorem kP (ok:Γ.Ok)(hA:A.depth+2<recursionLimit)(F:Aa Γ K env G ι σ s){P:Gh->Value->Prop}{d:D}{vt v:Value}(rt:A7 G ι (.sem (Z1 Γ.w P)) vt){n:Nat}(hd:Ib n d=true)(r:A7 G ι d v):
  wpAny (model Γ.prog Γ.w) A (call vt [v]) (λv' s'=>∃G',G.le G'/\Aa Γ K env G' ι σ s'/\A7 G' ι (.sem (Cu Γ.w P vt d)) v') (λ_ _=>False) s:=by
 refine Ab rt λG₀ l0 Z=>?_
 try clear rt
 refine Bj Z λp b5 t₁ k clt zz=>A1 zz λcv0 cm Y hc=>?_
 clear Z
 subst Y
 have hc':=hc.mono l0
 refine Ab hc'.frag λX FX hX=>?_
 have I:=hX _ F.store.gin
 have hB:∀b o,Γ.B.get? b=some o->s.heap.get? b=some o:=λb o e=>F.store.gin _ _ (F.store.base _ _ e)
 refine C3 hc'.c0 λc oc ws t e1 e2 e3 e4=>?_
 refine wpAny_call (codeAny_mono (kE (R:=λr s'=>∃v',r=.ok (.ret v')/\∃G',G.le G'/\Aa Γ K env G' ι σ s'/\A7 G' ι (.sem (Cu Γ.w P (.ref (b5+10)) d)) v') FX I (ok.nolimit.keeps hB) ⟨c,oc,ws,t,e1,F.store.gin _ _ e2,e3,e4⟩ (by exact Aq hA) λx dx h' tk kp hx hdx g1 g2 ht=>⟨_,rfl,?_⟩) λr s' h2_=>by refine Ab h2_ λv' e h=>?_;try clear h2_;subst e;exact h)
 have ltG:∀a o,G a=some o->a<s.heap.objs.size:=λa o e=>Heap.lt_size (F.store.gin _ _ e)
 have le:G.le (G.upto s.heap.objs.size h'):=Gh.upto_le ltG
 refine⟨_,le,F.freezeNew ok kp le (Gh.upto_in λa o e=>kp _ _ (F.store.gin _ _ e)) (λa ha=>Gh.upto_new ha) tk (lt_of_lt_of_le F.tk ht),_,Gh.le.refl _,p,b5,t₁,k,clt,cv0,cm,x,dx,v,rfl,rfl,hc'.mono le,(Gh.upto_at hx).trans g1,(Gh.upto_at hdx).trans g2,?_⟩
 exact(Tl n d v hd r:A7 G [] d v).mono le (Bp.refl _)
end
noncomputable def By {α:Type} (lt:Nat->Nat->Bool):KasT α->α
 | .ret a=>a
 | .ask i j k=>By lt (k (lt i j))
noncomputable def L6 {α:Type} (n:Nat):KasT α->Bool
 | .ret _=>true
 | .ask i j k=>decide (i<n)&&decide (j<n)&&L6 n (k true)&&L6 n (k false)
theorem Qx {α:Type}{n i j:Nat}{k:Bool->KasT α}(h:L6 n (.ask i j k)=true):i<n/\j<n/\L6 n (k true)=true/\L6 n (k false)=true:=by
 have h:(decide (i<n)&&decide (j<n)&&L6 n (k true)&&L6 n (k false))=true:=h
 rw[Bool.and_eq_true,Bool.and_eq_true,Bool.and_eq_true,decide_eq_true_eq,decide_eq_true_eq]at h
 exact⟨h.1.1.1,h.1.1.2,h.1.2,h.2⟩
theorem Qv {α:Type}{cmp:Nat->Nat->(Bool->Shared->Prop)->Shared->Prop}{I:Shared->Prop}{lt:Nat->Nat->Bool}{n:Nat}(h:∀i j (C:Bool->Shared->Prop) s,i<n->j<n->I s->(∀s',I s'->C (lt i j) s')->cmp i j C s){Q:α->Shared->Prop}:
  ∀(t:KasT α) (s:Shared),L6 n t=true->I s->(∀s',I s'->Q (By lt t) s')->t.kasWp cmp Q s:=by
 intro t
 induction t with
 |ret a=>exact λs _ hI q=>q s hI
 |ask i j k ih=>
  intro s hb hI q
  have hb:=Qx hb
  refine h i j _ s hb.1 hb.2.1 hI λs' hI'=>ih (lt i j) s' ?_ hI' q
  cases lt i j with
  |true=>exact hb.2.2.1
  |false=>exact hb.2.2.2
theorem Dh (n:Nat)(h:n<=4):L6 n (kas_sort n)=true:=
 all_eq_true.mp (show([0,1,2,3,4].all λn=>L6 n (kas_sort n))=true by kernel_rfl) n (elem_iff.mp ((by decide:∀n<5,[0,1,2,3,4].elem n=true) n (lt_succ_of_le h)))
noncomputable def De (c:D->D->Int) (ds:List D):List D:=if ds.length<2 then ds else(By (λi j=>decide (c (ds.getD i .none) (ds.getD j .none)<0)) (kas_sort ds.length)).toList.map λi=>ds.getD i .none
section
variable {α β γ δ:Type}{Γ:W}{K:Cj}{A:Around}{env:Env}{G G₀ G':Gh}{ι ι':List Addr}{σ:St}{s s':Shared}
theorem Xu {ι ι':List Addr}(p:Bp ι ι')(h:ι.length=ι'.length):ι'=ι:=by
 refine List.ext_getElem? λk=>?_
 by_cases hk:k<ι.length
 ·rw[Fz hk]
  exact p k _ (Fz hk)
 ·rw[List.getElem?_eq_none (by exact Aq (Bk (Bt h.symm) (not_lt.1 hk))),List.getElem?_eq_none (by exact Aq (not_lt.1 hk))]
theorem oZ (ok:Γ.Ok){S:Mine.Internal.B3}(hS:∀ds own Q Q',(∀d o,Q d o->Q' d o)->S ds own Q->S ds own Q'){n:Nat}(hA:A9 (n+1) A)(F:Aa Γ K env G ι σ s){P2:Gh->Value->Prop}{C1 C2:Value}{d1 d2:D}{v1 v2:Value}(r1:A7 G ι (.sem (Cu Γ.w (Hi Γ n S) C1 d1)) v1)(r2:A7 G ι (.sem (Cu Γ.w P2 C2 d2)) v2)
  (h1:D7 d1=true)(h2:D7 d2=true){c:Int}(q:∀Q:D->List (List D)->Prop,Q (.int c) σ.own->S [d1,d2] σ.own Q):
  wpAny (model Γ.prog Γ.w) A (keyLt' oneType' v1 v2) (λb s'=>∃G',G.le G'/\Aa Γ K env G' ι σ s'/\b=decide (c<0)) (λ_ _=>False) s:=by
 refine Ba (pA ok hS hA F r1 r2 h1 h2 (Q:=λb σ'=>b=decide (c<0)/\σ'=σ) (q _ ⟨c,rfl,rfl,rfl⟩)) (λb s' Z=>Fp Z λG' ι' σ' l pr F' e1 e2=>?_) λ_ _ x=>x
 subst e2
 have:ι'=ι:=Xu pr (by rw[F.store.len,F'.store.len])
 subst this
 exact⟨G',l,F',e1⟩
theorem Mm {X:Addr->Prop}{R:Gh->α->Prop}{t:Sem α}{Q:α->Shared->Prop}(F:Aa Γ K env G ι σ s)(hX:Bv Γ K env G ι X)(hin:∀a,X a->s.heap.get? a≠none)
  (h:∀K',Aa Γ K' env G ι σ s->wpAny (model Γ.prog Γ.w) A t (λv s'=>∃G',G.le G'/\Aa Γ K' env G' ι σ s'/\R G' v) (λ_ _=>False) s)
  (k:∀G' v s',G.le G'->Aa Γ K env G' ι σ s'->Bv Γ K env G' ι X->(∀a o,X a->s.heap.get? a=some o->s'.heap.get? a=some o)->R G' v->Q v s'):wpAny (model Γ.prog Γ.w) A t Q (λ_ _=>False) s:=
 Ba (h _ (F.cover hX)) (λv s' h2_=>by refine Au h2_ λG' l F' r=>?_;try clear h2_;exact by refine Bn (F.uncover hX hin F' l) λu1 u2 u3 _=>?_;exact k G' v s' l u1 u2 u3 r) λ_ _ x=>x
theorem Aa.putAt (F:Aa Γ K env G ι σ s){X:Addr->Prop}(hX:Bv Γ K env G ι X){a:Addr}(ha:X a){h':Heap}(hs:Heap.SameBut a s.heap h'):Aa Γ K env G ι σ {s with heap:=h'}:=
 F.ext (λb o h e=>(hs.2 b (λz=>O4 hX h (z▸ha))).trans e) (ht:=F.tk)
noncomputable def SI (Γ:W) (K:Cj) (env:Env) (G:Gh) (ι:List Addr) (σ:St) (a kS e1:Nat) (l:List D) (s':Shared):Prop:=∃(G':Gh) (kA:Array Value) (e:Nat),G.le G'/\Aa Γ K env G' ι σ s'/\Bv Γ K env G' ι (λb=>b=a\/b=kS)/\
 s'.heap.get? a=some (seqObj "list" #[] e1)/\s'.heap.get? kS=some (seqObj "list" kA e)/\Rl G' ι l kA.toList
theorem Xh {ds:List D}{vs:List Value}(r:Rl G ι ds vs)(i:Nat):A7 G ι (ds.getD i .none) (vs.getD i Value.none):=by
 by_cases h:i<ds.length
 ·refine Ab (r.getElem? (Fz h)) λv e q=>?_
  rw[List.getD_eq_getElem?_getD,List.getD_eq_getElem?_getD,e,Fz h]
  exact q
 ·rw[List.getD_eq_getElem?_getD,List.getD_eq_getElem?_getD,List.getElem?_eq_none (by exact Aq (not_lt.1 h)),List.getElem?_eq_none (by rw[r.length];exact Aq (not_lt.1 h))]
  rfl
theorem Xf {ds:List D}{vs:List Value}(r:Rl G ι ds vs):∀l:List Nat,Rl G ι (l.map λi=>ds.getD i .none) (l.map λi=>vs.getD i Value.none):=by
 intro lq
 induction lq with
 |nil=>exact rfl
 |cons i l ih=>exact⟨_,_,rfl,Xh r i,ih⟩
theorem Ha (ks vs:List Value)(h:ks.length=vs.length)(i:Nat):kas_item (ks.toArray.zip vs.toArray) i=(ks.getD i Value.none,vs.getD i Value.none):=by
 unfold kas_item
 by_cases hi:i<vs.length
 ·have h1:i<(ks.toArray.zip vs.toArray).size:=by simp;exact Nat.lt_min.2 ⟨h▸hi,hi⟩
  have e:(ks.toArray.zip vs.toArray).getD i (Value.none,Value.none)=(ks.toArray.zip vs.toArray)[i]:=by simp only[Array.getD];rw[dif_pos h1];rfl
  rw[e]
  simp[hi,h▸hi,List.getD_eq_getElem?_getD]
 ·have h1:¬i<(ks.toArray.zip vs.toArray).size:=by simp;exact Aq (Bk (min_le_right (ks.length) (vs.length)) (not_lt.1 hi))
  have e:(ks.toArray.zip vs.toArray).getD i (Value.none,Value.none)=(Value.none,Value.none):=by simp only[Array.getD];rw[dif_neg h1]
  rw[e,List.getD_eq_getElem?_getD,List.getD_eq_getElem?_getD,List.getElem?_eq_none (by exact Aq (Bk (Bt h) (not_lt.1 hi))),List.getElem?_eq_none (by exact Aq (not_lt.1 hi))]
  rfl
theorem fB:∀{ds:List D} {vs:List Value},Rl G ι ds vs->∀{v:Value},v∈vs->∃d∈ds,A7 G ι d v:=by
 intro ds
 induction ds with
 |nil=>intro vs h v hv;rw[Az h]at hv;exact absurd hv not_mem_nil
 |cons d ds ih=>
  intro vs h v hv
  refine Ag h λu w e x t=>?_
  subst e
  rcases E1.mp hv with rfl|hv
  ·exact⟨d,Ht,x⟩
  ·refine Ab (ih t hv) λd' h1 h2=>?_
   exact⟨d',mem_cons_of_mem _ h1,h2⟩
theorem O9 {f:D->D}{ds:List D}{i:Nat}(h:i<ds.length):(ds.map f).getD i .none=f (ds.getD i .none):=by
 rw[List.getD_eq_getElem?_getD,List.getD_eq_getElem?_getD,List.getElem?_map,Fz h];rfl
theorem Kf {ds:List D}{i:Nat}(h:i<ds.length):ds.getD i .none∈ds:=by
 rw[List.getD_eq_getElem?_getD,Fz h];exact List.getElem_mem h
theorem Ig {a kS e1:Nat}{l ds':List D}{st:SortSt}{P:PySem.Fin->Shared->Prop}(hka:kS≠a)(I:SI Γ K env G ι σ a kS e1 l s)(hl:l.length<=4){vs':List Value}(hv:(arrOf st).map (·.2)=vs'.toArray)(hv4:vs'.length<=4)(hf:failedOf st=none)(hr:Rl G ι ds' vs')
  (k:∀G' s' m,G.le G'->Aa Γ K env G' ι σ s'->Bv Γ K env G' ι (λb=>b=a)->s'.heap.get? a=some (seqObj "list" vs'.toArray m)->Rl G' ι ds' vs'->P (.done (.ret .none)) s'):wpAny (model Γ.prog Γ.w) A (ksk_tail a false e1 (.ref kS) st) P (λ_ _=>False) s:=by
 refine Gv I λG' kA e le F hp ga gk r=>?_
 try clear I
 have hz:kA.size<=4:=by have:=r.length;rw[Array.length_toList]at this;exact Aq (Bk (Bt this) hl)
 have s1:=Heap.SameBut.update s.heap kS (Obj.mapSeq λ_=>(#[]:Array Value))
 have ga1:=(s1.2 a hka.symm).trans ga
 have s2:=Heap.SameBut.update (s.heap.update kS (Obj.mapSeq λ_=>(#[]:Array Value))) a (Obj.mapSeq λ_=>(arrOf st).map (·.2))
 have ga2:=get?_update_seq ga1 λ_=>(arrOf st).map (·.2)
 have F2:=(F.putAt hp (.inr rfl) s1).putAt hp (.inl rfl) s2
 unfold ksk_tail
 dsimp only
 refine Ai (listUpdate_at gk rfl ?_ (by rw[sizeLine_eq];exact Ao hz (by decide)) (zero_le _))
 refine Ai (wpAny_letGo ?_)
 refine Ai (seqEpoch_at ga1 rfl ?_)
 rw[Ay Bool.false_ne_true]
 refine Ai (listUpdate_at ga1 rfl ?_ (zero_le _) (by rw[hv,sizeLine_eq];simp only[size_toArray];exact Ao hv4 (by decide)))
 rw[hf,bne_self_eq_false,Ay Bool.false_ne_true]
 rw[hv]at ga2 F2⊢
 exact Be (k G' _ _ le F2 (λb hb=>hp b (.inl hb)) ga2 (hr.mono le (Bp.refl _)))
theorem aS (ok:Γ.Ok){S:Mine.Internal.B3}(hS:∀ds own Q Q',(∀d o,Q d o->Q' d o)->S ds own Q->S ds own Q'){n:Nat}(hA:A9 (n+1) A){a kS e1:Nat}{ds:List D}{vs:List Value}{C:Value}{c:D->D->Int}{kA:Array Value}{P:PySem.Fin->Shared->Prop}(hka:kS≠a)
  (hl:ds.length<=4)(r:Rl G ι ds vs)(hok:∀x∈ds,D7 x=true)(hc:∀x∈ds,∀y∈ds,∀Q:D->List (List D)->Prop,Q (.int (c x y)) σ.own->S [x,y] σ.own Q)
  (F:Aa Γ K env G ι σ s)(hp:Bv Γ K env G ι (λb=>b=a\/b=kS))(ga:s.heap.get? a=some (seqObj "list" #[] e1)){e:Nat}(gk:s.heap.get? kS=some (seqObj "list" kA e))(rk:Rl G ι (ds.map λd=>.sem (Cu Γ.w (Hi Γ n S) C d)) kA.toList)
  (k:∀G' s' vs' m,G.le G'->Aa Γ K env G' ι σ s'->Bv Γ K env G' ι (λb=>b=a)->s'.heap.get? a=some (seqObj "list" (toArray vs') m)->Rl G' ι (De c ds) vs'->P (.done (.ret .none)) s'):wpAny (model Γ.prog Γ.w) A (ksk_end a false vs.toArray e1 (.ref kS) kA) P (λ_ _=>False) s:=by
 have hvs:vs.length=ds.length:=r.length
 have hks:kA.toList.length=ds.length:=by rw[rk.length,B2]
 have I0:SI Γ K env G ι σ a kS e1 (ds.map λd=>.sem (Cu Γ.w (Hi Γ n S) C d)) s:=⟨G,kA,e,Gh.le.refl _,F,hp,ga,gk,rk⟩
 have eKA:kA=kA.toList.toArray:=(Array.toArray_toList (xs:=kA)).symm
 unfold ksk_end
 dsimp only
 rw[Ay Bool.false_ne_true]
 by_cases h2:vs.toArray.size<2
 ·rw[Bc h2,Bc h2]
  rw[size_toArray]at h2
  refine Ai (Be ?_)
  rw[StateT.run_pure]
  refine Ai (Be ?_)
  dsimp only
  refine Ig hka I0 (by rw[B2];exact hl) (vs':=vs) (ds':=ds) ?_ (by exact Aq h2) rfl r λG' s' m l F' hp' g' r'=>k G' s' vs m l F' hp' g' ?_
  ·show(kA.zip vs.toArray).map (·.2)=vs.toArray
   rw[eKA]
   apply Array.toList_inj.mp
   rw[Array.toList_map,ksk_zip]
   exact List.map_snd_zip (by first|exact Bt (hvs.trans hks.symm)|(rw[List.toList_toArray];exact Bt (hvs.trans hks.symm)))
  ·unfold De
   rw[Bc (by exact Aq (Bk (Bt hvs.symm) h2))]
   exact r'
 ·rw[Ay h2,Ay h2]
  rw[size_toArray]at h2
  have inst:∀v∈kA.toList,∃x b5 dx u,v=.ref x/\C=.ref (b5+10)/\G x=some (N2 (b5+10) dx u):=λv hv=>by
   refine Ab (fB rk hv) λd' hd hr=>?_
   refine Ab (G7.mp hd) λd _ V=>?_
   subst V
   refine Ab hr λG₀ l0 Z=>?_
   try clear hr
   refine Bj Z λp b5 t₁ kk clt zz=>Cq zz λcv0 cm x dx u e1 e2 _ hx _=>?_
   clear Z
   exact⟨x,b5,dx,u,e1,e2,l0 _ _ hx⟩
  have hC:(C != Value.type "tuple")=true:=by
   have:0<kA.toList.length:=by rw[hks,<-hvs];exact lt_of_lt_of_le (by decide) (le_of_not_lt h2)
   refine Ja (inst _ (List.getElem_mem this)) λx b5 dx u _ e2 _=>?_
   subst e2;rfl
  have hd2:2<=ds.length:=by rw[<-hvs];exact le_of_not_lt h2
  have hk2:2<=kA.toList.length:=by rw[hks];exact hd2
  have hkv:kA.toList.length=vs.length:=by rw[hks,hvs]
  rw[eKA]
  refine Ai (kas_kind (vs:=kA.toList) (T:=C) hk2 (λv hv=>?_) hC (by simp) ?_)
  ·refine Ja (inst v hv) λx b5 dx u U z0 hx=>?_
   subst U
   subst z0
   exact(Looks.ld (F.store.gin _ _ hx)).andThen .now
  have hzs:(kA.toList.toArray.zip vs.toArray).size=ds.length:=by rw[Array.size_zip,size_toArray,size_toArray,hks,hvs,Nat.min_self]
  have est:SortSt.mk' oneType' (kA.toList.toArray.zip vs.toArray) #[] 7 none=kas_st oneType' (kA.toList.toArray.zip vs.toArray) (toArray (List.range ds.length)):=by
   have e:=kas_range (kA.toList.toArray.zip vs.toArray)
   rw[hzs]at e
   show _=SortSt.mk' oneType' ((toArray (List.range ds.length)).map (kas_item (kA.toList.toArray.zip vs.toArray))) #[] 7 none
   rw[e]
  have ask:(kas_sort ds.length).kasWp (kas_cmp Γ.prog Γ.w A oneType' (kA.toList.toArray.zip vs.toArray)) (λp s'=>p=By (λi j=>decide (c (ds.getD i .none) (ds.getD j .none)<0)) (kas_sort ds.length)/\SI Γ K env G ι σ a kS e1 (ds.map λd=>.sem (Cu Γ.w (Hi Γ n S) C d)) s') s:=by
   refine Qv (I:=SI Γ K env G ι σ a kS e1 (ds.map λd=>.sem (Cu Γ.w (Hi Γ n S) C d))) (n:=ds.length) (λi j C' s1 hi hj I1 hk=>?_) _ _ (Dh _ hl) I0 λs' hI=>⟨rfl,hI⟩
   refine Gv I1 λG1 kA1 e' le F1 hp1 ga1 gk1 rk1=>?_
   try clear I1
   unfold kas_cmp
   rw[Ha _ _ hkv,Ha _ _ hkv]
   have ri:=Xh rk i
   have rj:=Xh rk j
   rw[O9 hi]at ri
   rw[O9 hj]at rj
   refine Mm (R:=λ_ b=>b=decide (c (ds.getD i .none) (ds.getD j .none)<0)) F1 hp1 (λb hb=>?_) (λK' F'=>oZ ok hS hA F' (ri.mono le (Bp.refl _)) (rj.mono le (Bp.refl _)) (hok _ (Kf hi)) (hok _ (Kf hj)) λQ q=>hc _ (Kf hi) _ (Kf hj) Q q) λG2 b s2 l F2 hp2 keep e=>?_
   ·rcases hb with rfl|rfl
    ·rw[ga1];exact Option.some_ne_none _
    ·rw[gk1];exact Option.some_ne_none _
   ·subst e
    exact hk _ ⟨G2,kA1,e',le.trans l,F2,hp2,keep _ _ (.inl rfl) ga1,keep _ _ (.inr rfl) gk1,rk1.mono l (Bp.refl _)⟩
  have run:=kas_runs (E:=λ_ _=>False) (Q:=λ_ st' s'=>∃p:Array Nat,p.size=ds.length/\arrOf st'=p.map (kas_item (kA.toList.toArray.zip vs.toArray))/\failedOf st'=none/\p=By (λi j=>decide (c (ds.getD i .none) (ds.getD j .none)<0)) (kas_sort ds.length)/\SI Γ K env G ι σ a kS e1 (ds.map λd=>.sem (Cu Γ.w (Hi Γ n S) C d)) s')
   hd2 (lt_of_le_of_lt hl (by decide)) (λp' st' s' a1 a2 a3 a4=>⟨p',a1,a2,a3,a4⟩) ask
  rw[<-est]at run
  refine Ai (Ba run ?_ λ_ _ e=>e)
  intro z1 s' Y
  obtain⟨⟨⟩,st'⟩:=z1
  refine Dn Y λp hps har hf ep I=>?_
  clear Y
  dsimp only
  have hpl:p.toList.length=ds.length:=by rw[Array.length_toList];exact hps
  refine Ig hka I (by rw[B2];exact hl) (vs':=p.toList.map λi=>vs.getD i Value.none) (ds':=p.toList.map λi=>ds.getD i .none) ?_ (by rw[B2,hpl];exact hl) hf (Xf r _) λG' s' m l F' hp' g' r'=>k G' s' _ m l F' hp' g' ?_
  ·apply Array.toList_inj.mp
   rw[har,Array.map_map,Array.toList_map]
   exact map_congr_left λi _=>by show(kas_item _ i).2=_;rw[Ha _ _ hkv]
  ·unfold De
   rw[Ay (not_lt.mpr hd2),<-ep]
   exact r'
theorem Wz (ok:Γ.Ok){S:Mine.Internal.B3}(hS:∀ds own Q Q',(∀d o,Q d o->Q' d o)->S ds own Q->S ds own Q'){n:Nat}(hA:A9 (n+1) A){a:Nat}{ds:List D}{vs:List Value}{C:Value}{c:D->D->Int}{P:PySem.Fin->Shared->Prop}
  (hl:ds.length<=4)(r:Rl G ι ds vs){z:Nat}(hok:∀x∈ds,Ib z x=true)(hc:∀x∈ds,∀y∈ds,∀Q:D->List (List D)->Prop,Q (.int (c x y)) σ.own->S [x,y] σ.own Q)
  (F:Aa Γ K env G ι σ s)(hp:Bv Γ K env G ι (λb=>b=a)){m:Nat}(ho:s.heap.get? a=some (seqObj "list" vs.toArray m))(rt:A7 G ι (.sem (Z1 Γ.w (Hi Γ n S))) C)
  (k:∀G' s' vs' m,G.le G'->Aa Γ K env G' ι σ s'->Bv Γ K env G' ι (λb=>b=a)->s'.heap.get? a=some (seqObj "list" (toArray vs') m)->Rl G' ι (De c ds) vs'->P (.done (.ret .none)) s'):wpAny (model Γ.prog Γ.w) A (ksk_tree a C false) P (λ_ _=>False) s:=by
 have hdep:A.depth+2<recursionLimit:=by have:=hA.depth;exact Aq this
 have hvs:vs.length=ds.length:=r.length
 have hpl:∀x∈ds,D7 x=true:=λx hx=>Va (hok x hx)
 have ha:a<s.heap.objs.size:=Heap.lt_size ho
 have s1:=Heap.SameBut.update s.heap a (Obj.mapSeq λ_=>(#[]:Array Value))
 refine Ad (show∃e1,(s.heap.update a (Obj.mapSeq λ_=>(#[]:Array Value))).get? a=some (seqObj "list" #[] e1)from⟨_,get?_update_seq ho λ_=>#[]⟩) λe1 ho1=>?_
 have F1:=F.putAt hp rfl s1
 have F2:=F1.push (seqObj "tuple" vs.toArray 0) s.toks F.tk
 have hkS:((s.heap.update a (Obj.mapSeq λ_=>(#[]:Array Value))).push (seqObj "tuple" vs.toArray 0)).objs.size=s.heap.objs.size+1:=by rw[size_push',Heap.size_update]
 have hka:((s.heap.update a (Obj.mapSeq λ_=>(#[]:Array Value))).push (seqObj "tuple" vs.toArray 0)).objs.size≠a:=by rw[hkS];exact ne_of_gt (lt_succ_of_lt ha)
 have hp2:Bv Γ K env G ι (λb=>b=a\/b=((s.heap.update a (Obj.mapSeq λ_=>(#[]:Array Value))).push (seqObj "tuple" vs.toArray 0)).objs.size):=Oy F2 hp λb hb=>hb.imp id λe=>by rw[e];exact Heap.get?_none_of_le (le_refl _)
 have F3:=F2.push (seqObj "list" #[] 0) s.toks F.tk
 have ga3:(((s.heap.update a (Obj.mapSeq λ_=>(#[]:Array Value))).push (seqObj "tuple" vs.toArray 0)).push (seqObj "list" #[] 0)).get? a=some (seqObj "list" #[] e1):=Ft _ (Ft _ ho1)
 have gk3:(((s.heap.update a (Obj.mapSeq λ_=>(#[]:Array Value))).push (seqObj "tuple" vs.toArray 0)).push (seqObj "list" #[] 0)).get? ((s.heap.update a (Obj.mapSeq λ_=>(#[]:Array Value))).push (seqObj "tuple" vs.toArray 0)).objs.size=some (seqObj "list" #[] 0):=Heap.get?_push_size _ rfl
 unfold ksk_tree
 refine Ai (listItems_at ho rfl ?_)
 refine Ai (listUpdate_at ho rfl ?_ (by rw[size_toArray,sizeLine_eq];exact Ao (Aq (Bk (Bt hvs) hl)) b6) (zero_le _))
 refine Ai (seqEpoch_at ho1 rfl ?_)
 refine Ai (wpAny_newTuple ?_ (by show vs.length<=_;rw[sizeLine_eq];exact Ao (Aq (Bk (Bt hvs) hl)) b6))
 refine Ai (wpAny_newList ?_ (zero_le _))
 refine wpAny_holding ?_
 generalize ((s.heap.update a (Obj.mapSeq λ_=>(#[]:Array Value))).push (seqObj "tuple" vs.toArray 0)).objs.size=kS at hka hp2 gk3⊢
 unfold ksk_rest
 refine Ai (wpAny_rule ?_)
 rw[List.forIn_toArray]
 refine Ai (ksk_fold (λi s'=>SI Γ K env G ι σ a kS e1 ((ds.take i).map λd=>.sem (Cu Γ.w (Hi Γ n S) C d)) s') vs 0 _ ⟨G,#[],0,Gh.le.refl _,F3,hp2,ga3,gk3,rfl⟩ ?step ?done)
 case step=>
  intro j x s' hx Z
  refine Gv Z λG1 kA e le F' hp' ga gk rk=>?_
  clear Z
  rw[zero_add]at rk⊢
  have hj:j<ds.length:=by rw[<-hvs];exact(H7.mp hx).1
  refine Ab (r.getElem? (Fz hj)) λv hv rd=>?_
  rw[hx]at hv;cases hv
  have hz:kA.size<=4:=by have:=rk.length;rw[Array.length_toList,B2,length_take]at this;exact Aq (Bk (Bk (Bt this) (min_le_right (j) (ds.length))) hl)
  have run:wpAny (model Γ.prog Γ.w) A (call C [x]) (λv' s2=>∃G2,G1.le G2/\Aa Γ K env G2 ι σ s2/\Bv Γ K env G2 ι (λb=>b=a\/b=kS)/\(∀b o,(b=a\/b=kS)->s'.heap.get? b=some o->s2.heap.get? b=some o)/\A7 G2 ι (.sem (Cu Γ.w (Hi Γ n S) C ds[j])) v') (λ_ _=>False) s':=by
   refine Mm (R:=λG2 v'=>A7 G2 ι (.sem (Cu Γ.w (Hi Γ n S) C ds[j])) v') F' hp' (λb hb=>?_) (λK' F4=>kP ok hdep F4 (rt.mono le (Bp.refl _)) (hok _ (List.getElem_mem hj)) (rd.mono le (Bp.refl _))) λG2 v' s2 l F4 hp4 keep rv=>⟨G2,l,F4,hp4,keep,rv⟩
   rcases hb with rfl|rfl
   ·rw[ga];exact Option.some_ne_none _
   ·rw[gk];exact Option.some_ne_none _
  refine Ai (wpAny_attempt (Ba run (λv' s2 V=>Dn V λG2 l F4 hp4 keep rv=>?_) λ_ _ x=>x.elim))
  ·dsimp only
   have gk4:=keep _ _ (.inr rfl) gk
   have ga4:=keep _ _ (.inl rfl) ga
   have s5:=Heap.SameBut.update s2.heap kS (Obj.mapSeq (·.push v'))
   refine Ai (listUpdate_at gk4 rfl ?_ (by rw[sizeLine_eq];exact Ao hz (by decide)) (Ao (Bt (Array.size_push ..)) (by rw[sizeLine_eq];exact Ao (Aq hz) (by decide:5000000<=16777216+1))))
   refine Be ⟨rfl,G2,kA.push v',_,le.trans l,F4.putAt hp4 (.inr rfl) s5,hp4,(s5.2 a hka.symm).trans ga4,get?_update_seq gk4 (·.push v'),?_⟩
   have et:(ds.take (0+j+1)).map (λd=>D.sem (Cu Γ.w (Hi Γ n S) C d))=(ds.take j).map (λd=>D.sem (Cu Γ.w (Hi Γ n S) C d))++[.sem (Cu Γ.w (Hi Γ n S) C ds[j])]:=by
    rw[zero_add,take_add_one,Fz hj,Id];rfl
   have ea:(kA.push v').toList=kA.toList++[v']:=by simp
   first
    |(rw[et,ea];exact(rk.mono l (Bp.refl _)).snoc rv)
    |(rw[zero_add]at et;rw[et,ea];exact(rk.mono l (Bp.refl _)).snoc rv)
 case done=>
  intro s' Y
  refine Gv Y λG1 kA e le F' hp' ga gk rk=>?_
  clear Y
  rw[zero_add,hvs,take_length]at rk
  refine Ai (listItems_at gk rfl ?_)
  exact aS ok hS hA hka hl (r.mono le (Bp.refl _)) hpl hc F' hp' ga gk rk λG2 s2 vs' m l F2 hp2 g2 r2=>k G2 s2 vs' m (le.trans l) F2 hp2 g2 r2
theorem Io {n:Nat}(h:A9 (n+1) A):A9 n A.in1:=⟨h.handled,by have:=h.depth;show A.depth+150+4*n<_;exact Aq this,by have:=h.units;show A.units+1+500+16*n<_;exact Aq this⟩
theorem Qf (ok:Γ.Ok){S:Mine.Internal.B3}(hS:∀ds own Q Q',(∀d o,Q d o->Q' d o)->S ds own Q->S ds own Q'){n:Nat}(hA:A9 (n+3) A){d:D}{ds:List D}{v C:Value}{c:D->D->Int}(hi:Al σ.own d=some ds)(hl:ds.length<=4){z:Nat}(hok:∀x∈ds,Ib z x=true)
  (hc:∀x∈ds,∀y∈ds,∀Q:D->List (List D)->Prop,Q (.int (c x y)) σ.own->S [x,y] σ.own Q)(F:Aa Γ K env G ι σ s)(rv:A7 G ι d v)(rt:A7 G ι (.sem (Z1 Γ.w (Hi Γ n S))) C){Q:D->St->Prop}(q:Q (.lst (De c ds)) σ):
  wpAny (model Γ.prog Γ.w) A (call (.builtin "sorted") [v] [(ofString "key",C)]) (As Γ K env VR G ι Q) (λ_ _=>False) s:=by
 refine Ag (A2 F.store rv hi) λl vs Y hl1 r=>?_
 subst Y
 have hvs:vs.length=ds.length:=r.length
 have hA2:A9 (n+1) A.in1.in1:=Io (Io hA)
 obtain⟨qa,rfl⟩:∃qa,C=.ref qa:=by
  refine Ab rt λ_ _ Z=>?_
  try clear rt
  refine Bj Z λ_ b5 _ _ _ zz=>A1 zz λ_ _ e _=>?_
  clear Z
  exact⟨_,e⟩
 refine call_function_entry_kw kind_sorted plain_sorted entry_sorted (ksk_s1 _ _) ?_
 unfold Builtin.«sorted»
 refine Ai (m:=checkCount "sorted" 1 1 _) (Be ?_)
 refine Ai (collect_list hl1 ?_ (by rw[sizeLine_eq];exact Ao (Aq (Bk (Bt hvs) hl)) b6))
 refine Ai (wpAny_newList ?_ (by rw[sizeLine_eq];exact Ao (Aq (Bk (Bt hvs) hl)) b6))
 have hsz:((s.heap.push (seqObj "list" #[] 0)).update s.heap.objs.size (Obj.mapSeq (·++vs.toArray))).objs.size=s.heap.objs.size+1:=by
  rw[Heap.size_update,size_push']
 have hoL:(((s.heap.push (seqObj "list" #[] 0)).update s.heap.objs.size (Obj.mapSeq (·++vs.toArray))).push (seqObj "list" vs.toArray 0)).get? (s.heap.objs.size+1)=some (seqObj "list" vs.toArray 0):=by
  rw[<-hsz];exact Heap.get?_push_size _ rfl
 have keep:∀b o,s.heap.get? b=some o->(((s.heap.push (seqObj "list" #[] 0)).update s.heap.objs.size (Obj.mapSeq (·++vs.toArray))).push (seqObj "list" vs.toArray 0)).get? b=some o:=λb o q=>by
  have hlt:b<s.heap.objs.size:=Heap.lt_size q
  rw[Heap.get?_push_ne _ _ _ (by rw[hsz];exact ne_of_lt (lt_succ_of_lt hlt)),Heap.get?_update_ne _ _ _ _ (ne_of_lt hlt),Heap.get?_push_ne _ _ _ (ne_of_lt hlt)]
  exact q
 have hp:Bv Γ K env G ι (λb=>b=s.heap.objs.size+1):=Gl F λb hb=>by rw[hb];exact Heap.get?_none_of_le (le_succ _)
 have F1:=F.keepsTo keep s.toks F.tk
 show wpAny _ _ _ _ _ {s with heap:=((s.heap.push (seqObj "list" #[] 0)).update s.heap.objs.size (Obj.mapSeq (·++vs.toArray))).push (seqObj "list" vs.toArray 0)}
 rw[hsz]
 refine Ai (wpAny_holding (wpAny_call_entry_kw slot_list_sort ⟨_,hoL,rfl⟩ entry_list_sort ?body (ksk_l1 _ _)))
 case body=>
  rw[ksk_t1]
  refine Wz ok hS hA2 hl r hok hc F1 hp hoL rt λG' s' vs' m le F' hp' g' r'=>⟨_,rfl,Be ⟨_,rfl,?_⟩⟩
  refine Ae (F'.putPriv ok hp' g') λl2 F2=>?_
  exact(Fx (d:=.lst (De c ds)) ⟨_,vs',rfl,⟨_,Gh.put_self _ _ _,rfl,m,rfl⟩,r'.mono l2 (Bp.refl _)⟩ F2 q).up (le.trans l2) (Bp.refl _)
theorem aY (H:Ev Γ A env){n:Nat}(hA:A9 (n+3) A){e kx:Expr}{p pos kp:Pos}{T1 T2:TT}(hk:env.kindOf (ofString "sorted")=some .globalImplicit)(hn:Γ.mg (ofString "sorted")=none)(hv:Γ.mb (ofString "sorted")=some (.builtin "sorted"))
  (h1:Bl Γ A env e T1)(h2:Bl Γ A env kx T2)(hs:starEach [e] env=(false,eval e env)::starEach [] env):
  Bl Γ A env (.Call (.Name (ofString "sorted") p) [e] [⟨some (ofString "key"),kx,kp⟩] pos) (λσ Q=>T1 σ λd σ=>T2 σ λt σ=>∃(S:Mine.Internal.B3) (ds:List D) (c:D->D->Int) (z:Nat),(∀ds own Q Q',(∀d o,Q d o->Q' d o)->S ds own Q->S ds own Q')/\t=.sem (Z1 Γ.w (Hi Γ n S))/\
   Al σ.own d=some ds/\ds.length<=4/\(∀x∈ds,Ib z x=true)/\(∀x∈ds,∀y∈ds,∀Q:D->List (List D)->Prop,Q (.int (c x y)) σ.own->S [x,y] σ.own Q)/\Q (.lst (De c ds)) σ):=λK G ι σ s Q F q=>by
 have hbs:backTo pos (starEach [e] env)=(false,eval e env)::backTo pos (starEach [] env):=by rw[hs];rfl
 refine wpAny_Call_Name_kw (Ba (Fb H hk hn hv (by decide) K G ι σ s (λd σ'=>d=.raw (.builtin "sorted")/\σ'=σ) F ⟨rfl,rfl⟩) (λv s0 Z=>Cd Z λG0 ι0 d0 σ0 l0 p0 r0 F0 e0 e1=>?_) λ_ _ x=>x)
 subst e0 e1
 obtain rfl:v=.builtin "sorted":=r0
 refine callWith_kw ?_ hbs (by rw[hbs];rfl) rfl rfl
 rw[hbs]
 refine Calls.spliced_cons (A8 h1 F0 q λG1 ι1 d v σ1 s1 l1 p1 r1 F1 q1=>Calls.spliced_nil (kws_cons (A8 h2 F1 q1 λG2 ι2 t vt σ2 s2 l2 p2 r2 F2 q2=>kws_nil ?_)))
 refine Cd q2 λS ds c z hS Y hi hl hok zz=>Ae zz λhc hq=>?_
 try clear q2
 subst Y
 exact Ba (Qf H.ok hS hA hi hl hok hc F2 (r1.mono l2 p2) r2 hq) (λ_ _ h=>h.up ((l0.trans l1).trans l2) ((p0.trans p1).trans p2)) λ_ _ x=>x
end
noncomputable def ltP (p q:Int×List Nat):Bool:=if p.1=q.1 then(if p.2=q.2 then false else decide (p.2<q.2))else decide (p.1<q.1)
section
variable {α β γ δ:Type}{Γ:W}{K:Cj}{A:Around}{env:Env}{G G₀ G':Gh}{ι ι':List Addr}{σ:St}{s s':Shared}
theorem Oz {p:Int×List Nat}{v:Value}(r:A7 G ι (Cc p) v):∃a o n t u,v=.ref a/\G a=some o/\o.cls=.type "tuple"/\o.data=.seq (toArray [.int p.1 t,.str ⟨p.2.toArray⟩ u]) n:=by
 refine Ag r λa vs e Z rl=>?_
 try clear r
 refine Au Z λo ho hc Y=>?_
 clear Z
 refine Ad Y λn hd=>?_
 clear Y
 refine Ag rl λv1 w1 e1 r1 rw1=>Ag rw1 λv2 w2 e2 r2 rw2=>?_
 rw[Az rw2]at e2
 subst e2 e1
 refine Ad r1 λt e1=>Ad r2 λu e2=>?_
 subst e1 e2
 exact⟨a,o,n,t,u,e,ho,hc,hd⟩
theorem iV {p q:Int×List Nat}{x y:Value}(F:Aa Γ K env G ι σ s)(rx:A7 G ι (Cc p) x)(ry:A7 G ι (Cc q) y){C:Bool->Shared->Prop}(h:C (ltP p q) s):wpAny (model Γ.prog Γ.w) A (keyLt' (tuples' true) x y) C (λ_ _=>False) s:=by
 refine Mc (Oz rx) λa o n t u e ho hc hd=>?_
 refine Mc (Oz ry) λb o2 n2 t2 u2 e2 ho2 hc2 hd2=>?_
 subst e e2
 refine kat_lt (F.store.gin _ _ ho) hd (F.store.gin _ _ ho2) hd2 ?_
 show KatLex _ _ _ _ (decide (2<2)) _ [(_,_),(_,_)] 0 s
 unfold ltP at h
 refine kat_cons (wpAny_eqBool_int (kat_go (λe=>?_) λe=>?_))
 ·rw[Bc (eq_of_beq e)]at h
  refine kat_yes (kat_cons (wpAny_eqBool_str (kat_go (λe=>?_) λe=>?_)))
  ·have e:=of_decide_eq_true e
   rw[Bc (by injection e with e;exact Array.toList_inj.mpr e)]at h
   exact kat_yes (kat_nil h)
  ·have e:=of_decide_eq_false e
   rw[Ay (by intro z;exact e (by rw[z]))]at h
   exact kat_no (kat_one _ _ (lt_str (show C (decide (p.2<q.2)) s from h)))
 ·rw[Ay (by intro z;rw[z,beq_self_eq_true]at e;exact absurd e (by decide))]at h
  exact kat_no (kat_lt_int h)
theorem bQ {F0:Aa Γ K env G ι σ s}{κ:D->Int×List Nat}:∀{ds:List D} {vs:List Value},Rl G ι (ds.map λd=>Cc (κ d)) vs->∃ts:List Tok,ts.length=vs.length/\KatTups s.heap vs ((ds.zip ts).map λp=>.int (κ p.1).1 p.2)/\(ds.zip ts).length=vs.length:=by
 intro ds
 induction ds with
 |nil=>intro vs h;rw[Az h];exact⟨[],rfl,trivial,rfl⟩
 |cons d ds ih=>
  intro vs h
  refine Ag h λv w e r rl=>?_
  subst e
  refine Au (ih rl) λts h1 h2 h3=>?_
  refine Mc (Oz r) λa o n t u e ho hc hd=>?_
  subst e
  exact⟨t::ts,by rw[G8,G8,h1],KatTups.cons (F0.store.gin _ _ ho) hc hd rfl h2,by rw[zip_cons_cons,G8,G8,h3]⟩
theorem W0 (ok:Γ.Ok){κ:D->Int×List Nat}{a kS e1:Nat}{ds:List D}{vs:List Value}{c:D->D->Int}{kA:Array Value}{P:PySem.Fin->Shared->Prop}(hka:kS≠a)
  (hl:ds.length<=4)(r:Rl G ι ds vs)(hc:∀x∈ds,∀y∈ds,decide (c x y<0)=ltP (κ x) (κ y))
  (F:Aa Γ K env G ι σ s)(hp:Bv Γ K env G ι (λb=>b=a\/b=kS))(ga:s.heap.get? a=some (seqObj "list" #[] e1)){e:Nat}(gk:s.heap.get? kS=some (seqObj "list" kA e))(rk:Rl G ι (ds.map λd=>Cc (κ d)) kA.toList)
  (k:∀G' s' vs' m,G.le G'->Aa Γ K env G' ι σ s'->Bv Γ K env G' ι (λb=>b=a)->s'.heap.get? a=some (seqObj "list" (toArray vs') m)->Rl G' ι (De c ds) vs'->P (.done (.ret .none)) s'):wpAny (model Γ.prog Γ.w) A (ksk_end a false vs.toArray e1 (.ref kS) kA) P (λ_ _=>False) s:=by
 have hvs:vs.length=ds.length:=r.length
 have hks:kA.toList.length=ds.length:=by rw[rk.length,B2]
 have I0:SI Γ K env G ι σ a kS e1 (ds.map λd=>Cc (κ d)) s:=⟨G,kA,e,Gh.le.refl _,F,hp,ga,gk,rk⟩
 have eKA:kA=kA.toList.toArray:=(Array.toArray_toList (xs:=kA)).symm
 unfold ksk_end
 dsimp only
 rw[Ay Bool.false_ne_true]
 by_cases h2:vs.toArray.size<2
 ·rw[Bc h2,Bc h2]
  rw[size_toArray]at h2
  refine Ai (Be ?_)
  rw[StateT.run_pure]
  refine Ai (Be ?_)
  dsimp only
  refine Ig hka I0 (by rw[B2];exact hl) (vs':=vs) (ds':=ds) ?_ (by exact Aq h2) rfl r λG' s' m l F' hp' g' r'=>k G' s' vs m l F' hp' g' ?_
  ·show(kA.zip vs.toArray).map (·.2)=vs.toArray
   rw[eKA]
   apply Array.toList_inj.mp
   rw[Array.toList_map,ksk_zip]
   exact List.map_snd_zip (by first|exact Bt (hvs.trans hks.symm)|(rw[List.toList_toArray];exact Bt (hvs.trans hks.symm)))
  ·unfold De
   rw[Bc (by exact Aq (Bk (Bt hvs.symm) h2))]
   exact r'
 ·rw[Ay h2,Ay h2]
  rw[size_toArray]at h2
  have hd2:2<=ds.length:=by rw[<-hvs];exact le_of_not_lt h2
  have hk2:2<=kA.toList.length:=by rw[hks];exact hd2
  have hkv:kA.toList.length=vs.length:=by rw[hks,hvs]
  rw[eKA]
  refine Au (bQ (F0:=F) rk) λts ht1 ht2 ht3=>?_
  refine Ai (kat_kind (T:=.type "int") ht2 (by rw[B2,ht3];exact lt_of_lt_of_le (by decide) hk2) (λv hv=>?_) rfl ?_)
  ·refine Ab (G7.mp hv) λp _ e=>?_
   subst e
   exact .now
  have hzs:(kA.toList.toArray.zip vs.toArray).size=ds.length:=by rw[Array.size_zip,size_toArray,size_toArray,hks,hvs,Nat.min_self]
  have est:SortSt.mk' (tuples' true) (kA.toList.toArray.zip vs.toArray) #[] 7 none=kas_st (tuples' true) (kA.toList.toArray.zip vs.toArray) (toArray (List.range ds.length)):=by
   have e:=kas_range (kA.toList.toArray.zip vs.toArray)
   rw[hzs]at e
   show _=SortSt.mk' (tuples' true) ((toArray (List.range ds.length)).map (kas_item (kA.toList.toArray.zip vs.toArray))) #[] 7 none
   rw[e]
  have ask:(kas_sort ds.length).kasWp (kas_cmp Γ.prog Γ.w A (tuples' true) (kA.toList.toArray.zip vs.toArray)) (λp s'=>p=By (λi j=>decide (c (ds.getD i .none) (ds.getD j .none)<0)) (kas_sort ds.length)/\SI Γ K env G ι σ a kS e1 (ds.map λd=>Cc (κ d)) s') s:=by
   refine Qv (I:=SI Γ K env G ι σ a kS e1 (ds.map λd=>Cc (κ d))) (n:=ds.length) (λi j C' s1 hi hj I1 hk=>?_) _ _ (Dh _ hl) I0 λs' hI=>⟨rfl,hI⟩
   refine Gv I1 λG1 kA1 e' le F1 hp1 ga1 gk1 rk1=>?_
   try clear I1
   unfold kas_cmp
   rw[Ha _ _ hkv,Ha _ _ hkv]
   have ri:=Xh rk i
   have rj:=Xh rk j
   rw[O9 hi]at ri
   rw[O9 hj]at rj
   refine iV F1 (ri.mono le (Bp.refl _)) (rj.mono le (Bp.refl _)) ?_
   rw[<-hc _ (Kf hi) _ (Kf hj)]
   exact hk _ ⟨G1,kA1,e',le,F1,hp1,ga1,gk1,rk1⟩
  have run:=kas_runs (E:=λ_ _=>False) (Q:=λ_ st' s'=>∃p:Array Nat,p.size=ds.length/\arrOf st'=p.map (kas_item (kA.toList.toArray.zip vs.toArray))/\failedOf st'=none/\p=By (λi j=>decide (c (ds.getD i .none) (ds.getD j .none)<0)) (kas_sort ds.length)/\SI Γ K env G ι σ a kS e1 (ds.map λd=>Cc (κ d)) s')
   hd2 (lt_of_le_of_lt hl (by decide)) (λp' st' s' a1 a2 a3 a4=>⟨p',a1,a2,a3,a4⟩) ask
  rw[<-est]at run
  refine Ai (Ba run ?_ λ_ _ e=>e)
  intro Y s' Z
  obtain⟨⟨⟩,st'⟩:=Y
  refine Dn Z λp hps har hf ep I=>?_
  clear Z
  dsimp only
  have hpl:p.toList.length=ds.length:=by rw[Array.length_toList];exact hps
  refine Ig hka I (by rw[B2];exact hl) (vs':=p.toList.map λi=>vs.getD i Value.none) (ds':=p.toList.map λi=>ds.getD i .none) ?_ (by rw[B2,hpl];exact hl) hf (Xf r _) λG' s' m l F' hp' g' r'=>k G' s' _ m l F' hp' g' ?_
  ·apply Array.toList_inj.mp
   rw[har,Array.map_map,Array.toList_map]
   exact map_congr_left λi _=>by show(kas_item _ i).2=_;rw[Ha _ _ hkv]
  ·unfold De
   rw[Ay (not_lt.mpr hd2),<-ep]
   exact r'
theorem gE {S:Mine.Internal.B3}{n:Nat}(hA:A9 n A)(F:Aa Γ K env G ι σ s){C v:Value}{d kd:D}(rt:A7 G ι (.sem (Hi Γ n S)) C)(r:A7 G ι d v)(q:∀Q:D->List (List D)->Prop,Q kd σ.own->S [d] σ.own Q):
  wpAny (model Γ.prog Γ.w) A (call C [v]) (λv' s'=>∃G',G.le G'/\Aa Γ K env G' ι σ s'/\A7 G' ι kd v') (λ_ _=>False) s:=by
 refine Ab rt λG₀ l h=>?_
 refine Ba (Fj (ds:=[d]) (Q:=λd' σ'=>d'=kd/\σ'=σ) (h.2 A hA) l F ⟨v,[],rfl,r,rfl⟩ (q _ ⟨rfl,rfl⟩)) (λv' s' p=>?_) λ_ _ x=>x
 refine Cd p λG' ι' d' σ' l2 pr r' F' e1 e2=>?_
 subst e1 e2
 have:ι'=ι:=Xu pr (by rw[F.store.len,F'.store.len])
 subst this
 exact⟨G',l2,F',r'⟩
theorem Ut (ok:Γ.Ok){S:Mine.Internal.B3}{κ:D->Int×List Nat}{n:Nat}(hA:A9 n A){a:Nat}{ds:List D}{vs:List Value}{C:Value}{c:D->D->Int}{P:PySem.Fin->Shared->Prop}
  (hl:ds.length<=4)(r:Rl G ι ds vs)(hkey:∀x∈ds,∀Q:D->List (List D)->Prop,Q (Cc (κ x)) σ.own->S [x] σ.own Q)(hc:∀x∈ds,∀y∈ds,decide (c x y<0)=ltP (κ x) (κ y))
  (F:Aa Γ K env G ι σ s)(hp:Bv Γ K env G ι (λb=>b=a)){m:Nat}(ho:s.heap.get? a=some (seqObj "list" vs.toArray m))(rt:A7 G ι (.sem (Hi Γ n S)) C)
  (k:∀G' s' vs' m,G.le G'->Aa Γ K env G' ι σ s'->Bv Γ K env G' ι (λb=>b=a)->s'.heap.get? a=some (seqObj "list" (toArray vs') m)->Rl G' ι (De c ds) vs'->P (.done (.ret .none)) s'):wpAny (model Γ.prog Γ.w) A (ksk_tree a C false) P (λ_ _=>False) s:=by
 have hvs:vs.length=ds.length:=r.length
 have ha:a<s.heap.objs.size:=Heap.lt_size ho
 have s1:=Heap.SameBut.update s.heap a (Obj.mapSeq λ_=>(#[]:Array Value))
 refine Ad (show∃e1,(s.heap.update a (Obj.mapSeq λ_=>(#[]:Array Value))).get? a=some (seqObj "list" #[] e1)from⟨_,get?_update_seq ho λ_=>#[]⟩) λe1 ho1=>?_
 have F1:=F.putAt hp rfl s1
 have F2:=F1.push (seqObj "tuple" vs.toArray 0) s.toks F.tk
 have hkS:((s.heap.update a (Obj.mapSeq λ_=>(#[]:Array Value))).push (seqObj "tuple" vs.toArray 0)).objs.size=s.heap.objs.size+1:=by rw[size_push',Heap.size_update]
 have hka:((s.heap.update a (Obj.mapSeq λ_=>(#[]:Array Value))).push (seqObj "tuple" vs.toArray 0)).objs.size≠a:=by rw[hkS];exact ne_of_gt (lt_succ_of_lt ha)
 have hp2:Bv Γ K env G ι (λb=>b=a\/b=((s.heap.update a (Obj.mapSeq λ_=>(#[]:Array Value))).push (seqObj "tuple" vs.toArray 0)).objs.size):=Oy F2 hp λb hb=>hb.imp id λe=>by rw[e];exact Heap.get?_none_of_le (le_refl _)
 have F3:=F2.push (seqObj "list" #[] 0) s.toks F.tk
 have ga3:(((s.heap.update a (Obj.mapSeq λ_=>(#[]:Array Value))).push (seqObj "tuple" vs.toArray 0)).push (seqObj "list" #[] 0)).get? a=some (seqObj "list" #[] e1):=Ft _ (Ft _ ho1)
 have gk3:(((s.heap.update a (Obj.mapSeq λ_=>(#[]:Array Value))).push (seqObj "tuple" vs.toArray 0)).push (seqObj "list" #[] 0)).get? ((s.heap.update a (Obj.mapSeq λ_=>(#[]:Array Value))).push (seqObj "tuple" vs.toArray 0)).objs.size=some (seqObj "list" #[] 0):=Heap.get?_push_size _ rfl
 unfold ksk_tree
 refine Ai (listItems_at ho rfl ?_)
 refine Ai (listUpdate_at ho rfl ?_ (by rw[size_toArray,sizeLine_eq];exact Ao (Aq (Bk (Bt hvs) hl)) b6) (zero_le _))
 refine Ai (seqEpoch_at ho1 rfl ?_)
 refine Ai (wpAny_newTuple ?_ (by show vs.length<=_;rw[sizeLine_eq];exact Ao (Aq (Bk (Bt hvs) hl)) b6))
 refine Ai (wpAny_newList ?_ (zero_le _))
 refine wpAny_holding ?_
 generalize ((s.heap.update a (Obj.mapSeq λ_=>(#[]:Array Value))).push (seqObj "tuple" vs.toArray 0)).objs.size=kS at hka hp2 gk3⊢
 unfold ksk_rest
 refine Ai (wpAny_rule ?_)
 rw[List.forIn_toArray]
 refine Ai (ksk_fold (λi s'=>SI Γ K env G ι σ a kS e1 ((ds.take i).map λd=>Cc (κ d)) s') vs 0 _ ⟨G,#[],0,Gh.le.refl _,F3,hp2,ga3,gk3,rfl⟩ ?step ?done)
 case step=>
  intro j x s' hx Z
  refine Gv Z λG1 kA e le F' hp' ga gk rk=>?_
  clear Z
  rw[zero_add]at rk⊢
  have hj:j<ds.length:=by rw[<-hvs];exact(H7.mp hx).1
  refine Ab (r.getElem? (Fz hj)) λv hv rd=>?_
  rw[hx]at hv;cases hv
  have hz:kA.size<=4:=by have:=rk.length;rw[Array.length_toList,B2,length_take]at this;exact Aq (Bk (Bk (Bt this) (min_le_right (j) (ds.length))) hl)
  have run:wpAny (model Γ.prog Γ.w) A (call C [x]) (λv' s2=>∃G2,G1.le G2/\Aa Γ K env G2 ι σ s2/\Bv Γ K env G2 ι (λb=>b=a\/b=kS)/\(∀b o,(b=a\/b=kS)->s'.heap.get? b=some o->s2.heap.get? b=some o)/\A7 G2 ι (Cc (κ ds[j])) v') (λ_ _=>False) s':=by
   refine Mm (R:=λG2 v'=>A7 G2 ι (Cc (κ ds[j])) v') F' hp' (λb hb=>?_) (λK' F4=>gE hA F4 (rt.mono le (Bp.refl _)) (rd.mono le (Bp.refl _)) λQ q=>hkey _ (List.getElem_mem hj) Q q) λG2 v' s2 l F4 hp4 keep rv=>⟨G2,l,F4,hp4,keep,rv⟩
   rcases hb with rfl|rfl
   ·rw[ga];exact Option.some_ne_none _
   ·rw[gk];exact Option.some_ne_none _
  refine Ai (wpAny_attempt (Ba run (λv' s2 V=>Dn V λG2 l F4 hp4 keep rv=>?_) λ_ _ x=>x.elim))
  ·dsimp only
   have gk4:=keep _ _ (.inr rfl) gk
   have ga4:=keep _ _ (.inl rfl) ga
   have s5:=Heap.SameBut.update s2.heap kS (Obj.mapSeq (·.push v'))
   refine Ai (listUpdate_at gk4 rfl ?_ (by rw[sizeLine_eq];exact Ao hz (by decide)) (Ao (Bt (Array.size_push ..)) (by rw[sizeLine_eq];exact Ao (Aq hz) (by decide:5000000<=16777216+1))))
   refine Be ⟨rfl,G2,kA.push v',_,le.trans l,F4.putAt hp4 (.inr rfl) s5,hp4,(s5.2 a hka.symm).trans ga4,get?_update_seq gk4 (·.push v'),?_⟩
   have et:(ds.take (0+j+1)).map (λd=>Cc (κ d))=(ds.take j).map (λd=>Cc (κ d))++[Cc (κ ds[j])]:=by
    rw[zero_add,take_add_one,Fz hj,Id];rfl
   have ea:(kA.push v').toList=kA.toList++[v']:=by simp
   first
    |(rw[et,ea];exact(rk.mono l (Bp.refl _)).snoc rv)
    |(rw[zero_add]at et;rw[et,ea];exact(rk.mono l (Bp.refl _)).snoc rv)
 case done=>
  intro s' Y
  refine Gv Y λG1 kA e le F' hp' ga gk rk=>?_
  clear Y
  rw[zero_add,hvs,take_length]at rk
  refine Ai (listItems_at gk rfl ?_)
  exact W0 ok hka hl (r.mono le (Bp.refl _)) hc F' hp' ga gk rk λG2 s2 vs' m l F2 hp2 g2 r2=>k G2 s2 vs' m (le.trans l) F2 hp2 g2 r2
theorem Om (ok:Γ.Ok){S:Mine.Internal.B3}{κ:D->Int×List Nat}{n:Nat}(hA:A9 (n+2) A){d:D}{ds:List D}{v C:Value}{c:D->D->Int}(hi:Al σ.own d=some ds)(hl:ds.length<=4)(hkey:∀x∈ds,∀Q:D->List (List D)->Prop,Q (Cc (κ x)) σ.own->S [x] σ.own Q)
  (hc:∀x∈ds,∀y∈ds,decide (c x y<0)=ltP (κ x) (κ y))(F:Aa Γ K env G ι σ s)(rv:A7 G ι d v)(rt:A7 G ι (.sem (Hi Γ n S)) C){Q:D->St->Prop}(q:Q (.lst (De c ds)) σ):
  wpAny (model Γ.prog Γ.w) A (call (.builtin "sorted") [v] [(ofString "key",C)]) (As Γ K env VR G ι Q) (λ_ _=>False) s:=by
 refine Ag (A2 F.store rv hi) λl vs Z hl1 r=>?_
 subst Z
 have hvs:vs.length=ds.length:=r.length
 have hA2:A9 n A.in1.in1:=Io (Io hA)
 refine Ad (show∃qa,C=.ref qa from by
  refine Ab rt λ_ _ z=>?_
  refine Ez z.1 λ_ _ _ e _ _=>?_
  exact⟨_,e⟩) λqa Y=>?_
 subst Y
 refine call_function_entry_kw kind_sorted plain_sorted entry_sorted (ksk_s1 _ _) ?_
 unfold Builtin.«sorted»
 refine Ai (m:=checkCount "sorted" 1 1 _) (Be ?_)
 refine Ai (collect_list hl1 ?_ (by rw[sizeLine_eq];exact Ao (Aq (Bk (Bt hvs) hl)) b6))
 refine Ai (wpAny_newList ?_ (by rw[sizeLine_eq];exact Ao (Aq (Bk (Bt hvs) hl)) b6))
 have hsz:((s.heap.push (seqObj "list" #[] 0)).update s.heap.objs.size (Obj.mapSeq (·++vs.toArray))).objs.size=s.heap.objs.size+1:=by
  rw[Heap.size_update,size_push']
 have hoL:(((s.heap.push (seqObj "list" #[] 0)).update s.heap.objs.size (Obj.mapSeq (·++vs.toArray))).push (seqObj "list" vs.toArray 0)).get? (s.heap.objs.size+1)=some (seqObj "list" vs.toArray 0):=by
  rw[<-hsz];exact Heap.get?_push_size _ rfl
 have keep:∀b o,s.heap.get? b=some o->(((s.heap.push (seqObj "list" #[] 0)).update s.heap.objs.size (Obj.mapSeq (·++vs.toArray))).push (seqObj "list" vs.toArray 0)).get? b=some o:=λb o q=>by
  have hlt:b<s.heap.objs.size:=Heap.lt_size q
  rw[Heap.get?_push_ne _ _ _ (by rw[hsz];exact ne_of_lt (lt_succ_of_lt hlt)),Heap.get?_update_ne _ _ _ _ (ne_of_lt hlt),Heap.get?_push_ne _ _ _ (ne_of_lt hlt)]
  exact q
 have hp:Bv Γ K env G ι (λb=>b=s.heap.objs.size+1):=Gl F λb hb=>by rw[hb];exact Heap.get?_none_of_le (le_succ _)
 have F1:=F.keepsTo keep s.toks F.tk
 show wpAny _ _ _ _ _ {s with heap:=((s.heap.push (seqObj "list" #[] 0)).update s.heap.objs.size (Obj.mapSeq (·++vs.toArray))).push (seqObj "list" vs.toArray 0)}
 rw[hsz]
 refine Ai (wpAny_holding (wpAny_call_entry_kw slot_list_sort ⟨_,hoL,rfl⟩ entry_list_sort ?body (ksk_l1 _ _)))
 case body=>
  rw[ksk_t1]
  refine Ut ok hA2 hl r hkey hc F1 hp hoL rt λG' s' vs' m le F' hp' g' r'=>⟨_,rfl,Be ⟨_,rfl,?_⟩⟩
  refine Ae (F'.putPriv ok hp' g') λl2 F2=>?_
  exact(Fx (d:=.lst (De c ds)) ⟨_,vs',rfl,⟨_,Gh.put_self _ _ _,rfl,m,rfl⟩,r'.mono l2 (Bp.refl _)⟩ F2 q).up (le.trans l2) (Bp.refl _)
theorem Xl (H:Ev Γ A env){n:Nat}(hA:A9 (n+2) A){e kx:Expr}{p pos kp:Pos}{T1 T2:TT}(hk:env.kindOf (ofString "sorted")=some .globalImplicit)(hn:Γ.mg (ofString "sorted")=none)(hv:Γ.mb (ofString "sorted")=some (.builtin "sorted"))
  (h1:Bl Γ A env e T1)(h2:Bl Γ A env kx T2)(hs:starEach [e] env=(false,eval e env)::starEach [] env):
  Bl Γ A env (.Call (.Name (ofString "sorted") p) [e] [⟨some (ofString "key"),kx,kp⟩] pos) (λσ Q=>T1 σ λd σ=>T2 σ λt σ=>∃(S:Mine.Internal.B3) (ds:List D) (c:D->D->Int) (κ:D->Int×List Nat),t=.sem (Hi Γ n S)/\
   Al σ.own d=some ds/\ds.length<=4/\(∀x∈ds,∀Q:D->List (List D)->Prop,Q (Cc (κ x)) σ.own->S [x] σ.own Q)/\(∀x∈ds,∀y∈ds,decide (c x y<0)=ltP (κ x) (κ y))/\Q (.lst (De c ds)) σ):=λK G ι σ s Q F q=>by
 have hbs:backTo pos (starEach [e] env)=(false,eval e env)::backTo pos (starEach [] env):=by rw[hs];rfl
 refine wpAny_Call_Name_kw (Ba (Fb H hk hn hv (by decide) K G ι σ s (λd σ'=>d=.raw (.builtin "sorted")/\σ'=σ) F ⟨rfl,rfl⟩) (λv s0 Z=>Cd Z λG0 ι0 d0 σ0 l0 p0 r0 F0 e0 e1=>?_) λ_ _ x=>x)
 subst e0 e1
 obtain rfl:v=.builtin "sorted":=r0
 refine callWith_kw ?_ hbs (by rw[hbs];rfl) rfl rfl
 rw[hbs]
 refine Calls.spliced_cons (A8 h1 F0 q λG1 ι1 d v σ1 s1 l1 p1 r1 F1 q1=>Calls.spliced_nil (kws_cons (A8 h2 F1 q1 λG2 ι2 t vt σ2 s2 l2 p2 r2 F2 q2=>kws_nil ?_)))
 refine Cd q2 λS ds c κ Y hi hl hok hc hq=>?_
 try clear q2
 subst Y
 exact Ba (Om H.ok hA hi hl hok hc F2 (r1.mono l2 p2) r2 hq) (λ_ _ h=>h.up ((l0.trans l1).trans l2) ((p0.trans p1).trans p2)) λ_ _ x=>x
theorem lV (ok:Γ.Ok){f:FP}(X:Rp Γ f){a:Addr}(N:Fn Γ a (mV f.cc f.pm f.doc) ["mycmp"] hH.body)(hA:A9 1 A):
  Ap Γ A (.ref a) (λds own Q=>∃P,ds=[.sem P]/\Q (.sem (Z1 Γ.w P)) own):=by
 have r1:=hA.depth
 have r2:=hA.units
 refine'(Dl ok N (by kernel_rfl) (by exact Aq r1) (λL=>?w)).imp ?p
 case w=>
  have H:Ev Γ (A.deeper (callEnvC (mV f.cc f.pm f.doc) L a)) (callEnvC (mV f.cc f.pm f.doc) L a):=⟨ok,N.kind,rfl,rfl,hA.handled,by rw[depth_deeper];exact Aq r1,by show A.units+3+500<_;exact Aq r2⟩
  have X':Rp Γ {f with L:=L,a:=a}:=⟨X.e2,X.e3,X.e4,X.ec,X.tab,X.big,X.out,X.inn,X.bc,X.obn,X.obb⟩
  exact Av (Z7 (f:={f with L:=L,a:=a}) H X') (Av (Dx (Bi H (x:="K") (by decide) (by decide))) Dr)
 case p=>
  intro ds own Q Z
  refine Ab Z λP Y q=>?_
  clear Z
  subst Y
  exact⟨rfl,P,rfl,not_mem_nil,nofun,⟨_,rfl,q⟩⟩
end
section
open PySem.Sre
noncomputable def M0:Array Nat:=#[14,14,4,1,1,9,0,64,0,1342177280,0,0,0,0,0,17,0,13,11,9,0,64,0,1342177280,0,0,0,0,0,17,1,1]
noncomputable def Db (c:Nat):Bool:=c==38||c==124||c==126
theorem cT:∀c,c<256->(decide (c<256)&&(M0.getD (5+(1+c/32)) 0).testBit (c%32))=Db c:=by decide +kernel
theorem Zs (c i:Nat)(hw:∀k,k<8->M0.getD (i+(1+k)) 0=M0.getD (5+(1+k)) 0):(decide (c<256)&&(M0.getD (i+(1+c/32)) 0).testBit (c%32))=Db c:=by
 by_cases h:c<256
 ·rw[hw (c/32) (Nat.div_lt_of_lt_mul h)];exact cT c h
 ·have:Db c=false:=by unfold Db;simp;exact⟨⟨ne_of_gt (Aq (not_lt.1 h)),ne_of_gt (Aq (not_lt.1 h))⟩,ne_of_gt (Aq (not_lt.1 h))⟩
  rw[this];simp[h]
theorem Zx {b:Bool}{c:Nat}{s1 s2:Sre.Seen}(h:b=Db c):∃s',(if b=true then(.ok (true,s1):Except String (Bool×Sre.Seen))else .ok (false,s2))=.ok (Db c,s'):=by
 cases b
 ·exact⟨s2,h▸rfl⟩
 ·exact⟨s1,h▸rfl⟩
theorem gF (c:Nat)(seen:Sre.Seen):∃s',inSet M0 c (30+2) 5 true seen=.ok (Db c,s'):=Zx (Zs c 5 λ_ _=>rfl)
theorem bS (c:Nat)(seen:Sre.Seen):∃s',inSet M0 c (30+2) 19 true seen=.ok (Db c,s'):=Zx (Zs c 19 (by decide))
noncomputable def Ff (T:Array Nat) (lim:Nat):Nat->Nat->Option Nat
 |0,_=>none
 |f+1,s=>if s>=lim then none else if Db (T.getD s 0)=true then some s else Ff T lim f (s+1)
theorem Mb (T:Array Nat)(lim f s:Nat):Ff T lim (f+1) s=if s>=lim then none else if Db (T.getD s 0)=true then some s else Ff T lim f (s+1):=rfl
theorem mG {m:Sre.M}{f s:Nat}{b:Bool}{seen s':Sre.Seen}(hm:m.code=M0)(h:¬s>=m.lim)(e:inSet M0 (m.text.getD s 0) (30+2) 5 true seen=.ok (b,s')):
  Sre.M.admitted m (f+1) s seen=if b=true then .ok (some s,s')else Sre.M.admitted m f (s+1) s':=by
 show(if s>=m.lim then _ else _)=_
 rw[Ay h,hm]
 rw[show M0.size=30+2 from rfl,e]
 cases b<;>rfl
theorem Rn (m:Sre.M)(hm:m.code=M0):∀(f s:Nat) (seen:Sre.Seen),∃s',Sre.M.admitted m f s seen=.ok (Ff m.text m.lim f s,s'):=by
 intro lq
 induction lq with
 |zero=>intro s seen;exact⟨_,rfl⟩
 |succ f ih=>
  intro s seen
  rw[Mb]
  by_cases h:s>=m.lim
  ·rw[Bc h]
   refine⟨seen,?_⟩
   show(if s>=m.lim then _ else _)=_
   rw[Bc h]
  ·rw[Ay h]
   refine Ad (gF (m.text.getD s 0) seen) λs' e=>?_
   rw[mG hm h e]
   by_cases ha:Db (m.text.getD s 0)=true
   ·rw[Bc ha,Bc ha];exact⟨_,rfl⟩
   ·rw[Ay ha,Ay ha]
    exact ih (s+1) s'
noncomputable def Kv (T:Array Nat) (start lim:Nat):Option Nat:=if start>lim\/lim-start<1 then none else Ff T lim (lim+1-start) start
noncomputable def m0 (T:Array Nat) (start lim:Nat) (must:Bool) (ls:Nat):M:={code:=M0,text:=T,lim,start,pc:=15,pos:=start,handed:=start,marks:=#[none,none],mustAdvance:=must,seen:=({}:Sre.Seen).add 14,lastStart:=ls}
theorem Ux (T:Array Nat)(start lim:Nat)(must:Bool):forSearch M0 T 1 start lim must=if(decide (start>lim)||decide (lim-start<1))=true then(m0 T start lim must 0).say false else(m0 T start lim must lim).attemptFrom start true:=rfl
noncomputable def mA (T:Array Nat) (lim ls s:Nat) (pc pos handed:Nat) (marks:Array (Option Nat)) (lm li:Int) (frames:List Sre.Frame) (weight:Nat) (answer:Option Bool) (outcome:Option Sre.Outcome) (seen:Sre.Seen):M:=
 {code:=M0,text:=T,lim,start:=s,lastStart:=ls,pc,pos,handed,marks,lastmark:=lm,lastindex:=li,frames,weight,answer,seen,outcome}
noncomputable def We (s:Nat):Sre.Frame:={wait:=.nextStart,pc:=15,pos:=s,outermost:=true}
theorem Eg (n:Nat)(m:M)(h:m.outcome=none):M.runFor (n+1) m=M.runFor n m.step:=by
 show(if m.outcome.isSome=true then m else M.runFor n m.step)=_
 rw[h];rfl
theorem Uy (T:Array Nat)(lim ls s:Nat)(s':Sre.Seen)(hs:s<lim)(ha:Db (T.getD s 0)=true):
  ∃s2,M.runFor 4 (mA T lim ls s 15 s s #[none,none] (-1) (-1) [We s] 1 none none s')=mA T lim ls s 31 (s+1) (s+1) #[some s,some (s+1)] 1 1 [We s] 1 (some true) none s2:=by
 have e1:(mA T lim ls s 15 s s #[none,none] (-1) (-1) [We s] 1 none none s').step=mA T lim ls s 17 s s #[some s,none] 0 (-1) [We s] 1 none none (s'.add 17):=rfl
 refine Ad (bS (T.getD s 0) ((s'.add 17).add 13)) λs2 e=>?_
 have e2:(mA T lim ls s 17 s s #[some s,none] 0 (-1) [We s] 1 none none (s'.add 17)).step=mA T lim ls s 29 (s+1) s #[some s,none] 0 (-1) [We s] 1 none none s2:=by
  show ite (s>=lim) _ (match accepts M0 17 (T.getD s 0) ((s'.add 17).add 13)with| .error _=>_| .ok (false,_)=>_| .ok (true,_)=>_)=_
  rw[Ay (by exact not_le.2 (Aq hs)),show accepts M0 17 (T.getD s 0) ((s'.add 17).add 13)=inSet M0 (T.getD s 0) (30+2) 19 true ((s'.add 17).add 13)from rfl,e,ha]
  rfl
 have e3:(mA T lim ls s 29 (s+1) s #[some s,none] 0 (-1) [We s] 1 none none s2).step=mA T lim ls s 31 (s+1) s #[some s,some (s+1)] 1 1 [We s] 1 none none (s2.add 17):=by
  show M.mark (mA T lim ls s 29 (s+1) s #[some s,none] 0 (-1) [We s] 1 none none (s2.add 17)) 1=_
  unfold M.mark
  simp[mA]
  decide
 have e4:(mA T lim ls s 31 (s+1) s #[some s,some (s+1)] 1 1 [We s] 1 none none (s2.add 17)).step=mA T lim ls s 31 (s+1) (s+1) #[some s,some (s+1)] 1 1 [We s] 1 (some true) none ((s2.add 17).add 1):=rfl
 refine⟨(s2.add 17).add 1,?_⟩
 rw[Eg 3 _ rfl,e1,Eg 2 _ rfl,e2,Eg 1 _ rfl,e3,Eg 0 _ rfl,e4]
 rfl
theorem Uw {T:Array Nat}{start lim:Nat}{must:Bool}:match Kv T start lim with
  |none=>(M.runFor 4 (forSearch M0 T 1 start lim must)).outcome=some .failed
  |some s=>(M.runFor 4 (forSearch M0 T 1 start lim must)).outcome=none/\∃m,M.runFor 4 (M.runFor 4 (forSearch M0 T 1 start lim must))=m/\m.outcome=some .matched/\m.start=s/\m.handed=s+1/\m.lastmark=1/\m.lastindex=1/\m.marks=#[some s,some (s+1)]:=by
 rw[Ux]
 unfold Kv
 by_cases hb:start>lim\/lim-start<1
 ·have e:(decide (start>lim)||decide (lim-start<1))=true:=by
   rcases hb with hb|hb<;>simp[hb]
  rw[Bc hb,e,Bc rfl]
  rfl
 ·have e:(decide (start>lim)||decide (lim-start<1))=false:=by
   have h1:¬start>lim:=λq=>hb (.inl q)
   have h2:¬lim-start<1:=λq=>hb (.inr q)
   rw[decide_eq_false h1,decide_eq_false h2];rfl
  rw[Ay hb,e,Ay (by decide)]
  refine Ad (Rn (m0 T start lim must lim) rfl (lim+1-start) start (m0 T start lim must lim).seen) λs' ea=>?_
  unfold M.attemptFrom
  rw[show(!(m0 T start lim must lim).hasFirstSet)=false from rfl,Ay (by decide)]
  rw[show(m0 T start lim must lim).lim=lim from rfl,ea]
  rw[show(m0 T start lim must lim).text=T from rfl,show(m0 T start lim must lim).lim=lim from rfl]
  have hf:∀s,Ff T lim (lim+1-start) start=some s->s<lim/\Db (T.getD s 0)=true:=by
   intro s
   generalize lim+1-start=f
   generalize start=p
   induction f generalizing p with
   |zero=>intro h;cases h
   |succ f ih=>
    rw[Mb]
    by_cases h1:p>=lim
    ·rw[Bc h1];intro h;cases h
    ·rw[Ay h1]
     by_cases h2:Db (T.getD p 0)=true
     ·rw[Bc h2];intro h;cases h;exact⟨by exact Aq (not_le.1 h1),h2⟩
     ·rw[Ay h2];exact ih (p+1)
  cases hq:Ff T lim (lim+1-start) start with
  |none=>rfl
  |some s=>
   refine Ae (hf s hq) λhs ha=>?_
   refine Ad (Uy T lim lim s s' hs ha) λs2 e2=>?_
   have e3:M.attemptAt {m0 T start lim must lim with mustAdvance:=false,seen:=s'} s true=mA T lim lim s 15 s s #[none,none] (-1) (-1) [We s] 1 none none s':=rfl
   show(M.runFor 4 (M.attemptAt {m0 T start lim must lim with mustAdvance:=false,seen:=s'} s true)).outcome=none/\∃m,M.runFor 4 (M.runFor 4 (M.attemptAt {m0 T start lim must lim with mustAdvance:=false,seen:=s'} s true))=m/\_
   rw[e3,e2]
   exact⟨rfl,_,rfl,rfl,rfl,rfl,rfl,rfl,rfl⟩
end
section
open PySem.Sre PySem.Builtin.Re
section
variable {Md:Model}{A:Around}{E:Value->Shared->Prop}{s:Shared}
theorem Gc {f:Nat->PUnit->Sem (ForInStep PUnit)}(hf:∀i u (Q:ForInStep PUnit->Shared->Prop) s,Q (.yield ⟨⟩) s->wpAny Md A (f i u) Q E s){Q:PUnit->Shared->Prop}:∀(l:List Nat) (s:Shared),Q ⟨⟩ s->wpAny Md A (forIn l ⟨⟩ f) Q E s
 |[],s,h=>by rw[forIn_nil];exact Be h
 |i::l,s,h=>by
  rw[forIn_cons]
  exact Ai (hf i _ _ s (Gc hf l s h))
theorem Ip {n:Nat}{m:M}{Q:M->Shared->Prop}(h:(m.runFor 4).outcome.isSome=true)(q:Q (m.runFor 4) s):wpAny Md A (reDrive (n+1) m) Q E s:=by
 show wpAny Md A (if(m.runFor 4).outcome.isSome=true then _ else _) Q E s
 rw[Bc h]
 exact Be q
theorem Ou {n:Nat}{m:M}{Q:M->Shared->Prop}(h:(m.runFor 4).outcome=none)(q:wpAny Md A (reDrive n (m.runFor 4)) Q E s):wpAny Md A (reDrive (n+1) m) Q E s:=by
 show wpAny Md A (if(m.runFor 4).outcome.isSome=true then _ else _) Q E s
 rw[Ay (by rw[h];decide)]
 exact Ai (wpAny_rule q)
theorem iU:(2:Nat)^64=18446744073709551614+1+1:=by decide
theorem Z8 {t:ReTarget}{start:Nat}{must:Bool}{Q:Option M->Shared->Prop}(hc:t.code=M0)(hg:t.groups=1)
  (h:match Kv t.text start t.lim with|none=>Q none s|some p=>∀m:M,m.start=p->m.handed=p+1->m.lastmark=1->m.lastindex=1->m.marks=#[some p,some (p+1)]->Q (some m) s):
  wpAny Md A (reNextFound t start must) Q E s:=by
 unfold reNextFound reRunToEnd
 rw[hc,hg,iU]
 have hs:=Uw (T:=t.text) (start:=start) (lim:=t.lim) (must:=must)
 cases hf:Kv t.text start t.lim with
 |none=>
  rw[hf]at hs h
  dsimp only at hs h
  refine Ai (Ip (by rw[hs];rfl) ?_)
  refine Ai (Gc (λi u Q s q=>?_) _ _ ?_)
  ·split
   ·exact Ai (wpAny_rule (Be q))
   ·exact Be q
  ·rw[hs];exact Be h
 |some p=>
  rw[hf]at hs h
  dsimp only at hs h
  refine Ae hs λh1 Z=>?_
  try clear hs
  refine Dn Z λm h2 h3 h4 h5 zz=>At zz λh6 h7 h8=>?_
  clear Z
  refine Ai (Ou h1 (Ip (by rw[h2,h3];rfl) ?_))
  rw[h2]
  refine Ai (Gc (λi u Q s q=>?_) _ _ ?_)
  ·split
   ·exact Ai (wpAny_rule (Be q))
   ·exact Be q
  ·rw[h3];exact Be (h m h4 h5 h6 h7 h8)
end
end
section
open PySem.Sre PySem.Builtin.Re
noncomputable def K3 (G:Gh) (p:Addr):Prop:=∃o fs tup ot vs n,G p=some o/\o.cls=.type "re.Pattern"/\o.data=.fields fs/\reRawNat (fs.getD 2 .none)=1/\fs.getD 5 .none=.ref tup/\reRawNat (fs.getD 6 .none)=0/\
 G tup=some ot/\ot.data=.seq vs n/\(vs.map reRawOf).map (·.toNat)=M0
theorem K3.mono {G G':Gh}{p:Addr}(h:K3 G p)(l:G.le G'):K3 G' p:=by
 refine Bj h λo fs tup ot vs zz=>Dn zz λn h1 h2 h3 h4 zz=>Bn zz λh5 h6 h7 h8=>?_
 try clear h
 exact⟨o,fs,tup,ot,vs,n,l _ _ h1,h2,h3,h4,h5,h6,l _ _ h7,h8⟩
noncomputable def tgt (p:Addr) (x:Str) (t:Tok):ReTarget:={pattern:=.ref p,string:=.str x t,code:=M0,text:=x.cps,kind:=0,groups:=1,pos:=0,lim:=x.cps.size}
section
variable {Md:Model}{A:Around}{E:Value->Shared->Prop}{s:Shared}{G:Gh}
theorem Pz {v:Addr}{ot:Obj}{vs:Array Value}{n:Nat}{Q:Array Int->Shared->Prop}(h:s.heap.get? v=some ot)(hd:ot.data=.seq vs n)(q:Q (vs.map reRawOf) s):wpAny Md A (reRawItems (.ref v)) Q E s:=by
 unfold reRawItems
 exact Ai (wpAny_seqItems h hd (Be q))
theorem Nf {p:Addr}{x:Str}{t:Tok}{Q:ReTarget->Shared->Prop}(hin:∀a o,G a=some o->s.heap.get? a=some o)(h:K3 G p)(q:Q (tgt p x t) s):wpAny Md A (reWholeTarget (.ref p) (.str x t)) Q E s:=by
 refine Bj h λo fs tup ot vs zz=>Dn zz λn h1 h2 h3 h4 zz=>B6 zz λh5 h6 h7 h8 h9=>?_
 try clear h
 unfold reWholeTarget
 refine Ai (wpAny_fieldsOf (hin _ _ h1) h3 ?_)
 refine Ai (m:=reTextOf (.str x t)) (wpAny_of_eq (a:=(x.cps,0)) rfl ?_)
 dsimp only
 rw[h6,h5]
 refine Ai (m:=reNoCollectionInside (.str x t) 0) (wpAny_of_eq (a:=()) rfl ?_)
 refine Ai (Pz (hin _ _ h7) h8 (Be ?_))
 rw[h9,h4]
 exact q
noncomputable def Fd (p:Addr) (x:Str) (q:Nat) (G:Gh) (v:Value):Prop:=∃a o t tup ot n,v=.ref a/\G a=some o/\o.cls=.type "re.Match"/\o.dict=none/\o.slots=#[]/\o.data=.fields #[.str x t,.ref p,rawInt 0,rawInt x.cps.size,rawInt 1,.ref tup]/\K3 G p/\
 G tup=some ot/\ot.data=.seq #[rawInt q,rawInt (q+1:Nat),rawInt q,rawInt (q+1:Nat)] n
end
section
variable {α β γ δ:Type}{Γ:W}{K:Cj}{A:Around}{env:Env}{G G₀ G':Gh}{ι ι':List Addr}{σ:St}{s s':Shared}
theorem Z9 {α:Type}{M:Model}{c:Prop}[Decidable c]{a b:Sem α}{Q:α->Shared->Prop}{E:Value->Shared->Prop}(hc:¬c)(k:wpAny M A b Q E s):wpAny M A (if c then a else b) Q E s:=by rw[Ay hc];exact k
theorem Py (ok:Γ.Ok){p:Addr}{x:Str}{t:Tok}{m:M}{q:Nat}{Q:Value->Shared->Prop}{E:Value->Shared->Prop}(F:Aa Γ K env G ι σ s)(hp:K3 G p)(h1:m.start=q)(h2:m.handed=q+1)(h3:m.lastmark=1)(h4:m.lastindex=1)(h5:m.marks=#[some q,some (q+1)])
  (h:∀G' v s',G.le G'->Fd p x q G' v->Aa Γ K env G' ι σ s'->Q v s'):wpAny (model Γ.prog Γ.w) A (reNewMatch (.ref p) (.str x t) 1 0 x.cps.size m) Q E s:=by
 unfold reNewMatch
 rw[h1,h2,h3,h4,h5]
 have e2:((List.range 1).any λg=>match(#[some q,some (q+1)]:Array (Option Nat)).getD (2*g) none,(#[some q,some (q+1)]:Array (Option Nat)).getD (2*g+1) none with|some b,some e=>((2*g+1:Nat):Int)<=(1:Int)&&e<b|_,_=>false)=false:=by
  show((decide (((2*0+1:Nat):Int)<=(1:Int))&&decide (q+1<q))||false)=false
  rw[decide_eq_false (show¬q+1<q from not_lt.2 (le_succ q))];rfl
 show wpAny _ _ (if _=true then _ else(do let tup<-newTuple (rawInt (q:Nat)::rawInt (q+1:Nat)::[rawInt (q:Nat),rawInt (q+1:Nat)]);newFields "re.Match" [.str x t,.ref p,rawInt (0:Nat),rawInt (x.cps.size:Nat),rawInt 1,tup])) Q E s
 refine Z9 ?hn ?_
 case hn=>intro hh;exact Bool.noConfusion (e2.symm.trans hh)
 refine Ai (wpAny_newTuple ?_)
 refine Ae (F.alloc ok (o:={cls:=.type "tuple",data:=.seq (toArray [rawInt (q:Nat),rawInt (q+1:Nat),rawInt (q:Nat),rawInt (q+1:Nat)])}) rfl s.toks F.tk) λl1 F1=>?_
 unfold newFields
 refine wpAny_newObj_type ?_
 refine Ae (F1.alloc ok (o:={cls:=.type "re.Match",data:=.fields (toArray [.str x t,.ref p,rawInt (0:Nat),rawInt (x.cps.size:Nat),rawInt 1,.ref s.heap.objs.size])}) rfl s.toks F.tk) λl2 F2=>?_
 refine h _ _ _ (l1.trans l2) ⟨_,_,t,_,_,_,rfl,Gh.put_self _ _ _,rfl,rfl,rfl,rfl,hp.mono (l1.trans l2),l2 _ _ (Gh.put_self _ _ _),rfl⟩ F2
end
end
section
open PySem.Sre PySem.Builtin.Re
section
variable {α β γ δ:Type}{Γ:W}{K:Cj}{A:Around}{env:Env}{G G₀ G':Gh}{ι ι':List Addr}{σ:St}{s s':Shared}
theorem Ox {L:Addr}{k:Nat}{ds:List D}{v:Value}{d:D}{Q:Unit->Shared->Prop}{E:Value->Shared->Prop}(F:Aa Γ K env G ι σ s)(hk:ι[k]? =some L)(hl:σ.own[k]? =some ds)(r:A7 G ι d v)(hz:ds.length<sizeLine)
  (q:∀s',Aa Γ K env G ι {σ with own:=σ.own.set k (ds++[d])} s'->Q () s'):wpAny (model Γ.prog Γ.w) A (updateSeq L (·.push v)) Q E s:=by
 refine Ab (F.store.at_ k L ds hk hl) λvs Z rl=>?_
 refine Ad Z λn ho=>?_
 clear Z
 have hzz:=rl.length
 refine wpAny_updateSeq ho rfl ?_ (by rw[size_toArray];exact Aq (Bk (Bt hzz) hz)) (by rw[Array.size_push,size_toArray];exact Aq (Bk (Bt hzz) hz))
 have e:vs.toArray.push v=(vs++[v]).toArray:=by simp
 refine q _ (F.setOwn hk (rl.snoc r) (h':=s.heap.update L (Obj.mapSeq (·.push v))) ?_ (Heap.SameBut.update _ _ _) s.toks F.tk)
 rw[<-e]
 exact⟨_,Heap.get?_update_self _ ho rfl⟩
noncomputable def Da (xs:List Nat):List Nat:=xs.flatMap λc=>if Db c=true then[92,c]else[c]
noncomputable def mL (p:Addr) (xs:List Nat):Mine.Internal.B3:=λds own Q=>∃q c,ds=[.sem (Fd p ⟨xs.toArray⟩ q)]/\xs[q]? =some c/\Q (.str [92,c]) own
noncomputable def S6 (p:Addr) (xs:List Nat) (t:Tok) (lam:Value) (n:Int) (pos:Nat) (must:Bool) (L:Addr):Args:=⟨[.ref p,.str ⟨xs.toArray⟩ t,lam,rawInt 1,rawInt 0,rawInt n,rawInt pos,rawInt pos,.bool must,.ref L,.bool false],[]⟩
theorem Sm:entryFor table "re.Pattern.sub.loop"=some Builtin.«re.Pattern.sub.loop»:=entryFor_of_fast (by kernel_rfl)
theorem H0:plainId "re.Pattern.sub.loop"=true:=by decide +kernel
theorem Y7 (xs:List Nat)(p:Nat):match Kv xs.toArray p xs.length with
  |none=>Da (xs.drop p)=xs.drop p
  |some q=>p<=q/\∃c,xs[q]? =some c/\Db c=true/\Da ((xs.drop p).take (q-p))=(xs.drop p).take (q-p):=by
 have hf:∀(f p:Nat),xs.length+1-p<=f->match Ff xs.toArray xs.length f p with
   |none=>Da (xs.drop p)=xs.drop p
   |some q=>p<=q/\∃c,xs[q]? =some c/\Db c=true/\Da ((xs.drop p).take (q-p))=(xs.drop p).take (q-p):=by
  intro f
  induction f with
  |zero=>
   intro p h
   have:xs.drop p=[]:=List.drop_eq_nil_iff.mpr (by exact Aq (Bk (Cv (xs.length+1) (p)) h))
   show Da (xs.drop p)=_
   rw[this];rfl
  |succ f ih=>
   intro p h
   rw[Mb]
   by_cases hp:p>=xs.length
   ·rw[Bc hp]
    have:xs.drop p=[]:=List.drop_eq_nil_iff.mpr hp
    show Da (xs.drop p)=_
    rw[this];rfl
   ·rw[Ay hp]
    have hp2:p<xs.length:=by exact Aq (not_le.1 hp)
    have hg:xs.toArray.getD p 0=xs[p]:=by simp[Array.getD,hp2]
    rw[hg]
    have hd:xs.drop p=xs[p]::xs.drop (p+1):=List.drop_eq_getElem_cons hp2
    by_cases ha:Db xs[p]=true
    ·rw[Bc ha]
     exact⟨le_refl _,xs[p],Fz hp2,ha,by rw[sub_self];rfl⟩
    ·rw[Ay ha]
     have:=ih (p+1) (by exact Aq (Bk (Bk (Bt (sub_add_cancel (Aq (not_le.1 hp):p+1<=xs.length+1))) (Cv (xs.length+1) (p))) h))
     cases hq:Ff xs.toArray xs.length f (p+1)with
     |none=>
      rw[hq]at this
      show Da (xs.drop p)=_
      rw[hd]
      unfold Da at this⊢
      rw[flatMap_cons,Ay ha,this];rfl
     |some q=>
      rw[hq]at this
      refine Ae this λh1 Z=>?_
      try clear this
      refine Au Z λc h2 h3 h4=>?_
      clear Z
      refine⟨by exact Aq h1,c,h2,h3,?_⟩
      have e:q-p=(q-(p+1))+1:=by exact nH (Aq h1)
      rw[hd,e,take_succ_cons]
      unfold Da at h4⊢
      rw[flatMap_cons,Ay ha,h4];rfl
 unfold Kv
 by_cases hb:p>xs.length\/xs.length-p<1
 ·rw[Bc hb]
  have:xs.drop p=[]:=List.drop_eq_nil_iff.mpr (hb.elim le_of_lt λh=>Nat.le_of_sub_eq_zero (Nat.lt_one_iff.1 h))
  show Da (xs.drop p)=_
  rw[this];rfl
 ·rw[Ay hb]
  exact hf _ _ (le_refl _)
theorem Lh (a b:List Nat):Da (a++b)=Da a++Da b:=List.flatMap_append
theorem Ww:∀xs:List Nat,(Da xs).length<=2*xs.length:=by
 intro lq
 induction lq with
 |nil=>exact le_refl _
 |cons c xs ih=>
  have ih:=ih
  show(((if Db c=true then[92,c]else[c]):List Nat)++Da xs).length<=_
  rw[Bu,G8]
  split
  ·simp only[G8,length_nil];exact Aq ih
  ·simp only[G8,length_nil];exact Aq ih
theorem aT {own:List (List D)}{k:Nat}{l:List D}(h:own[k]? =some l):own.set k l=own:=by
 refine Ad (H7.mp h) λhk e=>?_
 rw[<-e,List.set_getElem_self]
theorem Us (xs:List Nat){pos q:Nat}(h:pos<=q):xs.take q=xs.take pos++(xs.drop pos).take (q-pos):=by
 have:q=pos+(q-pos):=by exact iB (Aq h)
 rw[this,List.take_add]
 simp
theorem P6 {α:Type}{M:Model}{c:Prop}[Decidable c]{a b:Sem α}{Q:α->Shared->Prop}{E:Value->Shared->Prop}(hc:c)(k:wpAny M A a Q E s):wpAny M A (if c then a else b) Q E s:=by rw[Bc hc];exact k
theorem Qs {α:Type}{M:Model}{c:Prop}[Decidable c]{X:Sem Value}{L:Addr}{rest:Sem α}{Q:α->Shared->Prop}{E:Value->Shared->Prop}(I:Shared->Prop)
  (h1:c->∀R:Unit->Shared->Prop,(∀s1,I s1->R () s1)->wpAny M A (X>>=λv=>updateSeq L (·.push v)) R E s)(h2:¬c->I s)(h3:∀s1,I s1->wpAny M A rest Q E s1):
  wpAny M A (if c then(X>>=λv=>updateSeq L (·.push v)>>=λ_=>rest)else rest) Q E s:=by
 by_cases hc:c
 ·rw[Bc hc]
  have:=Ai (f:=λ_=>rest) (h1 hc (λ_ s'=>wpAny M A rest Q E s') λs1 h=>h3 s1 h)
  simpa only[bind_assoc]using this
 ·rw[Ay hc];exact h3 _ (h2 hc)
theorem aI (ok:Γ.Ok){p:Addr}{xs:List Nat}{t:Tok}{lam:Value}{L:Addr}{k:Nat}{R:Result->Shared->Prop}(hx:xs.length<=2000)
  (hl:∀args,Mx Γ (A.under (.builtin "re.Pattern.sub.loop" args)) G₀ lam (mL p xs)):
  ∀(f:Nat) (G:Gh) (ι:List Addr) (σ:St) (s:Shared) (pos:Nat) (n:Int) (must:Bool) (ps:List (List Nat)),xs.length-pos<f->pos<=xs.length->Aa Γ K env G ι σ s->K3 G p->G₀.le G->ι[k]? =some L->σ.own[k]? =some (ps.map D.str)->
   ps.flatten=Da (xs.take pos)->ps.length<=2*pos->
   (∀G' ι' (ps':List (List Nat)) s' v,G.le G'->Bp ι ι'->Aa Γ K env G' ι' {σ with own:=σ.own.set k (ps'.map D.str)} s'->A7 G' ι' (.str (Da xs)) v->R (.ok (.ret v)) s')->
   codeAny (model Γ.prog Γ.w) A (.builtin "re.Pattern.sub.loop" (S6 p xs t lam n pos must L)) R s:=by
 intro f
 induction f with
 |zero=>intro G ι σ s pos n must ps h;exact(rM h).elim
 |succ f ih=>
  intro G ι σ s pos n must ps hf hpos F hp hG hk hown hps hlen hR
  refine codeAny_builtin Sm ?_
  have hki:k<σ.own.length:=(H7.mp hown).1
  have F0:Aa Γ K env G ι {σ with own:=σ.own.set k (ps.map D.str)} s:=by rw[aT hown];exact F
  unfold Builtin.«re.Pattern.sub.loop» S6
  refine Ai (Nf F.store.gin hp ?_)
  have hfi:=Y7 xs pos
  refine Ai (Z8 (t:=tgt p ⟨xs.toArray⟩ t) rfl rfl ?_)
  show match Kv xs.toArray pos xs.toArray.size with|none=>_|some p=>_
  rw[size_toArray]
  have slice:∀{α:Type} {b e:Nat} {c:Value->Sem α} {Q:α->Shared->Prop} {E:Value->Shared->Prop} {A':Around} {σ':St} {s1:Shared},Aa Γ K env G ι σ' s1->
    (∀v s2,A7 G ι (.str ((xs.drop b).take (e-b))) v->Aa Γ K env G ι σ' s2->wpAny (model Γ.prog Γ.w) A' (c v) Q E s2)->wpAny (model Γ.prog Γ.w) A' (reSlice (tgt p ⟨xs.toArray⟩ t).text (tgt p ⟨xs.toArray⟩ t).kind b e>>=c) Q E s1:=by
   intro α b e c Q E A' σ' s1 F1 h
   have ee:xs.toArray.extract b e=((xs.drop b).take (e-b)).toArray:=by simp
   refine Ai ?_
   show wpAny _ _ (mkStr ⟨xs.toArray.extract b e⟩) _ _ _
   rw[ee]
   exact wpAny_mkStr (h _ _ ⟨_,rfl⟩ (F1.toks _ (succ_pos _))) (by rw[Bm];unfold sizeLine;simp;exact Ao (Aq (Bk (Bk (min_le_right (e-b) (xs.length-b)) (sub_le (xs.length) (b))) hx)) b6)
  cases hq:Kv xs.toArray pos xs.length with
  |none=>
   rw[hq]at hfi
   dsimp only at hfi⊢
   refine Qs (λs1=>∃ps1:List (List Nat),Aa Γ K env G ι {σ with own:=σ.own.set k (ps1.map D.str)} s1/\ps1.flatten=Da xs/\ps1.length<=2*xs.length+1) (λhc R hRR=>?_) (λhc=>?_) λs1 V=>Au V λps1 F1 hp1 hl1=>?_
   ·refine slice F0 λv s2 rv F2=>Ox F2 hk (List.getElem?_set_self hki) rv ?_ λs3 F3=>hRR s3 ⟨ps++[(xs.drop pos).take (xs.length-pos)],?_,?_,?_⟩
    ·rw[B2];unfold sizeLine;exact lt_of_le_of_lt (Aq (Bk (Bk hlen (mul_le_mul_left 2 hpos)) (mul_le_mul_left 2 hx))) b6
    ·have e0:(tgt p ⟨xs.toArray⟩ t).lim=xs.length:=size_toArray
     rw[e0]at F3
     simpa using F3
    ·rw[flatten_append,hps]
     have e1:(xs.drop pos).take (xs.length-pos)=xs.drop pos:=take_of_length_le (by simp)
     rw[e1,List.flatten_singleton]
     conv=>rhs;rw[<-List.take_append_drop pos xs,Lh,hfi]
    ·simp;exact Aq (Bk hlen (mul_le_mul_left 2 hpos))
   ·have hc2:¬pos<xs.length:=by simpa[tgt]using hc
    refine⟨ps,F0,?_,by exact Aq (Bk hlen (mul_le_mul_left 2 hpos))⟩
    rw[hps,take_of_length_le (by exact Aq (not_lt.1 hc2))]
   ·refine slice F1 λv s2 rv F2=>?_
    refine Ab (F2.store.at_ k L _ hk (List.getElem?_set_self hki)) λvs Z rl=>?_
    refine Ad Z λnn ho=>?_
    clear Z
    refine Ai (wpAny_seqItems ho rfl ?_)
    have hzz:=rl.length
    rw[B2]at hzz
    by_cases hv:((some vs.toArray).getD #[]).isEmpty=true
    ·rw[Bc hv]
     have hps0:ps1=[]:=by
      have:vs=[]:=by simpa using hv
      subst this
      exact List.length_eq_zero_iff.mp hzz.symm
     subst hps0
     have e0:Da xs=[]:=by rw[<-hp1];rfl
     exact Be (hR G ι [] s2 v (Gh.le.refl _) (Bp.refl _) F2 (by rw[e0];exact rv))
    ·rw[Ay hv]
     have hsum:(ps1.map λx=>x.length+(cs "").length).sum<=sizeLine:=by
      have h5:(cs "").length=0:=by decide
      have h6:=Ww xs
      rw[<-hp1,List.length_flatten]at h6
      simp only[h5,Nat.add_zero]
      exact Ao h6 (by unfold sizeLine;exact Ao (Aq (mul_le_mul_left 2 hx)) b6)
     refine Ai (Ba (Ny F2 (d:=.str []) (ds:=[.obj k]) (Q:=λd σ'=>d=.str (Da xs)/\σ'={σ with own:=σ.own.set k (ps1.map D.str)}) rv ⟨.ref L,[],rfl,⟨L,hk,rfl⟩,rfl⟩ ⟨[],_,ps1,rfl,rfl,List.getElem?_set_self hki,hsum,?_,rfl⟩) (λv' s3 U=>Cd U λG3 ι3 d3 σ3 l3 p3 r3 F3 e3 e4=>?_) λ_ _ x=>x.elim)
     ·rw[show I7 [] ps1=ps1.flatten from H4 _,hp1]
     ·subst e3 e4
      exact Be (hR G3 ι3 ps1 s3 v' l3 p3 F3 r3)
  |some q=>
   rw[hq]at hfi
   refine Ae hfi λhpq Y=>?_
   try clear hfi
   refine Au Y λc hc ha htk=>?_
   clear Y
   intro m h1 h2 h3 h4 h5
   dsimp only
   rw[h1]
   have hql:q<xs.length:=(H7.mp hc).1
   refine Qs (λs1=>∃ps1:List (List Nat),Aa Γ K env G ι {σ with own:=σ.own.set k (ps1.map D.str)} s1/\ps1.flatten=Da (xs.take q)/\ps1.length<=2*q) (λhcc R hRR=>?_) (λhcc=>?_) λs1 z0=>Au z0 λps1 F1 hp1 hl1=>?_
   ·have hcc:pos<q:=by simpa using hcc
    refine slice F0 λv s2 rv F2=>Ox F2 hk (List.getElem?_set_self hki) rv ?_ λs3 F3=>hRR s3 ⟨ps++[(xs.drop pos).take (q-pos)],?_,?_,?_⟩
    ·rw[B2];unfold sizeLine;exact lt_of_le_of_lt (Aq (Bk (Bk hlen (mul_le_mul_left 2 hpos)) (mul_le_mul_left 2 hx))) b6
    ·simpa using F3
    ·rw[flatten_append,hps,List.flatten_singleton,Us xs hpq,Lh,htk]
    ·simp;exact Aq (Bk hlen (mul_le_mul_left 2 hcc))
   ·have hcc:¬pos<q:=by simpa using hcc
    have:pos=q:=by exact le_antisymm (Aq hpq) (Aq (not_lt.1 hcc))
    subst this
    exact⟨ps,F0,hps,hlen⟩
   ·refine Z9 (by decide) (Ai (Py (t:=t) ok F1 hp h1 h2 h3 h4 h5 λG2 v2 s2 l2 hm F2=>?_))
    refine Ai (wpAny_holding (P6 (by decide) (Ba (Fj (hl _) (hG.trans l2) F2 (ds:=[.sem (Fd p ⟨xs.toArray⟩ q)]) (Q:=λd σ'=>d=.str [92,c]/\σ'={σ with own:=σ.own.set k (ps1.map D.str)}) ⟨v2,[],rfl,⟨G2,Gh.le.refl _,hm⟩,rfl⟩ ⟨q,c,rfl,hc,rfl,rfl⟩) (λv3 s3 z1=>Cd z1 λG3 ι3 d3 σ3 l3 p3 r3 F3 e3 e4=>?_) λ_ _ x=>x.elim)))
    subst e3 e4
    have r3':=r3
    refine Ad r3 λt3 z2=>?_
    try clear r3
    subst z2
    refine P6 rfl (Ai (Ox F3 (p3 _ _ hk) (List.getElem?_set_self hki) r3' (by rw[B2];unfold sizeLine;exact lt_of_le_of_lt (Aq (Bk (Bk hl1 (mul_le_mul_left 2 hql)) (mul_le_mul_left 2 hx))) b6) λs4 F4=>?_))
    rw[h2]
    have hst:(σ.own.set k (ps1.map D.str)).set k (ps1.map D.str++[.str [92,c]])=σ.own.set k ((ps1++[[92,c]]).map D.str):=by simp
    rw[hst]at F4
    refine Be ⟨plainId_quiet H0 _,ih G3 ι3 {σ with own:=σ.own.set k ((ps1++[[92,c]]).map D.str)} s4 (q+1) (n+1) (q+1==q) (ps1++[[92,c]]) (by exact Aq (Bk (Bk (Bk (Bt (sub_add_cancel (Aq hql:q+1<=xs.length))) (Cv (xs.length) (pos))) hf) hpq)) (by exact Aq hql) F4 (hp.mono (l2.trans l3)) ((hG.trans l2).trans l3) (p3 _ _ hk) (List.getElem?_set_self hki) ?_ ?_ λG5 ι5 ps5 s5 v5 l5 p5 F5 r5=>?_⟩
    ·rw[flatten_append,hp1,List.flatten_singleton,take_add_one,hc,Lh]
     congr 1
     show[92,c]=Da [c]
     unfold Da
     rw[flatMap_cons,Bc ha];rfl
    ·simp;exact Aq hl1
    ·refine hR G5 ι5 ps5 s5 v5 ((l2.trans l3).trans l5) (p3.trans p5) ?_ r5
     simpa using F5
end
end
section
open PySem.Sre PySem.Builtin.Re
theorem M7:PlainAttrs "re.Pattern":=
 ⟨⟨"object.__getattribute__",by rw[typeLookup_type,builtinLookup_eq_fast];kernel_rfl,by decide +kernel⟩,by rw[typeLookup_type,builtinLookup_eq_fast];kernel_rfl⟩
theorem Gg:Slot "re.Pattern" (ofString "sub") "re.Pattern.sub":=
 .of (owner:="re.Pattern") (n:="sub") (by rw[typeLookup_type,builtinLookup_eq_fast];kernel_rfl) (by decide +kernel) (by decide +kernel) (by decide +kernel)
  (by first|exact .inl (by decide +kernel)|exact .inr (by decide +kernel)) (by rw[isSubtype_type];kernel_rfl)
theorem P9:typeOf (.builtin "re.Pattern.sub")=pure (.type "method_descriptor"):=by show builtinType _=_;rw[builtinType_eq_fast];kernel_rfl
theorem Pc:entryFor table "re.Pattern.sub"=some Builtin.«re.Pattern.sub»:=entryFor_of_fast (by kernel_rfl)
theorem Rh (a b c:Value):argsOk "re.Pattern.sub" ⟨[a,b,c],[]⟩:=by unfold argsOk;kernel_rfl
theorem M6:PlainAttrs "re.Match":=
 ⟨⟨"object.__getattribute__",by rw[typeLookup_type,builtinLookup_eq_fast];kernel_rfl,by decide +kernel⟩,by rw[typeLookup_type,builtinLookup_eq_fast];kernel_rfl⟩
theorem Hm:Slot "re.Match" (ofString "group") "re.Match.group":=
 .of (owner:="re.Match") (n:="group") (by rw[typeLookup_type,builtinLookup_eq_fast];kernel_rfl) (by decide +kernel) (by decide +kernel) (by decide +kernel)
  (by first|exact .inl (by decide +kernel)|exact .inr (by decide +kernel)) (by rw[isSubtype_type];kernel_rfl)
theorem M3:typeOf (.builtin "re.Match.group")=pure (.type "method_descriptor"):=by show builtinType _=_;rw[builtinType_eq_fast];kernel_rfl
theorem Mg:entryFor table "re.Match.group"=some Builtin.«re.Match.group»:=entryFor_of_fast (by kernel_rfl)
theorem Nc (a b:Value):argsOk "re.Match.group" ⟨[a,b],[]⟩:=by unfold argsOk;kernel_rfl
end
section
open PySem.Sre PySem.Builtin.Re
noncomputable def dA (p:Addr):Mine.Internal.B3:=λds own Q=>∃(xs:List Nat) (q c:Nat),ds=[.sem (Fd p ⟨xs.toArray⟩ q)]/\xs[q]? =some c/\Q (.str [92,c]) own
noncomputable def Wc (Γ:W) (p:Addr) (G₀:Gh) (v:Value):Prop:=(∃a o,v=.ref a/\G₀ a=some o/\o.cls=.type "function")/\
 ∀A':Around,A'.handled=none->A'.depth+152<recursionLimit->A'.units+508<cLine->Mx Γ A' G₀ v (dA p)
theorem Vg:typeLookup (.type "function") (ofString "__call__")=pure (some (.builtin "function.__call__")):=by rw[typeLookup_type,builtinLookup_eq_fast];kernel_rfl
section
variable {α β γ δ:Type}{Γ:W}{K:Cj}{A:Around}{env:Env}{G G₀ G':Gh}{ι ι':List Addr}{σ:St}{s s':Shared}
theorem Wv (ok:Γ.Ok)(hA:A9 1 A){p:Addr}{xs:List Nat}{vs:List Value}{Q:D->St->Prop}(hp:K3 G p)(hpt:∃o,G p=some o/\o.cls=.type "re.Pattern")(hx:xs.length<=2000)(F:Aa Γ K env G ι σ s)(r:Rl G ι [.sem (Wc Γ p),.str xs] vs)
  (q:∀ps:List (List Nat),Q (.str (Da xs)) {σ with own:=σ.own++[ps.map D.str]}):wpAny (model Γ.prog Γ.w) A (call (.builtin "re.Pattern.sub") (.ref p::vs)) (As Γ K env VR G ι Q) (λ_ _=>False) s:=by
 refine Ag r λlam w z0 Z Y=>?_
 try clear r
 subst z0
 refine Au Z λG₀ hG V hl=>?_
 clear Z
 refine Ag V λa o z1 ho hc=>?_
 clear V
 subst z1
 refine Ag Y λv2 w2 z2 U e=>?_
 clear Y
 subst z2
 refine Ad U λt z3=>?_
 clear U
 subst z3
 obtain rfl:=Az e
 refine Ab hpt λop hop hopc=>?_
 try clear hpt
 have hin:=F.store.gin
 refine wpAny_call (codeAny_call_builtin Gg.plain Pc (Gg.check _ _ _ _ _ _ _ _ ⟨op,hin _ _ hop,hopc⟩ (Rh _ _ _) ?_))
 unfold Builtin.«re.Pattern.sub» reSubstitute
 refine Ai (m:=reNamed "re.Pattern.sub" "sub" ["repl","string","count"] 2 [.ref a,.str ⟨xs.toArray⟩ t] []) (wpAny_of_eq (a:=[some (.ref a),some (.str ⟨xs.toArray⟩ t),none]) (by first|rfl|kernel_rfl!) ?_)
 refine Ai (wpAny_of_eq (a:=0) rfl ?_)
 refine Ai (wpAny_specialOf (T:="function") ⟨o,hin _ _ (hG _ _ ho),hc⟩ Vg ?_)
 refine P6 rfl (Ai (Be (P6 rfl (Ai (Be ?_)))))
 refine Ai (wpAny_holding (Nf hin hp (P6 rfl (Ai ?_))))
 unfold reNotHeld
 refine Ai (wpAny_isInstance (T:="str") (b:=false) rfl (by rw[isSubtype_type];kernel_rfl) (Z9 (by decide) (Be ?_)))
 refine Ai (wpAny_newList ?_)
 have F1:=F.newOwn (ds:=[]) (vs:=[]) rfl 0 s.toks F.tk
 refine Be ⟨plainId_quiet H0 _,?_⟩
 have hl2:∀args,Mx Γ (A.under (.builtin "re.Pattern.sub.loop" args)) G₀ (.ref a) (mL p xs):=λargs=>by
  rw[Around.under_plainId H0 args]
  exact(hl A.in1 hA.handled (by have:=hA.depth;show A.depth+152<recursionLimit;exact Aq this) (by have:=hA.units;show A.units+1+508<cLine;exact Aq this)).imp λds own Q h3_=>by refine Ag h3_ λq c h1 h2 h3=>?_;try clear h3_;exact⟨xs,q,c,h1,h2,h3⟩
 have hk:(ι++[s.heap.objs.size])[σ.own.length]? =some s.heap.objs.size:=by rw[<-F.store.len];simp
 refine aI ok hx hl2 (xs.length+1) G (ι++[s.heap.objs.size]) {σ with own:=σ.own++[[]]} _ 0 0 false [] (by exact Aq (sub_le (xs.length) (0))) (zero_le _) F1 hp hG hk (Aw _ _) rfl (zero_le _) λG' ι' ps' s' v l' p' F' r'=>?_
 have hst:(σ.own++[[]]).set σ.own.length (ps'.map D.str)=σ.own++[ps'.map D.str]:=Dj _ _ _
 have F'':Aa Γ K env G' ι' {σ with own:=σ.own++[ps'.map D.str]} s':=by rw[<-hst];exact F'
 exact(As.mk' (R:=VR) r' F'' (q ps')).up l' ((Bp.append _ _).trans p')
end
end
section
open PySem.Sre PySem.Builtin.Re
section
variable {α β γ δ:Type}{Γ:W}{K:Cj}{A:Around}{env:Env}{G G₀ G':Gh}{ι ι':List Addr}{σ:St}{s s':Shared}
theorem Sg {p:Addr}{xs:List Nat}{q c:Nat}{v:Value}{vs:List Value}{Q:D->St->Prop}(F:Aa Γ K env G ι σ s)(r0:A7 G ι (.sem (Fd p ⟨xs.toArray⟩ q)) v)(r:Rl G ι [.int 1] vs)(hc:xs[q]? =some c)(hq:Q (.str [c]) σ):
  wpAny (model Γ.prog Γ.w) A (call (.builtin "re.Match.group") (v::vs)) (As Γ K env VR G ι Q) (λ_ _=>False) s:=by
 refine Ag r λw w2 V Z e=>?_
 try clear r
 subst V
 refine Ad Z λt U=>?_
 clear Z
 subst U
 obtain rfl:=Az e
 refine Ab r0 λG₀ hG Y=>?_
 try clear r0
 refine Bj Y λa o tx tup ot zz=>Dn zz λn z0 h1 h2 hdict zz=>B6 zz λhslots h3 hre h4 h5=>?_
 clear Y
 subst z0
 have hin:=F.store.gin
 have hql:q<xs.length:=(H7.mp hc).1
 refine wpAny_call_entry Hm ⟨o,hin _ _ (hG _ _ h1),h2⟩ Mg ?_ (Nc _ _)
 unfold Builtin.«re.Match.group»
 refine Ai (wpAny_of_eq (a:=()) (by first|rfl|kernel_rfl!) ?_)
 refine Ai (Ai (wpAny_fieldsOf (hin _ _ (hG _ _ h1)) h3 (Ai (Pz (hin _ _ (hG _ _ h4)) h5 (Be ?_)))))
 have hmap:Array.map reRawOf #[rawInt q,rawInt (q+1:Nat),rawInt q,rawInt (q+1:Nat)]=#[(q:Int),((q+1:Nat):Int),(q:Int),((q+1:Nat):Int)]:=by with_unfolding_all rfl
 rw[hmap]
 dsimp only
 refine Ai (wpAny_of_eq (a:=(1:Nat)) (by first|rfl|kernel_rfl!) ?_)
 unfold reGroupText
 dsimp only
 refine Ai (Z9 ?hn ?_)
 case hn=>
  show¬((decide ((q:Int)<0)||decide (((q+1:Nat):Int)<0))=true)
  rw[decide_eq_false (by exact fQ (n:=q) rfl),decide_eq_false (by exact fQ (n:=(q+1)) rfl)];decide
 refine Ai (m:=reTextOf (.str ⟨xs.toArray⟩ tx)) (wpAny_of_eq (a:=(xs.toArray,0)) rfl ?_)
 have hex:xs.toArray.extract q (q+1)=[c].toArray:=by
  have h6:(xs.drop q).take 1=[c]:=by
   rw[List.drop_eq_getElem_cons hql,take_succ_cons,List.take_zero]
   rw[Fz hql]at hc
   cases hc;rfl
  simp[h6]
 show wpAny _ _ (mkStr ⟨xs.toArray.extract q (q+1)⟩) _ _ _
 rw[hex]
 exact wpAny_mkStr (Be ⟨_,rfl,(As.mk' (R:=VR) (b:=.str [c]) ⟨_,rfl⟩ (F.toks _ (succ_pos _)) hq)⟩) (by show 1<=sizeLine;decide)
theorem fG {o:Expr}{apos pos:Pos}{e:Expr}{T0:TT}{T:St->(List D->St->Prop)->Prop}(h0:Bl Γ A env o T0)(h:H8 Γ A env pos [e] T)(hs:starEach [e] env=(false,eval e env)::starEach [] env)
  (hbase:attributeBase o (ofString "group") env (eval o env)=eval o env)
  (hfew:((backTo pos (starEach [e] env)).all (λx=> !x.1)&&(backToKw pos (keywordEach [] env)).all (λx=>x.1.isSome)&&decide ([e].length+([]:List Keyword).length+(if([]:List Keyword).isEmpty then 0 else 1)<30))=true)
  (hline:(apos.endLine==pos.line)=true):
  Bl Γ A env (.Call (.Attribute o (ofString "group") apos) [e] [] pos) (λσ Q=>T0 σ λd σ=>(∃(p:Addr) (xs:List Nat) (q:Nat),d=.sem (Fd p ⟨xs.toArray⟩ q))/\T σ λds σ=>∃(p:Addr) (xs:List Nat) (q c:Nat),d=.sem (Fd p ⟨xs.toArray⟩ q)/\ds=[.int 1]/\xs[q]? =some c/\tV (.str [c]) σ Q):=
 Lq (ok:=λd _=>∃(p:Addr) (xs:List Nat) (q:Nat),d=.sem (Fd p ⟨xs.toArray⟩ q)) (S:=λd ds σ Q=>∃(p:Addr) (xs:List Nat) (q c:Nat),d=.sem (Fd p ⟨xs.toArray⟩ q)/\ds=[.int 1]/\xs[q]? =some c/\Q (.str [c]) σ)
  M6 Hm M3 (λF r Y=>eG Y λp xs q e=>by
   subst e
   refine Ab r λG₀ hG Z=>?_
   try clear r
   refine Bj Z λa o tx tup ot zz=>Dn zz λn V h1 h2 hdict _=>?_
   clear Z
   subst V
   have:=F.store.gin _ _ (hG _ _ h1)
   exact⟨⟨o,this,h2⟩,λb e=>by cases e;exact⟨o,this,hdict⟩⟩) (λF r rl h3_=>by refine C3 h3_ λp xs q c e1 e2 hc hq=>?_;try clear h3_;subst e1 e2;exact Sg F r rl hc hq) h0 h hs rfl hbase hfew hline
theorem fD (ok:Γ.Ok)(hA:A9 1 A){p:Addr}(hp:K3 (λa=>Γ.B.get? a) p)(hpt:∃o,Γ.B.get? p=some o/\o.cls=.type "re.Pattern"/\o.dict=none){o:Expr}{apos pos:Pos}{e:Expr}{es:List Expr}{T0:TT}{T:St->(List D->St->Prop)->Prop}(h0:Bl Γ A env o T0)(h:H8 Γ A env pos (e::es) T)
  (hs:starEach (e::es) env=(false,eval e env)::starEach es env)(hpp:(backTo pos (starEach es env)).any (·.1)=false)
  (hbase:attributeBase o (ofString "sub") env (eval o env)=eval o env)
  (hfew:((backTo pos (starEach (e::es) env)).all (λx=> !x.1)&&(backToKw pos (keywordEach [] env)).all (λx=>x.1.isSome)&&decide ((e::es).length+([]:List Keyword).length+(if([]:List Keyword).isEmpty then 0 else 1)<30))=true)
  (hline:(apos.endLine==pos.line)=true):
  Bl Γ A env (.Call (.Attribute o (ofString "sub") apos) (e::es) [] pos) (λσ Q=>T0 σ λd σ=>d=.raw (.ref p)/\T σ λds σ=>d=.raw (.ref p)/\∃xs:List Nat,ds=[.sem (Wc Γ p),.str xs]/\xs.length<=2000/\∀ps:List (List Nat),Q (.str (Da xs)) {σ with own:=σ.own++[ps.map D.str]}):=
 Lq (ok:=λd _=>d=.raw (.ref p)) (S:=λd ds σ Q=>d=.raw (.ref p)/\∃xs:List Nat,ds=[.sem (Wc Γ p),.str xs]/\xs.length<=2000/\∀ps:List (List Nat),Q (.str (Da xs)) {σ with own:=σ.own++[ps.map D.str]})
  M7 Gg P9 (λF r e=>by
   subst e;cases r
   refine Au hpt λo ho h1 h2=>?_
   try clear hpt
   have:=F.store.gin _ _ (F.store.base _ _ ho)
   exact⟨⟨o,this,h1⟩,λb e=>by cases e;exact⟨o,this,h2⟩⟩) (λF r rl Z=>Ae Z λe Y=>Au Y λxs e2 hx hq=>by
   subst e e2;cases r
   refine Au hpt λo ho h1 h2=>?_
   try clear hpt
   exact Wv ok hA (hp.mono F.store.base) ⟨o,F.store.base _ _ ho,h1⟩ hx F rl hq) h0 h hs hpp hbase hfew hline
end
end
section
variable {α β γ δ:Type}{Γ:W}{K:Cj}{A:Around}{env:Env}{G G₀ G':Gh}{ι ι':List Addr}{σ:St}{s s':Shared}
theorem pO {A:Around}(ok:Γ.Ok){a:Addr}{fd:FuncData}{ps:List String}{fr:List (String×D)}(N:dG Γ G₀ a fd ps fr)(h1:A.handled=none)(h2:A.depth+150<recursionLimit)(h3:A.units+500<cLine)(L:Addr):Ev Γ A (Bw fd L a) where
 ok:=ok
 kind:=N.kind
 glob:=N.glob
 bui:=N.bui
 handled:=h1
 depth:=h2
 units:=h3
noncomputable def O6 (p1 p2 p3 p4 p5 p6 p7 p8:Pos):Expr:=.BinOp (.Constant (.str (ofString "\\")) 0 p1) .Add (.BoolOp .Or [.Call (.Attribute (.Name (ofString "_m") p2) (ofString "group") p3) [.Constant (.int 1) 0 p4] [] p5,.Constant (.str (ofString "")) 0 p6] p7) p8
noncomputable def Sb (p1:Pos):Arguments:=⟨[],[⟨ofString "_m",none,p1⟩],none,[],[],none,[]⟩
theorem fZ (ok:Γ.Ok){p:Addr}{qual:Str}{pm v:Value}{scope:Scope}{p1 p2 p3 p4 p5 p6 p7 p8 p9:Pos}(hl:(p3.endLine==p5.line)=true)(hk:scope.names.lookup (ofString "_m")=some .local)(hnc:∀x∈scope.names,x.2≠ .cell)(hkd:scope.kind=.function)(hco:scope.isCoroutine=false)(hgn:scope.isGenerator=false)
  (h:Od "<lambda>" qual (Sb p9) (O6 p1 p2 p3 p4 p5 p6 p7 p8) scope [] pm G v):Wc Γ p G v:=by
 refine Cm h λa o cv ctv Y h1 h2 h3 h4=>?_
 try clear h
 subst Y
 refine⟨⟨a,o,rfl,h1,h2⟩,λA' e1 e2 e3=>?_⟩
 have N:dG Γ G a (kla_fn "<lambda>" qual (Sb p9) (O6 p1 p2 p3 p4 p5 p6 p7 p8) scope [] pm cv ctv) ["_m"] []:={
  obj:=⟨o,h1,h3⟩
  code:=h4
  glob:=rfl
  bui:=rfl
  bind:=λvs hv=>by
   refine Ad (List.length_eq_one_iff.mp hv) λv V=>?_
   subst V
   first|rfl|kernel_rfl!
  kinds:=λq hq=>by rw[K2.mp hq];exact hk
  nodup:=by decide
  nocell:=hnc
  free:=λx d e=>nomatch e
  freeAll:=λx c e=>nomatch e
  kind:=hkd
  co:=hco
  gen:=hgn}
 refine'(gP ok N rfl (by exact Aq e2) (λL=>?w)).imp ?p
 case w=>
  have H:=pO (A:=A'.deeper (Bw (kla_fn "<lambda>" qual (Sb p9) (O6 p1 p2 p3 p4 p5 p6 p7 p8) scope [] pm cv ctv) L a)) ok N e1 (by rw[depth_deeper];exact Aq e2) (by show A'.units+3+500<_;exact Aq e3) L
  exact It H Hy (fE (fG (Bi H (by decide) (by decide)) (A0 Ds Br rfl) rfl rfl rfl hl) Hy)
 case p=>
  intro ds own Q Z
  refine Ez Z λxs q c U hc hq=>?_
  clear Z
  subst U
  refine⟨rfl,?_⟩
  refine sV (Ac rfl ⟨⟨p,xs,q,rfl⟩,sV ⟨p,xs,q,c,rfl,rfl,hc,⟨by show 1<2^62;decide,sT ⟨rfl,by show 1+1<=sizeLine;decide,?_⟩⟩⟩⟩)
  exact hq
end
noncomputable def Pq (name qual:Str) (params:Arguments) (body:Expr) (scope:Scope) (x:String) (d:D) (pm:Value) (G:Gh) (v:Value):Prop:=∃(cw:Addr) (o:Obj) (u:Value),Od name qual params body scope [(ofString x,cw)] pm G v/\G cw=some o/\o.data=.cell (some u)/\A7 G [] d u
section
variable {α β γ δ:Type}{Γ:W}{K:Cj}{A:Around}{env:Env}{G G₀ G':Gh}{ι ι':List Addr}{σ:St}{s s':Shared}
theorem jM (H:Ev Γ A env){c P:Addr}{params:Arguments}{body:Expr}{scope:Scope}{pos:Pos}{x:String}{cw:Addr}(hcode:env.code=.ref c)(hcP:(c,P)∈Γ.tabs)(hdef:defaultsOf params env=([],[]))(hkx:env.kindOf (ofString x)=some .cell)(hcx:env.cells.lookup (ofString x)=some cw)
  (hcl:closureFor scope env=pure [(ofString x,cw)])(hit:∀G cv,Γ.codeOk P pos G cv->Bd G cv (env.qual++"<lambda>"))(mk:∀G cv pos',pos'.line=pos.line->pos'.col=pos.col->Bd G cv (env.qual++"<lambda>")->Γ.codeOk P pos' G cv):
  Bl Γ A env (.Lambda params body scope pos) (λσ Q=>∃P d n,σ.get x=some d/\x∉σ.ro/\Ib n d=true/\(∀G v,Pq "<lambda>" (env.qual++"<lambda>") params body scope x d ((Γ.mg "__name__").getD .none) G v->P G v)/\Q (.sem P) {σ with ro:=x::σ.ro}):=λK G ι σ s Q F Z=>Fp Z λP' d n hg hro hok hP' q=>by
 obtain⟨o,u,ho,hd,hr⟩:∃o u,s.heap.get? cw=some o/\o.data=.cell (some u)/\A7 G ι d u:=by
  refine Ab F.ns λm _ ns=>?_
  rcases ns x _ hg with⟨k,_⟩|⟨_,c,v,e,⟨o,ho,hd⟩,r⟩|⟨k,_⟩
  ·exact(La k hkx (by decide)).elim
  ·rw[hcx]at e;cases e;exact⟨o,v,ho,hd,r⟩
  ·exact(La k hkx (by decide)).elim
 refine Ae (F.roCell H.ok hkx hcx hro ho) λl1 F1=>?_
 have h1:(G.put cw o) cw=some o:=Gh.put_self _ _ _
 refine kla_eval hdef (dV H hcode hcP hcl hit mk F1 λG' v s' l hL F'=>?_)
 exact(As.mk' (R:=VR) (b:=.sem P') ⟨G',Gh.le.refl _,hP' _ _ ⟨cw,o,u,hL,l _ _ h1,hd,(Tl n d u hok hr:A7 G [] d u).mono (l1.trans l) (Bp.refl _)⟩⟩ F' q).up (l1.trans l) (Bp.refl _)
theorem No:∀{ns:List Int} {vs:List Value},Rl G ι (ns.map D.int) vs->IntsAre vs ns:=by
 intro ns
 induction ns with
 |nil=>intro vs h;rw[Az h];exact IntsAre.nil
 |cons n r ih=>
  intro vs h
  refine Ag h λv w e rv hw=>?_
  refine Ad rv λt e2=>?_
  subst e e2
  exact IntsAre.cons n t (ih hw)
theorem Yf (H:Ev Γ A env){ds:List D}{vs:List Value}{Q:D->St->Prop}(F:Aa Γ K env G ι σ s)(r:Rl G ι ds vs)(h:∃a b,ds=[.int a,.int b]/\Q (.int (if b>a then b else a)) σ):
  wpAny (model Γ.prog Γ.w) A (call (.builtin "max") vs) (As Γ K env VR G ι Q) (λ_ _=>False) s:=by
 refine A1 h λa b e q=>?_
 subst e
 refine Ag r λv w e rv hw=>?_
 refine Ag hw λv2 w2 e2 rv2 hw2=>?_
 rw[Az hw2]at e2
 subst e2
 subst e
 refine Ad rv λt e=>Ad rv2 λu e2=>?_
 subst e e2
 refine Ba (Ax (max_two_ints (Q:=λv s'=>∃h' tk,(∀b o,s.heap.get? b=some o->h'.get? b=some o)/\v=(if b>a then .int b u else .int a t)/\s'={s with heap:=h',toks:=tk}) H.handled λh' tk k=>⟨h',tk,k,rfl,rfl⟩)) (λv s' zt=>?_) λ_ _ x=>x
 refine Ae zt λz hle=>?_
 refine Ag z λh' tk k e1 e2=>?_
 try clear z
 subst e1 e2
 refine Fx (d:=.int (if b>a then b else a)) ?_ (F.keepsTo k tk (lt_of_lt_of_le F.tk hle)) q
 split
 ·exact⟨u,rfl⟩
 ·exact⟨t,rfl⟩
theorem Wu (H:Ev Γ A env){ds:List D}{vs:List Value}{Q:D->St->Prop}(F:Aa Γ K env G ι σ s)(r:Rl G ι ds vs)(h:∃(d:D) (ns:List Int),ds=[d]/\Al σ.own d=some (ns.map D.int)/\Q (.int ns.sum) σ):
  wpAny (model Γ.prog Γ.w) A (call (.builtin "sum") vs) (As Γ K env VR G ι Q) (λ_ _=>False) s:=by
 refine Ag h λd ns e hi q=>?_
 try clear h
 subst e
 refine Ag r λv w e rv hw=>?_
 rw[Az hw]at e
 subst e
 refine Ag (A2 F.store rv hi) λad ws e hl rl=>?_
 subst e
 have hI:=No rl
 refine Ad hI.allInts.items λxs hx=>?_
 have hl':s.heap.IsList ad (intItems xs):=hx▸hl
 refine Ba (Ax (sum_intListG (Q:=λv s'=>∃h' tk t',(∀b o,s.heap.get? b=some o->h'.get? b=some o)/\v=.int (preSum (numAt xs) xs.size) t'/\s'={s with heap:=h',toks:=tk}) H.handled hl' λh' tk t' k=>⟨h',tk,t',k,rfl,rfl⟩)) (λv s' zt=>?_) λ_ _ x=>x
 refine Ae zt λz hle=>?_
 refine Ez z λh' tk t' k e1 e2=>?_
 try clear z
 subst e1 e2
 have e1:ns=xs.toList.map (·.1):=by
  rw[<-nums_intItems,<-hx]
  exact(show numsOf ws.toArray.toList=ns from hI.numsOf).symm
 refine Fx (d:=.int ns.sum) ⟨t',?_⟩ (F.keepsTo k tk (lt_of_lt_of_le F.tk hle)) q
 rw[preSum_eq,take_of_length_le (by simp),e1]
theorem nV (H:Ev Γ A env){e e':Expr}{p pos:Pos}{T:St->(List D->St->Prop)->Prop}(hk:env.kindOf (ofString "max")=some .globalImplicit)(hn:Γ.mg (ofString "max")=none)(hv:Γ.mb (ofString "max")=some (.builtin "max"))
  (h:H8 Γ A env pos [e,e'] T)(hs:starEach [e,e'] env=(false,eval e env)::starEach [e'] env)(hp:(backTo pos (starEach [e'] env)).any (·.1)=false):
  Bl Γ A env (.Call (.Name (ofString "max") p) [e,e'] [] pos) (λσ Q=>T σ λds σ=>∃a b,ds=[.int a,.int b]/\Q (.int (if b>a then b else a)) σ):=
 Iq H hk hn hv (by decide) (λF r q=>Yf H F r q) h hs hp
theorem nT (H:Ev Γ A env){e:Expr}{p pos:Pos}{T:St->(List D->St->Prop)->Prop}(hk:env.kindOf (ofString "sum")=some .globalImplicit)(hn:Γ.mg (ofString "sum")=none)(hv:Γ.mb (ofString "sum")=some (.builtin "sum"))
  (h:H8 Γ A env pos [e] T)(hs:starEach [e] env=(false,eval e env)::starEach [] env):
  Bl Γ A env (.Call (.Name (ofString "sum") p) [e] [] pos) (λσ Q=>T σ λds σ=>∃(d:D) (ns:List Int),ds=[d]/\Al σ.own d=some (ns.map D.int)/\Q (.int ns.sum) σ):=
 Iq H hk hn hv (by decide) (λF r q=>Wu H F r q) h hs rfl
theorem nY (H:Ev Γ A env){l r:Expr}{p:Pos}{T1 T2:TT}(h1:Bl Γ A env l T1)(h2:Bl Γ A env r T2)(hm:behindInMarks .In r=false):
  Bl Γ A env (.Compare l [.In] [r] p) (λσ Q=>T1 σ λa σ=>T2 σ λb σ=>∃(i:Int) (ns:List Int),a=.int i/\Al σ.own b=some (ns.map D.int)/\Q (.bool (ns.any (·==i))) σ):=λK G ι σ s Q F h=>
 wpAny_Compare1 (A8 h1 F h λG1 ι1 a va σ1 s1 l1 p1 r1 F1 q1=>A8 h2 F1 q1 λG2 ι2 b vb σ2 s2 l2 p2 r2 F2 q2=>by
  refine Ag q2 λi ns e hi q=>?_
  subst e
  refine Ad (r1.mono l2 p2) λt e=>?_
  subst e
  refine Ag (A2 F2.store r2 hi) λad vs e hl rl=>?_
  subst e
  exact in_list_ints hl (No rl) ((Ts F2 q).up (l1.trans l2) (p1.trans p2))) hm
theorem nE (H:Ev Γ A env){ts:List Expr}{k:Nat}{tpos pos cpos:Pos}{f:Expr}{as:List Expr}{ks:List Keyword}{T:TT}{Ta:D->St->(St->Prop)->Prop}(h:Bl Γ A env (.Call f as ks cpos) T)(ha:Sx Γ A env (.Tuple ts k tpos) Ta)
  (hs:swapsWithSole [.Tuple ts k tpos] (.Call f as ks cpos) pos.line env=pure false)(hw:swappedStores [.Tuple ts k tpos] (.Call f as ks cpos) env=pure none):
  Cs Γ A env (.Assign [.Tuple ts k tpos] (.Call f as ks cpos) pos) (λσ Q=>T σ λd σ=>Ta d σ λσ=>Q .next σ):=λK G ι σ s Q F q=>
 wpAny_Assign_stores (A8 h F q λG1 ι1 d v σ1 s1 l1 p1 r1 F1 q1=>by
  show wpAny _ _ (assign (.Tuple ts k tpos) env v) _ _ _
  refine Ba (ha K G1 ι1 σ1 s1 _ d v F1 r1 q1) (λu s2 zt=>?_) λ_ _ x=>x
  refine Cm zt λG2 ι2 b σ2 l2 p2 r2 F2 q2=>?_
  exact(As.mk' (R:=FR) (b:=.next) rfl F2 q2).up (l1.trans l2) (p1.trans p2)) hs hw
end
theorem Gw (xs:List Nat):∀(i:Nat) (b:Bool),(A3 i b xs).length<=xs.length+(if b=true then 1 else 0):=by
 induction xs with
 |nil=>intro i b;cases b<;>exact le_refl _
 |cons c r ih=>
  intro i b
  cases b with
  |true=>exact Nat.le_succ_of_le (succ_le_succ (ih (i+1) false))
  |false=>
   by_cases h:c=92
   ·subst h;exact ih (i+1) true
   ·rw[Me h];exact succ_le_succ (ih (i+1) false)
theorem Lr {Γ:W}{A:Around}{env:Env}(H:Ev Γ A env){f:String}{a:Addr}{fd:FuncData}{e:Expr}{p1 p2 pos pos':Pos}{T:St->(List D->St->Prop)->Prop}(N:Jj Γ a fd)(hk:env.kindOf (ofString "list")=some .globalImplicit)(hn:Γ.mg (ofString "list")=none)(hv:Γ.mb (ofString "list")=some (.type "list"))
  (hkf:env.kindOf (ofString f)=some .globalImplicit)(hvf:Γ.mg (ofString f)=some (.ref a))(hdf:(ofString f==("__debug__":Str))=false)(h:H8 Γ A env pos' [e] T)(hs:starEach [e] env=(false,eval e env)::starEach [] env)
  (hs2:starEach [.Call (.Name (ofString f) p2) [e] [] pos'] env=(false,eval (.Call (.Name (ofString f) p2) [e] [] pos') env)::starEach [] env):
  Bl Γ A env (.Call (.Name (ofString "list") p1) [.Call (.Name (ofString f) p2) [e] [] pos'] [] pos) (λσ Q=>T σ λds σ=>∃xs,ds=[.str xs]/\xs.length+3<=sizeLine/\xs.length+3<=sizeLine/\Q (.obj σ.own.length) {σ with own:=σ.own++[(A3 0 false xs).map Fh]}):=λK G ι σ s Q F q=>by
 refine wpAny_Call_NameR (Ba (Fb H hk hn hv (by decide) K G ι σ s (λd σ'=>d=.raw (.type "list")/\σ'=σ) F ⟨rfl,rfl⟩) (λv s0 Z=>Cd Z λG0 ι0 d0 σ0 l0 p0 r0 F0 e0 e1=>?_) λ_ _ x=>x)
 subst e0 e1;cases r0
 refine PyProof.Rows.callWith_type (Jw hs2 rfl) (Hs hs2 ?_)
 rw[hs2]
 refine Calls.spliced_cons (eH H N hkf hvf hdf h hs F0 (R:=λxs σ=>xs.length+3<=sizeLine/\Q (.obj σ.own.length) {σ with own:=σ.own++[(A3 0 false xs).map Fh]}) q λxs G1 ι1 σ1 s1 ga X g l1 p1 hR F1 hX hP hK hG=>Calls.spliced_nil ?_)
 exact Ba (Rc H F1 hX hP hK hG (Ao (Gw xs 0 false) (Ao (le_add_right _ 3) hR.1)) hR.2) (λ_ _ p=>p.up (l0.trans l1) (p0.trans p1)) λ_ _ x=>x
section
variable {prog:Program}{w:World}{A:Around}
noncomputable def pI (C I ax:Addr)(N:Nat)(F:Nat->Value->Prop):Protocol:=λm s₀ v s kap=>
 (∃i,i+1+m=N/\F i v)/\(GenSince C [I] s₀ s/\s₀.toks<=s.toks)/\∀s'':Shared,(∀b∈[C,I,ax],∀o,s.heap.get? b=some o->s''.heap.get? b=some o)->0<s''.toks->kap (.send .none) s''
noncomputable def pJ (C I:Addr):Nat->Shared->Result->Shared->Prop:=λn s₀ r s₁=>r=.ok .next/\(n=0/\(GenSince C [I] s₀ s₁/\s₀.toks<=s₁.toks))
noncomputable def Rq (prog:Program) (w:World) (cenv:Env) (x:Str) (elt:Expr) (items:Array Value) (F:Nat->Value->Prop):Prop:=
 ∀(A':Around) E' i v (s₂:Shared) m₂,A'.handled=none->items[i]? =some v->0<s₂.toks->s₂.heap.Ns cenv.locals m₂->m₂ x=some v->wpAny (model prog w) A' (eval elt cenv) (λy s₃=>F i y/\Keeps s₂ s₃) E' s₂
theorem gI {elt iter:Expr}{x:Str}{px:Pos}{scope:Scope}{pos:Pos}{I ax:Addr}{items:Array Value}{cenv:Env}(hh:A.handled=none)(hne:ax≠I)(F:Nat->Value->Prop)
  (hx:cenv.kindOf x=some .local)(hp:(cenv.scope.kind== .class||(cenv.scope.kind== .module&&cenv.locals != cenv.globals))=false)(hco:cenv.scope.isCoroutine=false)(hCI:cenv.locals≠I)(hCx:cenv.locals≠ax)
  (hq:Rq prog w cenv x elt items F):
  ∀(k i:Nat) (s₀ s:Shared) (m:Str->Option Value),i+k=items.size->s.heap.IsListIter I ax i->s.heap.IsList ax items->s.heap.Ns cenv.locals m->GenSince cenv.locals [I] s₀ s->s₀.toks<=s.toks->0<s.toks->
   Seg (model prog w) A (pJ cenv.locals I) (pI cenv.locals I ax items.size F) k s₀
    (.compLoop (.GeneratorExp elt [⟨.Name x px,iter,[],0⟩] scope pos) 0 (.ref I) .none cenv)
    ((model prog w).den (.compLoop (.GeneratorExp elt [⟨.Name x px,iter,[],0⟩] scope pos) 0 (.ref I) .none cenv)) [] s:=by
 have hh':(A.over (.compLoop (.GeneratorExp elt [⟨.Name x px,iter,[],0⟩] scope pos) 0 (.ref I) .none cenv) []).handled=none:=hh
 have W₀:=λ{A':Around} (h:A'.handled=none)=>Walks.list (prog:=prog) (w:=w) h I ax hne items
 have hCf:cenv.locals∉[I,ax]:=by simp[hCI,hCx]
 have hCw:cenv.locals∉[I]:=by simp[hCI]
 intro k
 induction k with
 |zero=>
  intro i s₀ s m hk hit hl hn hsince htk hpos
  have hin:i=items.size:=by exact le_antisymm (Aq (Bt hk)) (Aq (Bt hk.symm))
  subst hin
  show Seg _ A _ _ _ s₀ _ ((compTurn (.GeneratorExp elt [⟨.Name x px,iter,[],0⟩] scope pos) 0 (.ref I) .none cenv).onRaise (leaving cenv)) [] s
  rw[compTurn_gen,Sem.onRaise_eq_wrap]
  refine seg_bind_wrap (wpAny_standAt ?_)
  refine seg_bind_wrap (Ba (Ax ((W₀ hh').done s (λr s'=>∃h' tk,r=none/\s'={s with heap:=h',toks:=tk}/\∀b o,b∉[I]->s.heap.get? b=some o->h'.get? b=some o) _ ⟨hit,hl⟩ λh' tk hk'=>⟨h',tk,rfl,rfl,hk'⟩)) (λr s' V=>Ae V λU hle=>Ag U λh' tk e1 e2 hk'=>?_) λ_ _ e=>e)
  subst e1 e2
  exact seg_end (.ok .next) ⟨rfl,rfl,hsince.step λb o _ hw e=>hk' b o hw e,Ao htk hle⟩
 |succ k ih=>
  intro i s₀ s m hk hit hl hn hsince htk hpos
  have hlt:i<items.size:=by exact Aq (Bt hk)
  show Seg _ A _ _ _ s₀ _ ((compTurn (.GeneratorExp elt [⟨.Name x px,iter,[],0⟩] scope pos) 0 (.ref I) .none cenv).onRaise (leaving cenv)) [] s
  rw[compTurn_gen,Sem.onRaise_eq_wrap]
  refine seg_bind_wrap (wpAny_standAt ?_)
  refine seg_bind_wrap (Ba (Ax ((W₀ hh').item i s (λr s'=>∃v h₁ tk₁,r=some v/\s'={s with heap:=h₁,toks:=tk₁}/\items[i]? =some v/\(h₁.IsListIter I ax (i+1)/\h₁.IsList ax items)/\∀b o,b∉[I]->s.heap.get? b=some o->h₁.get? b=some o) _ hlt ⟨hit,hl⟩
   λv h₁ tk₁ a b c=>⟨v,h₁,tk₁,rfl,rfl,a,b,c⟩)) (λr s' z0=>Ae z0 λz1 hle=>Fp z1 λv h₁ tk₁ e1 e2 hPv hst₁ hk₁=>?_) λ_ _ e=>e)
  subst e1 e2
  refine seg_bind_wrap (wpAny_of_eq (rfl:letOwnedTupleGo (.Name x px) (.ref I) v=pure ()) ?_)
  refine seg_bind_wrap (wpAny_assign_Name (wpAny_storeName_local hx (hn.at' λo e=>hk₁ _ o hCw e) (λh₂ hn₂ hs₂=>?_) hp))
  have up₂:∀b o,b≠cenv.locals->b∉[I]->s.heap.get? b=some o->h₂.get? b=some o:=λb o hbC hbw e=>hs₂.extBut b o hbC (hk₁ b o hbw e)
  have hst₂:h₂.IsListIter I ax (i+1)/\h₂.IsList ax items:=(W₀ hh').frame _ _ _ hst₁ λb hb o e=>hs₂.extBut b o (λh=>hCf (h▸hb)) e
  refine seg_bind_wrap (Be ?_)
  simp only[if_true]
  have hy:∀v,yieldOut cenv v=yieldValue v:=λv=>by simp only[yieldOut,hco,Bool.false_eq_true,if_false]
  simp only[hy]
  rw[Sem.bind_eq_wrap',Sem.bind_eq_wrap',Sem.wrap_wrap,Sem.wrap_wrap]
  refine seg_wrap (Ba (Ax (hq _ _ i v _ _ hh' hPv (succ_pos _) hn₂ (by simp))) (λy s₄ h₄=>?_) λ_ _ e=>e)
  refine Ae h₄ λZ hle₄=>?_
  try clear h₄
  refine Ae Z λhFy Y=>?_
  clear Z
  refine A1 Y λh₄ tk₄ z2 hk₄=>?_
  clear Y
  subst z2
  refine seg_at (seg_yield rfl rfl rfl ⟨⟨i,by exact le_antisymm (Aq (Bt hk)) (Aq (Bt hk.symm)),hFy⟩,⟨hsince.step λb o hbC hbw e=>hk₄ b o (up₂ b o hbC hbw e),Ao htk (Ao hle (Ao (le_succ _) hle₄))⟩,λs'' hal hpos''=>?_⟩)
  have hst'':=(W₀ hh').frame _ _ s''.heap hst₂ λb hb o e=>hal b (mem_cons_of_mem _ hb) o (hk₄ b o e)
  exact seg_again rfl (ih (i+1) s'' s'' _ (by exact le_antisymm (Aq (Bt hk)) (Aq (Bt hk.symm))) hst''.1 hst''.2 ((hn₂.keeps hk₄).at' λo e=>hal _ (Ht ..) o e) (GenSince.refl _ _ _) (le_refl _) hpos'')
theorem bX {elt iter:Expr}{x:Str}{px:Pos}{scope:Scope}{pos:Pos}{I ax:Addr}{items:Array Value}{cenv:Env}(hh:A.handled=none)(hne:ax≠I)(F:Nat->Value->Prop)
  (hx:cenv.kindOf x=some .local)(hp:(cenv.scope.kind== .class||(cenv.scope.kind== .module&&cenv.locals != cenv.globals))=false)(hco:cenv.scope.isCoroutine=false)(hCI:cenv.locals≠I)(hCx:cenv.locals≠ax)
  (hq:Rq prog w cenv x elt items F)(s:Shared)(m:Str->Option Value)(hit:s.heap.IsListIter I ax 0)(hl:s.heap.IsList ax items)(hn:s.heap.Ns cenv.locals m)(hpos:0<s.toks):
  Seg (model prog w) A (pJ cenv.locals I) (pI cenv.locals I ax items.size F) items.size s
   (.compStart (.GeneratorExp elt [⟨.Name x px,iter,[],0⟩] scope pos) 0 (.ref I) .none cenv)
   ((model prog w).den (.compStart (.GeneratorExp elt [⟨.Name x px,iter,[],0⟩] scope pos) 0 (.ref I) .none cenv)) [] s:=by
 have hh':(A.over (.compStart (.GeneratorExp elt [⟨.Name x px,iter,[],0⟩] scope pos) 0 (.ref I) .none cenv) []).handled=none:=hh
 have loop:=gI (iter:=iter) (px:=px) (scope:=scope) (pos:=pos) hh hne F hx hp hco hCI hCx hq items.size 0 s s m (zero_add _) hit hl hn (GenSince.refl _ _ _) (le_refl _) hpos
 have W₀:=λ{A':Around} (h:A'.handled=none)=>Walks.list (prog:=prog) (w:=w) h I ax hne items
 show Seg _ A _ _ _ s _ ((compStart (.GeneratorExp elt [⟨.Name x px,iter,[],0⟩] scope pos) 0 (.ref I) .none cenv).onRaise (leaving cenv)) [] s
 unfold compStart
 rw[Sem.onRaise_eq_wrap]
 show Seg _ A _ _ _ s _ ((ask>>=_).wrap _ _ _ _) [] s
 refine seg_bind_wrap (wpAny_askSetting ?_)
 split
 ·exact seg_again rfl loop
 ·first
   |exact seg_bind_wrap (wpAny_rule (seg_bind_wrap (wpAny_standAt (seg_bind_wrap ((W₀ hh').self 0 s _ _ ⟨hit,hl⟩ (seg_again rfl loop))))))
   |(refine seg_bind_wrap (wpAny_rule ?_);show Seg _ A _ _ _ s _ ((standAt iter.pos>>=_).wrap _ _ _ _) [] s;exact seg_bind_wrap (wpAny_standAt (seg_bind_wrap ((W₀ hh').self 0 s _ _ ⟨hit,hl⟩ (seg_again rfl loop)))))
noncomputable def qJ (prog:Program) (w:World) (A:Around) (a:Addr) (g:Nat) (C I ax:Addr) (N:Nat) (F:Nat->Value->Prop) (j:Nat) (s:Shared):Prop:=
 0<s.toks/\s.heap.IsGen a g/\s.heap.NoLimit/\∃gs,s.gens[g]? =some gs/\∀s'':Shared,(∀b∈[C,I,ax],∀o,s.heap.get? b=some o->s''.heap.get? b=some o)->0<s''.toks->
  gs.Goes (model prog w) A.in1 (pJ C I) (pI C I ax N F) (N-j) (.send .none) s''
theorem bW (hh:A.handled=none)(a:Addr)(g:Nat)(C I ax:Addr)(N:Nat)(F:Nat->Value->Prop)(haC:a≠C)(haI:a≠I)(hax:a≠ax)(hroom:A.depth<recursionLimit)(hcC:cStatics≠C)(hcI:cStatics≠I):
  WalksS prog w A a [a,C,I,ax,cStatics] [C,I] (GenOnlyQ g) N F (qJ prog w A a g C I ax N F) where
 sub:=λb hb=>by
  simp only[E1,not_mem_nil,or_false]at hb⊢
  rcases hb with rfl|rfl<;>simp
 grefl:=λ_=>.inl rfl
 gtrans:=λ_ _ _ x y=>x.trans y
 frame:=λj s h' tk st hle hk=>
  ⟨lt_of_lt_of_le st.1 hle,(by refine Ce st.2.1 λo nm qn ho r=>?_;exact⟨o,nm,qn,hk a (by simp) o ho,r⟩),
   (by refine Ab st.2.2.1 λmc hns hnn=>?_;exact⟨mc,hns.at' λo e=>hk cStatics (by simp) o e,hnn⟩),
   (by refine Ab st.2.2.2 λgs hgs hgo=>?_;exact⟨gs,hgs,λs'' hal hp=>hgo s'' (λb hb o e=>hal b hb o (hk b (mem_cons_of_mem _ (by simp only[E1,not_mem_nil,or_false]at hb⊢;rcases hb with rfl|rfl|rfl<;>simp)) o e)) hp⟩)⟩
 item:=λj s Q E hj st hQ=>by
  refine Bn st λhpos hg hl Z=>?_
  try clear st
  refine Ab Z λgs hgs hgo=>?_
  clear Z
  refine Ad (show∃m,N-j=m+1 from⟨N-j-1,by exact eT (Aq hj)⟩) λm hm=>?_
  rw[hm]at hgo
  refine wpAny_pyNext_genexpQ (P:=λn s₀ s₁=>n=0/\(GenSince C [I] s₀ s₁/\s₀.toks<=s₁.toks)) hh hl hroom hg hgs (hgo _ (λ_ _ _ e=>e) hpos) (λv s₁ gs' hb hv=>?_) (λs₁ hp h' hk=>?_)
  ·refine At hv λY V hkap=>?_
   try clear hv
   refine Ab Y λi hi hF=>?_
   clear Y
   refine Ae V λU htk=>?_
   clear V
   refine A1 U λh₁ tk₁ z4 hk₁=>?_
   clear U
   subst z4
   have hij:i=j:=by
    have:m+1-1=m:=rfl
    exact le_antisymm (Aq (Bk (Bk (Bk (Bt hi) (Cv (N) (j))) (Bt hm)) (Bt this.symm))) (Aq (Bk (Bk (Bk (Bt (sub_add_cancel (Aq hj:j<=N))) (Bt hi.symm)) (Bt this)) (Bt hm.symm)))
   subst hij
   have htk':s.toks<=tk₁:=htk
   refine hQ v _ hF ⟨lt_of_lt_of_le hpos htk',(by refine Ce hg λo nm qn ho r=>?_;try clear hg;exact⟨o,nm,qn,hk₁ a o haC (by simp[haI]) ho,r⟩),(by refine Ab hl λmc hns hnn=>?_;try clear hl;exact⟨mc,hns.at' λo e=>hk₁ cStatics o hcC (by simp[hcI]) e,hnn⟩),gs',setGen_self (gs:=.running) (setGen_self hgs),λs'' hal hp''=>?_⟩
    ⟨λb o hb e=>hk₁ b o (λh=>hb (h▸Ht ..)) (λh=>hb (mem_cons_of_mem _ h)) e,GenOnlyQ.of ((GenOnly.setGen s g .running).trans (GenOnly.setGen _ g gs')) (setGen_self (gs:=.running) (setGen_self hgs)) hb,rfl,rfl,htk'⟩
   have e:N-(i+1)=m:=by exact le_antisymm (Aq (Bk (Bk (Bt (sub_add_cancel (Aq (Bt hi):i+1<=N))) (Bt hi.symm)) (Bt (sub_add_cancel (by simp +arith only:1<=m+1))))) (Aq (Bk (Bk (Cv (m+1) (1)) (Bt hi)) (Cv (N) (i+1))))
   rw[e]
   exact hkap s'' hal hp''
  ·exact absurd hp.1 (succ_ne_zero m)
 done:=λs Q E st hQ=>by
  refine Bn st λhpos hg hl z0=>?_
  try clear st
  refine Ab z0 λgs hgs hgo=>?_
  clear z0
  rw[sub_self]at hgo
  refine wpAny_pyNext_genexpQ (P:=λn s₀ s₁=>n=0/\(GenSince C [I] s₀ s₁/\s₀.toks<=s₁.toks)) hh hl hroom hg hgs (hgo _ (λ_ _ _ e=>e) hpos) (λv s₁ gs' hb hv=>?_) (λs₁ hp h' hk=>?_)
  ·refine At hv λ_ z1 hkap=>?_
   try clear hv
   refine Ae z1 λz2 htk=>?_
   clear z1
   refine A1 z2 λh₁ tk₁ z5 hk₁=>?_
   clear z2
   subst z5
   exact False.elim (hkap {s with heap:=h₁,toks:=tk₁} (λ_ _ _ e=>e) (lt_of_lt_of_le hpos htk))
  ·refine At hp λ_ z3 htk=>?_
   try clear hp
   refine A1 z3 λh₁ tk₁ z6 hk₁=>?_
   clear z3
   subst z6
   have htk':s.toks<=tk₁:=htk
   exact hQ _ ⟨λb o hb e=>hk b o (hk₁ b o (λh=>hb (h▸Ht ..)) (λh=>hb (mem_cons_of_mem _ h)) e),GenOnlyQ.of ((GenOnly.setGen s g .running).trans (GenOnly.setGen _ g .finished)) (setGen_self (gs:=.running) (setGen_self hgs)) rfl,rfl,rfl,htk'⟩
 self:=λ_ _ _ _ st hQ=>wpAny_pyIter_gen st.2.1 hQ
end
section
variable {α β γ δ:Type}{Γ:W}{K:Cj}{A:Around}{env:Env}{G G₀ G':Gh}{ι ι':List Addr}{σ:St}{s s':Shared}
theorem gK (H:Ev Γ A env){c P:Addr}{pos:Pos}{qual:Str}{scope:Scope}(hcode:env.code=.ref c)(hcP:(c,P)∈Γ.tabs)(mk:∀G cv pos',pos'.line=pos.line->pos'.col=pos.col->Bd G cv qual->Γ.codeOk P pos' G cv)
  (F:Aa Γ K env G ι σ s):wpAny (model Γ.prog Γ.w) A (genexprCode env pos qual scope) (λcode s₃=>∃G1,G.le G1/\Aa Γ K env G1 ι σ s₃/\(∀b o,b≠P->s.heap.get? b=some o->s₃.heap.get? b=some o)/\
   (∀b,b<s.heap.objs.size->G1 b=G b)/\s.heap.objs.size<=s₃.heap.objs.size/\s₃.gens=s.gens/\s₃.os=s.os) (λ_ _=>False) s:=by
 refine At (F.store.tabs _ hcP) λtP1 tP2 Z=>?_
 refine Do Z λps t0 ic Y q=>?_
 clear Z
 refine Ad Y λog eg=>?_
 clear Y
 have hP:s.heap.get? P=some (tabObj ps):=t0.2
 cases hf:codeAmong pos ps.toList with
 |none=>
  refine Ba (Ax (wpAny_genexprCodeX (E:=λ_ _=>False) (Q:=λv s'=>∃(c':Addr) (h':Heap) (tk:Nat) (oc:Obj),Heap.ExtBut P s.heap h'/\s.heap.objs.size<=c'/\c'<h'.objs.size/\h'.get? c'=some oc/\(∀G:Gh,G c'=some oc->Bd G (.ref c') qual)/\h'.get? P=some (tabObj (ps++#[rawInt pos.line,rawInt pos.col,.ref c']))/\
   v=.ref c'/\s'={s with heap:=h',toks:=tk}) hcode ic t0 hf ?_)) (λv s' V=>Ae V λU hle=>Cd U λc' h' tk oc h1 h2 h2' h3 h4 zz=>At zz λh5 e1 e2=>?_) λ_ _ x=>x
  ·intro c' h' tk hx hge hlt _ hrec htb _
   refine C3 hrec λc2 oc vs t e h3 h4 h5=>?_
   try clear hrec
   cases e
   exact⟨c',h',tk,oc,hx,hge,hlt,h3,λG hG=>⟨c',oc,vs,t,rfl,hG,h4,h5⟩,htb.2,rfl,rfl⟩
  ·subst e1 e2
   refine Ae (F.growTab H.ok hcP hP h1 h2 h3 h5 (λpos' e1 e2=>mk _ _ pos' e1 e2 (h4 _ (Gh.put_self _ _ _))) tk (lt_of_lt_of_le F.tk hle)) λl1 F1=>?_
   exact⟨_,l1,F1,λb o hb e=>h1 b o hb e,λb hb=>Gh.put_ne (ne_of_lt (lt_of_lt_of_le hb h2)),Ao h2 (le_of_lt h2'),rfl,rfl⟩
 |some cv=>exact wpAny_genexprCode_hit hcode ic hf ⟨G,Gh.le.refl _,F,λb o _ e=>e,λ_ _=>rfl,le_refl _,rfl,rfl⟩
theorem gH (H:Ev Γ A env){s₃ s5:Shared}{C I a ax:Addr}{vs:Array Value}{ys:List (List Nat)}{f:List Nat->List Nat}{sep:List Nat}{t:Tok}{elt iter:Expr}{x:Str}{px:Pos}{scope:Scope}{pos:Pos}{code:Value}{m:Str->Option Value}{G1:Gh}{Q:D->St->Prop}
  (F3:Aa Γ K env G1 ι σ s₃)(l1:G.le G1)(hI:∀b,(G1 b≠none\/b∈ι\/b∈Γ.tabs.map (·.2)\/Jm env b\/K.old b≠none)->b≠I)
  (hg5:s5.gens=s₃.gens.push (.fresh (.compStart (.GeneratorExp elt [⟨.Name x px,iter,[],0⟩] scope pos) 0 (.ref I) .none (genEnv scope [] C code builtinsNs env))))(ho5:s5.os=s₃.os)(hd5:s5.drawn=s₃.drawn)(ht5:s₃.toks<=s5.toks)
  (k5:∀b o,s₃.heap.get? b=some o->s5.heap.get? b=some o)(hgen:s5.heap.IsGen a s₃.gens.size)(hn':s5.heap.Ns C m)(hit3:s₃.heap.IsListIter I ax 0)(hl3:s₃.heap.IsList ax vs)
  (hne1:ax≠I)(hne2:C≠I)(hne3:C≠ax)(haC:a≠C)(haI:a≠I)(haax:a≠ax)(hsC:cStatics≠C)(hsI:cStatics≠I)(hfp:∀b∈[a,C,I,ax,cStatics],b<s5.heap.objs.size)(hnl3:s₃.heap.NoLimit)(hC3:C=s₃.heap.objs.size)(hlen:vs.size=ys.length)
  (hx:scope.names.lookup x=some .local)(hkind:scope.kind=.function)(hco:scope.isCoroutine=false)
  (hel:Rq Γ.prog Γ.w (genEnv scope [] C code builtinsNs env) x elt vs (λi v=>∃z u,ys[i]? =some z/\v=.str ⟨(f z).toArray⟩ u))
  (hz:((ys.map f).map λx=>x.length+sep.length).sum<=sizeLine)(hn:ys.length<=sizeLine)(q:Q (.str (I7 sep (ys.map f))) σ):
  wpAny (model Γ.prog Γ.w) A (call (.builtin "str.join") [.str ⟨sep.toArray⟩ t,.ref a]) (As Γ K env VR G ι Q) (λ_ _=>False) s5:=by
 have hA:A.in1.in1.handled=none:=H.handled
 have W:=bW (prog:=Γ.prog) (w:=Γ.w) (A:=A.in1.in1) hA a s₃.gens.size C I ax vs.size (λi v=>∃z u,ys[i]? =some z/\v=.str ⟨(f z).toArray⟩ u) haC haI haax
  (by have:=H.depth;show A.depth<recursionLimit;exact Aq this) hsC hsI
 refine Ba (Ax (SC.joinGen (E:=λ_ _=>False) (x:=⟨sep.toArray⟩) (t:=t) (Q:=λv s''=>∃(s':Shared) (t':Tok) (tk:Nat),Moved [C,I] (GenOnlyQ s₃.gens.size) s5 s'/\v=.str (Txt.join ⟨sep.toArray⟩ ((ys.map f).map λx=>⟨x.toArray⟩)) t'/\s''={s' with toks:=tk}) W
  (λi s st=>st.2.1.typeIs) ?gst hfp (by simp) (λi v h2_=>by refine A1 h2_ λz u _ e=>?_;try clear h2_;exact⟨_,_,e⟩) (λs' l hm hacc=>?hq) (by rw[hlen];exact hn))) ?fin λ_ _ x=>x
 case gst=>
  refine⟨lt_of_lt_of_le F3.tk ht5,hgen,hnl3.keeps k5,.fresh (.compStart (.GeneratorExp elt [⟨.Name x px,iter,[],0⟩] scope pos) 0 (.ref I) .none (genEnv scope [] C code builtinsNs env)),by rw[hg5];simp,λs'' hal hp=>⟨rfl,?_⟩⟩
  exact bX (A:=A.in1.in1.in1) (cenv:=genEnv scope [] C code builtinsNs env) H.handled hne1 _ hx (by simp[genEnv,hkind]) hco hne2 hne3 hel s'' _
   (by refine Ab hit3 λo e r=>?_;try clear hit3;exact⟨o,hal _ (by simp) _ (k5 _ _ e),r⟩) (by refine Ab hl3 λo e r=>?_;try clear hl3;exact⟨o,hal _ (by simp) _ (k5 _ _ e),r⟩) (hn'.at' λo e=>hal _ (by simp[genEnv]) o e) hp
 case hq=>
  have hl:l.map (·.1)=(ys.map f).map λx=>(⟨x.toArray⟩:Str):=by
   apply List.ext_getElem?
   intro j
   have hsz:l.length=ys.length:=by rw[<-hlen];simpa[strValues]using hacc.1
   by_cases hj:j<ys.length
   ·have hj':j<l.length:=hsz▸hj
    refine A1 (hacc.2 j (.str l[j].1 l[j].2) (by simp[strValues,Fz hj'])) λz u h1 h2=>?_
    injection h2 with h2 _
    rw[List.getElem?_map,Fz hj',List.getElem?_map,List.getElem?_map,h1]
    simp[h2]
   ·rw[List.getElem?_eq_none (by simpa[hsz]using le_of_not_lt hj),List.getElem?_eq_none (by simpa using le_of_not_lt hj)]
  rw[hl]
  exact⟨Yt hz,λt' k=>⟨s',t',k,hm,rfl,rfl⟩⟩
 case fin=>
  intro v s'' Z
  refine Ae Z λY hle=>?_
  clear Z
  refine Ez Y λs' t' tk hm e1 e2=>?_
  clear Y
  subst e1 e2
  have hin:∀b,(G1 b≠none\/b∈ι\/b∈Γ.tabs.map (·.2)\/Jm env b\/K.old b≠none)->b∉[C,I]:=λb hb hm=>by
   simp only[E1,not_mem_nil,or_false]at hm
   rcases hm with e|e
   ·have:=F3.lt_own hb
    rw[e,hC3]at this;exact lt_irrefl _ this
   ·exact hI b hb e
  have F6:Aa Γ K env G1 ι σ ⟨s'.heap,s'.gens,s'.drawn,tk,s₃.os⟩:=F3.ext (λb o hb e=>hm.heap b o (hin b (by
   rcases hb with hb|hb|hb|hb|hb
   ·exact .inl (by rw[hb];exact Option.some_ne_none _)
   ·exact .inr (.inl hb)
   ·exact .inr (.inr (.inl hb))
   ·exact .inr (.inr (.inr (.inl hb)))
   ·exact .inr (.inr (.inr (.inr (by rw[hb];exact Option.some_ne_none _)))))) (k5 b o e)) (by
   have hgp:A4 s₃.gens s5.gens:=by rw[hg5];exact(A4.refl _).push rfl
   rcases hm.gens with e|⟨⟨e1,e2⟩,e3⟩
   ·rw[e];exact hgp
   ·refine⟨by rw[e1];exact hgp.1,λi hi=>(e2 i (ne_of_lt hi)).trans (hgp.2.1 i hi),λi y hi hy=>?_⟩
    by_cases hig:i=s₃.gens.size
    ·subst hig;exact e3 _ hy
    ·rw[e2 i hig]at hy;exact hgp.2.2 i y hi hy) (lt_of_lt_of_le (lt_of_lt_of_le F3.tk ht5) hle)
  have e6:({s' with toks:=tk}:Shared)=⟨s'.heap,s'.gens,s'.drawn,tk,s₃.os⟩:=by rw[<-ho5,<-hm.os]
  rw[e6]
  exact(Ix F6 (Qz _ _) q).up l1 (Bp.refl _)
theorem gJ (H:Ev Γ A env){c P:Addr}{pos px pc:Pos}{scope:Scope}{elt:Expr}{x y:String}{d:D}{ys:List (List Nat)}{f:List Nat->List Nat}{sep:List Nat}{t:Tok}{Q:D->St->Prop}(hcode:env.code=.ref c)(hcP:(c,P)∈Γ.tabs)
  (mk:∀G cv pos',pos'.line=pos.line->pos'.col=pos.col->Bd G cv (env.qual++"<genexpr>")->Γ.codeOk P pos' G cv)
  (hco:scope.isCoroutine=false)(hclos:closureFor scope env=pure [])(hcell:∀z∈scope.names,z.2≠ .cell)(h0:scope.names.lookup (".0":Str)=some NameKind.local)(hx:scope.names.lookup (ofString x)=some .local)(hkind:scope.kind=.function)
  (hd:(ofString y==("__debug__":Str))=false)(hc:(ofString y==("__classdict__":Str))=false)(hs:∀v,genFold (.Name (ofString y) pc) env v=pure v)
  (F:Aa Γ K env G ι σ s)(hy:σ.get y=some d)(hi:Al σ.own d=some (ys.map D.str))
  (helt:∀(C:Addr) (code:Value) (vs:Array Value),(∀(i:Nat) (v:Value),vs[i]? =some v->∃z u,ys[i]? =some z/\v=.str ⟨z.toArray⟩ u)->Rq Γ.prog Γ.w (genEnv scope [] C code builtinsNs env) (ofString x) elt vs (λi v=>∃z u,ys[i]? =some z/\v=.str ⟨(f z).toArray⟩ u))
  (hz:((ys.map f).map λx=>x.length+sep.length).sum<=sizeLine)(hn:ys.length<=sizeLine)(q:Q (.str (I7 sep (ys.map f))) σ):
  wpAny (model Γ.prog Γ.w) A (eval (.GeneratorExp elt [⟨.Name (ofString x) px,.Name (ofString y) pc,[],0⟩] scope pos) env)
   (λv s5=>wpAny (model Γ.prog Γ.w) A (call (.builtin "str.join") [.str ⟨sep.toArray⟩ t,v]) (As Γ K env VR G ι Q) (λ_ _=>False) s5) (λ_ _=>False) s:=by
 refine wpAny_GeneratorExp_make hco hclos hcell h0 hkind (by have:=H.depth;exact Aq this) (wpAny_Name (D9 H F hy hc λv rv=>?_) hd) hs
 refine Ag (A2 F.store rv hi) λax vs U hl rl=>?_
 subst U
 have hB:∀b o,Γ.B.get? b=some o->s.heap.get? b=some o:=λb o e=>F.store.gin _ _ (F.store.base _ _ e)
 refine wpAny_pyIter_list hl ⟨((H.ok.nolimit.keeps hB).push _),?_⟩
 have F2:=F.push {cls:=.type "list_iterator",data:=.fields #[.ref ax,.int 0 0]} s.toks
 refine Ba (gK H hcode hcP mk F2) (λcode s₃ z0=>Dn z0 λG1 l1 F3 k3 g3 zz=>At zz λsz3 eg eo=>?_) λ_ _ x=>x
 have hB3:∀b o,Γ.B.get? b=some o->s₃.heap.get? b=some o:=λb o e=>F3.store.gin _ _ (F3.store.base _ _ e)
 refine Bz H.ok.bm λbm ob hm1 hm2 hm3 zz=>Bn zz λhm4 hm5 hm6 hm7=>?_
 refine wpAny_builtinsFor (by rw[H.glob];exact H.ok.g.keeps hB3) hm1 hm2 (hB3 _ _ hm4) hm5 hm6 hm7 ?_
 intro h' hn' hs'
 have hsz:h'.objs.size=s₃.heap.objs.size+1:=by rw[hs'.1,Heap.size_push]
 refine At (F.store.tabs _ hcP) λtP1 tP2 Z=>?_
 refine Do Z λps t0 ic Y qq=>?_
 clear Z
 refine Ad Y λog egg=>?_
 clear Y
 have hPlt:P<s.heap.objs.size:=Heap.lt_size t0.2
 have hI2:(s.heap.push {cls:=.type "list_iterator",data:=.fields #[.ref ax,.int 0 0]}).objs.size=s.heap.objs.size+1:=Heap.size_push _ _
 have sz3':s.heap.objs.size+1<=s₃.heap.objs.size:=by have:=sz3;simp only[hI2]at this;exact this
 have haxlt:ax<s.heap.objs.size:=by refine Ab hl λ_ e _=>?_;try clear hl;exact Heap.lt_size e
 have haxP:ax≠P:=λe=>by
  refine Au hl λo ho hcl _=>?_
  try clear hl
  rw[e,t0.2]at ho;cases ho;cases hcl
 have kC:∀b o,s₃.heap.get? b=some o->h'.get? b=some o:=λb o e=>hs'.extBut b o (ne_of_lt (Heap.lt_size e)) (Ft _ e)
 have hit3:s₃.heap.IsListIter s.heap.objs.size ax 0:=⟨_,k3 _ _ (ne_of_gt hPlt) (Heap.get?_push_size _ rfl),rfl,rfl⟩
 have hl3:s₃.heap.IsList ax vs.toArray:=by
  refine Ab hl λo ho r=>?_
  try clear hl
  exact⟨o,k3 _ _ haxP (Ft _ ho),r⟩
 have hnl3:s₃.heap.NoLimit:=H.ok.nolimit.keeps hB3
 have hclt:cStatics<s.heap.objs.size:=by
  refine Ab (H.ok.nolimit.keeps hB) λ_ hns _=>?_
  exact hns.lt
 generalize hg5:({cls:=Value.type "generator",data:=Data.fields #[Value.int (↑s₃.gens.size) 0,Value.str (ofString "<genexpr>") (s₃.toks+1),Value.str (env.qual++ofString "<genexpr>") (s₃.toks+1+1)]}:Obj)=og5
 have k5:∀b o,s₃.heap.get? b=some o->(h'.push og5).get? b=some o:=λb o e=>Ft _ (kC b o e)
 have hvs:∀(i:Nat) (v:Value),vs.toArray[i]? =some v->∃z u,ys[i]? =some z/\v=.str ⟨z.toArray⟩ u:=λi v hv=>by
  have hv':vs[i]? =some v:=by simpa using hv
  have hlt:i<ys.length:=by
   have:=rl.length
   rw[B2]at this
   rw[<-this];exact(H7.mp hv').1
  have hds:(ys.map D.str)[i]? =some (.str ys[i]):=by rw[List.getElem?_map,Fz hlt];rfl
  refine Ab (rl.getElem? hds) λv' e1 V=>?_
  refine Ad V λu e2=>?_
  clear V
  rw[hv']at e1;cases e1
  exact⟨ys[i],u,Fz hlt,e2⟩
 have hel:=helt s₃.heap.objs.size code vs.toArray hvs
 have hne1:ax≠s.heap.objs.size:=ne_of_lt haxlt
 have hlt3:s.heap.objs.size<s₃.heap.objs.size:=sz3'
 have hne2:s₃.heap.objs.size≠s.heap.objs.size:=ne_of_gt hlt3
 have hne3:s₃.heap.objs.size≠ax:=ne_of_gt (lt_trans haxlt hlt3)
 have hlt5:s₃.heap.objs.size<h'.objs.size:=by rw[hsz];exact lt_succ_self _
 have hlen0:vs.toArray.size=ys.length:=by
  have:=rl.length
  rw[B2]at this
  rw[size_toArray];exact this
 refine gH H (s₃:=s₃) (C:=s₃.heap.objs.size) (I:=s.heap.objs.size) (a:=h'.objs.size) (ax:=ax) (vs:=vs.toArray) (ys:=ys) (f:=f) (sep:=sep) (t:=t) (elt:=elt) (iter:=.Name (ofString y) pc) (x:=ofString x) (px:=px) (scope:=scope) (pos:=pos) (code:=code) F3 l1 (λb hb e=>?_) rfl rfl rfl (le_add_right _ 3) k5 ⟨_,_,_,Heap.get?_push_size _ (by rw[<-hg5];rfl),by rw[<-hg5],by rw[<-hg5],by rw[<-hg5]⟩ (hn'.push _) hit3 hl3 hne1 hne2 hne3 (ne_of_gt hlt5) (ne_of_gt (lt_trans hlt3 hlt5)) (ne_of_gt (lt_trans haxlt (lt_trans hlt3 hlt5)))
  (ne_of_lt (lt_trans hclt hlt3)) (ne_of_lt hclt) ?_ hnl3 rfl hlen0 hx hkind hco hel hz hn q
 ·subst e
  rcases hb with hb|hb|hb|hb|hb
  ·rw[g3 _ (by rw[hI2];exact lt_succ_self _)]at hb
   exact lt_irrefl _ (F.lt_own (.inl hb))
  ·exact lt_irrefl _ (F.lt_own (.inr (.inl hb)))
  ·exact lt_irrefl _ (F.lt_own (.inr (.inr (.inl hb))))
  ·exact lt_irrefl _ (F.lt_own (.inr (.inr (.inr (.inl hb)))))
  ·exact lt_irrefl _ (F.lt_own (.inr (.inr (.inr (.inr hb)))))
 ·intro b hb
  show b<(h'.push og5).objs.size
  rw[Heap.size_push]
  simp only[E1,not_mem_nil,or_false]at hb
  rcases hb with rfl|rfl|rfl|rfl|rfl
  ·exact lt_succ_self _
  ·exact lt_succ_of_lt hlt5
  ·exact lt_succ_of_lt (lt_trans hlt3 hlt5)
  ·exact lt_succ_of_lt (lt_trans haxlt (lt_trans hlt3 hlt5))
  ·exact lt_succ_of_lt (lt_trans hclt (lt_trans hlt3 hlt5))
end
section
variable {prog:Program}{w:World}{A:Around}{E:Value->Shared->Prop}{s:Shared}
theorem Keeps.trans' {a b c:Shared}(x:Keeps a b)(y:Keeps b c):Keeps a c:=by
 refine A1 x λh t Z k=>?_
 try clear x
 subst Z
 refine A1 y λh' t' Y k'=>?_
 try clear y
 subst Y
 exact⟨h',t',rfl,λb o e=>k' b o (k b o e)⟩
theorem eA {cenv:Env}{o:Expr}{y z:String}{k1 k2:Nat}{apos pos p1 p2:Pos}{q:List Nat}(hpos:0<s.toks)(ho:wpAny (model prog w) A (eval o cenv) (λv s'=>(∃u,v=.str ⟨q.toArray⟩ u)/\Keeps s s') E s)
  (hs:starEach [.Constant (.str (ofString y)) k1 p1,.Constant (.str (ofString z)) k2 p2] cenv=(false,eval (.Constant (.str (ofString y)) k1 p1) cenv)::starEach [.Constant (.str (ofString z)) k2 p2] cenv)
  (hbase:attributeBase o (ofString "replace") cenv (eval o cenv)=eval o cenv)
  (hfew:((backTo pos (starEach [.Constant (.str (ofString y)) k1 p1,.Constant (.str (ofString z)) k2 p2] cenv)).all (λx=> !x.1)&&(backToKw pos (keywordEach [] cenv)).all (λx=>x.1.isSome)&&decide ([Expr.Constant (.str (ofString y)) k1 p1,.Constant (.str (ofString z)) k2 p2].length+([]:List Keyword).length+(if([]:List Keyword).isEmpty then 0 else 1)<30))=true)
  (hline:(apos.endLine==pos.line)=true)(hp:(backTo pos (starEach [.Constant (.str (ofString z)) k2 p2] cenv)).any (·.1)=false)(hne:(ofString y==ofString z)=false)(hb:q.length+(q.length+1)*(cs z).length<=16777216):
  wpAny (model prog w) A (eval (.Call (.Attribute o (ofString "replace") apos) [.Constant (.str (ofString y)) k1 p1,.Constant (.str (ofString z)) k2 p2] [] pos) cenv)
   (λv s'=>(∃u,v=.str ⟨(Cz q (cs y) (cs z)).toArray⟩ u)/\Keeps s s') E s:=by
 refine wpAny_Call_method_late hbase hfew hline rfl (Ba (Ax ho) (λv s0 Z=>Ae Z λY hle=>Ae Y λV hk=>Ad V λt e=>?_) λ_ _ x=>x)
 subst e
 refine⟨"str",_,PySem.F.plainAttrs_str,PySem.F.slot_str_replace,PySem.F.type_str_replace,typeIs_str _ _ _,(λa e=>nomatch e),?_⟩
 refine callWith_method1 (wpAny_items_cons (wpAny_Constant_str (wpAny_items_cons (wpAny_Constant_str (wpAny_items_nil ?_))))) hs hp
 have tk:0<s0.toks:=lt_of_lt_of_le hpos hle
 refine SC.replace (s:={s0 with toks:=s0.toks+1+1}) (x:=⟨q.toArray⟩) (t:=t) (u:=s0.toks) (v:=s0.toks+1) (ne_of_gt tk) (succ_ne_zero _) (ne_of_lt (lt_succ_self _)) hne (by rw[Bm,Fq,Bm];exact hb) λt' k=>⟨⟨t',?_⟩,Keeps.trans' hk ⟨s0.heap,k,rfl,λ_ _ e=>e⟩⟩
 unfold Cz
 rw[<-Fq,<-Fq]
theorem U1 (x y z:List Nat):(Cz x y z).length<=x.length+(x.length+1)*z.length:=by
 have ho:=StrLaws.occ_length_le ⟨x.toArray⟩ ⟨y.toArray⟩ 0 x.length (x.length+1)
 have hx:=StrLaws.glued_between_self ⟨x.toArray⟩ ⟨y.toArray⟩ (x.length+1)
 have hl:=congrArg Str.length hx
 rw[size_glued,length_partsBetween,Nat.add_sub_cancel,Bm,Bm]at hl
 have hg:=size_glued ⟨z.toArray⟩ (Builtin.Str.partsBetween ⟨x.toArray⟩ (Builtin.Str.occurrences ⟨x.toArray⟩ ⟨y.toArray⟩ 0 x.length (x.length+1)) y.length)
 rw[length_partsBetween,Nat.add_sub_cancel,Bm]at hg
 have h2:=Nat.mul_le_mul_right z.length ho
 have e1:∀t:Str,t.cps.toList.length=t.length:=λt=>by simp[Str.length]
 unfold Cz Txt.replace
 rw[Bm,Bm,e1]
 split
 ·rw[Bm];exact le_add_right _ _
 ·rw[e1]at hg
  simp only[Bm]at hg
  rw[hg]
  exact Aq (Bk (Bt hl) h2)
theorem kU {env:Env}{scope:Scope}{C:Addr}{code:Value}{x y1 z1 y2 z2:String}{p0 a1 q1 a2 q2 r1 r2 r3 r4:Pos}{j1 j2 j3 j4:Nat}{ys:List (List Nat)}{vs:Array Value}(hkind:scope.kind=.function)(hx:scope.names.lookup (ofString x)=some .local)(hd:(ofString x==("__debug__":Str))=false)
  (hl1:(a1.endLine==q1.line)=true)(hl2:(a2.endLine==q2.line)=true)(hn1:(ofString y1==ofString z1)=false)(hn2:(ofString y2==ofString z2)=false)(hz1:(cs z1).length<=4)(hz2:(cs z2).length<=4)(hys:∀z∈ys,z.length<=1000)
  (hvs:∀(i:Nat) (v:Value),vs[i]? =some v->∃z u,ys[i]? =some z/\v=.str ⟨z.toArray⟩ u):
  Rq prog w (genEnv scope [] C code builtinsNs env) (ofString x) (.Call (.Attribute (.Call (.Attribute (.Name (ofString x) p0) (ofString "replace") a1) [.Constant (.str (ofString y1)) j1 r1,.Constant (.str (ofString z1)) j2 r2] [] q1) (ofString "replace") a2) [.Constant (.str (ofString y2)) j3 r3,.Constant (.str (ofString z2)) j4 r4] [] q2) vs
   (λi v=>∃z u,ys[i]? =some z/\v=.str ⟨(Cz (Cz z (cs y1) (cs z1)) (cs y2) (cs z2)).toArray⟩ u):=by
 intro A' E' i v s₂ m₂ hA hv hpos hns hm
 refine A1 (hvs i v hv) λz u hz Y=>?_
 subst Y
 have hzl:=hys z (List.mem_of_getElem? hz)
 have h1:=U1 z (cs y1) (cs z1)
 have h2:(z.length+1)*(cs z1).length<=(z.length+1)*4:=mul_le_mul_left _ hz1
 have h3:((Cz z (cs y1) (cs z1)).length+1)*(cs z2).length<=((Cz z (cs y1) (cs z1)).length+1)*4:=mul_le_mul_left _ hz2
 have h4:(Cz z (cs y1) (cs z1)).length<=5004:=Ao h1 (Bk hzl (Ao h2 (Nat.mul_le_mul_right 4 (succ_le_succ hzl))))
 refine Ba (eA hpos (eA hpos (ldG hns hm ⟨⟨u,rfl⟩,s₂.heap,s₂.toks,rfl,λ_ _ e=>e⟩ hkind hx hd) rfl rfl rfl hl1 rfl hn1 (Ao (Bk hzl (Ao h2 (Nat.mul_le_mul_right 4 (succ_le_succ hzl)))) (by decide))) rfl rfl rfl hl2 rfl hn2 (Ao (Bk h4 (Ao h3 (Nat.mul_le_mul_right 4 (succ_le_succ h4)))) (by decide))) (λv s' h2_=>by refine Ae h2_ λZ hk=>?_;try clear h2_;refine Ad Z λu' e=>?_;clear Z;exact⟨⟨z,u',hz,e⟩,hk⟩) λ_ _ x=>x
end
section
variable {α β γ δ:Type}{Γ:W}{K:Cj}{A:Around}{env:Env}{G G₀ G':Gh}{ι ι':List Addr}{σ:St}{s s':Shared}
theorem Tp (H:Ev Γ A env){c P:Addr}{sep x y y1 z1 y2 z2:String}{pos px pc p0 a1 q1 a2 q2 r1 r2 r3 r4 apos cpos ps:Pos}{j0 j1 j2 j3 j4:Nat}{scope:Scope}(hcode:env.code=.ref c)(hcP:(c,P)∈Γ.tabs)
  (mk:∀G cv pos',pos'.line=pos.line->pos'.col=pos.col->Bd G cv (env.qual++"<genexpr>")->Γ.codeOk P pos' G cv)
  (hco:scope.isCoroutine=false)(hclos:closureFor scope env=pure [])(hcell:∀z∈scope.names,z.2≠ .cell)(h0:scope.names.lookup (".0":Str)=some NameKind.local)(hx:scope.names.lookup (ofString x)=some .local)(hkind:scope.kind=.function)
  (hd:(ofString y==("__debug__":Str))=false)(hc:(ofString y==("__classdict__":Str))=false)(hdx:(ofString x==("__debug__":Str))=false)(hs:∀v,genFold (.Name (ofString y) pc) env v=pure v)
  (hl1:(a1.endLine==q1.line)=true)(hl2:(a2.endLine==q2.line)=true)(hn1:(ofString y1==ofString z1)=false)(hn2:(ofString y2==ofString z2)=false)(hz1:(cs z1).length<=4)(hz2:(cs z2).length<=4)
  {ge:Expr}(hge:ge=.GeneratorExp (.Call (.Attribute (.Call (.Attribute (.Name (ofString x) p0) (ofString "replace") a1) [.Constant (.str (ofString y1)) j1 r1,.Constant (.str (ofString z1)) j2 r2] [] q1) (ofString "replace") a2) [.Constant (.str (ofString y2)) j3 r3,.Constant (.str (ofString z2)) j4 r4] [] q2) [⟨.Name (ofString x) px,.Name (ofString y) pc,[],0⟩] scope pos)
  (hst:starEach [ge] env=(false,eval ge env)::starEach [] env)
  (hbase:attributeBase (.Constant (.str (ofString sep)) j0 ps) (ofString "join") env (eval (.Constant (.str (ofString sep)) j0 ps) env)=eval (.Constant (.str (ofString sep)) j0 ps) env)
  (hfew:((backTo cpos (starEach [ge] env)).all (λx=> !x.1)&&(backToKw cpos (keywordEach [] env)).all (λx=>x.1.isSome)&&decide ([ge].length+([]:List Keyword).length+(if([]:List Keyword).isEmpty then 0 else 1)<30))=true)
  (hline:(apos.endLine==cpos.line)=true):
  Bl Γ A env (.Call (.Attribute (.Constant (.str (ofString sep)) j0 ps) (ofString "join") apos) [ge] [] cpos)
   (λσ Q=>∃(d:D) (ys:List (List Nat)),σ.get y=some d/\Al σ.own d=some (ys.map D.str)/\(∀z∈ys,z.length<=1000)/\ys.length<=sizeLine/\((ys.map λz=>Cz (Cz z (cs y1) (cs z1)) (cs y2) (cs z2)).map λx=>x.length+(cs sep).length).sum<=sizeLine/\
    Q (.str (I7 (cs sep) (ys.map λz=>Cz (Cz z (cs y1) (cs z1)) (cs y2) (cs z2)))) σ):=λK G ι σ s Q F Z=>Bz Z λd ys hy hi hys zz=>At zz λhn hz q=>by
 subst hge
 refine wpAny_Call_method_late hbase hfew hline rfl (wpAny_Constant_str ?_)
 have F1:=F.toks (s.toks+1)
 refine⟨"str",_,PySem.F.plainAttrs_str,PySem.F.slot_str_join,PySem.F.type_str_join,typeIs_str _ _ _,(λa e=>nomatch e),?_⟩
 have key:=gJ (Q:=Q) (t:=s.toks) (sep:=cs sep) (f:=λz=>Cz (Cz z (cs y1) (cs z1)) (cs y2) (cs z2)) (c:=c) (P:=P) (pos:=pos) (px:=px) (pc:=pc) (scope:=scope) (x:=x) (y:=y) H hcode hcP mk hco hclos hcell h0 hx hkind hd hc hs F1 hy hi (λC code vs hvs=>kU (p0:=p0) (a1:=a1) (q1:=q1) (a2:=a2) (q2:=q2) (r1:=r1) (r2:=r2) (r3:=r3) (r4:=r4) (j1:=j1) (j2:=j2) (j3:=j3) (j4:=j4) hkind hx hdx hl1 hl2 hn1 hn2 hz1 hz2 hys hvs) hz hn q
 rw[<-Fq]at key
 refine callWith_method1 (wpAny_items_cons (Ba key (λv s5 h=>wpAny_items_nil ?_) λ_ _ x=>x)) hst rfl
 exact h
theorem Tz {prog:Program}{w:World}{A:Around}{E:Value->Shared->Prop}{s:Shared}{d:Addr}{f:Int->Option Value}{c:Nat}{x:Str}{t:Tok}{Q:Builtin.Str.Mapped->Shared->Prop}
  (hm:s.heap.MapOf (PySem.intKind prog w) d f)(hv:f c=some (.str x t))(h:∀tk,s.toks<=tk->Q (.text x) {s with toks:=tk}):wpAny (model prog w) A (Builtin.Str.tableLookup (.ref d) c) Q E s:=by
 unfold Builtin.Str.tableLookup
 refine Ai (wpAny_attempt (Ai (wpAny_mkInt (wpAny_getItem_of (knd:=PySem.intKind prog w) (k:=(c:Int)) (intKind_is _ _ _ _) hm hv ?_))))
 dsimp only
 refine Ai (wpAny_of_eq (a:=none) rfl ?_)
 dsimp only
 refine Ai (wpAny_of_eq (a:=some x) rfl ?_)
 exact Be (h _ (Ao (le_succ _) (le_succ _)))
theorem Wn {prog:Program}{w:World}{A:Around}{E:Value->Shared->Prop}{s:Shared}{d:Addr}{f:Int->Option Value}{c:Nat}{x:Str}{t t':Tok}{Q:Value->Shared->Prop}(hc:c<128)(hx:(x.length==1)=false)(hl:x.length<=sizeLine)
  (hm:s.heap.MapOf (PySem.intKind prog w) d f)(hv:f c=some (.str x t))(h:∀t' tk,s.toks<=tk->Q (.str x t') {s with toks:=tk}):wpAny (model prog w) A (call (.builtin "str.translate") [.str ⟨#[c]⟩ t',.ref d]) Q E s:=by
 refine wpAny_call_entry PySem.F.slot_str_translate (typeIs_str _ _ _) PySem.F.entry_str_translate ?_ (PySem.F.args_str_translate_2 _ _)
 unfold Builtin.«str.translate»
 refine Ai (wpAny_of_eq (a:=(.str ⟨#[c]⟩ t',⟨#[c]⟩,.ref d)) rfl ?_)
 dsimp only
 rw[Ay (by show¬((1:Nat)==0)=true;decide),show((⟨#[c]⟩:Str).cps.all λx=>decide (x<128))=true by simp[hc],<-Array.forIn_toList]
 show wpAny _ _ (forIn [c] _ _>>=_) _ _ _
 rw[forIn_cons]
 dsimp only
 rw[Bc rfl,Ay (by decide)]
 refine Ai (Ai ?_)
 show wpAny _ _ (Builtin.Str.tableLookup (.ref d) c>>=_) _ _ _
 refine Ai (Tz hm hv λtk htk=>?_)
 dsimp only
 rw[hx,Bool.false_and,Ay Bool.false_ne_true]
 refine Ai (Be ?_)
 dsimp only
 refine Ai (wpAny_rule ?_)
 rw[Ay Bool.false_ne_true]
 refine Ai (Tz (s:={s with toks:=tk}) hm hv λtk2 h2=>Be ?_)
 dsimp only
 rw[forIn_nil]
 refine Be ?_
 dsimp only
 rw[Ay (by rw[zero_add];exact λz=>not_lt.mpr hl (of_decide_eq_true z))]
 have e:(⟨List.foldl (λ(acc:Array Nat) (p:Str)=>acc++p.cps) #[] [x].reverse⟩:Str)=x:=by
  show(⟨#[]++x.cps⟩:Str)=x
  rw[Array.empty_append]
 rw[e]
 refine Ai (wpAny_mkStr (Be ⟨_,rfl,h _ _ (Ao htk (Ao h2 (le_succ _)))⟩))
theorem Yl {prog:Program}{w:World}{A:Around}{E:Value->Shared->Prop}{s:Shared}{d:Addr}{f:Int->Option Value}{c:Nat}{Q:Builtin.Str.Mapped->Shared->Prop}(hh:A.handled=none)(hd:(d==sysModules)=false)
  (hm:s.heap.MapOf (PySem.intKind prog w) d f)(hv:f c=none)(h:∀h' tk,(∀b o,s.heap.get? b=some o->h'.get? b=some o)->s.toks<=tk->Q .keep {s with heap:=h',toks:=tk}):wpAny (model prog w) A (Builtin.Str.tableLookup (.ref d) c) Q E s:=by
 unfold Builtin.Str.tableLookup
 refine Ai (wpAny_attempt (Ai (wpAny_mkInt (wpAny_getItem_missing_of (knd:=PySem.intKind prog w) (k:=(c:Int)) (intKind_is _ _ _ _) hd hh hm hv λh' e ne=>?_))))
 dsimp only
 refine Ag ne.there λob _ ho hc _=>?_
 refine Ai (wpAny_isInstance (T:="KeyError") (b:=true) ⟨ob,ho,hc⟩ (by rw[isSubtype_type];kernel_rfl) ?_)
 rw[Bc rfl]
 exact Ai (wpAny_rule (Be (h _ _ ne.keeps (Ao (le_succ _) (le_succ _)))))
theorem Up {prog:Program}{w:World}{A:Around}{E:Value->Shared->Prop}{s:Shared}{d:Addr}{f:Int->Option Value}{c:Nat}{t':Tok}{Q:Value->Shared->Prop}(hc:c<128)(hh:A.handled=none)(hd:(d==sysModules)=false)
  (hm:s.heap.MapOf (PySem.intKind prog w) d f)(hv:f c=none)(h:∀t' h' tk,(∀b o,s.heap.get? b=some o->h'.get? b=some o)->s.toks<=tk->Q (.str ⟨#[c]⟩ t') {s with heap:=h',toks:=tk}):wpAny (model prog w) A (call (.builtin "str.translate") [.str ⟨#[c]⟩ t',.ref d]) Q E s:=by
 refine wpAny_call_entry PySem.F.slot_str_translate (typeIs_str _ _ _) PySem.F.entry_str_translate ?_ (PySem.F.args_str_translate_2 _ _)
 unfold Builtin.«str.translate»
 refine Ai (wpAny_of_eq (a:=(.str ⟨#[c]⟩ t',⟨#[c]⟩,.ref d)) rfl ?_)
 dsimp only
 rw[Ay (by show¬((1:Nat)==0)=true;decide),show((⟨#[c]⟩:Str).cps.all λx=>decide (x<128))=true by simp[hc],<-Array.forIn_toList]
 show wpAny _ _ (forIn [c] _ _>>=_) _ _ _
 rw[forIn_cons]
 dsimp only
 rw[Bc rfl,Ay (by decide)]
 refine Ai (Ai ?_)
 show wpAny _ _ (Builtin.Str.tableLookup (.ref d) c>>=_) _ _ _
 refine Ai (Yl hh hd hm hv λh' tk hk htk=>?_)
 dsimp only
 refine Ai (Be ?_)
 dsimp only
 refine Be ?_
 dsimp only
 rw[forIn_nil]
 refine Be ?_
 dsimp only
 rw[Ay (by decide)]
 have e:(⟨List.foldl (λ(acc:Array Nat) (p:Str)=>acc++p.cps) #[] [(⟨#[c]⟩:Str)].reverse⟩:Str)=⟨#[c]⟩:=by
  show(⟨#[]++#[c]⟩:Str)=_
  rw[Array.empty_append]
 rw[e]
 exact Ai (wpAny_mkStr (Be ⟨_,rfl,h _ _ _ hk (Ao htk (le_succ _))⟩) (by show 1<=sizeLine;decide))
end
noncomputable def Pu:DefRec:=Ec PySem.Challenge.pw_in0167_02 24
noncomputable def Bq:List Eo->List Nat->List Eo
 |[],_=>[]
 |f::rest,u=>if f.st=6 then(if u=cs "(" then⟨0,[],[]⟩::f::rest else match rest with
   |[]=>[]
   |p::rest=>⟨p.st,p.nm,p.kids++[.node f.nm f.kids]⟩::rest)
  else if f.st≠4\/u=cs ")" then⟨f.st+1,f.nm,f.kids⟩::rest
  else if u=cs "["\/u=cs "]" then f::rest else⟨f.st,f.nm++[u.getLast?.getD 0],f.kids⟩::rest
noncomputable def Jy:List Eo->List Nat->Prop
 |[],_=>False
 |f::rest,u=>u≠[]/\u.length<=2/\rest.length<=2000/\f.nm.length<=2000/\(∀g∈f::rest,g.kids.length<=2000)/\(f.st=6->u≠cs "("->rest≠[])
noncomputable def rQ (n₀:Nat):Mine.Internal.B3:=λds own Q=>∃k i u L fs cs',ds=[.obj k,.tup [.int i,.str u]]/\SA n₀ own k L.reverse fs cs'/\n₀<=own.length/\Jy L u/\
 ∀own' fs' cs',SA n₀ own' k (Bq L u).reverse fs' cs'->(∀j,j<n₀->own'[j]? =own[j]?)->own.length<=own'.length->Q (.obj k) own'
theorem Dd.fl {g:Nat->Option (List D)}{own:List (List D)}:∀(r:List Eo) (fs cs:List Nat),Dd g own r fs cs->fs.length=r.length:=by
 intro r
 induction r with
 |nil=>intro fs cs h;rw[h.1];rfl
 |cons f r ih=>
  intro fs cs h
  refine C3 h λa fs' c cs' e1 e2 h1 h2=>?_
  try clear h
  rw[e1,G8,ih _ _ h2];rfl
theorem aW {k:Nat}{ys:List (List Nat)}{x:List Nat}{σ:St}{R:Bool->Prop}(e:σ.own[k]? =some (ys.map D.str))(h:R (!ys.any (·==x))):Ee .NotIn (.str x) (.obj k) σ R:=⟨x,ys,rfl,.inr e,h⟩
theorem SA.app {n₀ k:Nat}{own:List (List D)}{r:List Eo}{fs cs:List Nat}(h:SA n₀ own k r fs cs)(x:List (List D)):SA n₀ (own++x) k r fs cs:=
 have hg:∀i l,I5 own (k::(fs++cs)) i=some l->I5 (own++x) (k::(fs++cs)) i=some l:=λi l e=>He (Hf e).1 (Aj (Dg _ _) (Hf e).2)
 ⟨Aj (Dg _ _) h.top,h.nd,h.lo,Dd.mono hg _ _ _ (λi hi=>Ro (SA.lt (n₀:=n₀) (k:=k) h.at_ i hi)) h.at_⟩
theorem lR {Γ:W}(ok:Γ.Ok){A:Around}{a:Addr}{pm code doc:Value}(N:Fn Γ a (docDef Pu.name Pu.params Pu.body Pu.scope pm code doc) ["stack","pair"] Pu.body)(hA:A9 1 A){n₀:Nat}:Ap Γ A (.ref a) (rQ n₀):=by
 refine'(Dl ok N rfl (by have:=hA.depth;exact Aq this) (λL=>?w)).imp ?p
 case w=>
  have H:=Hk ok N (hA.deeper (callEnvC (docDef Pu.name Pu.params Pu.body Pu.scope pm code doc) L a)) L
  refine' Av ?_ ?_
  all_goals repeat' first
   |(show(_:Prop);with_reducible assumption)|(intros;rfl)|decide
   |with_reducible first|exact Dr|refine' Av .. |refine' Pw .. |refine' Sy .. |refine' Dx .. |refine' Px .. |refine' S0 .. |exact Hy|exact Ds|refine' U3 .. |refine' Iu .. |refine' nU .. |refine' Ei .. |refine' Hx .. |exact Br|refine' A0 .. |refine' Ju .. |refine' Ki .. |refine' Mp .. |refine' cZ .. |refine' iO .. |exact Ld|exact Kj|refine' Bi ..
 case p=>
  intro ds own Q h
  refine Bj h λk i u L fs0 zz=>Dn zz λcs0 e hs hn ho q=>?_
  try clear h
  subst e
  cases L with
  |nil=>exact ho.elim
  |cons f rest=>
  refine B6 ho λhu hu2 hL hnm zz=>Ae zz λhkd hpop=>?_
  try clear ho
  rw[reverse_cons]at hs
  refine C3 (Dd.unsnoc _ _ _ hs.at_) λfs a cs' c e1 e2 h1 h2=>?_
  subst e1 e2
  have htop:=hs.top
  rw[Id]at htop
  have w0:Bb 0:=iw (n:=0) rfl (by decide)
  have w1:Bb 1:=iw (n:=1) rfl (by decide)
  have w2:Bb 2:=iw (n:=2) rfl (by decide)
  have wm:Bb (-1):=⟨by decide,by decide⟩
  have hf:=h2.1
  have hfl:(fs++[a]).length=(rest.reverse++[f]).length:=Dd.fl _ _ _ hs.at_
  have zk:(fs.map D.obj++[a].map D.obj).length<=20000:=by
   rw[<-Id,B2,hfl,Bu,List.length_reverse]
   exact Ao (add_le_add_right hL _) (show 2000+1<=20000 by decide)
  have lok:n₀<=k:=hs.lo k (.head _)
  have loa:n₀<=a:=hs.lo a (.tail _ (Z5 _ (M2 _ (.head _))))
  have low:∀{x j:Nat} {l:List D} {o:List (List D)},n₀<=x->j<n₀->(o.set x l)[j]? =o[j]? :=λhx hj=>B4 (λz=>not_lt.2 hx (by rw[<-z];exact hj))
  refine⟨rfl,?_⟩
  dsimp only[tU,tV,Mq]
  refine An (Ac rfl (eY w1 rfl (Ac rfl ⟨_,rfl,B7 htop wm (I3 _ _) ⟨Cr rfl,_,rfl,rfl,?_⟩⟩)))
  have count:f.st≠6->(f.st≠4\/u=cs ")")->Q (.obj k) (own.set a [D.int (f.st+1),D.str f.nm,D.obj c]):=λh6 h4=>by
   have hp:=hs.setTop (f.st+1) f.nm
   have e:Bq (f::rest) u=⟨f.st+1,f.nm,f.kids⟩::rest:=(Ay h6).trans (Bc h4)
   rw[e,reverse_cons]at q
   exact q _ _ _ hp (λj hj=>low loa hj) (by rw[length_set];exact le_refl _)
  by_cases h6:f.st=6
  ·refine An (Ac rfl (B7 hf w0 rfl (Qk (Mz (by rw[h6];rfl) (Ac rfl (Nn ?_))))))
   by_cases hup:u=cs "("
   ·refine Mz (by rw[decide_eq_true hup]) (sT (Ak (Ac rfl (iL htop ⟨zero_le _,Cr rfl,Xb (Aj (Dg _ _) (Aj (Dg _ _) htop)) zk ?_⟩))))
    refine Ak (Ac rfl ?_)
    have hp:=hs.push hn
    have e:Bq (f::rest) u=⟨0,[],[]⟩::f::rest:=(Bc h6).trans (Bc hup)
    rw[e,reverse_cons,reverse_cons]at q
    rw[Id]at hp
    refine q _ _ _ hp (λj hj=>(low lok hj).trans (by rw[C4,Ro (lt_of_lt_of_le hj hn)]:((own++[[]])++[[D.int 0,D.str [],D.obj own.length]])[j]? =own[j]?)) ?_
    show own.length<=(((own++[[]])++[_]).set k _).length
    rw[length_set,C4,Bu];exact le_add_right _ _
   ·refine Il (by rw[decide_eq_false hup]) (sF (An (Ac rfl (B7 hf w0 rfl (Qk (Mz (by rw[h6];rfl) ?_))))))
    cases rest with
    |nil=>exact(hpop h6 hup rfl).elim
    |cons p rest=>
    rw[reverse_cons]at hs h1
    refine C3 (Dd.unsnoc _ _ _ h1) λfs2 b cs2 d e1 e2 h3 h4=>?_
    subst e1 e2
    refine Ab h4.2 λkd ekd tkd=>?_
    have hnk:=(nodup_cons.mp hs.nd).1
    have zkd:kd.length<=20000:=by rw[Tqf.len _ _ tkd];exact Ao (hkd p (.tail _ (.head _))) (by decide)
    have ka:a≠k:=λz=>hnk (by rw[<-z];exact Z5 _ (M2 _ (.head _)))
    have kb:b≠k:=λz=>hnk (by rw[<-z];exact Z5 _ (Z5 _ (M2 _ (.head _))))
    have kdd:d≠k:=λz=>hnk (by rw[<-z];exact M2 _ (Z5 _ (M2 _ (.head _))))
    have lod:n₀<=d:=hs.lo d (.tail _ (M2 _ (Z5 _ (M2 _ (.head _)))))
    have zk2:((fs2++[b]).map D.obj).length+1<=sizeLine:=by
     rw[Bu]at zk;exact Ao zk (by decide)
    have t1:(own.set k ((fs2++[b]).map D.obj))[k]? =some (fs2.map D.obj++[D.obj b]):=by rw[Ij htop,Id];rfl
    have t2:=(B4 (l:=(fs2++[b]).map D.obj) kb).trans h4.1
    have t3:=(B4 (l:=(fs2++[b]).map D.obj) kdd).trans ekd
    have t4:=(B4 (l:=(fs2++[b]).map D.obj) ka).trans hf
    have hp:=hs.pop ekd
    rw[<-length_set (as:=own) (i:=k) (a:=(fs2++[b]).map D.obj)]at hp
    have e:Bq (f::p::rest) u=⟨p.st,p.nm,p.kids++[.node f.nm f.kids]⟩::rest:=(Bc h6).trans (Ay hup)
    rw[e,reverse_cons]at q
    refine An (Ac rfl (iL htop ⟨k,_,.obj a,rfl,htop,zk2,?_⟩))
    refine Ak (Ac rfl ⟨_,rfl,B7 t1 wm (I3 _ _) (B7 t2 w2 rfl (iL t3 (Ac rfl (B7 t4 w1 rfl (Ac rfl (B7 t4 w2 rfl ⟨Cr rfl,Xb (Aj (Dg _ _) t3) zkd ?_⟩))))))⟩)
    refine Ak (Ac rfl (q _ _ _ hp (λj hj=>?_) ?_))
    ·rw[low lod hj,Ro (by rw[length_set];exact lt_of_lt_of_le hj hn),low lok hj];rfl
    ·rw[length_set,Bu,length_set];exact le_add_right _ _
  ·have h6':(f.st==6)=false:=beq_eq_false_iff_ne.mpr h6
   refine An (Ac rfl (B7 hf w0 rfl (Qk (Il h6' (sF (An (Ac rfl (B7 hf w0 rfl (Qk (Il h6' (An (Ac rfl (B7 hf w0 rfl (Os ?_))))))))))))))
   by_cases h4:f.st=4
   ·refine Il (by rw[h4];rfl) (Ac rfl (Nn ?_))
    by_cases hcl:u=cs ")"
    ·refine Mz (by rw[decide_eq_true hcl]) (sT (Ak (Ac rfl (B7 hf w0 rfl (Tj (eZ hf w0 rfl ?_))))))
     exact Ak (Ac rfl (count h6 (.inr hcl)))
    ·refine Il (by rw[decide_eq_false hcl]) (sF (Ak ?_))
     have hN:∀nm',Bq (f::rest) u=⟨f.st,nm',f.kids⟩::rest->Q (.obj k) ((own++[[D.str (cs "["),D.str (cs "]")]]).set a [D.int f.st,D.str nm',D.obj c]):=λnm' e=>by
      have hp:=(hs.app [[D.str (cs "["),D.str (cs "]")]]).setTop f.st nm'
      rw[e,reverse_cons]at q
      refine q _ _ _ hp (λj hj=>(low loa hj).trans (Ro (lt_of_lt_of_le hj hn))) ?_
      rw[length_set,Bu];exact le_add_right _ _
     have hstep:Bq (f::rest) u=if u=cs "["\/u=cs "]" then f::rest else⟨f.st,f.nm++[u.getLast?.getD 0],f.kids⟩::rest:=(Ay h6).trans (Ay λz=>z.elim (λz=>z h4) hcl)
     have hf':=Aj (Dg own [[D.str (cs "["),D.str (cs "]")]]) hf
     refine Ac rfl ⟨Cr rfl,aW (ys:=[cs "[",cs "]"]) (Aw _ _) ?_⟩
     by_cases hb:u=cs "["\/u=cs "]"
     ·refine Il (by rw[Pm,decide_eq_true (by rw[E1,K2];exact hb)];rfl) (Ak (Ac rfl ?_))
      rw[Bc hb]at hstep
      rw[hstep,reverse_cons]at q
      refine q _ _ _ (hs.app [[D.str (cs "["),D.str (cs "]")]]) (λj hj=>Ro (lt_of_lt_of_le hj hn)) ?_
      show own.length<=(own++[_]).length
      rw[Bu];exact le_add_right _ _
     ·rw[Ay hb]at hstep
      refine Jb (show∃v x,u=v++[x]from⟨u.dropLast,u.getLast hu,(List.dropLast_concat_getLast hu).symm⟩) λv x Z=>?_
      subst Z
      rw[List.getLast?_concat]at hstep
      refine Mz (by rw[Pm,decide_eq_false (by rw[E1,K2];exact hb)];rfl) (Ak (Ac rfl (B7 hf' w1 rfl (Ac rfl ⟨_,rfl,Oq wm (I3 v x) ?_⟩))))
      refine⟨rfl,Ao (add_le_add_right hnm _) (show 2000+1<=sizeLine by decide),eZ hf' w1 rfl ?_⟩
      exact Ak (Ac rfl (hN _ hstep))
   ·refine Mz (by rw[bne_iff_ne];exact h4) (sT (Ak (Ac rfl (B7 hf w0 rfl (Tj (eZ hf w0 rfl ?_))))))
    exact Ak (Ac rfl (count h6 (.inl h4)))
noncomputable def lZ:DefRec:=Ec PySem.Challenge.pw_in0167_02 17
noncomputable def Sj (pm code doc dv:Value):FuncData:={docDef lZ.name lZ.params lZ.body lZ.scope pm code doc with defaults:=dv}
noncomputable def mN:Mine.Internal.B3:=λds own Q=>∃n₀,rQ n₀ ds own Q
theorem gT {Γ:W}(ok:Γ.Ok){A:Around}{a:Addr}{pm code doc:Value}(N:Fn Γ a (docDef Pu.name Pu.params Pu.body Pu.scope pm code doc) ["stack","pair"] Pu.body)(hA:A9 1 A):Ap Γ A (.ref a) mN:=
 λG ι own s ds vs Q S r t h=>Ad h λn₀ h=>lR ok N hA (n₀:=n₀) G ι own s ds vs Q S r t h
noncomputable def Q1:List Eo->List (Int×List Nat)->Prop
 |_,[]=>True
 |L,p::r=>Jy L p.2/\Q1 (Bq L p.2) r
noncomputable def mQ (a24:Addr):Mine.Internal.B3:=λds own Q=>∃(n₀ j k:Nat) (ps:List (Int×List Nat)) (L:List Eo) (fs cs:List Nat),ds=[.raw (.ref a24),.obj j,.obj k]/\j<n₀/\own[j]? =some (ps.map Cc)/\SA n₀ own k L.reverse fs cs/\n₀<=own.length/\Q1 L ps/\
 ∀own' fs' cs',SA n₀ own' k (ps.foldl (λL p=>Bq L p.2) L).reverse fs' cs'->(∀i,i<n₀->own'[i]? =own[i]?)->own.length<=own'.length->Q (.obj k) own'
theorem cD {Γ:W}(ok:Γ.Ok){A:Around}{a a24 r:Addr}{pm code doc dv pm24 code24 doc24:Value}(N:Fn Γ a (Sj pm code doc dv) ["function","sequence","initial"] lZ.body)(hA:A9 2 A)
  (o24:∃o,Γ.B.get? a24=some o/\o.data=.func (docDef Pu.name Pu.params Pu.body Pu.scope pm24 code24 doc24))(f24:∀env,Ap Γ (A.deeper env) (.ref a24) mN)
  (g1:Γ.mg (ofString "_initial_missing")=some (.ref r))(g2:∃o,Γ.B.get? r=some o)
  (it1:Γ.mg (ofString "iter")=none)(it2:Γ.mb (ofString "iter")=some (.builtin "iter")):Ap Γ A (.ref a) (mQ a24):=by
 refine'(Dl ok N rfl (by have:=hA.depth;exact Aq this) (λL=>?w)).imp ?p
 case w=>
  have H:=Hk ok N (hA.deeper (callEnvC (Sj pm code doc dv) L a)) L
  have F24:=f24 (callEnvC (Sj pm code doc dv) L a)
  refine' iQ H rfl it1 it2 ?_ rfl (by first|exact Kd.local (by rfl)|exact Kd.cell (by rfl) ⟨_,by rfl⟩) rfl (Sy (cW H (by decide) (by decide) rfl g1 (by decide) g2 rfl) dH ?_) ?_ ?_ ?_ (by decide) (by decide) (λ_=>rfl)
  all_goals repeat' first
   |(show(_:Prop);with_reducible assumption)|(intros;rfl)|decide|exact Kd.local (by rfl)|exact Kd.cell (by rfl) ⟨_,by rfl⟩
   |with_reducible first|exact Dr|refine' Av .. |refine' Bx .. |refine' Dx .. |exact Br|refine' A0 .. |refine' Du .. |refine' Bi ..
  refine' Xp H (by decide) (by decide) o24 F24 ?_ rfl
  all_goals repeat' first
   |(show(_:Prop);with_reducible assumption)|(intros;rfl)|decide
   |with_reducible first|exact Br|refine' A0 .. |refine' Bi ..
 case p=>
  intro ds own Q h
  refine Bj h λn₀ j k ps L zz=>Bz zz λfs cs e hj0 hj zz=>Bn zz λhs hn hg q=>?_
  try clear h
  subst e
  refine⟨rfl,?_⟩
  refine Ac rfl ⟨_,rfl,Cf hj λit=>Ck ⟨⟨k,_,rfl,hs.top⟩,sF (Ak (Ac rfl (Ck ⟨rfl,le_refl _,?_⟩)))⟩⟩
  refine Ey (λitems σ=>∃L' rest own' fs' cs',items=rest.map Cc/\σ=⟨[("function",.raw (.ref a24)),("sequence",.obj j),("initial",.obj k),("it",.raw it),("value",.obj k)],own',[]⟩/\SA n₀ own' k L'.reverse fs' cs'/\Q1 L' rest/\
   ps.foldl (λL p=>Bq L p.2) L=rest.foldl (λL p=>Bq L p.2) L'/\(∀i,i<n₀->own'[i]? =own[i]?)/\own.length<=own'.length) ?_ ?_ _ _ ⟨L,ps,own,fs,cs,rfl,rfl,hs,hg,rfl,λ_ _=>rfl,le_refl _⟩
  ·intro x rr σ next hI hnx
   refine Cq hI λL' rest own' fs' cs' e e2 ht hgo zz=>At zz λhf hlo hle=>?_
   try clear hI
   subst e2
   cases rest with
   |nil=>cases e
   |cons p rest=>
    have e:=List.cons.inj e
    rw[e.1]
    refine⟨by show own'[j]? =_;rw[hlo j hj0];exact hj,Ck (Ak ⟨rfl,Ac rfl (Ac rfl ⟨n₀,k,p.1,p.2,L',fs',cs',rfl,ht,Ao hn hle,hgo.1,λown2 fs2 cs2 ht2 hlo2 hle2=>?_⟩)⟩)⟩
    exact Ck ⟨_,Hl [("function",.raw (.ref a24)),("sequence",.obj j),("initial",.obj k),("it",.raw it),("value",.obj k)] [("element",Cc p)],hnx _ ⟨_,rest,own2,fs2,cs2,e.2,rfl,ht2,hgo.2,hf,λi hi=>(hlo2 i hi).trans (hlo i hi),Ao hle hle2⟩⟩
  ·intro σ hI
   refine Cq hI λL' rest own' fs' cs' e e2 ht hgo zz=>At zz λhf hlo hle=>?_
   try clear hI
   subst e2
   have h0:=map_eq_nil_iff.mp e.symm
   subst h0
   exact⟨by show own'[j]? =_;rw[hlo j hj0];exact hj,Ak (Ac rfl (q own' _ _ (by rw[hf];exact ht) hlo hle))⟩
noncomputable def Zn:DefRec:=Ec PySem.Challenge.pw_in0167_02 21
theorem nK {x y:List Nat}{σ:St}{R:Bool->Prop}(h:R (decide (x<y))):Ee .Lt (.str x) (.str y) σ R:=h
theorem iZ {a b:Bool}{σ:St}{Q:D->St->Prop}(h:Q (.int (b2i a-b2i b)) σ):Q9 .Sub (.bool a) (.bool b) σ Q:=⟨rfl,h⟩
noncomputable def kM:List Stmt->Option (Arguments×Expr×Scope×Pos)
 |[.Return (some (.Lambda a b s p)) _]=>some (a,b,s,p)
 |_=>none
noncomputable def Hp:Arguments×Expr×Scope×Pos:=(kM Zn.body).getD (⟨[],[],none,[],[],none,[]⟩,.Constant .none 0 ⟨0,0,0,0⟩,default,⟨0,0,0,0⟩)
noncomputable def E0 (w:Int) (x y:List Nat):Int:=if w*((x.length:Int)-y.length)=0 then b2i (decide (y<x))-b2i (decide (x<y))else w*((x.length:Int)-y.length)
noncomputable def Dv (w:Int):Mine.Internal.B3:=λds own Q=>∃x y,ds=[.str x,.str y]/\x.length<=20000/\y.length<=20000/\Q (.int (E0 w x y)) own
theorem Dv.mono {w:Int}:∀ds own Q Q',(∀d o,Q d o->Q' d o)->Dv w ds own Q->Dv w ds own Q':=λds own Q Q' h h5=>Bz h5 λx y e a b q=>⟨x,y,e,a,b,h _ _ q⟩
noncomputable def bC:Str:=(Zn.name++".<locals>.")++"<lambda>"
noncomputable def mO (Γ:W):Mine.Internal.B3:=λds own Q=>∃w,ds=[.int w]/\w.natAbs<=10/\Q (.sem (Hi Γ 1 (Dv w))) own
theorem Xn {Γ:W}{A:Around}{env:Env}(H:Ev Γ A env){c P:Addr}{params:Arguments}{body:Expr}{scope:Scope}{pos:Pos}{x:String}{cw:Addr}{q:Str}(hq:env.qual++"<lambda>"=q)(hcode:env.code=.ref c)(hcP:(c,P)∈Γ.tabs)(hdef:defaultsOf params env=([],[]))(hkx:env.kindOf (ofString x)=some .cell)(hcx:env.cells.lookup (ofString x)=some cw)
  (hcl:closureFor scope env=pure [(ofString x,cw)])(hit:∀G cv,Γ.codeOk P pos G cv->Bd G cv q)(mk:∀G cv pos',pos'.line=pos.line->pos'.col=pos.col->Bd G cv q->Γ.codeOk P pos' G cv):
  Bl Γ A env (.Lambda params body scope pos) (λσ Q=>∃P d n,σ.get x=some d/\x∉σ.ro/\Ib n d=true/\(∀G v,Pq "<lambda>" q params body scope x d ((Γ.mg "__name__").getD .none) G v->P G v)/\Q (.sem P) {σ with ro:=x::σ.ro}):=by
 subst hq;exact jM H hcode hcP hdef hkx hcx hcl hit mk
section
variable {α β γ δ:Type}{Γ:W}{K:Cj}{A:Around}{env:Env}{G G₀ G':Gh}{ι ι':List Addr}{σ:St}{s s':Shared}
theorem Yr (ok:Γ.Ok){qual:Str}{pm v:Value}{w:Int}(hw:w.natAbs<=10)(len1:Γ.mg (ofString "len")=none)(len2:Γ.mb (ofString "len")=some (.builtin "len"))
  (h:Pq "<lambda>" qual Hp.1 Hp.2.1 Hp.2.2.1 "way" (.int w) pm G v):Hi Γ 1 (Dv w) G v:=by
 refine Dm h λcw oc u Z g1 g2 g3=>?_
 try clear h
 refine Cm Z λa o cv ctv Y h1 h2 h3 h4=>?_
 clear Z
 subst Y
 refine⟨⟨a,o,_,rfl,h1,h3⟩,λA' hA=>?_⟩
 have N:dG Γ G a (kla_fn "<lambda>" qual Hp.1 Hp.2.1 Hp.2.2.1 [(ofString "way",cw)] pm cv ctv) ["one","two"] [("way",.int w)]:={
  obj:=⟨o,h1,h3⟩
  code:=h4
  glob:=rfl
  bui:=rfl
  bind:=λvs hv=>by
   refine Jb (Rs hv) λx y e=>?_
   subst e
   kernel_rfl
  kinds:=E3.mpr ⟨by kernel_rfl,E3.mpr ⟨by kernel_rfl,forall_mem_nil _⟩⟩
  nodup:=by decide
  nocell:=by show∀x∈Hp.2.2.1.names,x.2≠ .cell;decide +kernel
  free:=λx d e=>by
   rw[lookup_cons]at e
   split at e
   ·rename_i hx
    obtain rfl:=beq_iff_eq.mp hx
    cases e
    exact⟨by kernel_rfl,cw,oc,u,by kernel_rfl,g1,g2,g3⟩
   ·cases e
  freeAll:=λx c e=>by
   have e:([(ofString "way",cw)]:List (Str×Addr)).lookup x=some c:=e
   rw[lookup_cons]at e
   split at e
   ·cases e;exact⟨oc,g1⟩
   ·cases e
  kind:=by kernel_rfl
  co:=by kernel_rfl
  gen:=by kernel_rfl}
 have e1:=hA.handled
 have e2:=hA.depth
 have e3:=hA.units
 refine'(gP ok N rfl (by exact Aq e2) (λL=>?w)).imp ?p
 case w=>
  have H:=pO (A:=A'.deeper (Bw (kla_fn "<lambda>" qual Hp.1 Hp.2.1 Hp.2.2.1 [(ofString "way",cw)] pm cv ctv) L a)) ok N e1 (by rw[depth_deeper];exact Aq e2) (by show A'.units+3+500<_;exact Aq e3) L
  refine' fE ?_ ?_
  all_goals repeat' first
   |(show(_:Prop);with_reducible assumption)|(intros;rfl)|decide
   |with_reducible first|refine' It .. |refine' Ls .. |refine' Xo .. |exact Br|refine' A0 .. |refine' Bi ..
 case p=>
  intro ds own Q h
  refine Bz h λx y e hx hy q=>?_
  subst e
  refine⟨rfl,?_⟩
  refine Ac rfl (Ac rfl ⟨_,rfl,Fm hx (Ac rfl ⟨_,rfl,Fm hy ⟨qL hw,?_⟩⟩)⟩)
  show(λc=>if c=true then Q (.int (w*((x.length:Int)-y.length))) own else _) (w*((x.length:Int)-y.length) != 0)
  unfold E0 at q
  by_cases h0:w*((x.length:Int)-y.length)=0
  ·rw[Bc h0]at q
   rw[h0]
   exact sF (Ac rfl (Ac rfl (nO (Ac rfl (Ac rfl (nK (iZ q)))))))
  ·rw[Ay h0]at q
   exact Mz (by rw[bne_iff_ne];exact h0) q
end
theorem lO {Γ:W}(ok:Γ.Ok){A:Around}{a:Addr}{pm code doc:Value}(N:Fn Γ a (docDef Zn.name Zn.params Zn.body Zn.scope pm code doc) ["way"] Zn.body)(hA:A9 1 A)(len1:Γ.mg (ofString "len")=none)(len2:Γ.mb (ofString "len")=some (.builtin "len")){P cc:Addr}(hcode:code=.ref cc)(hcP:(cc,P)∈Γ.tabs)
  (hmk:∀G cv (pos':Pos),pos'.line=198->Bd G cv bC->Γ.codeOk P pos' G cv)(hhit:∀G cv (pos':Pos),pos'.line=198->Γ.codeOk P pos' G cv->Bd G cv bC):Ap Γ A (.ref a) (mO Γ):=by
 refine'(Dl ok N rfl (by have:=hA.depth;exact Aq this) (λL=>?w)).imp ?p
 case w=>
  have H:=Hk ok N (hA.deeper (callEnvC (docDef Zn.name Zn.params Zn.body Zn.scope pm code doc) L a)) L
  subst hcode
  refine' Av (Dx (Xn H (c:=cc) (P:=P) (x:="way") (q:=bC) ?hq ?hcode hcP ?hdef ?hkx ?hcx ?hcl ?hit ?mk)) Dr
  case hit=>exact λG cv h=>hhit G cv _ rfl h
  case mk=>exact λG cv pos' h1 h2 h3=>hmk G cv pos' h1 h3
  case hq=>rfl
  case hcode=>rfl
  case hdef=>rfl
  case hkx=>rfl
  case hcx=>rfl
  case hcl=>rfl
  all_goals repeat' first
   |(show(_:Prop);with_reducible assumption)|(intros;rfl)|decide|exact Kd.local (by rfl)|exact Kd.cell (by rfl) ⟨_,by rfl⟩|exact λ_ _=>⟨_,rfl⟩
   |((with_reducible show∀_:Addr,Ev _ _ _->_);intro C hC)
   |((with_reducible show CE _ _ _ _);exact Gy (by rfl) (by rfl) (λ_=>by rfl) rfl)
   |with_reducible first|exact Dr|refine' Av .. |refine' Dx ..
 case p=>
  intro ds own Q h
  refine Au h λw e hw q=>?_
  subst e
  refine⟨rfl,?_⟩
  exact Ak ⟨_,_,1,rfl,not_mem_nil,rfl,λG v h=>Yr ok hw len1 len2 h,q⟩
noncomputable def Kc {α:Type} (p:α->Bool):KasT α->Bool
 | .ret a=>p a
 | .ask _ _ k=>Kc p (k true)&&Kc p (k false)
theorem Qw {α:Type}{p:α->Bool}(lt:Nat->Nat->Bool):∀t:KasT α,Kc p t=true->p (By lt t)=true:=by
 intro t
 induction t with
 |ret a=>exact λh=>h
 |ask i j k ih=>
  intro h
  have h:=Bool.and_eq_true_iff.mp (show(Kc p (k true)&&Kc p (k false))=true from h)
  refine ih (lt i j) ?_
  cases lt i j with
  |true=>exact h.1
  |false=>exact h.2
theorem Di {α:Type}{lt lt':Nat->Nat->Bool}{n:Nat}(h:∀i j,i<n->j<n->lt i j=lt' i j):∀t:KasT α,L6 n t=true->By lt t=By lt' t:=by
 intro t
 induction t with
 |ret a=>exact λ_=>rfl
 |ask i j k ih=>
  intro hb
  have hb:=Qx hb
  show By lt (k (lt i j))=By lt' (k (lt' i j))
  rw[h i j hb.1 hb.2.1]
  refine ih (lt' i j) ?_
  cases lt' i j with
  |true=>exact hb.2.2.1
  |false=>exact hb.2.2.2
noncomputable def cY:Nat->List (List Nat)
 |0=>[[]]
 |n+1=>(cY n).flatMap λf=>[0::f,1::f,2::f,3::f]
theorem Zy:∀f:List Nat,(∀x∈f,x<4)->f∈cY f.length:=by
 intro f
 induction f with
 |nil=>exact λ_=>.head _
 |cons x f ih=>
  intro h
  refine List.mem_flatMap.mpr ⟨f,ih λy hy=>h y (.tail _ hy),?_⟩
  rcases(by decide:∀x,x<4->x=0\/x=1\/x=2\/x=3) x (h x (.head _))with e|e|e|e
  ·rw[e];exact .head _
  ·rw[e];exact .tail _ (.head _)
  ·rw[e];exact .tail _ (.tail _ (.head _))
  ·rw[e];exact .tail _ (.tail _ (.tail _ (.head _)))
noncomputable def E8 (lt:Nat->Nat->Bool) (n:Nat):List Nat:=(By lt (kas_sort n)).toList
noncomputable def mY:List Nat->Bool
 |[]=>true
 |x::r=>r.all (λy=>decide (x<=y))&&mY r
noncomputable def mX (n:Nat):Bool:=(cY n).all λf=>mY ((E8 (λi j=>decide (f.getD i 0<f.getD j 0)) n).map λi=>f.getD i 0)
theorem cQ:(mX 2&&mX 3&&mX 4)=true:=by kernel_rfl
theorem Xx:([2,3,4].all λn=>Kc (λa=>a.toList.isPerm (List.range n)) (kas_sort n))=true:=by kernel_rfl
noncomputable def cS (w:Int):D->D->Int
 | .str x,.str y=>E0 w x y
 |_,_=>0
noncomputable def Bs (w:Int) (L:List (List Nat)):List (List Nat):=if L.length<2 then L else(E8 (λi j=>decide (E0 w (L.getD i []) (L.getD j [])<0)) L.length).map λi=>L.getD i []
theorem Si {L:List (List Nat)}{i:Nat}(h:i<L.length):(L.map D.str).getD i .none=.str (L.getD i []):=by
 rw[List.getD_eq_getElem?_getD,List.getD_eq_getElem?_getD,List.getElem?_map,Fz h];rfl
theorem Hg {n:Nat}(h:n<=4)(h2:¬n<2)(lt:Nat->Nat->Bool):(E8 lt n).Perm (List.range n):=by
 have hn:n∈[2,3,4]:=elem_iff.mp ((by decide:∀n<5,¬n<2->[2,3,4].elem n=true) n (lt_succ_of_le h) h2)
 exact List.isPerm_iff.mp (Qw (p:=λa:Array Nat=>a.toList.isPerm (List.range n)) lt _ (all_eq_true.mp Xx n hn))
theorem Uu {w:Int}{L:List (List Nat)}(h:L.length<=4):De (cS w) (L.map D.str)=(Bs w L).map D.str:=by
 unfold De Bs
 rw[B2]
 by_cases h2:L.length<2
 ·rw[Bc h2,Bc h2]
 ·rw[Ay h2,Ay h2,map_map]
  have e:By (λi j=>decide (cS w ((L.map D.str).getD i .none) ((L.map D.str).getD j .none)<0)) (kas_sort L.length)=By (λi j=>decide (E0 w (L.getD i []) (L.getD j [])<0)) (kas_sort L.length):=
   Di (n:=L.length) (λi j hi hj=>by rw[Si hi,Si hj];rfl) _ (Dh _ h)
  rw[e]
  exact map_congr_left λi hi=>Si (mem_range.mp ((Hg h h2 _).mem_iff.mp hi))
theorem Cg {w:Int}{L:List (List Nat)}(h:L.length<=4):(Bs w L).Perm L:=by
 unfold Bs
 by_cases h2:L.length<2
 ·rw[Bc h2]
 ·rw[Ay h2]
  refine((Hg h h2 _).map _).trans ?_
  have:(List.range L.length).map (λi=>L.getD i [])=L:=by
   refine List.ext_getElem (by rw[B2,length_range]) λi h1 h2=>?_
   rw[List.getElem_map,List.getElem_range,List.getD_eq_getElem?_getD,Fz h2];rfl
  rw[this]
noncomputable def Nw (w:Int) (x y:List Nat):Prop:=w*(x.length:Int)<w*y.length\/w*(x.length:Int)=w*y.length/\x<y
theorem Ci {w:Int}{x y:List Nat}:E0 w x y<0↔Nw w x y:=by
 unfold E0 Nw
 rw[Int.mul_sub]
 by_cases h:w*(x.length:Int)-w*y.length=0
 ·rw[Bc h]
  have e:w*(x.length:Int)=w*y.length:=Int.sub_eq_zero.mp h
  by_cases h1:x<y
  ·rw[decide_eq_true h1,decide_eq_false (List.lt_asymm h1)]
   exact⟨λ_=>.inr ⟨e,h1⟩,λ_=>by decide⟩
  ·rw[decide_eq_false h1]
   refine⟨λh2=>?_,λh2=>h2.elim (λz=>absurd e (Int.ne_of_lt z)) λz=>absurd z.2 h1⟩
   exact absurd h2 ((by decide:∀b:Bool,¬(b2i b-b2i false<0)) _)
 ·rw[Ay h]
  exact⟨λh2=>.inl (Int.lt_of_sub_neg h2),λh2=>h2.elim Int.sub_neg_of_lt λz=>absurd (Int.sub_eq_zero.mpr z.1) h⟩
theorem Nw.irrefl {w:Int}{x:List Nat}:¬Nw w x x:=λh=>h.elim (Int.lt_irrefl _) λz=>List.lt_irrefl _ z.2
theorem Nw.trans {w:Int}{x y z:List Nat}(h1:Nw w x y)(h2:Nw w y z):Nw w x z:=
 h1.elim (λa=>h2.elim (λb=>.inl (Int.lt_trans a b)) λb=>.inl (b.1▸a)) λa=>h2.elim (λb=>.inl (a.1▸b)) λb=>.inr ⟨a.1.trans b.1,List.lt_trans a.2 b.2⟩
theorem Nw.tri {w:Int}{x y:List Nat}(hw:w≠0)(h1:¬Nw w x y)(h2:¬Nw w y x):x=y:=by
 have e:w*(x.length:Int)=w*y.length:=Int.le_antisymm (Int.not_lt.mp λh=>h2 (.inl h)) (Int.not_lt.mp λh=>h1 (.inl h))
 exact List.le_antisymm (List.not_lt.mp λh=>h2 (.inr ⟨e.symm,h⟩)) (List.not_lt.mp λh=>h1 (.inr ⟨e,h⟩))
theorem N9 {α:Type}{p q:α->Bool}:∀{L:List α} {x:α},(∀y∈L,p y=true->q y=true)->x∈L->q x=true->p x=false->L.countP p<L.countP q:=by
 intro L
 induction L with
 |nil=>exact λ_ h=>absurd h not_mem_nil
 |cons z L ih=>
  intro x h hx hq hp
  rw[List.countP_cons,List.countP_cons]
  have hm:=List.countP_mono_left (p:=p) (q:=q) λy hy=>h y (.tail _ hy)
  rcases E1.mp hx with e|hx
  ·rw[<-e,hq,hp]
   exact lt_succ_of_le hm
  ·refine Nat.add_lt_add_of_lt_of_le (ih (λy hy=>h y (.tail _ hy)) hx hq hp) ?_
   cases hz:p z with
   |false=>exact zero_le _
   |true=>rw[h z (.head _) hz];exact le_refl _
noncomputable def rk (w:Int) (L:List (List Nat)) (x:List Nat):Nat:=L.countP λy=>decide (E0 w y x<0)
theorem dM {w:Int}(hw:w≠0){L:List (List Nat)}{x y:List Nat}(hx:x∈L):(E0 w x y<0↔rk w L x<rk w L y):=by
 constructor
 ·intro h
  exact N9 (λz _ hz=>decide_eq_true (Ci.mpr ((Ci.mp (of_decide_eq_true hz)).trans (Ci.mp h)))) hx (decide_eq_true h) (decide_eq_false λz=>Nw.irrefl (Ci.mp z))
 ·intro h
  refine Classical.byContradiction λhn=>not_le.mpr h (List.countP_mono_left λz _ hz=>?_)
  have hz:=Ci.mp (of_decide_eq_true hz)
  have hn:¬Nw w x y:=λz=>hn (Ci.mpr z)
  refine decide_eq_true (Ci.mpr ?_)
  by_cases h2:Nw w y x
  ·exact hz.trans h2
  ·rw[Nw.tri hw hn h2];exact hz
theorem Xc {w:Int}{L:List (List Nat)}{x:List Nat}(hx:x∈L):rk w L x<L.length:=by
 have:=N9 (p:=λy=>decide (E0 w y x<0)) (q:=λ_=>true) (λ_ _ _=>rfl) hx rfl (decide_eq_false λz=>Nw.irrefl (Ci.mp z))
 rw[List.countP_true]at this
 exact this
theorem hZ:∀l:List Nat,mY l=true->l.Pairwise λx y=>x<=y:=by
 intro l
 induction l with
 |nil=>exact λ_=>.nil
 |cons x r ih=>
  intro h
  have h:=Bool.and_eq_true_iff.mp (show(r.all (λy=>decide (x<=y))&&mY r)=true from h)
  exact .cons (λy hy=>of_decide_eq_true (all_eq_true.mp h.1 y hy)) (ih h.2)
theorem Nj {w:Int}(hw:w≠0){L:List (List Nat)}(h:L.length<=4):(Bs w L).Pairwise λx y=>¬Nw w y x:=by
 unfold Bs
 by_cases h2:L.length<2
 ·rw[Bc h2]
  cases L with
  |nil=>exact .nil
  |cons x r=>cases r with
   |nil=>exact List.pairwise_singleton _ _
   |cons y r=>exact absurd h2 (not_lt.mpr (le_add_left 2 _))
 ·rw[Ay h2]
  have hf:∀i,i<L.length->(L.map (rk w L)).getD i 0=rk w L (L.getD i []):=λi hi=>by
   rw[List.getD_eq_getElem?_getD,List.getD_eq_getElem?_getD,List.getElem?_map,Fz hi];rfl
  have hmem:∀i,i<L.length->L.getD i []∈L:=λi hi=>by
   rw[List.getD_eq_getElem?_getD,Fz hi];exact List.getElem_mem hi
  have e:E8 (λi j=>decide (E0 w (L.getD i []) (L.getD j [])<0)) L.length=E8 (λi j=>decide ((L.map (rk w L)).getD i 0<(L.map (rk w L)).getD j 0)) L.length:=
   congrArg Array.toList (Di (n:=L.length) (λi j hi hj=>by rw[hf i hi,hf j hj];exact decide_eq_decide.mpr (dM hw (hmem i hi))) _ (Dh _ h))
  have hc:mX L.length=true:=by
   have:=Bool.and_eq_true_iff.mp cQ
   have h12:=Bool.and_eq_true_iff.mp this.1
   exact(by
    have h2:2<=L.length:=not_lt.mp h2
    rcases Nat.eq_or_lt_of_le h2 with e|h3
    ·rw[<-e];exact h12.1
    ·rcases Nat.eq_or_lt_of_le h3 with e|h4
     ·rw[<-e];exact h12.2
     ·rw[le_antisymm h h4];exact this.2)
  have hm:L.map (rk w L)∈cY L.length:=by
   have:=Zy (L.map (rk w L)) λx hx=>by
    refine Ab (G7.mp hx) λy hy e=>?_
    rw[<-e];exact lt_of_lt_of_le (Xc hy) h
   rwa [B2]at this
  have ha:=hZ _ (all_eq_true.mp hc _ hm)
  rw[e]
  have hix:=Hg h h2 (λi j=>decide ((L.map (rk w L)).getD i 0<(L.map (rk w L)).getD j 0))
  generalize E8 (λi j=>decide ((L.map (rk w L)).getD i 0<(L.map (rk w L)).getD j 0)) L.length=ix at ha hix
  rw[List.pairwise_map]at ha⊢
  refine ha.imp_of_mem λ{i j} hi hj hij=>?_
  have hi:=mem_range.mp (hix.mem_iff.mp hi)
  have hj:=mem_range.mp (hix.mem_iff.mp hj)
  rw[hf i hi,hf j hj]at hij
  exact λz=>not_lt.mpr hij ((dM hw (hmem j hj)).mp (Ci.mpr z))
theorem iA {w:Int}(hw:w≠0):∀{L M:List (List Nat)},L.Perm M->L.Pairwise (λx y=>¬Nw w y x)->M.Pairwise (λx y=>¬Nw w y x)->L=M:=by
 intro L
 induction L with
 |nil=>exact λh _ _=>h.nil_eq
 |cons x L ih=>
  intro M h h1 h2
  cases M with
  |nil=>exact absurd h.length_eq (succ_ne_zero _)
  |cons y M=>
   have h1:=List.pairwise_cons.mp h1
   have h2:=List.pairwise_cons.mp h2
   have e:x=y:=by
    rcases E1.mp (h.mem_iff.mp (.head _))with e|hx
    ·exact e
    ·rcases E1.mp (h.mem_iff.mpr (.head _))with e|hy
     ·exact e.symm
     ·exact Nw.tri hw (h2.1 x hx) (h1.1 y hy)
   subst e
   rw[ih (h.cons_inv) h1.2 h2.2]
theorem Qg {w:Int}(hw:w≠0){L M:List (List Nat)}(h:L.length<=4)(p:L.Perm M):Bs w L=Bs w M:=
 iA hw ((Cg h).trans (p.trans (Cg (p.length_eq▸h)).symm)) (Nj hw h) (Nj hw (p.length_eq▸h))
noncomputable def Ic:DefRec:=Ec PySem.Challenge.pw_in0167_02 22
noncomputable def Em (x:List Nat):Prop:=x.length<=2/\∀c∈x,c∈cs "a*?[]()\\-!^"
noncomputable def El (c:Nat):List Nat:=if(cs "*?[").contains c then 91::c::[93]else[c]
noncomputable def E5 (c:Nat):List Nat:=if c=97\/c=33 then[c]else if c=42\/c=63 then[91,c,93]else if c=91 then[91,92,91,93]else[92,c]
noncomputable def Jo (x:List Nat):List Nat:=cs "(?s:"++x.flatMap E5++cs ")\\Z"
noncomputable def S7:Mine.Internal.B3:=λds own Q=>∃x,ds=[.str (x.flatMap El)]/\Em x/\∀own',own<+:own'->Q (.str (Jo x)) own'
noncomputable def Bf:Nat->Int->A6->List Nat
 |0,_,_=>[]
 |n+1,w,.node x l=>((cs "("++Jo x)++(Bs w (l.map (Bf n w))).flatten)++cs ")"
noncomputable def Ks:Nat->Int->A6->Prop
 |0,_,_=>False
 |n+1,w,.node x l=>Em x/\l.length<=4/\(Bf (n+1) w (.node x l)).length<=2000/\(∀c∈l,Ks n w c)/\(Bf (n+1) w (.node x l)).all (·<0x110000)=true
theorem Ks.all:∀{n:Nat} {w:Int} {t:A6},Ks n w t->(Bf n w t).all (·<0x110000)=true
 |0,_,_,h=>h.elim
 |_+1,_,.node _ _,h=>h.2.2.2.2
theorem nJ:∀c∈cs "a*?[]()\\-!^",Eb [c] (cs "*?[")=(cs "*?[").contains c:=by decide +kernel
theorem Tq:∀x:List Nat,(x.map El).flatten.length<=3*x.length:=by
 intro x
 induction x with
 |nil=>exact le_refl _
 |cons c x ih=>
  rw[Gb,flatten_cons,Bu,G8]
  have:(El c).length<=3:=by
   unfold El
   by_cases h:(cs "*?[").contains c=true
   ·rw[Bc h];exact le_refl _
   ·rw[Ay h];exact Cr rfl
  exact Aq (Bk this ih)
theorem Q4:∀(L:List (List Nat)) (y:List Nat),y∈L->y.length<=L.flatten.length:=by
 intro L
 induction L with
 |nil=>intro y h;cases h
 |cons z L ih=>
  intro y h
  rw[flatten_cons,Bu]
  exact(E1.mp h).elim (λe=>by rw[e];exact le_add_right _ _) λh=>Ao (ih y h) (le_add_left _ _)
theorem Tqa.pairs {own:List (List D)}:∀(l:List A6) (ds:List D),Tqa own l ds->∃ps:List (A6×Nat),l=ps.map (·.1)/\ds=ps.map (λp=>D.obj p.2)/\∀p∈ps,Ah own p.1 p.2:=by
 intro l
 induction l with
 |nil=>intro ds h;unfold Tqa at h;exact⟨[],rfl,h,λ_ h=>absurd h not_mem_nil⟩
 |cons t l ih=>
  intro ds h
  unfold Tqa at h
  refine Ag h λk r e ta h2=>Au (ih r h2) λps e1 e2 hp=>?_
  exact⟨(t,k)::ps,by rw[e1];rfl,by rw[e,e2];rfl,E3.mpr ⟨ta,hp⟩⟩
noncomputable def iG (Γ:W) (n:Nat):Mine.Internal.B3:=λds own Q=>∃k w t,ds=[.obj k,.sem (Hi Γ 1 (Dv w))]/\w.natAbs<=10/\Ah own t k/\Ks n w t/\∀own',own<+:own'->Q (.str (Bf n w t)) own'
theorem Vt {Γ:W}(ok:Γ.Ok){A:Around}{a:Addr}{pm code doc:Value}(N:Fn Γ a (docDef Ic.name Ic.params Ic.body Ic.scope pm code doc) ["node","turn"] Ic.body)(hA:A9 5 A)(so1:Γ.mg (ofString "sorted")=none)(so2:Γ.mb (ofString "sorted")=some (.builtin "sorted")){n:Nat}(g22:Γ.mg (ofString "_law_written")=some (.ref a))(f:∀env,Ap Γ (A.deeper env) (.ref a) (iG Γ n))
  {a7 a15:Addr}{fd7 fd15:FuncData}(g7:Γ.mg (ofString "translate")=some (.ref a7))(o7:∃o,Γ.B.get? a7=some o/\o.data=.func fd7)(f7:∀env,Ap Γ (A.deeper env) (.ref a7) S7)
  (g15:Γ.mg (ofString "cmp_to_key")=some (.ref a15))(o15:∃o,Γ.B.get? a15=some o/\o.data=.func fd15)(lV:∀env,Ap Γ (A.deeper env) (.ref a15) (λds own Q=>∃P,ds=[.sem P]/\Q (.sem (Z1 Γ.w P)) own)):Ap Γ A (.ref a) (iG Γ (n+1)):=by
 refine'(Dl ok N rfl (by have:=hA.depth;exact Aq this) (λL=>?w)).imp ?p
 case w=>
  have H:=Hk ok N (hA.deeper (callEnvC (docDef Ic.name Ic.params Ic.body Ic.scope pm code doc) L a)) L
  have o22:=N.obj
  have F22:=f (callEnvC (docDef Ic.name Ic.params Ic.body Ic.scope pm code doc) L a)
  have F7:=f7 (callEnvC (docDef Ic.name Ic.params Ic.body Ic.scope pm code doc) L a)
  have F15:=lV (callEnvC (docDef Ic.name Ic.params Ic.body Ic.scope pm code doc) L a)
  have HA:A9 (1+3) (A.deeper (callEnvC (docDef Ic.name Ic.params Ic.body Ic.scope pm code doc) L a)):=hA.deeper _
  refine' Av ?_ ?_
  all_goals repeat' first
   |(show(_:Prop);with_reducible assumption)|(intros;rfl)|decide|exact Kd.local (by rfl)|exact Kd.cell (by rfl) ⟨_,by rfl⟩
   |((with_reducible show∀_:Addr,Ev _ _ _->_);intro C hC)
   |((with_reducible refine' Gk (cap:=["turn"]) ..);any_goals ((with_reducible show CE _ _ _ _);exact Gy (by rfl) (by rfl) (λ_=>by rfl) rfl))
   |((with_reducible refine' Gk (cap:=[]) ..);any_goals ((with_reducible show CE _ _ _ _);exact Gy (by rfl) (by rfl) (λ_=>by rfl) rfl))
   |with_reducible first|exact Dr|refine' Av .. |refine' Bx .. |refine' Dx .. |exact Hy|exact Ds|refine' Qp .. |refine' aY (n:=1) _ (by assumption) _ (by assumption) (by assumption) .. |refine' Dk _ _ (by assumption) .. |refine' It .. |exact Br|refine' A0 .. |refine' Ju .. |refine' R8 .. |refine' Ki .. |refine' Du .. |exact Vo|refine' Bi ..
 case p=>
  intro ds own Q h
  refine Fp h λk w t e hw ht ho q=>?_
  try clear h
  subst e
  cases t with
  |node x l=>
  unfold Ah at ht
  refine Ag ht λc ds h1 h1c s1=>?_
  try clear ht
  refine B6 ho λo1 o2 o3 o4 o5=>?_
  try clear ho
  have w0:Bb 0:=iw (n:=0) rfl (by decide)
  have w1:Bb 1:=iw (n:=1) rfl (by decide)
  refine⟨rfl,?_⟩
  dsimp only[tU,tV,Mq]
  have hx2:=o1.1
  refine A5 (λσ=>∃junk,σ=⟨[("node",.obj k),("turn",.sem (Hi Γ 1 (Dv w))),("pattern",.str (x.flatMap El))],own++junk,[]⟩) (λ_ _=>False) (λR r1 _=>?_) ?_ (λ_ _ h=>h.elim)
  ·refine⟨⟨_,rfl⟩,Gi (Ac rfl (B7 h1 w0 rfl (Nz (λc=>D.str [c]) (λdon=>don.map λc=>.str (El c)) x rfl (λ_ _=>trivial) (λc don res junk R e hn=>?_) (λjunk=>?_))))⟩
   ·have hc:=o1.2 c (by rw[e];exact M2 _ Ht)
    have hdl:(don.map λc=>D.str (El c)).length<=sizeLine:=by
     rw[B2];exact Ao (by rw[e,Bu];exact le_add_right _ _:don.length<=x.length) (Ao hx2 (by decide))
    have fin:∀v,v=El c->R .next ⟨[("sign",.str [c])],(own++(don.map λc=>D.str (El c))::junk).set own.length ((don.map λc=>D.str (El c))++[.str v]),[]⟩:=λv e=>by
     have:=hn [("sign",.str [c])] []
     rw[Id,Pv]at this
     rw[e,Dy];exact this
    refine Ck (sT (W9 (Ac rfl (rU ?_))))
    rw[nJ c hc]
    by_cases hcc:(cs "*?[").contains c=true
    ·refine Mz hcc (Ac rfl (Lm (Cr rfl) (Lm (Cr rfl) ⟨_,Co rfl,hdl,fin _ ?_⟩)))
     unfold El;rw[Bc hcc];rfl
    ·refine Il (Bool.eq_false_iff.mpr hcc) (Ac rfl ⟨_,Co rfl,hdl,fin _ ?_⟩)
     unfold El;rw[Ay hcc]
   ·refine Jr (xs:=x.map El) (by rw[map_map];exact Co rfl) ?_ (Ck (r1 _ ⟨_,rfl⟩))
    exact Ao (Tq x) (Ao (mul_le_mul_left 3 hx2) (by decide))
  intro σ Z
  refine Ad Z λjunk V=>?_
  clear Z
  subst V
  refine Au (Tqa.pairs _ _ s1) λps e1 e2 hps=>?_
  subst e1 e2
  have hpl:ps.length<=4:=by rw[B2]at o2;exact o2
  generalize hL:(ps.map (·.1)).map (Bf n w)=Lt
  have hLl:Lt.length<=4:=by rw[<-hL,B2,B2];exact hpl
  have hfl:(Bs w Lt).flatten.length<=2000:=by
   refine Ao ?_ o3
   unfold Bf
   rw[hL,Bu,Bu]
   exact Ao (le_add_left _ _) (le_add_right _ _)
  have hel:∀y∈Lt,y.length<=20000:=λy hy=>by
   have:y∈Bs w Lt:=(Cg hLl).mem_iff.mpr hy
   exact Ao (Q4 _ _ this) (Ao hfl (by decide))
  refine A5 (λσ=>∃junk2,σ=⟨[("node",.obj k),("turn",.sem (Hi Γ 1 (Dv w))),("pattern",.str (x.flatMap El)),("below",.lst ((Bs w Lt).map D.str))],own++junk2,[]⟩) (λ_ _=>False) (λR r1 _=>?_) ?_ (λ_ _ h=>h.elim)
  ·refine Gi (Ac rfl (B7 (Aj (Dg _ _) h1) w1 rfl (Cf (Aj (Dg _ _) h1c:Al (own++junk) (.obj c)=some _) (Nz (λp:A6×Nat=>D.obj p.2) (λdon=>don.map λp=>.str (Bf n w p.1)) ps rfl (λes junk=>Aj (Dg _ _) (Aj (Dg _ _) h1c)) (λp don res junk2 R e hn=>?_) (λjunk2=>?_)))))
   ·have hm:p∈ps:=by rw[e];exact M2 _ Ht
    have hdl:(don.map λp:A6×Nat=>D.str (Bf n w p.1)).length<=sizeLine:=by
     rw[B2];exact Ao (by rw[e,Bu];exact le_add_right _ _:don.length<=ps.length) (Ao hpl (by decide))
    have pf:∀z,own<+:(own++junk)++z:=λz=>by rw[C4];exact Dg _ _
    refine Ck (sT (W9 (Ac rfl (Ac rfl ⟨p.2,w,p.1,rfl,hw,Ah.mono (pf _) _ _ (hps p hm),o4 _ (mem_map_of_mem hm),λown' hp=>?_⟩))))
    refine Ad hp λj U=>?_
    try clear hp
    subst U
    have hn6:=hn [("child",.obj p.2)] j
    rw[Id]at hn6
    refine⟨_,Dc _ _ _ _,hdl,?_⟩
    show R .next ⟨_,((own++junk)++(_::junk2)++j).set (own++junk).length _,_⟩
    rw[Ii]
    exact hn6
   ·refine Ac rfl ⟨_,rfl,Dv w,Lt.map D.str,cS w,1,Dv.mono,rfl,?_,by rw[B2];exact hLl,λd hd=>?_,λd hd d2 hd2 Q hQ=>?_,?_⟩
    ·rw[<-hL,map_map,map_map];exact Co rfl
    ·refine Ab (G7.mp hd) λy hy e=>?_
     subst e
     rw[<-hL]at hy
     refine Ab (G7.mp hy) λt2 ht e=>?_
     rw[<-e]
     exact(Ks.all (o4 t2 ht):Ib 1 (.str _)=true)
    ·refine Ab (G7.mp hd) λy hy e=>Ab (G7.mp hd2) λy2 hy2 e2=>?_
     subst e e2
     exact⟨y,y2,rfl,hel y hy,hel y2 hy2,hQ⟩
    ·rw[Uu hLl]
     exact Ck (r1 _ ⟨junk++_,by rw[<-C4];rfl⟩)
  intro σ Y
  refine Ad Y λjunk2 z0=>?_
  clear Y
  subst z0
  have hq:Bf (n+1) w (.node x (ps.map (·.1)))=((cs "("++Jo x)++(Bs w Lt).flatten)++cs ")":=by rw[<-hL];rfl
  rw[hq]at q o3
  have z1:(cs "("++Jo x).length<=20000:=by
   refine Ao ?_ (Ao o3 (by decide));rw[Bu (as:=(cs "("++Jo x)++(Bs w Lt).flatten),Bu (as:=cs "("++Jo x)];exact Ao (le_add_right _ _) (le_add_right _ _)
  refine Ak (Ac rfl ⟨x,rfl,o1,λown' hp=>Lm (by rw[<-Bu];exact z1) ⟨⟨_,rfl⟩,Ac rfl (Jr (xs:=Bs w Lt) rfl (Ao hfl (by decide)) (Lm ?_ (Lm ?_ ?_)))⟩⟩)
  ·rw[<-Bu];refine Ao ?_ (Ao o3 (by decide));rw[Bu (as:=(cs "("++Jo x)++(Bs w Lt).flatten)];exact le_add_right _ _
  ·rw[<-Bu];exact Ao o3 (by decide)
  ·exact q _ ((Dg _ _).trans hp)
theorem Zc {Γ:W}(ok:Γ.Ok){a:Addr}{pm code doc:Value}(N:Fn Γ a (docDef Ic.name Ic.params Ic.body Ic.scope pm code doc) ["node","turn"] Ic.body)(so1:Γ.mg (ofString "sorted")=none)(so2:Γ.mb (ofString "sorted")=some (.builtin "sorted"))(g22:Γ.mg (ofString "_law_written")=some (.ref a))
  {a7 a15:Addr}{fd7 fd15:FuncData}(g7:Γ.mg (ofString "translate")=some (.ref a7))(o7:∃o,Γ.B.get? a7=some o/\o.data=.func fd7)(f7:∀A,A9 4 A->Ap Γ A (.ref a7) S7)
  (g15:Γ.mg (ofString "cmp_to_key")=some (.ref a15))(o15:∃o,Γ.B.get? a15=some o/\o.data=.func fd15)(lV:∀A,A9 4 A->Ap Γ A (.ref a15) (λds own Q=>∃P,ds=[.sem P]/\Q (.sem (Z1 Γ.w P)) own)):
  ∀(n:Nat) (A:Around),A9 (n+5) A->Ap Γ A (.ref a) (iG Γ n):=by
 intro n
 induction n with
 |zero=>exact λA _=>L8 λds own Q h=>Fp h λ_ _ _ _ _ _ o _=>o
 |succ n ih=>exact λA hA=>Vt ok N (hA.le (le_add_left _ _)) so1 so2 g22 (λenv=>ih _ (hA.deeper env)) g7 o7 (λenv=>f7 _ ((hA.deeper env).le (Ao (by decide) (le_add_left 5 n)))) g15 o15 (λenv=>lV _ ((hA.deeper env).le (Ao (by decide) (le_add_left 5 n))))
noncomputable def Lc:DefRec:=Ec PySem.Challenge.pw_in0167_02 23
noncomputable def gC:List Stmt->Option (Arguments×Expr×Scope×Pos)
 |_::_:: .Assign _ (.Call _ _ [⟨_,.Lambda a b s p,_⟩] _) _::_=>some (a,b,s,p)
 |_=>none
noncomputable def Ho:Arguments×Expr×Scope×Pos:=(gC Lc.body).getD (⟨[],[],none,[],[],none,[]⟩,.Constant .none 0 ⟨0,0,0,0⟩,default,⟨0,0,0,0⟩)
noncomputable def iE (w:Int):Mine.Internal.B3:=λds own Q=>∃x d,ds=[.tup [.str x,d]]/\x.length<=20000/\Q (Cc (w*x.length,x)) own
noncomputable def U5:Str:=(Lc.name++".<locals>.")++"<lambda>"
section
variable {α β γ δ:Type}{Γ:W}{K:Cj}{A:Around}{env:Env}{G G₀ G':Gh}{ι ι':List Addr}{σ:St}{s s':Shared}
theorem gD (ok:Γ.Ok){qual:Str}{pm v:Value}{w:Int}(hw:w.natAbs<=10)(len1:Γ.mg (ofString "len")=none)(len2:Γ.mb (ofString "len")=some (.builtin "len"))
  (h:Pq "<lambda>" qual Ho.1 Ho.2.1 Ho.2.2.1 "way" (.int w) pm G v):Hi Γ 1 (iE w) G v:=by
 refine Dm h λcw oc u Z g1 g2 g3=>?_
 try clear h
 refine Cm Z λa o cv ctv Y h1 h2 h3 h4=>?_
 clear Z
 subst Y
 refine⟨⟨a,o,_,rfl,h1,h3⟩,λA' hA=>?_⟩
 have N:dG Γ G a (kla_fn "<lambda>" qual Ho.1 Ho.2.1 Ho.2.2.1 [(ofString "way",cw)] pm cv ctv) ["pair"] [("way",.int w)]:={
  obj:=⟨o,h1,h3⟩
  code:=h4
  glob:=rfl
  bui:=rfl
  bind:=Gz λx=>by kernel_rfl
  kinds:=E3.mpr ⟨by kernel_rfl,forall_mem_nil _⟩
  nodup:=by decide
  nocell:=by show∀x∈Ho.2.2.1.names,x.2≠ .cell;decide +kernel
  free:=λx d e=>by
   rw[lookup_cons]at e
   split at e
   ·rename_i hx
    obtain rfl:=beq_iff_eq.mp hx
    cases e
    exact⟨by kernel_rfl,cw,oc,u,by kernel_rfl,g1,g2,g3⟩
   ·cases e
  freeAll:=λx c e=>by
   have e:([(ofString "way",cw)]:List (Str×Addr)).lookup x=some c:=e
   rw[lookup_cons]at e
   split at e
   ·cases e;exact⟨oc,g1⟩
   ·cases e
  kind:=by kernel_rfl
  co:=by kernel_rfl
  gen:=by kernel_rfl}
 have e1:=hA.handled
 have e2:=hA.depth
 have e3:=hA.units
 refine'(gP ok N rfl (by exact Aq e2) (λL=>?w)).imp ?p
 case w=>
  have H:=pO (A:=A'.deeper (Bw (kla_fn "<lambda>" qual Ho.1 Ho.2.1 Ho.2.2.1 [(ofString "way",cw)] pm cv ctv) L a)) ok N e1 (by rw[depth_deeper];exact Aq e2) (by show A'.units+3+500<_;exact Aq e3) L
  refine' Hx H ?_
  all_goals repeat' first
   |(show(_:Prop);with_reducible assumption)|(intros;rfl)|decide
   |with_reducible first|refine' It .. |refine' Ls .. |refine' Ju .. |exact Ds|exact Br|refine' A0 .. |refine' Bi ..
 case p=>
  intro ds own Q h
  refine Ag h λx d e hx q=>?_
  subst e
  have w0:Bb 0:=iw (n:=0) rfl (by decide)
  refine⟨rfl,?_⟩
  dsimp only[tU,tV,Mq]
  exact Ac rfl (Ac rfl (eY w0 rfl ⟨_,rfl,Fm hx ⟨qL hw,Ac rfl (eY w0 rfl ⟨Cr rfl,q⟩)⟩⟩))
end
noncomputable def Lg:List (Str×Str):=[("a","a"),("!","!"),("*","[*]"),("?","[?]"),("[","[\\[]")]
theorem eS:(Lg.map (·.1)).Nodup:=by decide +kernel
theorem eR:∀c∈cs "a*?[]()\\-!^",(match Nh Lg ⟨#[c]⟩with|some z=>z.cps.toList|none=>[92,c])=E5 c:=by decide +kernel
noncomputable def C7 {α:Type} (f:α->List Nat) (w:Int) (l:List α) (d:α):List α:=if l.length<2 then l else(E8 (λi j=>decide (E0 w (f (l.getD i d)) (f (l.getD j d))<0)) l.length).map λi=>l.getD i d
noncomputable def Ia:Nat->Int->A6->A6
 |0,_,t=>t
 |n+1,w,.node x l=>.node x ((C7 (Bf n w) w l (.node [] [])).map (Ia n w))
theorem D6 {α:Type}{f:α->List Nat}{w:Int}{l:List α}{d:α}(h:l.length<=4):(C7 f w l d).Perm l:=by
 unfold C7
 by_cases h2:l.length<2
 ·rw[Bc h2]
 ·rw[Ay h2]
  refine((Hg h h2 _).map _).trans ?_
  have:(List.range l.length).map (λi=>l.getD i d)=l:=by
   refine List.ext_getElem (by rw[B2,length_range]) λi h1 h2=>?_
   rw[List.getElem_map,List.getElem_range,List.getD_eq_getElem?_getD,Fz h2];rfl
  rw[this]
theorem N6 {α β:Type}{g:α->β}{l:List α}{i:Nat}{d:α}{d':β}(h:i<l.length):(l.map g).getD i d'=g (l.getD i d):=by
 rw[List.getD_eq_getElem?_getD,List.getD_eq_getElem?_getD,List.getElem?_map,Fz h];rfl
theorem Nk {α β:Type}{f:β->List Nat}{g:α->β}{w:Int}{l:List α}{d:α}{d':β}(h:l.length<=4):C7 f w (l.map g) d'=(C7 (λx=>f (g x)) w l d).map g:=by
 unfold C7
 rw[B2]
 by_cases h2:l.length<2
 ·rw[Bc h2,Bc h2]
 ·rw[Ay h2,Ay h2,map_map]
  have e:By (λi j=>decide (E0 w (f ((l.map g).getD i d')) (f ((l.map g).getD j d'))<0)) (kas_sort l.length)=By (λi j=>decide (E0 w (f (g (l.getD i d))) (f (g (l.getD j d)))<0)) (kas_sort l.length):=
   Di (n:=l.length) (λi j hi hj=>by rw[N6 hi,N6 hj]) _ (Dh _ h)
  have e2:E8 (λi j=>decide (E0 w (f ((l.map g).getD i d')) (f ((l.map g).getD j d'))<0)) l.length=E8 (λi j=>decide (E0 w (f (g (l.getD i d))) (f (g (l.getD j d)))<0)) l.length:=congrArg Array.toList e
  rw[e2]
  exact map_congr_left λi hi=>N6 (mem_range.mp ((Hg h h2 _).mem_iff.mp hi))
theorem K5 {α:Type}{f:α->List Nat}{w:Int}{l:List α}{d:α}(h:l.length<=4):(C7 f w l d).map f=Bs w (l.map f):=(Nk (f:=λx=>x) (d':=[]) h).symm
theorem aR {α:Type}{c:D->D->Int}{f:α->List Nat}{g:α->D}{w:Int}{l:List α}{d:α}(h:l.length<=4)(hc:∀x y,c (g x) (g y)=E0 w (f x) (f y)):De c (l.map g)=(C7 f w l d).map g:=by
 unfold De C7
 rw[B2]
 by_cases h2:l.length<2
 ·rw[Bc h2,Bc h2]
 ·rw[Ay h2,Ay h2,map_map]
  have e:By (λi j=>decide (c ((l.map g).getD i .none) ((l.map g).getD j .none)<0)) (kas_sort l.length)=By (λi j=>decide (E0 w (f (l.getD i d)) (f (l.getD j d))<0)) (kas_sort l.length):=
   Di (n:=l.length) (λi j hi hj=>by rw[N6 (d:=d) hi,N6 (d:=d) hj,hc]) _ (Dh _ h)
  rw[e]
  exact map_congr_left λi hi=>N6 (mem_range.mp ((Hg h h2 _).mem_iff.mp hi))
theorem Tqa.of_map {α:Type}{own:List (List D)}{f:α->A6}{g:α->Nat}:∀{Z:List α},(∀z∈Z,Ah own (f z) (g z))->Tqa own (Z.map f) (Z.map λz=>.obj (g z)):=by
 intro Z
 induction Z with
 |nil=>intro _;unfold Tqa;rfl
 |cons z Z ih=>intro h;rw[Gb,Gb];unfold Tqa;exact⟨_,_,rfl,h z (.head _),ih λy hy=>h y (.tail _ hy)⟩
noncomputable def aB:D->List Nat
 | .tup [.str x,_]=>x
 |_=>[]
theorem bP (w:Int)(x y:List Nat):decide (E0 w x y<0)=ltP (w*x.length,x) (w*y.length,y):=by
 unfold ltP
 dsimp only
 by_cases h:w*(x.length:Int)=w*y.length
 ·rw[Bc h]
  by_cases e:x=y
  ·rw[Bc e,decide_eq_false]
   exact λz=>(Ci.mp z).elim (λz=>absurd h (Int.ne_of_lt z)) λz=>List.lt_irrefl _ (e▸z.2)
  ·rw[Ay e]
   exact decide_eq_decide.mpr (Ci.trans ⟨λz=>z.elim (λz=>absurd h (Int.ne_of_lt z)) λz=>z.2,λz=>.inr ⟨h,z⟩⟩)
 ·rw[Ay h]
  exact decide_eq_decide.mpr (Ci.trans ⟨λz=>z.elim id λz=>absurd z.1 h,.inl⟩)
theorem kQ {α β:Type}{σ1:St}{B:D->TS}{n₀:Nat}{s:List (String×D)}{cap:List String}{F:St->Prop}{C:St->Prop}(g:α->D)(h:α×β->D)(I:List (List D)->α×β->Prop)(hI:∀junk j z,I junk z->I (junk++j) z)(xs:List α)
  (hC:∀es junk,C ⟨s,σ1.own++es::junk,cap⟩)
  (hB:∀x∈xs,∀(zs:List (α×β)) (junk:List (List D)) (R:FD->St->Prop),zs.length<=xs.length->(∀b m j,I (junk++j) (x,b)->R .next ⟨s++m,σ1.own++(zs.map h++[h (x,b)])::(junk++j),cap⟩)->B (g x) ⟨s,σ1.own++zs.map h::junk,cap⟩ R)
  (hF:∀(zs:List (α×β)) (junk:List (List D)),xs=zs.map (·.1)->(∀z∈zs,I junk z)->F ⟨s,σ1.own++zs.map h::junk,cap⟩):Ed C B n₀ (xs.map g) ⟨s,σ1.own++[[]],cap⟩ (M9 F):=by
 refine Ey (λitems σ=>∃(zs:List (α×β)) (res:List α) (junk:List (List D)),xs=zs.map (·.1)++res/\items=res.map g/\(∀z∈zs,I junk z)/\σ=⟨s,σ1.own++zs.map h::junk,cap⟩) ?_ ?_ _ _ ⟨[],xs,[],rfl,rfl,(λ_ h=>absurd h not_mem_nil),rfl⟩
 ·intro x r σ next hI' hk
  refine Dm hI' λzs res junk e e2 hz e3=>?_
  try clear hI'
  subst e3
  cases res with
  |nil=>cases e2
  |cons p res=>
   have e2:=List.cons.inj e2
   refine⟨hC _ _,?_⟩
   rw[e2.1]
   refine hB p (by rw[e];exact M2 _ Ht) zs junk _ (by rw[e,Bu,B2];exact le_add_right _ _) λb m j hb=>⟨_,Hl s m,hk _ ⟨zs++[(p,b)],res,junk++j,by rw[e,Id,C4];rfl,e2.2,λz hz'=>?_,by rw[Id];rfl⟩⟩
   exact(mem_append.mp hz').elim (λh=>hI _ _ _ (hz z h)) λh=>by rw[K2.mp h];exact hb
 ·intro σ hI'
  refine Dm hI' λzs res junk e e2 hz e3=>?_
  try clear hI'
  subst e3
  have h0:=map_eq_nil_iff.mp e2.symm
  rw[h0,Pv]at e
  exact⟨hC _ _,hF _ _ e hz⟩
noncomputable def iF (n:Nat):Mine.Internal.B3:=λds own Q=>∃k w t,ds=[.obj k,.int w]/\w.natAbs<=10/\Ah own t k/\Ks n w t/\∀ext k',(∀o:List (List D),o.length=own.length->Ah (o++ext) (Ia n w t) k')->Q (.tup [.str (Bf n w t),.obj k']) (own++ext)
theorem gR {Γ:W}(ok:Γ.Ok){A:Around}{a:Addr}{pm code doc:Value}(N:Fn Γ a (docDef Lc.name Lc.params Lc.body Lc.scope pm code doc) ["node","way"] Lc.body)(hA:A9 5 A)(len1:Γ.mg (ofString "len")=none)(len2:Γ.mb (ofString "len")=some (.builtin "len"))(so1:Γ.mg (ofString "sorted")=none)(so2:Γ.mb (ofString "sorted")=some (.builtin "sorted"))(hsm:∃o,Γ.B.get? sysModules=some o){n:Nat}(g23:Γ.mg (ofString "_law_told")=some (.ref a))(f:∀env,Ap Γ (A.deeper env) (.ref a) (iF n))
  {P cc:Addr}(hcode:code=.ref cc)(hcP:(cc,P)∈Γ.tabs)
  (hmk:∀G cv (pos':Pos),pos'.line=206->Bd G cv U5->Γ.codeOk P pos' G cv)(hhit:∀G cv (pos':Pos),pos'.line=206->Γ.codeOk P pos' G cv->Bd G cv U5):Ap Γ A (.ref a) (iF (n+1)):=by
 refine'(Dl ok N rfl (by have:=hA.depth;exact Aq this) (λL=>?w)).imp ?p
 case w=>
  have H:=Hk ok N (hA.deeper (callEnvC (docDef Lc.name Lc.params Lc.body Lc.scope pm code doc) L a)) L
  subst hcode
  have o23:=N.obj
  have F23:=f (callEnvC (docDef Lc.name Lc.params Lc.body Lc.scope pm (.ref cc) doc) L a)
  have HA:A9 (1+2) (A.deeper (callEnvC (docDef Lc.name Lc.params Lc.body Lc.scope pm (.ref cc) doc) L a)):=(hA.deeper _).le (by decide)
  refine' Av ?_ ?_
  all_goals repeat' first
   |(show(_:Prop);with_reducible assumption)|(intros;rfl)|decide|exact Kd.local (by rfl)|exact Kd.cell (by rfl) ⟨_,by rfl⟩
   |((with_reducible show∀_:Addr,Ev _ _ _->_);intro C hC)
   |((with_reducible refine' fH _ hsm (tab:=Lg) ?hl eS ?_ ?_ (List.cons_ne_nil _ _) (Cr rfl));case hl=>exact Yo (Yo (Yo (Yo (Yo ⟨rfl,rfl⟩)))))
   |((with_reducible refine' Gk (cap:=["signs"]) ..);any_goals ((with_reducible show CE _ _ _ _);exact Gy (by rfl) (by rfl) (λ_=>by rfl) rfl))
   |((with_reducible refine' Gk (cap:=["way"]) ..);any_goals ((with_reducible show CE _ _ _ _);exact Gy (by rfl) (by rfl) (λ_=>by rfl) rfl))
   |((with_reducible refine' Gk (cap:=[]) ..);any_goals ((with_reducible show CE _ _ _ _);exact Gy (by rfl) (by rfl) (λ_=>by rfl) rfl))
   |with_reducible first|refine' Xl (n:=1) _ (by assumption) _ (by assumption) (by assumption) .. |refine' Xn _ (c:=cc) (P:=P) (x:="way") (q:=U5) ?_ ?_ hcP ?_ ?_ ?_ ?_ (λG cv h=>hhit G cv _ rfl h) (λG cv pos' h1 h2 h3=>hmk G cv pos' h1 h3)|exact Dr|refine' Av .. |refine' Bx .. |refine' Dx .. |exact Hy|exact Ds|refine' Qp .. |refine' jN .. |refine' Dk _ _ (by assumption) .. |refine' It .. |refine' Ei .. |refine' Hx .. |exact Br|refine' A0 .. |refine' Ju .. |refine' Du .. |refine' Jg .. |refine' Ms .. |exact Rk|exact Vo|refine' Bi ..
 case p=>
  intro ds own Q h
  refine Fp h λk w t e hw ht ho q=>?_
  try clear h
  subst e
  cases t with
  |node x l=>
  unfold Ah at ht
  refine Ag ht λc ds h1 h1c s1=>?_
  try clear ht
  refine B6 ho λo1 o2 o3 o4 o5=>?_
  try clear ho
  have w0:Bb 0:=iw (n:=0) rfl (by decide)
  have w1:Bb 1:=iw (n:=1) rfl (by decide)
  refine⟨rfl,?_⟩
  dsimp only[tU,tV,Mq]
  have hx2:=o1.1
  refine An (T1:=λσ Q=>tV (D.sem (Jk Γ Lg)) σ λd σ=>aP true "signs" d σ (Q FD.next)) ?_
  refine⟨λ_=>not_mem_nil,?_⟩
  refine A5 (λσ=>∃e1,σ=⟨[("node",.obj k),("way",.int w),("signs",.sem (Jk Γ Lg)),("name",.str (x.flatMap E5))],own++e1,[]⟩) (λ_ _=>False) (λR r1 _=>?_) ?_ (λ_ _ h=>h.elim)
  ·refine⟨⟨_,rfl⟩,Gi (Ac rfl (B7 h1 w0 rfl (Nz (λc=>D.str [c]) (λdon=>don.map λc=>.str (E5 c)) x rfl (λ_ _=>trivial) (λc don res junk R e hn=>?_) λjunk=>?_)))⟩
   ·have hc:=o1.2 c (by rw[e];exact M2 _ Ht)
    have hdl:(don.map λc=>D.str (E5 c)).length<=sizeLine:=by
     rw[B2];exact Ao (by rw[e,Bu];exact le_add_right _ _:don.length<=x.length) (Ao hx2 (by decide))
    refine Ck (sT (W9 (Ac rfl ⟨⟨_,rfl⟩,Ac rfl (Ac rfl (Lm (Cr rfl) ⟨_,_,_,rfl,rfl,_,Co rfl,hdl,?_⟩))⟩)))
    have:=hn [("sign",.str [c])] []
    rw[Id,Pv,show[c].map (λc=>D.str (E5 c))=[.str (E5 c)]from rfl,<-eR c hc]at this
    show R .next ⟨_,(own++(don.map λc=>D.str (E5 c))::junk).set own.length _,_⟩
    rw[Dy]
    exact this
   ·refine Jr (xs:=x.map E5) (by rw[map_map];exact Co rfl) ?_ (Ck (r1 _ ⟨_,rfl⟩))
    rw[<-List.flatMap_def]
    refine Ao ?_ (Ao o3 (by decide))
    unfold Bf Jo
    rw[Bu,Bu,Bu,Bu,Bu]
    exact Ao (Ao (le_add_left _ _) (le_add_right _ _)) (Ao (le_add_left _ _) (Ao (le_add_right _ _) (le_add_right _ _)))
  intro σ Y
  refine Ad Y λe1 z0=>?_
  clear Y
  subst z0
  refine Au (Tqa.pairs _ _ s1) λps p1 p2 hps=>?_
  subst p1 p2
  have hpl:ps.length<=4:=by rw[B2]at o2;exact o2
  generalize hL:(ps.map (·.1)).map (Bf n w)=Lt at*
  have hLl:Lt.length<=4:=by rw[<-hL,B2,B2];exact hpl
  have hfl:(Bs w Lt).flatten.length<=2000:=by
   refine Ao ?_ o3
   unfold Bf
   rw[hL,Bu,Bu]
   exact Ao (le_add_left _ _) (le_add_right _ _)
  have hel:∀y∈Lt,y.length<=20000:=λy hy=>by
   have:y∈Bs w Lt:=(Cg hLl).mem_iff.mpr hy
   exact Ao (Q4 _ _ this) (Ao hfl (by decide))
  let h:(A6×Nat)×Nat->D:=λz=>.tup [.str (Bf n w z.1.1),.obj z.2]
  refine A5 (λσ=>∃(e2:List (List D)) (Z:List ((A6×Nat)×Nat)),σ=⟨[("node",.obj k),("way",.int w),("signs",.sem (Jk Γ Lg)),("name",.str (x.flatMap E5)),("below",.lst (Z.map h))],own++e2,["way"]⟩/\Z.length<=4/\Z.map (λz=>Bf n w z.1.1)=Bs w Lt/\
   Z.map (λz=>z.1.1)=C7 (Bf n w) w (ps.map (·.1)) (.node [] [])/\∀z∈Z,∀o:List (List D),o.length=own.length->Ah (o++e2) (Ia n w z.1.1) z.2) (λ_ _=>False) (λR r1 _=>?_) ?_ (λ_ _ h=>h.elim)
  ·refine Gi (Ac rfl (B7 (Aj (Dg _ _) h1) w1 rfl (Cf (Aj (Dg _ _) h1c:Al (own++e1) (.obj c)=some _)
    (kQ (λp:A6×Nat=>D.obj p.2) h (λjunk z=>∀(o:List (List D)) acc,o.length=(own++e1).length->Ah (o++acc::junk) (Ia n w z.1.1) z.2) (λjunk j z hz o acc ho=>?_) ps (λes junk=>Aj (Dg _ _) (Aj (Dg _ _) h1c)) (λp hm zs junk R hzl hn=>?_) (λzs junk hz1 hz2=>?_)))))
   ·exact Ah.mono (by rw[<-cons_append,<-C4];exact Dg _ _) _ _ (hz o acc ho)
   ·have hdl:(zs.map h).length<=sizeLine:=by
     rw[B2];exact Ao hzl (Ao hpl (by decide))
    have pf:∀z,own<+:(own++e1)++z:=λz=>by rw[C4];exact Dg _ _
    refine Ck (sT (W9 (Ac rfl (Ac rfl ⟨p.2,w,p.1,rfl,hw,Ah.mono (pf _) _ _ (hps p hm),o4 _ (mem_map_of_mem hm),λj k' hp=>?_⟩))))
    refine⟨_,Dc _ _ _ _,hdl,?_⟩
    show R .next ⟨_,((own++e1)++(_::junk)++j).set (own++e1).length _,_⟩
    rw[Ii]
    refine hn k' [("child",.obj p.2)] j λo acc ho=>?_
    have:=hp (o++acc::junk) (by show _=((own++e1)++zs.map h::junk).length;rw[Bu,ho,Bu (as:=own++e1)];rfl)
    rw[C4]at this
    exact this
   ·have hzl:zs.length<=4:=by have:=congrArg List.length hz1;rw[B2]at this;exact this▸hpl
    have hzt:zs.map (λz=>Bf n w z.1.1)=Lt:=by rw[<-hL,hz1,map_map,map_map];rfl
    have hzp:zs.map (λz=>z.1.1)=ps.map (·.1):=by rw[hz1,map_map];rfl
    refine⟨Hi Γ 1 (iE w),_,1,rfl,not_mem_nil,rfl,λG v hv=>gD ok hw len1 len2 hv,iE w,zs.map h,λa b=>E0 w (aB a) (aB b),λd=>(w*(aB d).length,aB d),rfl,Co rfl,by rw[B2];exact hzl,λd hd Q hQ=>?_,λd _ d2 _=>bP w _ _,?_⟩
    ·refine Ab (G7.mp hd) λz hz e=>?_
     subst e
     exact⟨_,_,rfl,hel _ (by rw[<-hzt];exact mem_map_of_mem hz),hQ⟩
    ·rw[aR (f:=λz=>Bf n w z.1.1) (g:=h) (w:=w) (d:=((.node [] [],0),0)) hzl λ_ _=>rfl]
     refine Ck (r1 _ ⟨e1++zs.map h::junk,_,by rw[<-C4];rfl,?_,?_,?_,?_⟩)
     ·rw[(D6 hzl).length_eq];exact hzl
     ·rw[K5 hzl,hzt]
     ·rw[<-hzp];exact(Nk hzl).symm
     ·intro z hz o ho
      have:=hz2 z ((D6 hzl).mem_iff.mp hz) (o++e1) (zs.map h) (by rw[Bu,Bu,ho])
      rw[C4]at this
      exact this
  intro σ V
  refine Bz V λe2 Z z5 hZl hZt zz=>Ae zz λhZp hZa=>?_
  clear V
  subst z5
  have hq:Bf (n+1) w (.node x (ps.map (·.1)))=((cs "("++Jo x)++(Bs w Lt).flatten)++cs ")":=by rw[<-hL];rfl
  have hq2:Ia (n+1) w (.node x (ps.map (·.1)))=.node x (Z.map λz=>Ia n w z.1.1):=by
   rw[show Ia (n+1) w (.node x (ps.map (·.1)))=.node x ((C7 (Bf n w) w (ps.map (·.1)) (.node [] [])).map (Ia n w))from rfl,<-hZp,map_map];rfl
  rw[hq]at o3
  rw[hq,hq2]at q
  have hdl:∀{f:(A6×Nat)×Nat->D} {don res:List ((A6×Nat)×Nat)} {z},Z=don++z::res->(don.map f).length<=sizeLine:=λe=>by
   rw[B2];exact Ao (by rw[e,Bu];exact le_add_right _ _:_<=Z.length) (Ao hZl (by decide))
  have etxt:(((cs "((?s:"++x.flatMap E5)++cs ")\\Z")++(Bs w Lt).flatten)++cs ")"=((cs "("++Jo x)++(Bs w Lt).flatten)++cs ")":=by
   rw[show cs "("++Jo x=(cs "((?s:"++x.flatMap E5)++cs ")\\Z" from by unfold Jo;rw[<-C4,<-C4];rfl]
  have z4:(((cs "((?s:"++x.flatMap E5)++cs ")\\Z")++(Bs w Lt).flatten).length+(cs ")").length<=20000:=by rw[<-Bu,etxt];exact Ao o3 (by decide)
  have z3:((cs "((?s:"++x.flatMap E5)++cs ")\\Z").length+(Bs w Lt).flatten.length<=20000:=by rw[<-Bu];exact Ao (le_add_right _ _) z4
  have z2:(cs "((?s:"++x.flatMap E5).length+(cs ")\\Z").length<=20000:=by rw[<-Bu];exact Ao (le_add_right _ _) z3
  have z1:(cs "((?s:").length+(x.flatMap E5).length<=20000:=by rw[<-Bu];exact Ao (le_add_right _ _) z2
  refine A5 (λσ=>∃e3,σ=⟨[("node",.obj k),("way",.int w),("signs",.sem (Jk Γ Lg)),("name",.str (x.flatMap E5)),("below",.lst (Z.map h)),("text",.str (((cs "("++Jo x)++(Bs w Lt).flatten)++cs ")"))],own++e3,["way"]⟩/\
   ∀z∈Z,∀o:List (List D),o.length=own.length->Ah (o++e3) (Ia n w z.1.1) z.2) (λ_ _=>False) (λR r1 _=>?_) ?_ (λ_ _ h=>h.elim)
  ·refine Ac rfl (Lm z1 (Lm z2 ⟨⟨_,rfl⟩,Gi (Ac rfl (T6 h (λdon=>[don.map λz=>.str (Bf n w z.1.1)]) Z rfl rfl (λz don res R e hn=>?_) ?_))⟩))
   ·refine⟨_,rfl,rfl,_,_,rfl,Ck ⟨_,_,rfl,Ck (sT (W9 (Ac rfl ⟨_,Co rfl,hdl e,?_⟩)))⟩⟩
    have:=hn [("told",.str (Bf n w z.1.1)),("child",.obj z.2)]
    rw[Id]at this
    show R .next ⟨_,((own++e2)++[don.map λz=>D.str (Bf n w z.1.1)]).set (own++e2).length _,_⟩
    rw[Dy]
    exact this
   ·refine Jr (xs:=Z.map λz=>Bf n w z.1.1) (by rw[map_map];exact Co rfl) (by rw[hZt];exact Ao hfl (by decide)) ?_
    rw[hZt]
    refine Lm z3 (Lm z4 ?_)
    rw[etxt]
    refine Ck (r1 _ ⟨e2++[Z.map λz=>.str (Bf n w z.1.1)],by rw[<-C4];rfl,λz hz o ho=>?_⟩)
    exact Ah.mono (by rw[<-C4];exact Dg _ _) _ _ (hZa z hz o ho)
  intro σ U
  refine Ab U λe3 z6 hZ3=>?_
  clear U
  subst z6
  refine Ak (Ac rfl (Ac rfl (B7 (Aj (Dg _ _) h1) w0 rfl (Gi (Ac rfl (T6 h (λdon=>[don.map λz=>.obj z.2]) Z rfl rfl (λz don res R e hn=>?_) ?_))))))
  ·refine⟨_,rfl,rfl,_,_,rfl,Ck ⟨_,_,rfl,Ck (sT (W9 (Ac rfl ⟨_,Co rfl,hdl e,?_⟩)))⟩⟩
   have:=hn [("told",.str (Bf n w z.1.1)),("child",.obj z.2)]
   rw[Id]at this
   show R .next ⟨_,((own++e3)++[don.map λz=>D.obj z.2]).set (own++e3).length _,_⟩
   rw[Dy]
   exact this
  refine⟨Cr rfl,Cr rfl,?_⟩
  have:=q (e3++[Z.map λz=>.obj z.2,[.str x,.obj (own++e3).length]]) ((own++e3)++[Z.map λz=>D.obj z.2]).length λo ho=>?_
  ·rw[show own++(e3++[Z.map λz=>D.obj z.2,[.str x,.obj (own++e3).length]])=((own++e3)++[Z.map λz=>D.obj z.2])++[[.str x,.obj (own++e3).length]]by rw[C4,C4];rfl]at this
   exact this
  ·have hl:(o++e3).length=(own++e3).length:=by rw[Bu,Bu,ho]
   unfold Ah
   refine⟨(own++e3).length,Z.map λz=>.obj z.2,?_,?_,Tqa.of_map (g:=λz:(A6×Nat)×Nat=>z.2) λz hz=>?_⟩
   ·rw[<-C4,append_cons (as:=o++e3)]
    exact Co (by rw[Bu (as:=o++e3),Bu (as:=own++e3),hl])
   ·rw[<-C4];exact Co hl
   ·exact Ah.mono (by rw[<-C4];exact Dg _ _) _ _ (hZ3 z hz o ho)
theorem lQ {Γ:W}(ok:Γ.Ok){a:Addr}{pm code doc:Value}(N:Fn Γ a (docDef Lc.name Lc.params Lc.body Lc.scope pm code doc) ["node","way"] Lc.body)(len1:Γ.mg (ofString "len")=none)(len2:Γ.mb (ofString "len")=some (.builtin "len"))(so1:Γ.mg (ofString "sorted")=none)(so2:Γ.mb (ofString "sorted")=some (.builtin "sorted"))(hsm:∃o,Γ.B.get? sysModules=some o)(g23:Γ.mg (ofString "_law_told")=some (.ref a))
  {P cc:Addr}(hcode:code=.ref cc)(hcP:(cc,P)∈Γ.tabs)
  (hmk:∀G cv (pos':Pos),pos'.line=206->Bd G cv U5->Γ.codeOk P pos' G cv)(hhit:∀G cv (pos':Pos),pos'.line=206->Γ.codeOk P pos' G cv->Bd G cv U5):
  ∀(n:Nat) (A:Around),A9 (n+5) A->Ap Γ A (.ref a) (iF n):=by
 intro n
 induction n with
 |zero=>exact λA _=>L8 λds own Q h=>Fp h λ_ _ _ _ _ _ o _=>o
 |succ n ih=>exact λA hA=>gR ok N (hA.le (le_add_left _ _)) len1 len2 so1 so2 hsm g23 (λenv=>ih _ (hA.deeper env)) hcode hcP hmk hhit
noncomputable def Vy:DefRec:=Ec PySem.Challenge.pw_in0167_02 3
theorem Pg (x:List Nat)(lo hi:Option Int):(cut x lo hi).length<=x.length:=by
 unfold cut
 simp only[length_take,length_drop]
 exact Aq (Bk (min_le_right (kms_hi hi x.length-kms_lo lo x.length) (x.length-kms_lo lo x.length)) (sub_le (x.length) (kms_lo lo x.length)))
structure QS where
 start:Int
 op:Option Int
 res:List (List Nat)
noncomputable def fP:Option Int->D
 |none=>.none
 |some o=>.int o
noncomputable def C8 (xs:List Nat) (q:QS) (p:Int×List Nat):QS:=
 if p.2=cs "\"" then match q.op with
  |none=>{q with op:=some p.1}
  |some o=>⟨p.1+1,none,if(q.start != o)=true then q.res++[cut xs (some q.start) (some o)]else q.res⟩
 else q
noncomputable def bB (xs:List Nat) (q:QS):List Nat:=(if q.start<xs.length then q.res++[cut xs (some q.start) none]else q.res).flatten
noncomputable def Ge (xs:List Nat):List Nat:=if Eb (cs "\"") xs=true then bB xs ((A3 0 false xs).foldl (C8 xs) ⟨0,none,[]⟩)else xs
noncomputable def U4 (xs:List Nat) (k:Nat) (q:QS):List (String×D):=[("addr",.str xs),("start",.int q.start),("open_pos",fP q.op),("result",.obj k)]
theorem Lv (xs:List Nat):∀(l:List (Int×List Nat)) (q:QS),(l.foldl (C8 xs) q).res.length<=q.res.length+l.length:=by
 intro lq
 induction lq with
 |nil=>intro q;exact le_refl _
 |cons p l ih=>
  intro q
  have h1:=ih (C8 xs q p)
  have h2:(C8 xs q p).res.length<=q.res.length+1:=by
   unfold C8
   split
   ·split
    ·exact le_succ _
    ·simp only;split<;>simp
   ·exact le_succ _
  simp only[foldl_cons,G8]
  exact Aq (Bk h1 h2)
noncomputable def pX:Mine.Internal.B3:=λds own Q=>∃xs:List Nat,ds=[.str xs]/\xs.length<=2000/\∀own',own<+:own'->Q (.str (Ge xs)) own'
theorem Qr (xs:List Nat):∀(l:List (Int×List Nat)) (q:QS),(∀x∈q.res,x.length<=xs.length)->∀x∈(l.foldl (C8 xs) q).res,x.length<=xs.length:=by
 intro lq
 induction lq with
 |nil=>intro q h;exact h
 |cons p l ih=>
  intro q h
  refine ih (C8 xs q p) ?_
  unfold C8
  split
  ·split
   ·exact h
   ·simp only
    split
    ·intro x hx
     rcases mem_append.mp hx with hx|hx
     ·exact h x hx
     ·rw[K2.mp hx];exact Pg _ _ _
    ·exact h
  ·exact h
theorem gS {Γ:W}(ok:Γ.Ok){A:Around}{a a11:Addr}{pm code doc:Value}{fd11:FuncData}(N:Fn Γ a (docDef Vy.name Vy.params Vy.body Vy.scope pm code doc) ["addr"] Vy.body)(hA:A9 2 A)
  (N11:Jj Γ a11 fd11)(g11:Γ.mg (ofString "_iter_escaped_chars")=some (.ref a11))
  (len1:Γ.mg (ofString "len")=none)(len2:Γ.mb (ofString "len")=some (.builtin "len")):Ap Γ A (.ref a) pX:=by
 refine'(Dl ok N rfl (by have:=hA.depth;exact Aq this) (λL=>?w)).imp ?p
 case w=>
  have H:=Hk ok N (hA.deeper (callEnvC (docDef Vy.name Vy.params Vy.body Vy.scope pm code doc) L a)) L
  refine' Av ?_ (Av ?_ (Av ?_ (Av ?_ (Av (Sz H N11 rfl g11 (by decide) ?_ rfl ?_ ?_ (λ_=>rfl)) ?_))))
  all_goals repeat' first
   |(show(_:Prop);with_reducible assumption)|(intros;rfl)|decide|exact Kd.local (by rfl)|exact Kd.cell (by rfl) ⟨_,by rfl⟩|exact λ_ _=>⟨_,rfl⟩
   |with_reducible first|exact Dr|refine' Av .. |refine' Bx .. |refine' Sy .. |refine' Dx .. |refine' Px .. |exact Hy|exact Ds|exact jK|refine' Iu .. |refine' Qp .. |refine' Ls .. |refine' It .. |refine' Ei .. |exact Br|refine' A0 .. |refine' Hz .. |exact fN|refine' Ly .. |refine' Ki .. |refine' Du .. |refine' Jg .. |exact Rk|refine' Ms .. |refine' Bi ..
 case p=>
  intro ds own Q Z
  refine Au Z λxs z0 hx q=>?_
  clear Z
  subst z0
  refine⟨rfl,?_⟩
  refine A5 (λσ=>Eb (cs "\"") xs=true/\σ=⟨[("addr",.str xs)],own,[]⟩) (λd σ=>Q d σ.own) ?_ ?_ (λd σ h=>h)
  ·intro R h1 h2
   refine(Ac rfl ?_)
   rw[eJ]
   refine W8 (λhc=>?_) λhc=>h1 _ ⟨by simpa using hc,rfl⟩
   have e:Ge xs=xs:=Ay (by simpa using hc)
   exact Ak (Ac rfl (h2 _ _ (by have:=q own (prefix_refl _);rw[e]at this;exact this)))
  intro σ Y
  refine Ae Y λhq z1=>?_
  clear Y
  subst z1
  refine An ((Ck (An ((Ck (An ⟨by decide,Ck ?_⟩))))))
  refine A5 (λσ=>σ=⟨U4 xs own.length ((A3 0 false xs).foldl (C8 xs) ⟨0,none,[]⟩),own++[((A3 0 false xs).foldl (C8 xs) ⟨0,none,[]⟩).res.map D.str],[]⟩) (λ_ _=>False) ?_ ?_ (λ_ _ h=>h.elim)
  ·intro R h1 h2
   refine Ac rfl ⟨xs,rfl,by unfold sizeLine;exact Ao (Aq hx) b6,?_⟩
   refine Gu (λitems σ=>∃don rest,A3 0 false xs=don++rest/\items=rest.map Fh/\σ=⟨U4 xs own.length (don.foldl (C8 xs) ⟨0,none,[]⟩),own++[(don.foldl (C8 xs) ⟨0,none,[]⟩).res.map D.str],[]⟩) ?_ ?_ _ _ ⟨[],A3 0 false xs,rfl,rfl,rfl⟩
   ·intro x rr σ R' V hn _ _
    refine Ag V λdon rest e e2 z2=>?_
    clear V
    subst z2
    cases rest with
    |nil=>cases e2
    |cons p rest=>
     rw[Gb]at e2
     injection e2 with e3 e4
     subst e3 e4
     have hl:=Lv xs don ⟨0,none,[]⟩
     have hl2:=Gw xs 0 false
     have hl3:=congrArg List.length e
     simp only[Bu,G8,length_nil,Bool.false_eq_true,if_false]at hl hl2 hl3
     have hne:∀(q':QS),q'=(don++[p]).foldl (C8 xs) ⟨0,none,[]⟩->R' .next ⟨U4 xs own.length q'++[("pos",.int p.1),("ch",.str p.2)],own++[q'.res.map D.str],[]⟩:=λq' hq'=>
      hn _ _ (Hl _ _) ⟨don++[p],rest,by simp[e],rfl,by rw[hq']⟩
     rw[foldl_append]at hne
     generalize don.foldl (C8 xs) ⟨0,none,[]⟩=qs at hl hne⊢
     refine⟨trivial,_,rfl,rfl,_,_,rfl,Ck ⟨_,_,rfl,Ck (Ct λR1 r1 _=>Ac rfl ((Nn (W8 (λhc=>?_) λhc=>?_))))⟩⟩
     ·have hc:=of_decide_eq_true hc
      refine Ct λR2 r2 _=>(Ac rfl (?_))
      cases ho:qs.op with
      |none=>
       refine nL (c:=true) (.inl ⟨rfl,rfl⟩) (sT (Ct λR3 r3 _=>(Ac rfl (Ck (r3 _ (r2 _ (r1 _ ?_)))))))
       have:=hne {qs with op:=some p.1} (by simp[C8,hc,ho])
       exact this
      |some o=>
       refine nM (sF (A5 (λσ=>σ=⟨U4 xs own.length qs++[("pos",.int p.1),("ch",.str p.2)],own++[(if(qs.start != o)=true then qs.res++[cut xs (some qs.start) (some o)]else qs.res).map D.str],[]⟩) (λ_ _=>False) ?_ ?_ λ_ _ h=>h.elim))
       ·intro R3 r3 _
        refine Ac rfl (Ac (show _=some (D.int o)by show some (fP qs.op)=_;rw[ho];rfl) (Os (W8 (λhs=>?_) λhs=>?_)))
        ·refine Ct λR4 r4 _=>Ac rfl (iL (Aw _ _) (Ac rfl (Ac rfl ⟨_,rfl,Ac (show _=some (D.int o)by show some (fP qs.op)=_;rw[ho];rfl) ⟨_,rfl,M5 (by exact Ao hx (by decide)) (Xb (Aw _ _) (by rw[B2];exact Aq (Bk (Bk (Bk hl (Bt hl3.symm)) hl2) hx)) (r4 _ (r3 _ ?_)))⟩⟩)))
         rw[Bc hs,Id]
         show St.mk _ ((own++[qs.res.map D.str]).set own.length _) _=_
         rw[Dj];rfl
        ·refine r3 _ ?_
         rw[Ay (by rw[hs];decide)]
         rfl
       ·rintro σ rfl
        refine A5 (λσ=>σ=⟨U4 xs own.length {qs with start:=p.1+1}++[("pos",.int p.1),("ch",.str p.2)],own++[(if(qs.start != o)=true then qs.res++[cut xs (some qs.start) (some o)]else qs.res).map D.str],[]⟩) (λ_ _=>False) ?_ ?_ λ_ _ h=>h.elim
        ·intro R3 r3 _
         exact Ac rfl ((Ln (Ck (r3 _ rfl))))
        ·rintro σ rfl
         refine Ct λR4 r4 _=>(Ck (r4 _ (r2 _ (r1 _ ?_))))
         have:=hne ⟨p.1+1,none,if(qs.start != o)=true then qs.res++[cut xs (some qs.start) (some o)]else qs.res⟩ (by simp[C8,hc,ho])
         exact this
     ·have hc:=of_decide_eq_false hc
      have:=hne qs (by simp[C8,hc])
      exact r1 _ this
   ·intro σ U
    refine Ag U λdon rest e e2 z3=>?_
    clear U
    subst z3
    have:rest=[]:=by simpa using e2.symm
    subst this
    rw[Pv]at e;subst e
    exact⟨trivial,h1 _ rfl⟩
  rintro σ rfl
  have hl:=Lv xs (A3 0 false xs) ⟨0,none,[]⟩
  have hl2:=Gw xs 0 false
  have hcs:=Qr xs (A3 0 false xs) ⟨0,none,[]⟩ (λ_ h=>absurd h not_mem_nil)
  have hqe:Ge xs=bB xs ((A3 0 false xs).foldl (C8 xs) ⟨0,none,[]⟩):=Bc hq
  simp only[length_nil,Bool.false_eq_true,if_false]at hl hl2
  generalize (A3 0 false xs).foldl (C8 xs) ⟨0,none,[]⟩=qs at hl hqe hcs⊢
  refine A5 (λσ=>σ=⟨U4 xs own.length qs,own++[(if qs.start<xs.length then qs.res++[cut xs (some qs.start) none]else qs.res).map D.str],[]⟩) (λ_ _=>False) ?_ ?_ λ_ _ h=>h.elim
  ·intro R r _
   refine Ac rfl (Ac rfl ⟨_,rfl,Fm (by exact Ao hx (by decide)) (Ot (W8 (λhs=>?_) λhs=>?_))⟩)
   ·refine Ct λR4 r4 _=>Ac rfl (iL (Aw _ _) (Ac rfl (Ac rfl ⟨_,rfl,M5 (by exact Ao hx (by decide)) (Xb (Aw _ _) (by rw[B2];exact Aq (Bk (Bk hl hl2) hx)) (r4 _ (r _ ?_)))⟩)))
    rw[Bc (of_decide_eq_true hs),Id]
    show St.mk _ ((own++[qs.res.map D.str]).set own.length _) _=_
    rw[Dj];rfl
   ·refine r _ ?_
    rw[Ay (of_decide_eq_false hs)]
  ·rintro σ rfl
   rw[hqe]at q
   unfold bB at q
   have hb:∀x∈(if qs.start<xs.length then qs.res++[cut xs (some qs.start) none]else qs.res),x.length<=2000:=λx hx2=>by
    split at hx2
    ·rcases mem_append.mp hx2 with h|h
     ·exact Ao (hcs x h) hx
     ·rw[K2.mp h];exact Ao (Pg _ _ _) hx
    ·exact Ao (hcs x hx2) hx
   have hn:(if qs.start<xs.length then qs.res++[cut xs (some qs.start) none]else qs.res).length<=2010:=by
    split
    ·rw[Bu,List.length_singleton];exact Aq (Bk (Bk hl hl2) hx)
    ·exact Aq (Bk (Bk hl hl2) hx)
   generalize (if qs.start<xs.length then qs.res++[cut xs (some qs.start) none]else qs.res)=res at q hb hn⊢
   refine Ct λR4 _ r4=>⟨⟨_,rfl⟩,Ac rfl ⟨cs "",_,res,rfl,rfl,Aw _ _,Ao (Wt _ 2000 hb) (by unfold sizeLine;exact Ao (Aq (mul_le_mul_left 2000 hn)) b6),r4 _ _ ?_⟩⟩
   rw[show I7 (cs "") res=res.flatten from H4 _]
   exact q _ (Dg _ _)
noncomputable def Vx:DefRec:=Ec PySem.Challenge.pw_in0167_02 4
noncomputable def C6:Int->List (Int×List Nat)->Bool
 |n,[]=>n==0
 |n,p::r=>if p.2=cs "(" then C6 (n+1) r else if p.2=cs ")" then(if n-1<0 then false else C6 (n-1) r)else C6 n r
theorem Iw (n:Int)(p:Int×List Nat)(r:List (Int×List Nat)):C6 n (p::r)=if p.2=cs "(" then C6 (n+1) r else if p.2=cs ")" then(if n-1<0 then false else C6 (n-1) r)else C6 n r:=rfl
noncomputable def Fi (xs:List Nat):Bool:=C6 0 (A3 0 false (Ge xs))
theorem Rv (xs:List Nat)(hx:xs.length<=2000):(Ge xs).length<=2010*2000:=by
 unfold Ge
 split
 ·have hl:=Lv xs (A3 0 false xs) ⟨0,none,[]⟩
  have hl2:=Gw xs 0 false
  have hcs:=Qr xs (A3 0 false xs) ⟨0,none,[]⟩ (λ_ h=>absurd h not_mem_nil)
  simp only[length_nil,Bool.false_eq_true,if_false]at hl hl2
  generalize (A3 0 false xs).foldl (C8 xs) ⟨0,none,[]⟩=qs at hl hcs⊢
  unfold bB
  have hb:∀x∈(if qs.start<xs.length then qs.res++[cut xs (some qs.start) none]else qs.res),x.length<=2000:=λx hx2=>by
   split at hx2
   ·rcases mem_append.mp hx2 with h|h
    ·exact Ao (hcs x h) hx
    ·rw[K2.mp h];exact Ao (Pg _ _ _) hx
   ·exact Ao (hcs x hx2) hx
  have hn:(if qs.start<xs.length then qs.res++[cut xs (some qs.start) none]else qs.res).length<=2010:=by
   split
   ·rw[Bu,List.length_singleton];exact Aq (Bk (Bk hl hl2) hx)
   ·exact Aq (Bk (Bk hl hl2) hx)
  generalize (if qs.start<xs.length then qs.res++[cut xs (some qs.start) none]else qs.res)=res at hb hn⊢
  have h:=Ao (Wt _ 2000 hb) (Nat.mul_le_mul_right 2000 hn)
  have h5:(cs "").length=0:=by decide
  rw[List.length_flatten]
  simpa only[h5,Nat.add_zero]using h
 ·exact Ao hx (by decide)
noncomputable def mR:Mine.Internal.B3:=λds own Q=>∃xs:List Nat,ds=[.str xs]/\xs.length<=2000/\∀own',own<+:own'->Q (.bool (Fi xs)) own'
theorem gU {Γ:W}(ok:Γ.Ok){A:Around}{a a11 a12:Addr}{pm code doc pm12 code12 doc12:Value}{fd11:FuncData}(N:Fn Γ a (docDef Vx.name Vx.params Vx.body Vx.scope pm code doc) ["addr"] Vx.body)(hA:A9 3 A)
  (N11:Jj Γ a11 fd11)(g11:Γ.mg (ofString "_iter_escaped_chars")=some (.ref a11))
  (g12:Γ.mg (ofString "_strip_quoted_realnames")=some (.ref a12))(o12:∃o,Γ.B.get? a12=some o/\o.data=.func (docDef Vy.name Vy.params Vy.body Vy.scope pm12 code12 doc12))(f12:∀env,Ap Γ (A.deeper env) (.ref a12) pX):Ap Γ A (.ref a) mR:=by
 refine'(Dl ok N rfl (by have:=hA.depth;exact Aq this) (λL=>?w)).imp ?p
 case w=>
  have H:=Hk ok N (hA.deeper (callEnvC (docDef Vx.name Vx.params Vx.body Vx.scope pm code doc) L a)) L
  have F12:=f12 (callEnvC (docDef Vx.name Vx.params Vx.body Vx.scope pm code doc) L a)
  refine' Av ?_ (Av ?_ (Av (Sz H N11 rfl g11 (by decide) ?_ rfl ?_ ?_ (λ_=>rfl)) ?_))
  all_goals repeat' first
   |(show(_:Prop);with_reducible assumption)|(intros;rfl)|decide|exact Kd.local (by rfl)|exact Kd.cell (by rfl) ⟨_,by rfl⟩
   |with_reducible first|exact Dr|refine' Av .. |refine' Bx .. |refine' Le .. |refine' Sy .. |refine' Dx .. |exact Hy|exact Ds|exact Ir|refine' Dk _ _ (by assumption) .. |refine' Xo .. |exact Br|refine' A0 .. |refine' Ki .. |refine' Du .. |refine' Jg .. |exact Rk|refine' Ms .. |refine' Bi ..
 case p=>
  intro ds own Q Z
  refine Au Z λxs z2 hx q=>?_
  clear Z
  subst z2
  refine⟨rfl,?_⟩
  have hz:=Rv xs hx
  have qq:∀b own',b=Fi xs->own<+:own'->Q (.bool b) own':=λb own' e h=>by rw[e];exact q own' h
  unfold Fi at qq
  generalize hys:Ge xs=ys at hz qq
  refine A5 (λσ=>∃own',own<+:own'/\σ=⟨[("addr",.str ys)],own',[]⟩) (λ_ _=>False) ?_ ?_ λ_ _ h=>h.elim
  ·intro R r _
   exact Ac rfl ⟨xs,rfl,hx,λown' h=>Ck (r _ ⟨own',h,by rw[hys];rfl⟩)⟩
  intro σ Y
  refine Ab Y λown' hp z3=>?_
  clear Y
  subst z3
  refine A5 (λσ=>σ=⟨[("addr",.str ys),("opens",.int 0)],own',[]⟩) (λ_ _=>False) (λR r _=>(Ck (r _ rfl))) ?_ λ_ _ h=>h.elim
  rintro σ rfl
  refine A5 (λσ=>∃n:Int,σ=⟨[("addr",.str ys),("opens",.int n)],own',[]⟩/\(n==0)=C6 0 (A3 0 false ys)) (λd σ=>d=.bool (C6 0 (A3 0 false ys))/\σ.own=own') ?_ ?_ ?_
  ·intro R r r'
   refine Ac rfl ⟨ys,rfl,by unfold sizeLine;exact Ao (Aq hz) b6,?_⟩
   refine Gu (λitems σ=>∃(n:Int) (rest:List (Int×List Nat)),items=rest.map Fh/\σ=⟨[("addr",.str ys),("opens",.int n)],own',[]⟩/\C6 0 (A3 0 false ys)=C6 n rest) ?_ ?_ _ _ ⟨0,_,rfl,rfl,rfl⟩
   ·intro x rr σ R' V hk hr _
    refine Ag V λn rest e z4 hn=>?_
    clear V
    subst z4
    cases rest with
    |nil=>cases e
    |cons p rest=>
     rw[Gb]at e
     injection e with e1 e2
     subst e1 e2
     have go:∀m:Int,C6 n (p::rest)=C6 m rest->R' .next ⟨[("addr",.str ys),("opens",.int m),("pos",.int p.1),("ch",.str p.2)],own',[]⟩:=λm h=>
      hk _ _ (Hl [("addr",.str ys),("opens",.int m)] [("pos",.int p.1),("ch",.str p.2)]) ⟨m,rest,rfl,rfl,hn.trans h⟩
     refine⟨trivial,_,rfl,rfl,_,_,rfl,Ck ⟨_,_,rfl,Ck (Ct λR1 r1 r1'=>Ac rfl ((Nn (W8 (λhc=>?_) λhc=>?_))))⟩⟩
     ·have hc:=of_decide_eq_true hc
      exact Ct λR2 r2 _=>⟨_,rfl,.inl ⟨rfl,Ck (r2 _ (r1 _ (go (n+1) (by rw[Iw,Bc hc]))))⟩⟩
     ·have hc:=of_decide_eq_false hc
      refine Ct λR2 r2 r2'=>Ac rfl ((Nn (W8 (λhd=>?_) λhd=>?_)))
      ·have hd:=of_decide_eq_true hd
       refine A5 (λσ=>σ=⟨[("addr",.str ys),("opens",.int (n-1)),("pos",.int p.1),("ch",.str p.2)],own',[]⟩) (λ_ _=>False) (λR3 r3 _=>⟨_,rfl,.inr ⟨rfl,Ck (r3 _ rfl)⟩⟩) ?_ λ_ _ h=>h.elim
       rintro σ rfl
       refine Ct λR3 r3 r3'=>Ac rfl ((Ot (W8 (λhs=>?_) λhs=>?_)))
       ·have hs:=of_decide_eq_true hs
        refine Ct λR4 _ r4'=>(r4' _ _ (r3' _ _ (r2' _ _ (r1' _ _ (hr _ _ (r' _ _ ⟨?_,rfl⟩))))))
        rw[hn,Iw,Ay hc,Bc hd,Bc hs]
       ·have hs:=of_decide_eq_false hs
        exact r3 _ (r2 _ (r1 _ (go (n-1) (by rw[Iw,Ay hc,Bc hd,Ay hs]))))
      ·have hd:=of_decide_eq_false hd
       exact r2 _ (r1 _ (go n (by rw[Iw,Ay hc,Ay hd])))
   ·intro σ U
    refine Ag U λn rest e z5 hn=>?_
    clear U
    subst z5
    have:rest=[]:=by simpa using e.symm
    subst this
    exact⟨trivial,r _ ⟨n,rfl,hn.symm⟩⟩
  ·intro σ z0
   refine Ab z0 λn z6 hn=>?_
   clear z0
   subst z6
   exact Ct λR _ r=>Ac rfl ((Qk (r _ _ (qq _ _ hn hp))))
  ·intro d σ z1
   refine Ae z1 λz7 e=>?_
   clear z1
   subst z7
   exact qq _ _ rfl (e▸hp)
abbrev US:=List (List Nat)
noncomputable def Pr (c:Nat):US:=if c=97\/c=33 then[[c]]else if c=42\/c=63 then[[91],[c],[93]]else if c=91 then[[91],[92,91],[93]]else[[92,c]]
noncomputable def un:Nat->A6->US
 |0,_=>[]
 |n+1,.node x l=>[40]::(([40]::(([[63],[115],[58]]++x.flatMap Pr)++[[41]]))++([[92,90]]++l.flatMap (un n)))++[[41]]
noncomputable def wr:Nat->A6->List Nat
 |0,_=>[]
 |n+1,.node x l=>((cs "("++Jo x)++(l.map (wr n)).flatten)++cs ")"
noncomputable def K8:Nat->A6->Prop
 |0,_=>False
 |n+1,.node x l=>Em x/\l.length<=4/\∀c∈l,K8 n c
noncomputable def I8 (u:List Nat):Bool:=match u with
 |[c]=>c != 92&&c != 34&&decide (c<0x110000)
 |[d,c]=>d==92&&c != 34&&decide (c<0x110000)
 |_=>false
theorem Fe {u:List Nat}(h:I8 u=true):(∃c,c≠92/\c≠34/\c<0x110000/\u=[c])\/∃c,c≠34/\c<0x110000/\u=[92,c]:=by
 rcases u with _|⟨d,_|⟨c,_|⟨_,_⟩⟩⟩
 ·exact absurd h Bool.false_ne_true
 ·have h:=Bool.and_eq_true_iff.mp h
  have h1:=Bool.and_eq_true_iff.mp h.1
  exact .inl ⟨d,bne_iff_ne.mp h1.1,bne_iff_ne.mp h1.2,of_decide_eq_true h.2,rfl⟩
 ·have h:=Bool.and_eq_true_iff.mp h
  have h1:=Bool.and_eq_true_iff.mp h.1
  exact .inr ⟨c,bne_iff_ne.mp h1.2,of_decide_eq_true h.2,by rw[show d=92 from eq_of_beq h1.1]⟩
 ·exact absurd h Bool.false_ne_true
theorem gW:∀(us:US) (i:Nat),(∀u∈us,I8 u=true)->(A3 i false us.flatten).map (·.2)=us:=by
 intro us
 induction us with
 |nil=>intro i _;rfl
 |cons u r ih=>
  intro i h
  rw[flatten_cons]
  rcases Fe (h u Ht)with⟨c,hc,_,_,rfl⟩|⟨c,_,_,rfl⟩
  ·show(A3 i false (c::r.flatten)).map (·.2)=_
   rw[Me hc,Gb,ih (i+1) λv hv=>h v (mem_cons_of_mem _ hv)]
  ·show[92,c]::(A3 (i+2) false r.flatten).map (·.2)=_
   rw[ih (i+2) λv hv=>h v (mem_cons_of_mem _ hv)]
theorem Wl:∀c∈cs "a*?[]()\\-!^",(Pr c).flatten=E5 c:=by decide +kernel
theorem Wk:∀c∈cs "a*?[]()\\-!^",∀u∈Pr c,I8 u=true:=by decide +kernel
theorem P8:∀c∈cs "a*?[]()\\-!^",∀u∈Pr c,u≠cs "("/\u≠cs ")":=by decide +kernel
theorem Za:∀x:List Nat,(∀c∈x,c∈cs "a*?[]()\\-!^")->(x.flatMap Pr).flatten=x.flatMap E5:=by
 intro x
 induction x with
 |nil=>intro _;rfl
 |cons c x ih=>intro h;rw[flatMap_cons,flatMap_cons,flatten_append,Wl c (h c (.head _)),ih λd hd=>h d (.tail _ hd)]
theorem S3:∀(n:Nat) (t:A6),K8 n t->(un n t).flatten=wr n t:=by
 intro n
 induction n with
 |zero=>intro t h;exact h.elim
 |succ n ih=>
  intro t h
  cases t with
  |node x l=>
  have hl:∀l:List A6,(∀c∈l,K8 n c)->(l.flatMap (un n)).flatten=(l.map (wr n)).flatten:=by
   intro l
   induction l with
   |nil=>intro _;rfl
   |cons c l ihl=>intro h;rw[flatMap_cons,flatten_append,ih c (h c (.head _)),ihl λd hd=>h d (.tail _ hd)];rfl
  show([40]::(([40]::(([[63],[115],[58]]++x.flatMap Pr)++[[41]]))++([[92,90]]++l.flatMap (un n)))++[[41]]).flatten=((cs "("++((cs "(?s:"++x.flatMap E5)++cs ")\\Z"))++(l.map (wr n)).flatten)++cs ")"
  rw[<-hl l h.2.2,<-Za x h.1.2]
  simp only[flatten_append,flatten_cons,List.flatten_nil,C4,cons_append,nil_append,Pv]
  rfl
theorem S2:∀(n:Nat) (t:A6),K8 n t->∀u∈un n t,I8 u=true:=by
 intro n
 induction n with
 |zero=>intro t h;exact h.elim
 |succ n ih=>
  intro t h
  cases t with
  |node x l=>
  show∀u∈[40]::(([40]::(([[63],[115],[58]]++x.flatMap Pr)++[[41]]))++([[92,90]]++l.flatMap (un n)))++[[41]],I8 u=true
  simp only[forall_mem_append,E3,List.mem_flatMap,not_mem_nil,false_imp_iff,implies_true,and_true]
  refine⟨⟨by decide,⟨by decide,⟨⟨by decide,by decide,by decide⟩,?_⟩,by decide⟩,by decide,?_⟩,by decide⟩
  ·rintro u ⟨c,hc,hu⟩;exact Wk c (h.1.2 c hc) u hu
  ·rintro u ⟨c,hc,hu⟩;exact ih c (h.2.2 c hc) u hu
noncomputable def Df:List Eo->US->Prop
 |_,[]=>True
 |L,u::r=>Jy L u/\Df (Bq L u) r
theorem Hh:∀{us vs:US} {L:List Eo},Df L us->Df (us.foldl Bq L) vs->Df L (us++vs):=by
 intro us
 induction us with
 |nil=>intro vs L _ h;exact h
 |cons u us ih=>intro vs L h h2;exact⟨h.1,ih h.2 h2⟩
theorem bY:∀{ps:List (Int×List Nat)} {L:List Eo},Df L (ps.map (·.2))->Q1 L ps:=by
 intro ps
 induction ps with
 |nil=>intro L _;trivial
 |cons p ps ih=>intro L h;exact⟨h.1,ih h.2⟩
theorem lL:∀(ps:List (Int×List Nat)) (L:List Eo),ps.foldl (λL p=>Bq L p.2) L=(ps.map (·.2)).foldl Bq L:=by
 intro ps
 induction ps with
 |nil=>intro L;rfl
 |cons p ps ih=>intro L;exact ih _
noncomputable def C5 (L:List Eo):Prop:=∀g∈L,g.kids.length<=10/\g.nm.length<=10
theorem K7 {f:Eo}{rest:List Eo}{u:List Nat}(h1:u≠[])(h2:u.length<=2)(h3:rest.length<=20)(h4:C5 (f::rest))(h5:f.st=6->u≠cs "("->rest≠[]):Jy (f::rest) u:=
 ⟨h1,h2,Ao h3 (Cr rfl),Ao (h4 f (.head _)).2 (Cr rfl),λg hg=>Ao (h4 g hg).1 (Cr rfl),h5⟩
theorem C5.cons {f:Eo}{rest:List Eo}(h1:f.kids.length<=10)(h2:f.nm.length<=10)(h:C5 rest):C5 (f::rest):=E3.mpr ⟨⟨h1,h2⟩,h⟩
theorem rT {c:Nat}{P:Nat->Prop}(h:c∈cs "a*?[]()\\-!^")(h1:P 97)(h2:P 42)(h3:P 63)(h4:P 91)(h5:P 93)(h6:P 40)(h7:P 41)(h8:P 92)(h9:P 45)(h10:P 33)(h11:P 94):P c:=by
 have h:c∈[97,42,63,91,93,40,41,92,45,33,94]:=h
 simp only[E1,not_mem_nil,or_false]at h
 rcases h with rfl|rfl|rfl|rfl|rfl|rfl|rfl|rfl|rfl|rfl|rfl<;>assumption
theorem Li {y:List Nat}{ks:List A6}{rest:List Eo}{u:List Nat}(h1:u≠cs ")")(h2:u≠cs "[")(h3:u≠cs "]"):Bq (⟨4,y,ks⟩::rest) u=⟨4,y++[u.getLast?.getD 0],ks⟩::rest:=by
 unfold Bq;dsimp only
 rw[Ay (by decide),Ay (λh=>h.elim (λh=>h rfl) h1),Ay (λh=>h.elim h2 h3)]
theorem Ol {y:List Nat}{ks:List A6}{rest:List Eo}{u:List Nat}(h1:u≠cs ")")(h2:u=cs "["\/u=cs "]"):Bq (⟨4,y,ks⟩::rest) u=⟨4,y,ks⟩::rest:=by
 unfold Bq;dsimp only
 rw[Ay (by decide),Ay (λh=>h.elim (λh=>h rfl) h1),Bc h2]
theorem jI {rest:List Eo}(hr:rest.length<=20)(hs:C5 rest){c:Nat}(hc:c∈cs "a*?[]()\\-!^"){y:List Nat}(hy:y.length<=8):
  (Pr c).foldl Bq (⟨4,y,[]⟩::rest)=⟨4,y++[c],[]⟩::rest/\Df (⟨4,y,[]⟩::rest) (Pr c):=by
 have hk:C5 (⟨4,y,[]⟩::rest):=C5.cons (zero_le _) (Ao hy (Cr rfl)) hs
 have hk2:C5 (⟨4,y++[c],[]⟩::rest):=C5.cons (zero_le _) (by show(y++[c]).length<=10;rw[Bu];exact Ao (add_le_add_right hy 1) (Cr rfl)) hs
 have o:∀{z:List Nat} {u:List Nat},C5 (⟨4,z,[]⟩::rest)->u≠[]->u.length<=2->Jy (⟨4,z,[]⟩::rest) u:=λh h1 h2=>K7 h1 h2 hr h λe=>absurd e (by show¬(4:Int)=6;decide)
 have one:∀{u:List Nat},u≠[]->u.length<=2->u≠cs ")"->u≠cs "["->u≠cs "]"->u.getLast?.getD 0=c->[u].foldl Bq (⟨4,y,[]⟩::rest)=⟨4,y++[c],[]⟩::rest/\Df (⟨4,y,[]⟩::rest) [u]:=
  λ{u} h1 h2 h3 h4 h5 h6=>⟨by rw[foldl_cons,Li h3 h4 h5,h6];rfl,o hk h1 h2,trivial⟩
 have three:∀{u:List Nat},u≠[]->u.length<=2->u≠cs ")"->u≠cs "["->u≠cs "]"->u.getLast?.getD 0=c->[[91],u,[93]].foldl Bq (⟨4,y,[]⟩::rest)=⟨4,y++[c],[]⟩::rest/\Df (⟨4,y,[]⟩::rest) [[91],u,[93]]:=by
  intro u h1 h2 h3 h4 h5 h6
  refine⟨?_,o hk (by decide) (by decide),?_⟩
  ·rw[foldl_cons,Ol (by decide) (by decide),foldl_cons,Li h3 h4 h5,h6,foldl_cons,Ol (by decide) (by decide)];rfl
  ·rw[Ol (by decide) (by decide)]
   refine⟨o hk h1 h2,?_⟩
   rw[Li h3 h4 h5,h6]
   exact⟨o hk2 (by decide) (by decide),trivial⟩
 clear hk hk2 o
 revert one three
 refine rT (P:=λc=>(∀{u:List Nat},u≠[]->u.length<=2->u≠cs ")"->u≠cs "["->u≠cs "]"->u.getLast?.getD 0=c->[u].foldl Bq (⟨4,y,[]⟩::rest)=⟨4,y++[c],[]⟩::rest/\Df (⟨4,y,[]⟩::rest) [u])->(∀{u:List Nat},u≠[]->u.length<=2->u≠cs ")"->u≠cs "["->u≠cs "]"->u.getLast?.getD 0=c->[[91],u,[93]].foldl Bq (⟨4,y,[]⟩::rest)=⟨4,y++[c],[]⟩::rest/\Df (⟨4,y,[]⟩::rest) [[91],u,[93]])->(Pr c).foldl Bq (⟨4,y,[]⟩::rest)=⟨4,y++[c],[]⟩::rest/\Df (⟨4,y,[]⟩::rest) (Pr c)) hc ?_ ?_ ?_ ?_ ?_ ?_ ?_ ?_ ?_ ?_ ?_
 all_goals intro one three
 ·exact one (u:=[97]) (by decide) (by decide) (by decide) (by decide) (by decide) rfl
 ·exact three (u:=[42]) (by decide) (by decide) (by decide) (by decide) (by decide) rfl
 ·exact three (u:=[63]) (by decide) (by decide) (by decide) (by decide) (by decide) rfl
 ·exact three (u:=[92,91]) (by decide) (by decide) (by decide) (by decide) (by decide) rfl
 ·exact one (u:=[92,93]) (by decide) (by decide) (by decide) (by decide) (by decide) rfl
 ·exact one (u:=[92,40]) (by decide) (by decide) (by decide) (by decide) (by decide) rfl
 ·exact one (u:=[92,41]) (by decide) (by decide) (by decide) (by decide) (by decide) rfl
 ·exact one (u:=[92,92]) (by decide) (by decide) (by decide) (by decide) (by decide) rfl
 ·exact one (u:=[92,45]) (by decide) (by decide) (by decide) (by decide) (by decide) rfl
 ·exact one (u:=[33]) (by decide) (by decide) (by decide) (by decide) (by decide) rfl
 ·exact one (u:=[92,94]) (by decide) (by decide) (by decide) (by decide) (by decide) rfl
theorem Xk {rest:List Eo}(hr:rest.length<=20)(hs:C5 rest):∀(x y:List Nat),(∀c∈x,c∈cs "a*?[]()\\-!^")->y.length+x.length<=8->(x.flatMap Pr).foldl Bq (⟨4,y,[]⟩::rest)=⟨4,y++x,[]⟩::rest/\Df (⟨4,y,[]⟩::rest) (x.flatMap Pr):=by
 intro x
 induction x with
 |nil=>intro y _ _;exact⟨by rw[Pv];rfl,trivial⟩
 |cons c x ih=>
  intro y h hl
  rw[G8]at hl
  have h1:=jI hr hs (h c (.head _)) (y:=y) (Ao (le_add_right _ _) hl)
  have h2:=ih (y++[c]) (λd hd=>h d (.tail _ hd)) (by rw[Bu];exact Ao (Bt (by rw[add_assoc,add_comm [c].length];rfl)) hl)
  rw[flatMap_cons]
  refine⟨by rw[foldl_append,h1.1,h2.1,C4];rfl,Hh h1.2 ?_⟩
  rw[h1.1];exact h2.2
theorem Xj:∀(n:Nat) (t:A6) (f:Eo) (rest:List Eo),K8 n t->f.st=6->rest.length+n<=18->C5 (f::rest)->(un n t).foldl Bq (f::rest)=⟨f.st,f.nm,f.kids++[t]⟩::rest/\Df (f::rest) (un n t):=by
 intro n
 induction n with
 |zero=>intro t f rest h;exact h.elim
 |succ n ih=>
  intro t f rest h hf hr hs
  cases t with
  |node x l=>
  have hr1:rest.length+1<=20:=Ao (Ao (Nat.add_le_add_left (le_add_left 1 n) _) hr) (Cr rfl)
  have hr0:rest.length<=20:=Ao (le_add_right _ 1) hr1
  have hR:(f::rest).length<=20:=hr1
  have e1:Bq (f::rest) [40]=⟨0,[],[]⟩::f::rest:=by
   show(if f.st=6 then(if[40]=cs "(" then _ else _)else _)=_
   rw[Bc hf,Bc (show[40]=cs "(" from rfl)]
  have sm:∀{i:Int} {y:List Nat} {ks:List A6},y.length<=10->ks.length<=10->C5 (⟨i,y,ks⟩::f::rest):=λh1 h2=>C5.cons h2 h1 hs
  have up:∀{i:Int} {y:List Nat} {u:List Nat},i≠6->(i≠4\/u=cs ")")->Bq (⟨i,y,[]⟩::f::rest) u=⟨i+1,y,[]⟩::f::rest:=λ{i y u} h1 h2=>by
   show(if i=6 then _ else if i≠4\/u=cs ")" then _ else _)=_
   rw[Ay h1,Bc h2]
  have oo:∀{i:Int} {y:List Nat} {u:List Nat},i≠6->y.length<=10->u≠[]->u.length<=2->Jy (⟨i,y,[]⟩::f::rest) u:=λh1 hy h2 h3=>K7 h2 h3 hR (sm hy (zero_le _)) λe=>absurd e h1
  have hn:=Xk (rest:=f::rest) hR hs x [] h.1.2 (by rw[length_nil,zero_add];exact Ao h.1.1 (Cr rfl))
  have hx:x.length<=10:=Ao h.1.1 (Cr rfl)
  have hkids:∀(l ks:List A6),(∀c∈l,K8 n c)->ks.length+l.length<=8->(l.flatMap (un n)).foldl Bq (⟨6,x,ks⟩::f::rest)=⟨6,x,ks++l⟩::f::rest/\Df (⟨6,x,ks⟩::f::rest) (l.flatMap (un n)):=by
   intro l
   induction l with
   |nil=>intro ks _ _;exact⟨by rw[Pv];rfl,trivial⟩
   |cons c l ihl=>
    intro ks h hl
    rw[G8]at hl
    have h1:=ih c ⟨6,x,ks⟩ (f::rest) (h c (.head _)) rfl (Ao (Bt (by rw[G8,add_assoc,add_comm 1])) hr) (sm hx (Ao (Ao (le_add_right _ _) hl) (Cr rfl)))
    have h2:=ihl (ks++[c]) (λd hd=>h d (.tail _ hd)) (by rw[Bu];exact Ao (Bt (by rw[add_assoc,add_comm [c].length];rfl)) hl)
    rw[flatMap_cons]
    refine⟨by rw[foldl_append,h1.1,h2.1,C4];rfl,Hh h1.2 ?_⟩
    rw[h1.1];exact h2.2
  have hk:=hkids l [] h.2.2 (Ao (Bt (zero_add _)) (Ao h.2.1 (Cr rfl)))
  have e2:∀{r:US},([40]::[63]::[115]::[58]::r).foldl Bq (⟨0,[],[]⟩::f::rest)=r.foldl Bq (⟨4,[],[]⟩::f::rest):=λ{r}=>by
   rw[foldl_cons,foldl_cons,foldl_cons,foldl_cons,up (by decide) (.inl (by decide)),up (by decide) (.inl (by decide)),up (by decide) (.inl (by decide)),up (by decide) (.inl (by decide))];rfl
  have g2:∀{r:US},Df (⟨4,[],[]⟩::f::rest) r->Df (⟨0,[],[]⟩::f::rest) ([40]::[63]::[115]::[58]::r):=λ{r} hg=>by
   refine⟨oo (by decide) (zero_le _) (by decide) (by decide),?_⟩
   rw[up (by decide) (.inl (by decide))]
   refine⟨oo (by decide) (zero_le _) (by decide) (by decide),?_⟩
   rw[up (by decide) (.inl (by decide))]
   refine⟨oo (by decide) (zero_le _) (by decide) (by decide),?_⟩
   rw[up (by decide) (.inl (by decide))]
   refine⟨oo (by decide) (zero_le _) (by decide) (by decide),?_⟩
   rw[up (by decide) (.inl (by decide))]
   exact hg
  have e3:∀{r:US},([41]::[92,90]::r).foldl Bq (⟨4,[]++x,[]⟩::f::rest)=r.foldl Bq (⟨6,x,[]⟩::f::rest):=λ{r}=>by
   rw[foldl_cons,foldl_cons,up (u:=[41]) (by decide) (.inr rfl),up (by decide) (.inl (by decide))];rfl
  have g3:∀{r:US},Df (⟨6,x,[]⟩::f::rest) r->Df (⟨4,[]++x,[]⟩::f::rest) ([41]::[92,90]::r):=λ{r} hg=>by
   refine⟨oo (by decide) hx (by decide) (by decide),?_⟩
   rw[up (u:=[41]) (by decide) (.inr rfl)]
   refine⟨oo (by decide) hx (by decide) (by decide),?_⟩
   rw[up (by decide) (.inl (by decide))]
   exact hg
  have e4:Bq (⟨6,x,[]++l⟩::f::rest) [41]=⟨f.st,f.nm,f.kids++[.node x l]⟩::rest:=by
   unfold Bq;dsimp only
   rw[Bc rfl,Ay (by decide)];rfl
  have eu:un (n+1) (.node x l)=[40]::[40]::[63]::[115]::[58]::(x.flatMap Pr++([41]::[92,90]::(l.flatMap (un n)++[[41]]))):=by
   show[40]::(([40]::(([[63],[115],[58]]++x.flatMap Pr)++[[41]]))++([[92,90]]++l.flatMap (un n)))++[[41]]=_
   simp only[C4,cons_append,nil_append]
  rw[eu]
  constructor
  ·rw[foldl_cons,e1,e2,foldl_append,hn.1,e3,foldl_append,hk.1]
   exact e4
  ·refine⟨K7 (by decide) (by decide) hr0 hs (λ_ h=>absurd rfl h),?_⟩
   rw[e1]
   refine g2 (Hh hn.2 ?_)
   rw[hn.1]
   refine g3 (Hh hk.2 ?_)
   rw[hk.1]
   exact⟨K7 (by decide) (by decide) hR (sm hx (Ao h.2.1 (Cr rfl))) (λ_ _=>by simp),trivial⟩
noncomputable def Wo:List Eo:=[⟨6,[],[]⟩]
theorem eV:C5 Wo:=E3.mpr ⟨⟨zero_le _,zero_le _⟩,λ_ h=>absurd h not_mem_nil⟩
theorem Lp {n:Nat}(hn:n<=18){t:A6}(h:K8 n t):(A3 0 false (wr n t)).foldl (λL p=>Bq L p.2) Wo=[⟨6,[],[t]⟩]/\Q1 Wo (A3 0 false (wr n t)):=by
 have e:(A3 0 false (wr n t)).map (·.2)=un n t:=by rw[<-S3 n t h,gW _ 0 (S2 n t h)]
 have r:=Xj n t ⟨6,[],[]⟩ [] h rfl (by rw[length_nil,zero_add];exact hn) eV
 exact⟨by rw[lL,e];exact r.1,bY (by rw[e];exact r.2)⟩
theorem eO {n:Nat}(hn:n<=18){t t':A6}(h:K8 n t)(h':K8 n t')(e:wr n t=wr n t'):t=t':=by
 have h1:=(Lp hn h).1
 rw[e,(Lp hn h').1]at h1
 exact(List.cons.inj (congrArg Eo.kids (List.cons.inj h1).1)).1.symm
section
open Builtin.Str (occurrences)
theorem U0 (x y:List Nat)(c:Nat)(h:c∉x):Cz x [c] y=x:=by
 unfold Cz Txt.replace
 have:occurrences ⟨x.toArray⟩ ⟨[c].toArray⟩ 0 (⟨x.toArray⟩:Str).length ((⟨x.toArray⟩:Str).length+1)=[]:=by
  rcases StrLaws.occ_head ⟨x.toArray⟩ ⟨#[c]⟩ ((⟨x.toArray⟩:Str).length+1) (by simp +arith only)with⟨e,_⟩|⟨i,r,e,ha,_⟩
  ·exact e
  ·have:=(StrLaws.subAt_one ⟨x.toArray⟩ c i).mp ha
   exact absurd (List.mem_of_getElem? this) (by simpa using h)
 rw[this]
 rfl
end
noncomputable def Pt:DefRec:=Ec PySem.Challenge.pw_in0167_02 26
theorem Tqa.len {own:List (List D)}:∀(l:List A6) (ds:List D),Tqa own l ds->ds.length=l.length:=by
 intro l
 induction l with
 |nil=>intro ds h;unfold Tqa at h;rw[h];rfl
 |cons t l ih=>
  intro ds h
  unfold Tqa at h
  exact Ag h λk r e _ h=>by rw[e,G8,ih _ h];rfl
theorem Tqa.get {own:List (List D)}{c:A6}:∀(l:List A6) (ds:List D) (k:Nat),Tqa own l ds->l[k]? =some c->∃a,ds[k]? =some (.obj a)/\Ah own c a:=by
 intro l
 induction l with
 |nil=>intro ds k _ h;cases h
 |cons t l ih=>
  intro ds k h hk
  unfold Tqa at h
  refine Ag h λa r e ta h2=>?_
  subst e
  cases k with
  |zero=>cases hk;exact⟨a,rfl,ta⟩
  |succ k=>exact ih r k h2 hk
theorem Tqa.erase {own:List (List D)}:∀(l:List A6) (ds:List D) (k:Nat),Tqa own l ds->Tqa own (l.eraseIdx k) (ds.eraseIdx k):=by
 intro l
 induction l with
 |nil=>intro ds k h;unfold Tqa at h;rw[h];unfold Tqa;rfl
 |cons t l ih=>
  intro ds k h
  unfold Tqa at h
  refine Ag h λa r e ta h2=>?_
  subst e
  cases k with
  |zero=>exact h2
  |succ k=>
   show Tqa own (t::l.eraseIdx k) (.obj a::r.eraseIdx k)
   unfold Tqa
   exact⟨a,_,rfl,ta,ih r k h2⟩
noncomputable def Z3:Nat->A6->Prop
 |0,_=>False
 |n+1,.node x l=>x.length<=2/\l.length<=5/\∀c∈l,Z3 n c
noncomputable def Gs (f:A6->Bool) (m:List A6) (l:List Nat):List Nat:=l.filter λk=>(m[k]?.map f).getD false
theorem Q0 (f:A6->Bool)(m:List A6)(l:List Nat):(Gs f m l).length<=l.length:=List.length_filter_le _ _
theorem Y0 {f:A6->Bool}{m:List A6}{l:List Nat}{k:Nat}{c:A6}(h:m[k]? =some c)(e:f c=true):Gs f m (l++[k])=Gs f m l++[k]:=by
 unfold Gs;rw[List.filter_append,List.filter_cons_of_pos (by rw[h];exact e)];rfl
theorem bU {f:A6->Bool}{m:List A6}{l:List Nat}{k:Nat}{c:A6}(h:m[k]? =some c)(e:f c=false):Gs f m (l++[k])=Gs f m l:=by
 unfold Gs;rw[List.filter_append,List.filter_cons_of_neg (by rw[h];exact λz=>Bool.false_ne_true (e.symm.trans z))];exact Pv _
theorem bV {f:A6->Bool}{m:List A6}{l:List Nat}{i:Nat}(h:i∈Gs f m l):i∈l:=(mem_filter.mp h).1
noncomputable def B9 (f:A6->A6->Bool):List A6->List A6->Bool
 |[],_=>true
 |c::l,m=>match Gs (f c) m (List.range m.length)with
  |[]=>false
  |i::_=>B9 f l (m.eraseIdx i)
noncomputable def Bo:Nat->A6->A6->Bool
 |0,_,_=>false
 |n+1,.node x l,.node y m=>if decide (x=y)&&(l.length==m.length)then B9 (Bo n) l m else false
noncomputable def nA (n:Nat):Mine.Internal.B3:=λds own Q=>∃k1 k2 t1 t2,ds=[.obj k1,.obj k2]/\Ah own t1 k1/\Ah own t2 k2/\Z3 n t1/\Z3 n t2/\∀own',own<+:own'->Q (.bool (Bo n t1 t2)) own'
theorem cF {Γ:W}(ok:Γ.Ok){A:Around}{a:Addr}{pm code doc:Value}(N:Fn Γ a (docDef Pt.name Pt.params Pt.body Pt.scope pm code doc) ["one","two"] Pt.body)(hA:A9 1 A)(li1:Γ.mg (ofString "list")=none)(li2:Γ.mb (ofString "list")=some (.type "list"))(len1:Γ.mg (ofString "len")=none)(len2:Γ.mb (ofString "len")=some (.builtin "len"))(rng1:Γ.mg (ofString "range")=none)(rng2:Γ.mb (ofString "range")=some (.type "range")){n:Nat}(g26:Γ.mg (ofString "_law_alike")=some (.ref a))(f:∀env,Ap Γ (A.deeper env) (.ref a) (nA n)):Ap Γ A (.ref a) (nA (n+1)):=by
 refine'(Dl ok N rfl (by have:=hA.depth;exact Aq this) (λL=>?w)).imp ?p
 case w=>
  have H:=Hk ok N (hA.deeper (callEnvC (docDef Pt.name Pt.params Pt.body Pt.scope pm code doc) L a)) L
  have o26:=N.obj
  have F26:=f (callEnvC (docDef Pt.name Pt.params Pt.body Pt.scope pm code doc) L a)
  refine' Av ?_ ?_
  all_goals repeat' first
   |(show(_:Prop);with_reducible assumption)|(intros;rfl)|decide|exact Kd.local (by rfl)|exact Kd.cell (by rfl) ⟨_,by rfl⟩
   |((with_reducible show∀_:Addr,Ev _ _ _->_);intro C hC)
   |((with_reducible refine' Wh (cap:=["left","child"]) ..);any_goals ((with_reducible show CE _ _ _ _);exact Gy (by rfl) (by rfl) (λ_=>by rfl) rfl))
   |with_reducible first|exact Dr|refine' Av .. |refine' Bx .. |refine' Z6 .. |refine' Sy .. |refine' Dx .. |refine' iR .. |exact Ds|exact Ir|refine' Ov .. |refine' Ls .. |refine' aZ .. |refine' Dk _ _ (by assumption) .. |exact Br|refine' A0 .. |refine' Ju .. |refine' Ki .. |refine' cV .. |refine' Mp .. |refine' iO .. |exact Kj|refine' Zw .. |refine' Du .. |refine' pE .. |refine' Bi ..
 case p=>
  intro ds own Q h
  refine Cd h λk1 k2 t1 t2 e a1 a2 o1 o2 q=>?_
  try clear h
  subst e
  cases t1 with
  |node x l=>
  cases t2 with
  |node y m=>
  unfold Ah at a1 a2
  refine Ag a1 λc1 ds1 h1 h1c s1=>?_
  try clear a1
  refine Ag a2 λc2 ds2 h2 h2c s2=>?_
  try clear a2
  have l1:=Tqa.len _ _ s1
  have l2:=Tqa.len _ _ s2
  have w0:Bb 0:=iw (n:=0) rfl (by decide)
  have w1:Bb 1:=iw (n:=1) rfl (by decide)
  have z1:ds1.length<=20000:=by rw[l1];exact Ao o1.2.1 (by decide)
  have z2:ds2.length<=20000:=by rw[l2];exact Ao o2.2.1 (by decide)
  refine⟨rfl,?_⟩
  dsimp only[tU,tV,Mq]
  refine An (Ac rfl (B7 h1 w0 rfl (Ac rfl (B7 h2 w0 rfl (R0 ?_)))))
  by_cases hxy:x=y
  case neg=>
   refine Mz (by rw[decide_eq_false hxy];rfl) (sT (Ak ?_))
   have:Bo (n+1) (.node x l) (.node y m)=false:=by unfold Bo;rw[decide_eq_false hxy];rfl
   rw[this]at q
   exact q _ (prefix_refl _)
  refine Il (by rw[decide_eq_true hxy];rfl) (Ac rfl (B7 h1 w1 rfl ⟨_,rfl,Nm h1c z1 (Ac rfl (B7 h2 w1 rfl ⟨_,rfl,Nm h2c z2 (Os ?_)⟩))⟩))
  by_cases hlm:l.length=m.length
  case neg=>
   refine Mz (by rw[l1,l2,bne_iff_ne];exact λe=>hlm (Int.ofNat_inj.1 e)) (sT (Ak ?_))
   have:Bo (n+1) (.node x l) (.node y m)=false:=by unfold Bo;rw[decide_eq_true hxy,beq_eq_false_iff_ne.mpr hlm];rfl
   rw[this]at q
   exact q _ (prefix_refl _)
  have hq:Bo (n+1) (.node x l) (.node y m)=B9 (Bo n) l m:=by unfold Bo;rw[decide_eq_true hxy,beq_iff_eq.mpr hlm];rfl
  rw[hq]at q
  refine Il (by rw[l1,l2,hlm];exact bne_self_eq_false _) (sF ?_)
  refine An (Ac rfl (B7 h2 w1 rfl ⟨_,ds2,rfl,.inl h2c,z2,λ_=>not_mem_nil,?_⟩))
  refine A5 (λσ=>∃m' junk,B9 (Bo n) l m=true/\σ=⟨[("one",.obj k1),("two",.obj k2),("left",.obj own.length)]++m',own++junk,[]⟩) (λd σ=>∃junk,d=.bool (B9 (Bo n) l m)/\σ.own=own++junk) (λR r1 r2=>?_) ?_ ?_
  ·refine Ac rfl (B7 (Aj (Dg _ _) h1) w1 rfl (Cf (Aj (Dg _ _) h1c:Al (own++[ds2]) (.obj c1)=some ds1) ?_))
   refine Gu (λitems σ=>∃res ms ds junk,Tqa own res items/\Tqa own ms ds/\(∀c∈res,Z3 n c)/\(∀c∈ms,Z3 n c)/\ms.length<=5/\B9 (Bo n) l m=B9 (Bo n) res ms/\σ=⟨[("one",.obj k1),("two",.obj k2),("left",.obj own.length)],own++ds::junk,[]⟩) (λxx r σ R3 hI hn hr _=>?_) (λσ hI=>?_) _ _ ⟨l,m,ds2,[],s1,s2,o1.2.2,o2.2.2,o2.2.1,rfl,rfl⟩
   ·refine Cd hI λres ms ds junk g1 g2 g3 g4 g5 zz=>Ae zz λg6 U=>?_
    try clear hI
    subst U
    cases res with
    |nil=>unfold Tqa at g1;cases g1
    |cons c res=>
     unfold Tqa at g1
     refine Ag g1 λkc r' e gc gr=>?_
     try clear g1
     have e:=List.cons.inj e
     rw[e.1]
     have gr:Tqa own res r:=by rw[e.2];exact gr
     have hdl:=Tqa.len _ _ g2
     have zd:ds.length<=20000:=by rw[hdl];exact Ao g5 (by decide)
     refine⟨Aj (Dg _ _) h1c,⟨λ_=>not_mem_nil,?_⟩⟩
     refine A5 (λσ=>∃j2,σ=⟨[("one",.obj k1),("two",.obj k2),("left",.obj own.length),("child",.obj kc),("found",.obj (own++ds::junk).length)],(own++ds::junk)++((Gs (Bo n c) ms (List.range ms.length)).map B8::j2),[]⟩) (λ_ _=>False) (λR4 r4 _=>?_) ?_ (λ_ _ h=>h.elim)
     ·have hr1:=U2 (n:=ds.length) (by rw[hdl];exact g5)
      refine Gi (Ac rfl ⟨_,rfl,Nm (Co rfl) zd ⟨_,rfl,⟨⟨by decide,hr1.1⟩,?_⟩⟩⟩)
      rw[hr1.2,hdl]
      refine Nz B8 (λdon=>(Gs (Bo n c) ms don).map B8) (List.range ms.length) rfl (λ_ _=>trivial) (λk don res2 junk2 R5 e2 hn5=>?_) (λj2=>Ck (r4 _ ⟨j2,rfl⟩))
      have hk:k<ms.length:=mem_range.mp (by rw[e2];exact M2 _ Ht)
      have hmk:ms[k]? =some ms[k]:=Fz hk
      have hdn:don.length<=20000:=Ao (by have:=congrArg List.length e2;rw[length_range,Bu]at this;rw[this];exact le_add_right _ _:don.length<=ms.length) (Ao g5 (by decide))
      refine Ab (Tqa.get _ _ k g2 hmk) λak e3 ta=>?_
      have hoc:=g4 _ (List.getElem_mem hk)
      generalize ms[k]=mk at hmk ta hoc
      have pf:∀z,own<+:(own++ds::junk)++z:=λz=>by rw[C4];exact Dg _ _
      refine Ck (Ac rfl (Ac rfl (Ac rfl (B7 (Aj (Dg _ _) (Co rfl)) (iw (n:=k) rfl (Ao (le_of_lt hk) (Ao g5 (by decide)))) (Cl e3) ⟨kc,ak,c,mk,rfl,Ah.mono (pf _) _ _ gc,Ah.mono (pf _) _ _ ta,g3 c Ht,hoc,λown' hp=>?_⟩))))
      refine Ad hp λj z0=>?_
      try clear hp
      subst z0
      have hn6:=hn5 [("k",B8 k)] j
      cases hb:Bo n c mk with
      |false=>
       rw[bU hmk hb]at hn6
       refine Ik (sF ?_)
       show R5 .next ⟨_,(own++ds::junk)++(_::junk2)++j,_⟩
       rw[C4,cons_append]
       exact hn6
      |true=>
       rw[Y0 hmk hb,Id]at hn6
       refine Ik (sT (W9 (Ac rfl ⟨(Gs (Bo n c) ms don).map B8,Dc _ _ _ _,by rw[B2];exact Ao (Q0 _ _ _) (Ao hdn (by decide)),?_⟩)))
       show R5 .next ⟨_,((own++ds::junk)++(_::junk2)++j).set (own++ds::junk).length _,_⟩
       rw[Ii]
       exact hn6
     ·intro σ Z
      refine Ad Z λj2 z3=>?_
      clear Z
      subst z3
      have hgF:∀z:List (List D),((own++ds::junk)++(z++j2))[own.length]? =some ds:=λz=>Aj (Dg _ _) (Co rfl)
      have hln:((Gs (Bo n c) ms (List.range ms.length)).map B8).length<=20000:=by rw[B2];exact Ao (Q0 _ _ _) (by rw[length_range];exact Ao g5 (by decide))
      cases hh:Gs (Bo n c) ms (List.range ms.length)with
      |nil=>
       rw[hh]at hln
       have hf:B9 (Bo n) (c::res) ms=false:=by unfold B9;rw[hh]
       refine An (Ac rfl (Tg (Co rfl) hln (sT (Ak ?_))))
       exact hr _ _ (r2 _ _ ⟨_,by rw[g6,hf],by rw[C4]⟩)
      |cons i tl=>
       rw[hh]at hln
       have hi:i<ms.length:=mem_range.mp (bV (by rw[hh];exact Ht))
       have hf:B9 (Bo n) (c::res) ms=B9 (Bo n) res (ms.eraseIdx i):=by
        conv=>lhs;unfold B9
        rw[hh]
       have wi:Bb (i:Int):=iw rfl (Ao (le_of_lt hi) (Ao g5 (by decide)))
       refine An (Ac rfl (Tg (Co rfl) hln (sF ?_)))
       refine Ak (Ac rfl (Ac rfl (B7 (Co rfl) w0 (Cl (j:=0) rfl) ⟨own.length,i,ds,i,rfl,rfl,Aj (Dg _ _) (Co rfl),wi,Ao zd (by decide),StrLaws.seqIndex_nonneg (oK (n:=i) rfl) (Int.ofNat_lt.2 (by rw[hdl];exact hi)),?_⟩)))
       refine hn _ _ (Hl [("one",.obj k1),("two",.obj k2),("left",.obj own.length)] _) ⟨res,ms.eraseIdx i,ds.eraseIdx i,junk++(i::tl).map B8::j2,gr,Tqa.erase _ _ i g2,λz hz=>g3 z (mem_cons_of_mem _ hz),λz hz=>g4 z ((List.eraseIdx_sublist _ _).subset hz),Ao (List.eraseIdx_sublist _ _).length_le g5,by rw[g6,hf],?_⟩
       show St.mk _ (((own++ds::junk)++_).set own.length _) _=_
       rw[C4,cons_append,Dy]
   ·refine Cd hI λres ms ds junk g1 g2 g3 g4 g5 zz=>Ae zz λg6 z4=>?_
    try clear hI
    subst z4
    cases res with
    |nil=>exact⟨Aj (Dg _ _) h1c,r1 _ ⟨[],ds::junk,g6,rfl⟩⟩
    |cons c res=>unfold Tqa at g1;refine A1 g1 λ_ _ e _=>?_;try clear g1;cases e
  ·intro σ Y
   refine A1 Y λm' junk hl z5=>?_
   clear Y
   subst z5
   rw[hl]at q
   exact Ak (q _ (Dg _ _))
  ·intro d σ V
   refine Ab V λjunk z6 e=>?_
   clear V
   subst z6
   show Q _ σ.own
   rw[e];exact q _ (Dg _ _)
theorem gV {Γ:W}(ok:Γ.Ok){a:Addr}{pm code doc:Value}(N:Fn Γ a (docDef Pt.name Pt.params Pt.body Pt.scope pm code doc) ["one","two"] Pt.body)(li1:Γ.mg (ofString "list")=none)(li2:Γ.mb (ofString "list")=some (.type "list"))(len1:Γ.mg (ofString "len")=none)(len2:Γ.mb (ofString "len")=some (.builtin "len"))(rng1:Γ.mg (ofString "range")=none)(rng2:Γ.mb (ofString "range")=some (.type "range"))
  (g26:Γ.mg (ofString "_law_alike")=some (.ref a)):∀(n:Nat) (A:Around),A9 (n+1) A->Ap Γ A (.ref a) (nA n):=by
 intro n
 induction n with
 |zero=>exact λA _=>L8 λds own Q h=>Cd h λ_ _ _ _ _ _ _ o _ _=>o
 |succ n ih=>exact λA hA=>cF ok N (hA.le (le_add_left _ _)) li1 li2 len1 len2 rng1 rng2 g26 λenv=>ih _ (hA.deeper env)
noncomputable def cJ:DefRec:=Ec PySem.Challenge.pw_in0167_02 25
noncomputable def N5 (n:Int):List (Int×List Nat)->Int->Prop
 |[],_=>True
 |p::r,e=>p.1=e+p.2.length/\(p.2.length=1/\p.2≠[92]\/p.2.length=2/\p.2.head?=some 92\/p.2=[92]/\p.1=n-1)/\N5 n r (e+p.2.length)
noncomputable def mM:Mine.Internal.B3:=λds own Q=>∃d ps t,ds=[d,.str t]/\Al own d=some (ps.map Cc)/\ps.length<=2000/\t.length<=2000/\N5 t.length ps (-1)/\(ps.map (·.2)).flatten=t/\∀own',own<+:own'->Q (.bool true) own'
theorem V0 (c:Nat)(r:List Nat):cut (c::r) none (some 1)=[c]:=rfl
theorem mC {c:Nat}(h:c≠92):decide ([c]=cs "\\")=false:=decide_eq_false λe=>h (List.cons.inj e).1
theorem Ui:decide ([92]=cs "\\")=true:=by decide
theorem gQ {Γ:W}(ok:Γ.Ok){A:Around}{a:Addr}{pm code doc:Value}(N:Fn Γ a (docDef cJ.name cJ.params cJ.body cJ.scope pm code doc) ["pairs","text"] cJ.body)(hA:A9 1 A)(len1:Γ.mg (ofString "len")=none)(len2:Γ.mb (ofString "len")=some (.builtin "len")):Ap Γ A (.ref a) mM:=by
 refine'(Dl ok N rfl (by have:=hA.depth;exact Aq this) (λL=>?w)).imp ?p
 case w=>
  have H:=Hk ok N (hA.deeper (callEnvC (docDef cJ.name cJ.params cJ.body cJ.scope pm code doc) L a)) L
  refine' Av ?_ ?_
  all_goals repeat' first
   |(show(_:Prop);with_reducible assumption)|(intros;rfl)|decide|exact Kd.local (by rfl)|exact Kd.cell (by rfl) ⟨_,by rfl⟩|exact λ_ _=>⟨_,rfl⟩
   |((with_reducible show∀_:Addr,Ev _ _ _->_);intro C hC)
   |((with_reducible refine' Gk (cap:=[]) ..);any_goals ((with_reducible show CE _ _ _ _);exact Gy (by rfl) (by rfl) (λ_=>by rfl) rfl))
   |with_reducible first|exact Dr|refine' Av .. |refine' Bx .. |refine' Z6 .. |refine' Sy .. |refine' Dx .. |refine' Le .. |exact Hy|exact Ds|exact Ir|refine' U3 .. |refine' Qp .. |refine' Ls .. |refine' It .. |refine' Xo .. |exact Br|refine' A0 .. |refine' Hz .. |exact fN|refine' Ly .. |refine' Ki .. |refine' Mp .. |refine' cZ .. |refine' iO .. |exact Ld|exact Kj|refine' Du .. |refine' Jg .. |exact Rk|refine' Ms .. |exact Vo|refine' Bi ..
 case p=>
  intro ds own Q h
  refine Gv h λd ps t e hi hp ht hg zz=>Ae zz λhf q=>?_
  try clear h
  subst e
  refine⟨rfl,?_⟩
  dsimp only[tU,tV,Mq]
  refine An ⟨_,rfl,Ck ?_⟩
  refine A5 (λσ=>∃e m,σ=⟨[("pairs",d),("text",.str t),("end",.int e)]++m,own,[]⟩) (λ_ _=>False) (λR r1 _=>?_) ?_ (λ_ _ h=>h.elim)
  ·refine Ac rfl (Cf hi ?_)
   refine Gu (λitems σ=>∃res e,items=res.map Cc/\N5 t.length res e/\(∀p∈res,p∈ps)/\σ=⟨[("pairs",d),("text",.str t),("end",.int e)],own,[]⟩) (λx r σ R2 hI hn _ _=>?_) (λσ hI=>?_) _ _ ⟨ps,-1,rfl,hg,λ_ h=>h,rfl⟩
   ·refine Bz hI λres e e1 g hm e2=>?_
    try clear hI
    subst e2
    cases res with
    |nil=>cases e1
    |cons p res=>
     have e1:=List.cons.inj e1
     refine⟨hi,?_⟩
     rw[e1.1]
     have fin:R2 .next ⟨[("pairs",d),("text",.str t),("end",.int (e+p.2.length)),("place",.int p.1),("unit",.str p.2)],own,[]⟩:=hn _ _ (Hl _ _) ⟨res,e+p.2.length,e1.2,g.2.2,λq hq=>hm q (mem_cons_of_mem _ hq),rfl⟩
     have hz:p.2.length<=20000:=g.2.1.elim (λh=>by rw[h.1];decide) λh=>h.elim (λh=>by rw[h.1];decide) λh=>by rw[h.1];decide
     refine⟨_,rfl,rfl,_,_,rfl,Ck ⟨_,_,rfl,Ck (An ⟨_,rfl,Ac rfl ⟨_,rfl,Fm hz (Tj (Ck ?_))⟩⟩)⟩⟩
     refine Ak (Ac rfl (Ac rfl (Os (Il (by rw[g.1];exact bne_self_eq_false _) ?_))))
     obtain⟨x,u⟩:=p
     dsimp only at g fin hz
     rcases g.2.1 with⟨h1,h2⟩|⟨h1,h2⟩|⟨h1,h2⟩
     ·refine Ad (List.length_eq_one_iff.mp h1) λc e=>?_
      subst e
      have hc:c≠92:=λz=>h2 (by rw[z])
      refine Ac rfl ⟨_,rfl,M5 hz (R0 (Mz (by rw[V0,mC hc];rfl) (Ac rfl ⟨_,rfl,Fm hz (Os (Il rfl ?_))⟩)))⟩
      refine sF (Ac rfl ⟨_,rfl,M5 hz (Nn (Il (by rw[V0,mC hc]) ?_))⟩)
      exact sF (sF fin)
     ·refine Ad (show∃c,u=[92,c]from ?_) λc e=>?_
      ·exact Jb (Rs h1) λd c e=>⟨c,by subst e;exact congrArg (λz=>[z,c]) (Option.some.inj h2)⟩
      subst e
      refine Ac rfl ⟨_,rfl,M5 hz (R0 (Il (by rw[V0,Ui];rfl) (sF ?_)))⟩
      refine Ac rfl ⟨_,rfl,M5 hz (Nn (Mz (by rw[V0,Ui]) (Ac rfl ⟨_,rfl,Fm hz (Os (Il rfl ?_))⟩)))⟩
      exact sF (sF fin)
     ·subst h1
      refine Ac rfl ⟨_,rfl,M5 hz (R0 (Il (by rw[V0,Ui];rfl) (sF ?_)))⟩
      refine Ac rfl ⟨_,rfl,M5 hz (Nn (Mz (by rw[V0,Ui]) (Ac rfl ⟨_,rfl,Fm hz (Os (Mz rfl ?_))⟩)))⟩
      refine Ac rfl (Ac rfl ⟨_,rfl,Fm (Ao ht (by decide)) (W7 (Os (Il (by rw[h2];exact bne_self_eq_false _) ?_)))⟩)
      exact sF (sF fin)
   ·refine Bz hI λres e e1 g hm e2=>?_
    try clear hI
    subst e2
    exact⟨hi,r1 _ ⟨e,[],rfl⟩⟩
  intro σ h
  refine Jb h λe m h=>?_
  subst h
  refine Ak ⟨⟨_,rfl⟩,Gi (Ac rfl (T6 Cc (λdon=>[don.map λp=>.str p.2]) ps hi rfl (λp don res R e2 hn=>?_) ?_))⟩
  ·have hl:don.length<=2000:=Ao (by rw[e2,Bu];exact le_add_right _ _) hp
   refine⟨_,rfl,rfl,_,_,rfl,Ck ⟨_,_,rfl,Ck (sT (W9 (Ac rfl ⟨don.map λp=>.str p.2,Aw _ _,by rw[B2];exact Ao hl (by decide),?_⟩)))⟩⟩
   have:=hn [("place",.int p.1),("unit",.str p.2)]
   rw[Id,<-Dj own (don.map λp=>.str p.2)]at this
   exact this
  ·refine Jr (xs:=ps.map (·.2)) (by rw[map_map];exact Aw _ _) (by rw[hf];exact Ao ht (by decide)) (Ac rfl (Nn ?_))
   rw[hf,decide_eq_true rfl]
   exact q _ (Dg _ _)
theorem Hu:∀(n:Nat) (w:Int) (t:A6),Ks n w t->Bf n w t=wr n (Ia n w t)/\K8 n (Ia n w t):=by
 intro n
 induction n with
 |zero=>intro w t h;exact h.elim
 |succ n ih=>
  intro w t h
  cases t with
  |node x l=>
  have hp:=D6 (f:=Bf n w) (w:=w) (d:=.node [] []) h.2.1
  have hm:∀c∈C7 (Bf n w) w l (.node [] []),Ks n w c:=λc hc=>h.2.2.2.1 c (hp.mem_iff.mp hc)
  refine⟨?_,h.1,?_,?_⟩
  ·show((cs "("++Jo x)++(Bs w (l.map (Bf n w))).flatten)++cs ")"=((cs "("++Jo x)++(((C7 (Bf n w) w l (.node [] [])).map (Ia n w)).map (wr n)).flatten)++cs ")"
   rw[<-K5 (f:=Bf n w) (w:=w) (d:=.node [] []) h.2.1,map_map,map_congr_left λc hc=>(ih w c (hm c hc)).1]
   rfl
  ·rw[B2,hp.length_eq];exact h.2.1
  ·intro c hc
   refine Ab (G7.mp hc) λd hd e=>?_
   rw[<-e];exact(ih w d (hm d hd)).2
theorem K4:∀(n:Nat) (w:Int) (t:A6),w≠0->Ks n w t->Bf n w (Ia n w t)=Bf n w t/\Ks n w (Ia n w t):=by
 intro n
 induction n with
 |zero=>intro w t _ h;exact h.elim
 |succ n ih=>
  intro w t hw h
  cases t with
  |node x l=>
  have hp:=D6 (f:=Bf n w) (w:=w) (d:=.node [] []) h.2.1
  have hm:∀c∈C7 (Bf n w) w l (.node [] []),Ks n w c:=λc hc=>h.2.2.2.1 c (hp.mem_iff.mp hc)
  have e:Bf (n+1) w (Ia (n+1) w (.node x l))=Bf (n+1) w (.node x l):=by
   show((cs "("++Jo x)++(Bs w (((C7 (Bf n w) w l (.node [] [])).map (Ia n w)).map (Bf n w))).flatten)++cs ")"=((cs "("++Jo x)++(Bs w (l.map (Bf n w))).flatten)++cs ")"
   rw[map_map,show List.map (Bf n w∘Ia n w) (C7 (Bf n w) w l (.node [] []))=(C7 (Bf n w) w l (.node [] [])).map (Bf n w)from map_congr_left λc hc=>(ih w c hw (hm c hc)).1,K5 (f:=Bf n w) (w:=w) (d:=.node [] []) h.2.1]
   rw[Qg hw (by rw[(Cg (by rw[B2];exact h.2.1)).length_eq,B2];exact h.2.1) (Cg (w:=w) (L:=l.map (Bf n w)) (by rw[B2];exact h.2.1))]
  refine⟨e,h.1,?_,?_,?_,?_⟩
  ·rw[B2,hp.length_eq];exact h.2.1
  ·exact Ao (Bt (congrArg List.length e)) h.2.2.1
  ·intro c hc
   refine Ab (G7.mp hc) λd hd e=>?_
   rw[<-e];exact(ih w d hw (hm d hd)).2
  ·exact(congrArg (λz:List Nat=>z.all (·<0x110000)) e).trans h.2.2.2.2
theorem gX {α:Type}:∀(m:List α) (i:Nat) (c:α),m[i]? =some c->m.Perm (c::m.eraseIdx i):=by
 intro m
 induction m with
 |nil=>intro i c h;cases h
 |cons d m ih=>
  intro i c h
  cases i with
  |zero=>cases h;exact List.Perm.refl _
  |succ i=>exact((ih i c h).cons d).trans (List.Perm.swap c d _)
theorem Mr {g:A6->List Nat}{f:A6->A6->Bool}:∀l m:List A6,l.length=m.length->(∀c∈l,∀d∈m,f c d=decide (g c=g d))->(B9 f l m=true↔(l.map g).Perm (m.map g)):=by
 intro l
 induction l with
 |nil=>intro m hl _;rw[List.eq_nil_of_length_eq_zero hl.symm];exact⟨λ_=>List.Perm.refl _,λ_=>rfl⟩
 |cons c l ih=>
  intro m hl hf
  cases e:Gs (f c) m (List.range m.length)with
  |nil=>
   have ea:B9 f (c::l) m=false:=by unfold B9;rw[e]
   rw[ea]
   refine⟨λh=>absurd h Bool.false_ne_true,λh=>?_⟩
   have h1:g c∈m.map g:=h.mem_iff.mp Ht
   refine Ab (G7.mp h1) λd hd e1=>?_
   refine Ad (List.mem_iff_getElem?.mp hd) λk hk=>?_
   have:k∈Gs (f c) m (List.range m.length):=mem_filter.mpr ⟨mem_range.mpr (H7.mp hk).1,by rw[hk];exact(hf c Ht d hd).trans (decide_eq_true e1.symm)⟩
   rw[e]at this;cases this
  |cons i r=>
   have ea:B9 f (c::l) m=B9 f l (m.eraseIdx i):=by rw[B9,e]
   have hi:=mem_filter.mp (show i∈Gs (f c) m (List.range m.length)from by rw[e];exact Ht)
   have hlt:=mem_range.mp hi.1
   have hk:m[i]? =some m[i]:=Fz hlt
   have hd:m[i]∈m:=List.getElem_mem hlt
   have e1:g c=g m[i]:=of_decide_eq_true ((hf c Ht _ hd).symm.trans (by have:=hi.2;rw[hk]at this;exact this))
   have hp:=gX m i _ hk
   rw[ea,ih (m.eraseIdx i) (by rw[List.length_eraseIdx_of_lt hlt,<-hl];rfl) λc' hc d hd=>hf c' (mem_cons_of_mem _ hc) d (List.mem_of_mem_eraseIdx hd),Gb,e1]
   have hp2:(m.map g).Perm (g m[i]::(m.eraseIdx i).map g):=hp.map g
   exact⟨λh=>(h.cons _).trans hp2.symm,λh=>(List.perm_cons _).mp (h.trans hp2)⟩
theorem eP {n:Nat}{w:Int}(hn:n+1<=18)(hw:w≠0){x y:List Nat}{l m:List A6}(h:Ks (n+1) w (.node x l))(h':Ks (n+1) w (.node y m)):Bf (n+1) w (.node x l)=Bf (n+1) w (.node y m)↔x=y/\(l.map (Bf n w)).Perm (m.map (Bf n w)):=by
 have hl:(l.map (Bf n w)).length<=4:=by rw[B2];exact h.2.1
 have hm:(m.map (Bf n w)).length<=4:=by rw[B2];exact h'.2.1
 constructor
 ·intro e
  have a:=Hu _ _ _ h
  have b:=Hu _ _ _ h'
  rw[a.1,b.1]at e
  have e:=eO hn a.2 b.2 e
  have e2:x=y/\(C7 (Bf n w) w l (.node [] [])).map (Ia n w)=(C7 (Bf n w) w m (.node [] [])).map (Ia n w):=A6.noConfusion e λa b=>⟨a,b⟩
  refine⟨e2.1,?_⟩
  have q:∀{l:List A6},l.length<=4->(∀c∈l,Ks n w c)->((C7 (Bf n w) w l (.node [] [])).map (Ia n w)).map (wr n)=Bs w (l.map (Bf n w)):=λ{l} hl hc=>by
   rw[<-K5 (f:=Bf n w) (w:=w) (d:=.node [] []) hl,map_map]
   exact map_congr_left λc hc'=>((Hu _ _ _ (hc c ((D6 hl).mem_iff.mp hc'))).1).symm
  have e3:=congrArg (List.map (wr n)) e2.2
  rw[q h.2.1 h.2.2.2.1,q h'.2.1 h'.2.2.2.1]at e3
  exact(Cg hl).symm.trans ((List.Perm.of_eq e3).trans (Cg hm))
 ·intro e
  show((cs "("++Jo x)++(Bs w (l.map (Bf n w))).flatten)++cs ")"=((cs "("++Jo y)++(Bs w (m.map (Bf n w))).flatten)++cs ")"
  rw[e.1,Qg hw hl e.2]
theorem Rj {w:Int}(hw:w≠0):∀(n:Nat) (t t':A6),n<=18->Ks n w t->Ks n w t'->Bo n t t'=decide (Bf n w t=Bf n w t'):=by
 intro n
 induction n with
 |zero=>intro t t' _ h;exact h.elim
 |succ n ih=>
  intro t t' hn h h'
  cases t with
  |node x l=>
  cases t' with
  |node y m=>
  have hq:=eP hn hw h h'
  have hL:=λe:l.length=m.length=>Mr (g:=Bf n w) (f:=Bo n) l m e λc hc d hd=>ih c d (le_of_succ_le hn) (h.2.2.2.1 c hc) (h'.2.2.2.1 d hd)
  show(if(decide (x=y)&&(l.length==m.length))=true then B9 (Bo n) l m else false)=_
  by_cases e:x=y/\l.length=m.length
  ·rw[Bc (Bool.and_eq_true_iff.mpr ⟨decide_eq_true e.1,beq_iff_eq.mpr e.2⟩)]
   have:=hL e.2
   by_cases hp:(l.map (Bf n w)).Perm (m.map (Bf n w))
   ·rw[this.mpr hp,decide_eq_true (hq.mpr ⟨e.1,hp⟩)]
   ·rw[decide_eq_false λz=>hp (hq.mp z).2]
    exact Bool.eq_false_iff.mpr λz=>hp (this.mp z)
  ·rw[Ay (λz=>e ⟨of_decide_eq_true (Bool.and_eq_true_iff.mp z).1,eq_of_beq (Bool.and_eq_true_iff.mp z).2⟩)]
   refine(decide_eq_false λz=>e ⟨(hq.mp z).1,?_⟩).symm
   have:=(hq.mp z).2.length_eq
   rw[B2,B2]at this;exact this
theorem Su {w:Int}(hw:w≠0){n:Nat}(hn:n<=18){t:A6}(h:Ks n w t):Bo (n+1) (.node [] [Ia n w t]) (.node [] [t])=true:=by
 have e:=Rj hw n _ _ hn (K4 n w t hw h).2 h
 rw[(K4 n w t hw h).1,decide_eq_true rfl]at e
 show B9 (Bo n) [Ia n w t] [t]=true
 refine(Mr (g:=Bf n w) [Ia n w t] [t] rfl λc hc d hd=>?_).mpr ?_
 ·rw[K2.mp hc,K2.mp hd,e,(K4 n w t hw h).1,decide_eq_true rfl]
 ·rw[Gb,Gb,(K4 n w t hw h).1]
theorem Tv:∀(n:Nat) (t:A6),K8 n t->Z3 n t:=by
 intro n
 induction n with
 |zero=>exact λt h=>h
 |succ n ih=>intro t h;cases t with|node x l=>exact⟨h.1.1,Ao h.2.1 (le_succ 4),λc hc=>ih c (h.2.2 c hc)⟩
theorem X7:∀(n:Nat) (w:Int) (t:A6),Ks n w t->K8 n t:=by
 intro n
 induction n with
 |zero=>exact λw t h=>h
 |succ n ih=>intro w t h;cases t with|node x l=>exact⟨h.1,h.2.1,λc hc=>ih w c (h.2.2.2.1 c hc)⟩
theorem Sh:∀(t:List Nat) (i:Nat) (n:Int),n=i+t.length->N5 n (A3 i false t) ((i:Int)-1)/\N5 n (A3 i true t) ((i:Int)-2):=by
 intro t
 induction t with
 |nil=>
  intro i n h
  refine⟨trivial,?_⟩
  have h:n=i:=by rw[h];exact Int.add_zero _
  show(i:Int)-1=(i:Int)-2+1/\_/\True
  exact⟨by simp +arith only,.inr (.inr ⟨rfl,by rw[h]⟩),trivial⟩
 |cons c t ih=>
  intro i n h
  have h1:=ih (i+1) n (by rw[h,G8];push_cast;simp +arith only)
  have e1:((i+1:Nat):Int)-1=i:=by exact pB _
  have e2:((i+1:Nat):Int)-2=i-1:=Int.add_sub_add_right (i:Int) 1 1
  rw[e1,e2]at h1
  constructor
  ·by_cases hc:c=92
   ·rw[hc];exact h1.2
   ·rw[Me hc]
    refine⟨?_,.inl ⟨rfl,λz=>hc (List.cons.inj z).1⟩,?_⟩
    ·show(i:Int)=i-1+1;simp +arith only
    ·rw[show(i:Int)-1+(([c]:List Nat).length:Int)=i by show(i:Int)-1+1=i;simp +arith only];exact h1.1
  ·show N5 n (((i:Int),[92,c])::A3 (i+1) false t) _
   refine⟨?_,.inr (.inl ⟨rfl,rfl⟩),?_⟩
   ·show(i:Int)=i-2+2;simp +arith only
   ·rw[show(i:Int)-2+(([92,c]:List Nat).length:Int)=i by show(i:Int)-2+2=i;simp +arith only];exact h1.1
theorem Vv:∀(t:List Nat) (i:Nat),((A3 i false t).map (·.2)).flatten=t/\((A3 i true t).map (·.2)).flatten=92::t:=by
 intro t
 induction t with
 |nil=>intro i;exact⟨rfl,rfl⟩
 |cons c t ih=>
  intro i
  constructor
  ·by_cases hc:c=92
   ·rw[hc];exact(ih (i+1)).2
   ·rw[Me hc,Gb,flatten_cons,(ih (i+1)).1];rfl
  ·show([92,c]::(A3 (i+1) false t).map (·.2)).flatten=_
   rw[flatten_cons,(ih (i+1)).1];rfl
noncomputable def cK:DefRec:=Ec PySem.Challenge.pw_in0167_02 20
noncomputable def Dq (e n:Nat):List D:=(List.range n).map λi=>.obj (e+2*i)
noncomputable def H3 (par pl:List Nat) (i:Nat):List Nat:=pl.filter λk=>par.getD k 0==i
noncomputable def Ea (e:Nat) (par pl:List Nat) (i:Nat):List D:=(H3 par pl i).map λk=>.obj (e+2*k)
noncomputable def mP:Mine.Internal.B3:=λds own Q=>∃dn kp dk names par pl,ds=[dn,.obj kp,dk]/\Al own dn=some (names.map D.str)/\own[kp]? =some (par.map B8)/\Al own dk=some (pl.map B8)/\
 names≠[]/\names.length<=5/\pl.length<=5/\(∀k∈pl,k<names.length/\k<par.length/\par.getD k 0<names.length)/\par.length<=5/\
 Q (.obj (own.length+2)) (own++Dq (own.length+2) names.length::NL (own.length+1) (Ea (own.length+2) par pl) 0 names)
theorem iC (e n:Nat):Dq e (n+1)=Dq e n++[.obj (e+2*n)]:=by unfold Dq;rw[List.range_succ,Id];rfl
theorem iW (own:List (List D))(K:Nat->List D)(don:List (List Nat))(x:List Nat)(hK:K don.length=[]):
  (((own++Dq (own.length+2) don.length::NL (own.length+1) K 0 don)++[[]])++[[D.str x,D.obj (own++Dq (own.length+2) don.length::NL (own.length+1) K 0 don).length]]).set own.length (Dq (own.length+2) don.length++[D.obj ((own++Dq (own.length+2) don.length::NL (own.length+1) K 0 don)++[[]]).length])
  =own++Dq (own.length+2) (don++[x]).length::NL (own.length+1) K 0 (don++[x]):=by
 have hL:(own++Dq (own.length+2) don.length::NL (own.length+1) K 0 don).length=own.length+1+2*don.length:=by
  rw[Bu,G8,iJ];exact le_antisymm (by simp +arith only) (by simp +arith only)
 have hL2:((own++Dq (own.length+2) don.length::NL (own.length+1) K 0 don)++[[]]).length=own.length+2+2*don.length:=by
  rw[Bu,hL];exact le_antisymm (by simp +arith only[G8,length_nil]) (by simp +arith only[G8,length_nil])
 rw[hL,hL2,C4,C4,List.set_append_right _ _ (le_refl _),sub_self,dC,zero_add,hK,show(don++[x]).length=don.length+1 from Bu,iC]
 rfl
theorem Rm {own L:List (List D)}{a:List D}(i:Nat):(own++a::L)[own.length+1+i]? =L[i]? :=by
 rw[append_cons,V9 (by rw[Bu];exact le_add_right _ _),Bu]
 exact congrArg (L[·]?) (Nat.add_sub_cancel_left _ _)
theorem Sa {own:List (List D)}{a:List D}{b:Nat}{K:Nat->List D}{names:List (List Nat)}{j:Nat}(h:j<names.length):(own++a::NL b K 0 names)[own.length+1+2*j]? =some (K j):=by
 rw[Rm,dE b K names 0 j h,zero_add]
theorem Yb {own:List (List D)}{a:List D}{b:Nat}{K:Nat->List D}{names:List (List Nat)}{j:Nat}{x:List Nat}(h:names[j]? =some x):(own++a::NL b K 0 names)[own.length+2+2*j]? =some [.str x,.obj (b+2*j)]:=by
 rw[show own.length+2+2*j=own.length+1+(2*j+1)from le_antisymm (by simp +arith only) (by simp +arith only),Rm,dD b K names 0 j x h,zero_add]
theorem jU {own:List (List D)}{a d:List D}{b:Nat}{K:Nat->List D}{names:List (List Nat)}{j:Nat}(h:j<names.length):(own++a::NL b K 0 names).set (own.length+1+2*j) d=own++a::NL b (Ie K j d) 0 names:=by
 rw[append_cons,List.set_append_right _ _ (by rw[Bu];exact le_add_right _ _),Bu,show own.length+[a].length=own.length+1 from rfl,Nat.add_sub_cancel_left,iI b K d names 0 j h,zero_add,<-append_cons]
theorem bO (e:Nat)(par don:List Nat)(k:Nat):Ie (Ea e par don) (par.getD k 0) (Ea e par don (par.getD k 0)++[.obj (e+2*k)])=Ea e par (don++[k]):=by
 funext i
 unfold Ie Ea H3
 rw[List.filter_append,Id]
 by_cases h:i=par.getD k 0
 ·rw[Bc h,h,List.filter_cons_of_pos (by exact beq_self_eq_true _)];rfl
 ·rw[Ay h,List.filter_cons_of_neg (by rw[beq_iff_eq];exact λz=>h z.symm)];exact(Pv _).symm
theorem Pp {e n j:Nat}(h:j<n):(Dq e n)[j]? =some (.obj (e+2*j)):=by
 unfold Dq;rw[List.getElem?_map,List.getElem?_range h];rfl
theorem lP {Γ:W}(ok:Γ.Ok){A:Around}{a:Addr}{pm code doc:Value}(N:Fn Γ a (docDef cK.name cK.params cK.body cK.scope pm code doc) ["names","parents","places"] cK.body)(hA:A9 1 A):Ap Γ A (.ref a) mP:=by
 refine'(Dl ok N rfl (by have:=hA.depth;exact Aq this) (λL=>?w)).imp ?p
 case w=>
  have H:=Hk ok N (hA.deeper (callEnvC (docDef cK.name cK.params cK.body cK.scope pm code doc) L a)) L
  refine' Av ?_ ?_
  all_goals repeat' first
   |(show(_:Prop);with_reducible assumption)|(intros;rfl)|decide|exact Kd.local (by rfl)|exact Kd.cell (by rfl) ⟨_,by rfl⟩
   |((with_reducible show∀_:Addr,Ev _ _ _->_);intro C hC)
   |((with_reducible refine' Wh (cap:=[]) ..);any_goals ((with_reducible show CE _ _ _ _);exact Gy (by rfl) (by rfl) (λ_=>by rfl) rfl))
   |with_reducible first|exact Dr|refine' Av .. |refine' Z6 .. |refine' Dx .. |refine' Px .. |exact Ds|refine' Iu .. |refine' Ei .. |exact Br|refine' A0 .. |refine' Ju .. |refine' Du .. |exact Vo|refine' Bi ..
 case p=>
  intro ds own Q h
  refine Bj h λdn kp dk names par zz=>Dn zz λpl e h1 h2 h3 zz=>B6 zz λh4 h5 h6 h7 zz=>Ae zz λh8 q=>?_
  try clear h
  subst e
  refine⟨rfl,?_⟩
  refine A5 (λσ=>σ=⟨[("names",dn),("parents",.obj kp),("places",dk),("nodes",.obj own.length)],own++Dq (own.length+2) names.length::NL (own.length+1) (Ea (own.length+2) par []) 0 names,[]⟩) (λ_ _=>False) (λR r1 _=>?_) ?_ (λ_ _ h=>h.elim)
  ·refine Gi (Ac rfl (T6 (D.str) (λdon=>Dq (own.length+2) don.length::NL (own.length+1) (Ea (own.length+2) par []) 0 don) names h1 rfl (λx don res R e hn=>?_) (Ck (r1 _ rfl))))
   have hl:don.length<=5:=Ao (by rw[e,Bu];exact le_add_right _ _) h5
   have fin:∀o,o=own++Dq (own.length+2) (don++[x]).length::NL (own.length+1) (Ea (own.length+2) par []) 0 (don++[x])->R .next ⟨[("name",.str x)],o,[]⟩:=λo e=>e▸hn [("name",.str x)]
   refine Ck (sT (W9 (Ac rfl ⟨zero_le _,⟨Cr rfl,Dq (own.length+2) don.length,?_,?_,fin _ (iW own _ don x rfl)⟩⟩)))
   ·show((own++Dq (own.length+2) don.length::_)++[[]]++[_])[own.length]? =_
    rw[C4,C4];exact Co rfl
   ·show(Dq (own.length+2) don.length).length<=sizeLine
    unfold Dq;rw[B2,length_range];exact Ao hl (by decide)
  rintro σ rfl
  have hacc:(Dq (own.length+2) names.length).length<=sizeLine:=by unfold Dq;rw[B2,length_range];exact Ao h5 (by decide)
  refine A5 (λσ=>σ=⟨[("names",dn),("parents",.obj kp),("places",dk),("nodes",.obj own.length)],own++Dq (own.length+2) names.length::NL (own.length+1) (Ea (own.length+2) par pl) 0 names,[]⟩) (λ_ _=>False) (λR r1 _=>?_) ?_ (λ_ _ h=>h.elim)
  ·refine Ac rfl (pL B8 (λdon=>own++Dq (own.length+2) names.length::NL (own.length+1) (Ea (own.length+2) par don) 0 names) pl _ (λdon=>Gr h3 _) (λk don res R e hn _=>?_) (r1 _ rfl))
   have hk:=h7 k (by rw[e];exact M2 _ Ht)
   have hp:par[k]? =some (par.getD k 0):=by rw[List.getD_eq_getElem?_getD,Fz hk.2.1];rfl
   refine Ad (show∃p,par.getD k 0=p from⟨_,rfl⟩) λp hpe=>?_
   have hs:=bO (own.length+2) par don k
   rw[hpe]at hp hk hs
   have hx:=Fz hk.2.2
   have hkl:(Ea (own.length+2) par don p).length<=20000:=by
    unfold Ea;rw[B2]
    exact Ao (List.length_filter_le _ _) (Ao (by rw[e,Bu];exact le_add_right _ _:don.length<=pl.length) (Ao h6 (by decide)))
   have wk:∀j:Nat,j<names.length->Bb (j:Int):=λj hj=>iw rfl (Ao (le_of_lt hj) (Ao h5 (by decide)))
   have fin:∀o,o=own++Dq (own.length+2) names.length::NL (own.length+1) (Ea (own.length+2) par (don++[k])) 0 names->R .next ⟨[("names",dn),("parents",.obj kp),("places",dk),("nodes",.obj own.length),("k",B8 k)],o,[]⟩:=λo e=>e▸hn [("k",B8 k)]
   refine Ck (Ak (Ac rfl (Ac rfl (Ac rfl (B7 (Aj (Dg _ _) h2) (wk k hk.1) (Cl (by rw[List.getElem?_map,hp];rfl)) (B7 (Co rfl) (wk p hk.2.2) (Cl (Pp hk.2.2)) (B7 (Yb hx) (iw (n:=1) rfl (by decide)) rfl (iL (Sa hk.2.2) (Ac rfl (Ac rfl (B7 (Co rfl) (wk k hk.1) (Cl (Pp hk.1)) (Xb (Sa hk.2.2) hkl (fin _ (by rw[<-hs];exact jU hk.2.2))))))))))))))
  rintro σ rfl
  refine Ak (Ac rfl (B7 (Co rfl) (iw (n:=0) rfl (by decide)) (Cl (j:=0) (Pp (List.length_pos_iff.mpr h4))) ?_))
  exact q
noncomputable def Mi:Nat->US->Option Nat
 |k,[]=>some k
 |k,u::r=>if u=cs "(" then Mi (k+1) r else if u=cs ")" then(match k with|0=>none|k+1=>Mi k r)else Mi k r
theorem Zi (k:Nat)(u:List Nat)(r:US):Mi k (u::r)=if u=cs "(" then Mi (k+1) r else if u=cs ")" then(match k with|0=>none|k+1=>Mi k r)else Mi k r:=rfl
theorem Q7 (k:Nat)(r:US):Mi k (cs "("::r)=Mi (k+1) r:=(Zi k _ r).trans (Bc rfl)
theorem Ue (k:Nat)(r:US):Mi (k+1) (cs ")"::r)=Mi k r:=(Zi (k+1) _ r).trans ((Ay (by decide)).trans (Bc rfl))
theorem Q8 {u:List Nat}(h1:u≠cs "(")(h2:u≠cs ")")(k:Nat)(r:US):Mi k (u::r)=Mi k r:=(Zi k _ r).trans ((Ay h1).trans (Ay h2))
theorem Pe:∀(us vs:US) (k:Nat),Mi k (us++vs)=(Mi k us).bind λm=>Mi m vs:=by
 intro us
 induction us with
 |nil=>intro vs k;rfl
 |cons u us ih=>
  intro vs k
  show Mi k (u::(us++vs))=_
  by_cases h1:u=cs "("
  ·rw[h1,Q7,Q7,ih]
  ·by_cases h2:u=cs ")"
   ·rw[h2]
    cases k with
    |zero=>rfl
    |succ k=>rw[Ue,Ue,ih]
   ·rw[Q8 h1 h2,Q8 h1 h2,ih]
theorem U9:∀(ps:List (Int×List Nat)) (k:Nat),C6 k ps=(Mi k (ps.map (·.2))==some 0):=by
 intro ps
 induction ps with
 |nil=>intro k;cases k with
  |zero=>rfl
  |succ k=>rfl
 |cons p ps ih=>
  intro k
  rw[Iw,Gb]
  by_cases h1:p.2=cs "("
  ·rw[Bc h1,h1,Q7,<-ih];rfl
  ·rw[Ay h1]
   by_cases h2:p.2=cs ")"
   ·rw[Bc h2,h2]
    cases k with
    |zero=>rw[Bc (by decide)];rfl
    |succ k=>
     have e:((k+1:Nat):Int)-1=k:=by exact pB _
     rw[e,Ay (by exact fQ (n:=k) rfl),Ue,ih]
   ·rw[Ay h2,Q8 h1 h2,ih]
noncomputable def Um (us:US):Prop:=∀k j,∃m,Mi k (us.take j)=some m/\k<=m/\(us.length<=j->m=k)
theorem Ul:Um []:=λk j=>⟨k,by rw[take_nil];rfl,le_refl _,λ_=>rfl⟩
theorem Jf {u:List Nat}(h1:u≠cs "(")(h2:u≠cs ")"):Um [u]:=λk j=>by
 cases j with
 |zero=>exact⟨k,rfl,le_refl _,λ_=>rfl⟩
 |succ j=>exact⟨k,by rw[take_succ_cons,take_nil,Q8 h1 h2];rfl,le_refl _,λ_=>rfl⟩
theorem Fk {us vs:US}(h1:Um us)(h2:Um vs):Um (us++vs):=λk j=>by
 refine Au (h1 k j) λm e l z=>Au (h2 m (j-us.length)) λm2 e2 l2 z2=>?_
 refine⟨m2,by rw[List.take_append,Pe,e];exact e2,Ao l l2,λh=>?_⟩
 rw[Bu]at h
 rw[z2 (Nat.le_sub_of_add_le (by rw[add_comm];exact h)),z (Ao (le_add_right _ _) h)]
theorem Rg {us:List US}(h:∀u∈us,Um u):Um us.flatten:=by
 induction us with
 |nil=>exact Ul
 |cons u us ih=>exact Fk (h u (.head _)) (ih λv hv=>h v (.tail _ hv))
theorem Mo {us:US}(h:Um us):Um (cs "("::us++[cs ")"]):=λk j=>by
 cases j with
 |zero=>exact⟨k,rfl,le_refl _,λ_=>rfl⟩
 |succ j=>
  refine Au (h (k+1) j) λm e l z=>?_
  rw[cons_append,take_succ_cons,Q7,List.take_append,Pe,e]
  by_cases hj:us.length<j
  ·have:∃i,j-us.length=i+1:=⟨j-us.length-1,by exact eT (Aq hj)⟩
   refine Ad this λi hi=>?_
   rw[hi,take_succ_cons,take_nil,z (le_of_lt hj)]
   exact⟨k,by show Mi (k+1) [cs ")"]=_;rw[Ue];rfl,le_refl _,λ_=>rfl⟩
  ·have hi:j-us.length=0:=Nat.sub_eq_zero_of_le (not_lt.mp hj)
   rw[hi]
   exact⟨m,rfl,Ao (le_succ k) l,λh=>absurd (by simp only[Bu,G8,length_nil]at h;exact Aq h) hj⟩
theorem aA:∀(n:Nat) (t:A6),K8 (n+1) t->∃us,un (n+1) t=cs "("::us++[cs ")"]/\Um us:=by
 have key:∀(n:Nat),(∀t,K8 n t->Um (un n t))->∀t,K8 (n+1) t->∃us,un (n+1) t=cs "("::us++[cs ")"]/\Um us:=by
  intro n ih t h
  cases t with
  |node x l=>
  have hb:Um ([[63],[115],[58]]++x.flatMap Pr):=by
   refine Fk (us:=[[63],[115],[58]]) (Fk (us:=[[63]]) (vs:=[[115],[58]]) (Jf (by decide) (by decide)) (Fk (us:=[[115]]) (vs:=[[58]]) (Jf (by decide) (by decide)) (Jf (by decide) (by decide)))) ?_
   refine Rg λus hu=>Ab (G7.mp hu) λc hc e=>?_
   have hn:=P8 c (h.1.2 c hc)
   rw[<-e]
   revert hn
   generalize Pr c=us
   intro hn
   induction us with
   |nil=>exact Ul
   |cons u us ihu=>exact Fk (us:=[u]) (Jf (hn u (.head _)).1 (hn u (.head _)).2) (ihu λv hv=>hn v (.tail _ hv))
  refine⟨([40]::(([[63],[115],[58]]++x.flatMap Pr)++[[41]]))++([[92,90]]++l.flatMap (un n)),rfl,Fk (Mo hb) (Fk (us:=[[92,90]]) (Jf (by decide) (by decide)) ?_)⟩
  exact Rg λus hu=>Ab (G7.mp hu) λc hc e=>by rw[<-e];exact ih c (h.2.2 c hc)
 have all:∀n t,K8 n t->Um (un n t):=by
  intro n
  induction n with
  |zero=>intro t h;exact h.elim
  |succ n ih=>intro t h;exact Ab (key n ih t h) λus e hb=>by rw[e];exact Mo hb
 exact λn=>key n (all n)
theorem Ub:∀us:US,(∀u∈us,I8 u=true)->us.length<=us.flatten.length:=by
 intro us
 induction us with
 |nil=>intro _;exact le_refl _
 |cons u us ih=>
  intro h
  have h1:1<=u.length:=by rcases Fe (h u (.head _))with⟨c,_,_,_,rfl⟩|⟨c,_,_,rfl⟩<;>exact Cr rfl
  rw[G8,flatten_cons,Bu,add_comm]
  exact Bk h1 (ih λv hv=>h v (.tail _ hv))
theorem Vz:∀(us:US) (i cut:Nat),(∀u∈us,I8 u=true)->cut<=us.flatten.length->
  ∃j,j<=us.length/\((A3 i false (us.flatten.take cut)).map (·.2)=us.take j/\cut=(us.take j).flatten.length\/
   j<us.length/\(∃c,us[j]? =some [92,c])/\(A3 i false (us.flatten.take cut)).map (·.2)=us.take j++[[92]]/\cut=(us.take j).flatten.length+1):=by
 intro us
 induction us with
 |nil=>
  intro i cut _ h
  exact⟨0,le_refl _,.inl ⟨by rw[List.flatten_nil,take_nil];rfl,Nat.le_zero.mp h⟩⟩
 |cons u us ih=>
  intro i cut hg h
  cases cut with
  |zero=>exact⟨0,zero_le _,.inl ⟨rfl,rfl⟩⟩
  |succ cut=>
   rcases Fe (hg u (.head _))with⟨c,hc,_,_,rfl⟩|⟨c,_,_,rfl⟩
   ·have hl:cut<=us.flatten.length:=by rw[flatten_cons,Bu]at h;have:([c]:List Nat).length=1:=rfl;exact Aq (Bk h (Bt this))
    refine Ab (ih (i+1) cut (λv hv=>hg v (.tail _ hv)) hl) λj hj hh=>?_
    have e:(A3 i false (([c]::us).flatten.take (cut+1))).map (·.2)=[c]::(A3 (i+1) false (us.flatten.take cut)).map (·.2):=by
     show(A3 i false (c::us.flatten.take cut)).map (·.2)=_
     rw[Me hc];rfl
    refine⟨j+1,succ_le_succ hj,?_⟩
    rw[e,take_succ_cons,flatten_cons,Bu]
    have:([c]:List Nat).length=1:=rfl
    rcases hh with⟨h1,h2⟩|⟨h0,⟨d,hd⟩,h1,h2⟩
    ·exact .inl ⟨by rw[h1],by exact le_antisymm (Aq (Bk (Bt h2) (Bt this.symm))) (Aq (Bk (Bt this) (Bt h2.symm)))⟩
    ·exact .inr ⟨Nat.succ_lt_succ h0,⟨d,hd⟩,by rw[h1];rfl,by exact le_antisymm (Aq (Bk (Bt h2) (Bt this.symm))) (Aq (Bk (Bt this) (Bt h2.symm)))⟩
   ·cases cut with
    |zero=>exact⟨0,zero_le _,.inr ⟨succ_pos _,⟨c,rfl⟩,rfl,rfl⟩⟩
    |succ cut=>
     have hl:cut<=us.flatten.length:=by rw[flatten_cons,Bu]at h;have:([92,c]:List Nat).length=2:=rfl;exact Aq (Bk h (Bt this))
     refine Ab (ih (i+2) cut (λv hv=>hg v (.tail _ hv)) hl) λj hj hh=>?_
     have e:(A3 i false (([92,c]::us).flatten.take (cut+1+1))).map (·.2)=[92,c]::(A3 (i+2) false (us.flatten.take cut)).map (·.2):=rfl
     refine⟨j+1,succ_le_succ hj,?_⟩
     rw[e,take_succ_cons,flatten_cons,Bu]
     have:([92,c]:List Nat).length=2:=rfl
     rcases hh with⟨h1,h2⟩|⟨h0,⟨d,hd⟩,h1,h2⟩
     ·exact .inl ⟨by rw[h1],by exact le_antisymm (Aq (Bk (Bt h2) (Bt this.symm))) (Aq (Bk (Bt this) (Bt h2.symm)))⟩
     ·exact .inr ⟨Nat.succ_lt_succ h0,⟨d,hd⟩,by rw[h1];rfl,by exact le_antisymm (Aq (Bk (Bt h2) (Bt this.symm))) (Aq (Bk (Bt this) (Bt h2.symm)))⟩
theorem kT (x:List Nat):Eb (cs "\"") x=decide (34∈x):=by
 unfold Eb
 rw[show cs "\""=[34]by decide]
 exact(StrLaws.found_one ⟨x.toArray⟩ 34).trans (by simp)
theorem V4 {x:List Nat}(h:34∉x):Fi x=(Mi 0 ((A3 0 false x).map (·.2))==some 0):=by
 unfold Fi Ge
 rw[kT,decide_eq_false h,Ay Bool.false_ne_true]
 exact U9 _ 0
theorem oJ {us:US}(h:∀u∈us,I8 u=true):34∉us.flatten:=λz=>by
 refine Ab (List.mem_flatten.mp z) λu hu hm=>?_
 rcases Fe (h u hu)with⟨c,_,h3,_,rfl⟩|⟨c,h3,_,rfl⟩
 ·exact h3 (K2.mp hm).symm
 ·rcases E1.mp hm with e|hm
  ·exact absurd e (by decide)
  ·exact h3 (K2.mp hm).symm
theorem S5 {us:US}{j:Nat}(h:∀u∈us,I8 u=true)(hj:j<us.length):(us.take j).flatten.length<us.flatten.length/\∀c d,us[j]? =some [c,d]->(us.take j).flatten.length+1<us.flatten.length:=by
 have e:us.flatten=(us.take j).flatten++(us.drop j).flatten:=by rw[<-flatten_append,List.take_append_drop]
 have hg:=Ub (us.drop j) λu hu=>h u (mem_of_mem_drop hu)
 rw[length_drop]at hg
 refine⟨by rw[e,Bu];exact Aq (Bk (Bk hj (Cv (List.length us) (j))) hg),λc d hcd=>?_⟩
 have e2:us.drop j=[c,d]::us.drop (j+1):=by
  have:=H7.mp hcd
  refine Ad this λhl hv=>?_
  rw[<-hv];exact List.drop_eq_getElem_cons hl
 rw[e,Bu,e2,flatten_cons,Bu]
 have:([c,d]:List Nat).length=2:=rfl
 exact Aq (Bt this.symm)
theorem V5 {n:Nat}{t:A6}(h:K8 (n+1) t){cut:Nat}(hc:cut<=(wr (n+1) t).length):Fi ((wr (n+1) t).take cut)=decide (cut=0\/cut=(wr (n+1) t).length):=by
 have hg:=S2 _ t h
 rw[<-S3 _ t h]at hc⊢
 rw[V4 λz=>oJ hg (mem_of_mem_take z)]
 refine Ab (aA n t h) λus eu hb=>?_
 generalize un (n+1) t=U at hg hc eu⊢
 have inner:∀j,0<j->j<U.length->∃m,Mi 0 (U.take j)=some (m+1):=by
  intro j h0 hj
  rw[eu]at hj⊢
  cases j with
  |zero=>exact absurd h0 (lt_irrefl 0)
  |succ j=>
   rw[Bu,G8,List.length_singleton]at hj
   refine Au (hb 1 j) λm e l _=>?_
   refine⟨m-1,?_⟩
   rw[cons_append,take_succ_cons,Q7,List.take_append_of_le_length (by exact Aq hj),e]
   exact congrArg some (by exact le_antisymm (Aq (Cv (m) (1))) (Aq (Bt (sub_add_cancel (Aq l:1<=m)))))
 refine Ab (Vz U 0 cut hg hc) λj hj hh=>?_
 rcases hh with⟨h1,h2⟩|⟨h0,⟨d,hd⟩,h1,h2⟩
 ·rw[h1]
  by_cases hj0:j=0
  ·subst hj0
   rw[decide_eq_true (.inl h2)];rfl
  ·by_cases hjl:j=U.length
   ·subst hjl
    rw[take_length]at h2⊢
    rw[decide_eq_true (.inr h2),eu]
    refine Au (Mo hb 0 (cs "("::us++[cs ")"]).length) λm e _ z=>?_
    rw[take_length,z (le_refl _)]at e
    rw[e];rfl
   ·have hlt:j<U.length:=Nat.lt_of_le_of_ne hj hjl
    refine Ad (inner j (Nat.pos_of_ne_zero hj0) hlt) λm e=>?_
    rw[e,decide_eq_false]
    ·rfl
    ·have hp:=Ub (U.take j) λu hu=>hg u (mem_of_mem_take hu)
     rw[length_take]at hp
     have:=(S5 hg hlt).1
     rw[min_eq_left hj]at hp;exact λh=>h.elim (λe=>hj0 (Nat.le_zero.mp (Ao hp (Bt (h2.symm.trans e))))) λe=>absurd (h2.symm.trans e) (ne_of_lt this)
 ·have hj0:j≠0:=λz=>by
   subst z
   rw[eu]at hd
   have:cs "("=[92,d]:=Option.some.inj hd
   exact absurd (congrArg List.length this) (by show¬(1:Nat)=2;decide)
  refine Ad (inner j (Nat.pos_of_ne_zero hj0) h0) λm e=>?_
  rw[h1,Pe,e,decide_eq_false]
  ·show(Mi (m+1) [[92]]==some 0)=false
   rw[Q8 (by decide) (by decide)];rfl
  ·have:=(S5 hg h0).2 _ _ hd
   exact λh=>h.elim (λe=>succ_ne_zero _ (h2.symm.trans e)) λe=>absurd (h2.symm.trans e) (ne_of_lt this)
noncomputable def cL:DefRec:=Ec PySem.Challenge.pw_in0167_02 19
noncomputable def Lj:List (List Nat):=[[],cs "a",cs "*",cs "?",cs "[",cs "]",cs "(",cs ")",cs "\\",cs "-",cs "!",cs "^"]
noncomputable def B0 (n:Int):List Nat:=Lj.getD (n%12).toNat []++Lj.getD (n/12%12).toNat []
noncomputable def nB:Mine.Internal.B3:=λds own Q=>∃n,ds=[.int n]/\Q (.str (B0 n)) (own++[Lj.map D.str])
theorem W1 (m:Int):Bb (m%12)/\K9 (Lj.map D.str) (m%12)=some (.str (Lj.getD (m%12).toNat [])):=by
 have h0:0<=m%12:=Int.emod_nonneg _ (by decide)
 have h1:m%12<12:=Int.emod_lt_of_pos _ (by decide)
 refine⟨⟨Int.le_trans (by decide) h0,Int.lt_trans h1 (by decide)⟩,?_⟩
 generalize m%12=k at h0 h1
 refine Ad (Int.eq_ofNat_of_zero_le h0) λj e=>?_
 subst e
 have h1:j<12:=Int.ofNat_lt.1 h1
 refine Cl ?_
 rw[List.getElem?_map,Int.toNat_natCast,List.getD_eq_getElem?_getD,Fz (show j<Lj.length from h1)];rfl
theorem Qi:∀m:Nat,(Lj.getD m []).length<=1:=λm=>by
 by_cases h:m<12
 ·revert h;revert m;decide
 ·rw[List.getD_eq_getElem?_getD,List.getElem?_eq_none (not_lt.mp h)];exact zero_le _
theorem lT {Γ:W}(ok:Γ.Ok){A:Around}{a:Addr}{pm code doc:Value}(N:Fn Γ a (docDef cL.name cL.params cL.body cL.scope pm code doc) ["n"] cL.body)(hA:A9 1 A):Ap Γ A (.ref a) nB:=by
 refine'(Dl ok N rfl (by have:=hA.depth;exact Aq this) (λL=>?w)).imp ?p
 case w=>
  have H:=Hk ok N (hA.deeper (callEnvC (docDef cL.name cL.params cL.body cL.scope pm code doc) L a)) L
  refine' Av ?_ ?_
  all_goals repeat' first
   |(show(_:Prop);with_reducible assumption)|(intros;rfl)|decide|exact Kd.local (by rfl)|exact Kd.cell (by rfl) ⟨_,by rfl⟩
   |with_reducible first|exact Dr|refine' Av .. |refine' Bx .. |refine' Dx .. |exact Hy|exact Ds|refine' It .. |refine' Ei .. |exact Br|refine' A0 .. |refine' Ju .. |refine' Bi ..
 case p=>
  intro ds own Q h
  refine Ab h λn e q=>?_
  subst e
  refine⟨rfl,?_⟩
  refine Ae (W1 n) λw1 n1=>Ae (W1 (n/12)) λw2 n2=>?_
  refine An ⟨by decide,Ck (Ak (Ac rfl (Ac rfl (Ll (by decide) (B7 (Aw _ _) w1 n1 (Ac rfl (Ac rfl (Tk ⟨by decide,by decide⟩ (Ll (by decide) (B7 (Aw _ _) w2 n2 ?_))))))))))⟩
  exact Lm (Ao (Bk (Qi _) (Qi _)) (by decide)) q
noncomputable def Uh (kids:Nat->List Nat):Nat->Nat->Nat
 |0,_=>1
 |f+1,i=>((kids i).map (Uh kids f)).sum+1
theorem aF:∀c:Nat,(E5 c).length<=4:=λc=>by
 unfold E5
 exact L7 (λl:List Nat=>l.length<=4) (λ_=>Cr rfl) λ_=>L7 (λl:List Nat=>l.length<=4) (λ_=>Cr rfl) λ_=>L7 (λl:List Nat=>l.length<=4) (λ_=>Cr rfl) λ_=>Cr rfl
theorem Ur:∀c∈cs "a*?[]()\\-!^",∀d∈E5 c,d<0x110000:=by decide +kernel
theorem aE:∀x:List Nat,(x.flatMap E5).length<=4*x.length:=by
 intro x
 induction x with
 |nil=>exact le_refl _
 |cons c x ih=>rw[flatMap_cons,Bu,G8];have:=aF c;exact Aq (Bk this ih)
theorem aD {x:List Nat}(h:Em x):(Jo x).length<=15:=by
 have h1:=aE x
 have h2:=h.1
 unfold Jo
 rw[Bu,Bu]
 have e1:(cs "(?s:").length=4:=by decide
 have e2:(cs ")\\Z").length=3:=by decide
 exact Aq (Bk (Bk (Bk (Bt e1) h1) (Bt e2)) (mul_le_mul_left 4 h2))
theorem Uq {x:List Nat}(h:Em x):∀d∈Jo x,d<0x110000:=by
 unfold Jo
 rw[forall_mem_append,forall_mem_append]
 refine⟨⟨by decide,λd hd=>?_⟩,by decide⟩
 exact Ab (List.mem_flatMap.mp hd) λc hc hd=>Ur c (h.2 c hc) d hd
theorem Tw {n:Nat}{w:Int}{x:List Nat}{l:List A6}{s:Nat}(hx:Em x)(hl:l.length<=4)(hc:∀c∈l,Ks n w c)(hs:(l.map λc=>(Bf n w c).length).sum<=17*s)(h100:s+1<=100):Ks (n+1) w (.node x l)/\(Bf (n+1) w (.node x l)).length<=17*(s+1):=by
 have hp:=Cg (w:=w) (L:=l.map (Bf n w)) (by rw[B2];exact hl)
 have e:(Bf (n+1) w (.node x l)).length<=17*(s+1):=by
  show(((cs "("++Jo x)++(Bs w (l.map (Bf n w))).flatten)++cs ")").length<=_
  have h1:=aD hx
  have h2:(Bs w (l.map (Bf n w))).flatten.length<=17*s:=by
   rw[hp.flatten.length_eq,List.length_flatten,map_map];exact hs
  rw[Bu,Bu,Bu]
  have e1:(cs "(").length=1:=by decide
  have e2:(cs ")").length=1:=by decide
  exact Aq (Bk (Bk (Bk (Bt e1) h1) h2) (Bt e2))
 refine⟨⟨hx,hl,Ao e (Ao (mul_le_mul_left 17 h100) (Cr rfl)),hc,?_⟩,e⟩
 show(((cs "("++Jo x)++(Bs w (l.map (Bf n w))).flatten)++cs ")").all (·<0x110000)=true
 rw[all_eq_true]
 have:∀d∈((cs "("++Jo x)++(Bs w (l.map (Bf n w))).flatten)++cs ")",d<0x110000:=by
  rw[forall_mem_append,forall_mem_append,forall_mem_append]
  refine⟨⟨⟨by decide,Uq hx⟩,λd hd=>?_⟩,by decide⟩
  refine Ab (List.mem_flatten.mp hd) λu hu hd=>?_
  refine Ab (G7.mp (hp.mem_iff.mp hu)) λc hcl e=>?_
  subst e
  exact of_decide_eq_true (all_eq_true.mp (hc c hcl).all d hd)
 exact λd hd=>decide_eq_true (this d hd)
theorem bL:∀{l:List Nat} {x:Nat},x∈l->x<=l.sum:=by
 intro l
 induction l with
 |nil=>intro x h;cases h
 |cons y l ih=>
  intro x h
  rw[sum_cons]
  rcases E1.mp h with rfl|h
  ·exact le_add_right _ _
  ·exact Ao (ih h) (le_add_left _ _)
theorem X6 {names:List (List Nat)}{kids:Nat->List Nat}{w:Int}(hn:∀i,Em (names.getD i []))(hk:∀i,(kids i).length<=4):∀f i,Uh kids f i<=100->Ks (f+1) w (D5 names kids f i)/\(Bf (f+1) w (D5 names kids f i)).length<=17*Uh kids f i:=by
 intro f
 induction f with
 |zero=>intro i h;exact Tw (s:=0) (hn i) (zero_le _) (λ_ h=>absurd h not_mem_nil) (le_refl _) (Cr rfl)
 |succ f ih=>
  intro i h
  have hc:∀k∈kids i,Uh kids f k<=100:=λk hk=>by
   have h1:Uh kids f k<=((kids i).map (Uh kids f)).sum:=bL (G7.mpr ⟨k,hk,rfl⟩)
   have h:((kids i).map (Uh kids f)).sum+1<=100:=h
   exact Aq (Bk h1 h)
  refine Tw (s:=((kids i).map (Uh kids f)).sum) (hn i) (by rw[B2];exact hk i) (λc hcm=>?_) ?_ h
  ·exact Ab (G7.mp hcm) λk hk e=>by rw[<-e];exact(ih k (hc k hk)).1
  ·rw[map_map]
   have:∀l:List Nat,(∀k∈l,Uh kids f k<=100)->(l.map ((λc=>(Bf (f+1) w c).length)∘D5 names kids f)).sum<=17*(l.map (Uh kids f)).sum:=by
    intro l
    induction l with
    |nil=>intro _;exact le_refl _
    |cons k l ihl=>
     intro h
     rw[Gb,Gb,sum_cons,sum_cons]
     have h1:=ihl λk hk=>h k (.tail _ hk)
     have h2:(Bf (f+1) w (D5 names kids f k)).length<=17*Uh kids f k:=(ih k (h k (.head _))).2
     show(Bf (f+1) w (D5 names kids f k)).length+_<=_
     exact Aq (Bk h2 h1)
   exact this _ hc
noncomputable def M1 (m:Nat):List Nat:=(List.range (m-1)).map (·+1)
noncomputable def U7 (m:Nat):List Nat:=(List.range (m-1)).map λi=>m-1-i
noncomputable def V3 (par:List Nat):Bool:=decide (Uh (H3 par (M1 par.length)) 4 0<=100)&&decide (Uh (H3 par (U7 par.length)) 4 0<=100)
theorem Zq:∀b<1,∀c<2,∀d<3,∀e<4,(V3 [0]&&V3 [0,b]&&V3 [0,b,c]&&V3 [0,b,c,d]&&V3 [0,b,c,d,e])=true:=by decide +kernel
noncomputable def Dw (par:List Nat):Prop:=1<=par.length/\par.length<=5/\∀k,k<par.length->par.getD k 0<max 1 k
theorem Dw.chk {par:List Nat}(h:Dw par):V3 par=true:=by
 have z:∀{a:Nat},a<1->a=0:=λh=>Nat.lt_one_iff.mp h
 have B:∀{a b:Bool},(a&&b)=true->a=true/\b=true:=Bool.and_eq_true_iff.mp
 have h0:=Zq
 rcases par with _|⟨a,_|⟨b,_|⟨c,_|⟨d,_|⟨e,_|⟨f,r⟩⟩⟩⟩⟩⟩
 ·exact absurd h.1 (lt_irrefl 0)
 all_goals first|exact absurd h.2.1 (not_le.mpr (le_add_left 6 _))|(have e:a=0:=z (h.2.2 0 (succ_pos _));subst e)
 ·exact(B (B (B (B (h0 0 (by decide) 0 (by decide) 0 (by decide) 0 (by decide))).1).1).1).1
 ·exact(B (B (B (B (h0 b (h.2.2 1 (Cr rfl)) 0 (by decide) 0 (by decide) 0 (by decide))).1).1).1).2
 ·exact(B (B (B (h0 b (h.2.2 1 (Cr rfl)) c (h.2.2 2 (Cr rfl)) 0 (by decide) 0 (by decide))).1).1).2
 ·exact(B (B (h0 b (h.2.2 1 (Cr rfl)) c (h.2.2 2 (Cr rfl)) d (h.2.2 3 (Cr rfl)) 0 (by decide))).1).2
 ·exact(B (h0 b (h.2.2 1 (Cr rfl)) c (h.2.2 2 (Cr rfl)) d (h.2.2 3 (Cr rfl)) e (h.2.2 4 (Cr rfl)))).2
theorem R9 {m k:Nat}(h:k∈M1 m):1<=k/\k<m:=Ab (G7.mp h) λi hi e=>by have:=mem_range.mp hi;exact e▸⟨le_add_left 1 i,Nat.add_lt_of_lt_sub this⟩
theorem Xw {m k:Nat}(h:k∈U7 m):1<=k/\k<m:=Ab (G7.mp h) λi hi e=>by have:=mem_range.mp hi;exact e▸⟨Nat.sub_pos_of_lt this,lt_of_le_of_lt (sub_le (m-1) i) (Nat.sub_lt (lt_of_lt_of_le (Nat.zero_lt_of_lt this) (sub_le m 1)) (succ_pos 0))⟩
theorem dL:∀i<12,(Lj.getD i []).length<=1/\∀c∈Lj.getD i [],c∈cs "a*?[]()\\-!^":=by decide +kernel
theorem dU (n:Int):(n%12).toNat<12:=(Int.toNat_lt (Int.emod_nonneg n (by decide))).2 (Int.emod_lt_of_pos n (by decide))
theorem Vd (n:Int):Em (B0 n):=by
 have h1:=dL _ (dU n)
 have h2:=dL _ (dU (n/12))
 unfold B0
 refine⟨by rw[Bu];exact Aq (Bk h1.1 h2.1),λc hc=>?_⟩
 exact(mem_append.mp hc).elim (h1.2 c) (h2.2 c)
theorem Yd (ms:List Int)(i:Nat):Em ((ms.map B0).getD i []):=by
 rw[List.getD_eq_getElem?_getD,List.getElem?_map]
 cases ms[i]? with
 |none=>exact⟨zero_le _,λ_ h=>absurd h not_mem_nil⟩
 |some n=>exact Vd n
noncomputable def Ng (ms:List Int) (par pl:List Nat):A6:=D5 (ms.map B0) (H3 par pl) 4 0
theorem Qb {ms:List Int}{par pl:List Nat}(h:Dw par)(hpl:pl=M1 par.length\/pl=U7 par.length)(w:Int):Ks 5 w (Ng ms par pl)/\(Bf 5 w (Ng ms par pl)).length<=1700:=by
 have hc:=Bool.and_eq_true_iff.mp h.chk
 have hl:pl.length<=4:=by
  have:=h.2.1
  rcases hpl with rfl|rfl
  ·show((List.range (par.length-1)).map _).length<=4;rw[B2,length_range];exact Nat.sub_le_sub_right this 1
  ·show((List.range (par.length-1)).map _).length<=4;rw[B2,length_range];exact Nat.sub_le_sub_right this 1
 have hcn:Uh (H3 par pl) 4 0<=100:=by
  rcases hpl with rfl|rfl
  ·exact of_decide_eq_true hc.1
  ·exact of_decide_eq_true hc.2
 have:=X6 (w:=w) (Yd ms) (kids:=H3 par pl) (λi=>Ao (List.length_filter_le _ _) hl) 4 0 hcn
 exact⟨this.1,Ao this.2 (mul_le_mul_left 17 hcn)⟩
theorem kW {own:List (List D)}{f k:Nat}{ds es:List D}(h:own[k]? =some ds)(e:ds.mapM (fz own 0 f)=some es):fz own 0 (f+1) (.obj k)=some (.lst es):=by
 show(if k<0 then some (D.obj k)else(own[k]?).bind λds=>(ds.mapM (fz own 0 f)).map D.lst)=_
 rw[Ay (Nat.not_lt_zero _),h,Option.bind_some,e];rfl
theorem Cp {F:D->Option D}{d e:D}{ds es:List D}(h:F d=some e)(h2:ds.mapM F=some es):(d::ds).mapM F=some (e::es):=by
 rw[List.mapM_cons,h,h2];rfl
theorem fR {a b d:D}{σ:St}{R:Bool->Prop}(h1:fz σ.own 0 20 a=some d)(h2:fz σ.own 0 20 b=some d)(k:Ib 20 d=true)(h:R false):Zp .NotEq a b σ R:=by
 refine⟨d,d,h1,h2,k,k,?_⟩
 rw[SeqAt.eqv_refl (Ru d) (Nu 20 d k).1];exact h
noncomputable def Z4:Nat->A6->D
 |0,_=>.none
 |n+1,.node x l=>.lst [.str x,.lst (l.map (Z4 n))]
theorem gO {own:List (List D)}:∀(n f:Nat) (t:A6) (k:Nat),K8 n t->Ah own t k->fz own 0 (f+1+2*n) (.obj k)=some (Z4 n t):=by
 intro n
 induction n with
 |zero=>intro f t k h;exact h.elim
 |succ n ih=>
  intro f t k h ht
  cases t with
  |node x l=>
  unfold Ah at ht
  refine Ag ht λc ds e1 e2 e3=>?_
  refine kW (f:=f+1+2*n+1) e1 (Cp rfl (Cp (kW (f:=f+1+2*n) e2 ?_) rfl))
  have:∀(l:List A6) (ds:List D),(∀c∈l,K8 n c)->Tqa own l ds->ds.mapM (fz own 0 (f+1+2*n))=some (l.map (Z4 n)):=by
   intro l
   induction l with
   |nil=>intro ds _ h;unfold Tqa at h;rw[h];rfl
   |cons c l ihl=>
    intro ds hc h
    unfold Tqa at h
    refine Ag h λk r e ta h2=>?_
    rw[e]
    exact Cp (ih f c k (hc c (.head _)) ta) (ihl r (λd hd=>hc d (.tail _ hd)) h2)
  exact this l ds h.2.2 e3
theorem bF:∀(n f:Nat) (t:A6),K8 n t->Ib (f+2*n) (Z4 n t)=true:=by
 intro n
 induction n with
 |zero=>intro f t h;exact h.elim
 |succ n ih=>
  intro f t h
  cases t with
  |node x l=>
  have hx:x.all (·<0x110000)=true:=all_eq_true.mpr λc hc=>by
   have:∀c∈cs "a*?[]()\\-!^",decide (c<0x110000)=true:=by decide +kernel
   exact this c (h.1.2 c hc)
  have hl:∀l:List A6,(∀c∈l,K8 n c)->okDs (f+2*n) (l.map (Z4 n))=true:=by
   intro l
   induction l with
   |nil=>intro _;rfl
   |cons c l ihl=>intro h;exact Bool.and_eq_true_iff.mpr ⟨ih f c (h c (.head _)),ihl λd hd=>h d (.tail _ hd)⟩
  show(Ib (f+2*n+1) (.str x)&&(Ib (f+2*n+1) (.lst (l.map (Z4 n)))&&true))=true
  rw[Bool.and_true]
  exact Bool.and_eq_true_iff.mpr ⟨hx,hl l h.2.2⟩
noncomputable def Fu (own:List (List D)) (t:A6) (k:Nat):Prop:=∃a c q,own[k]? =some [.obj a]/\own[a]? =some [.int 6,.str [],.obj c]/\own[c]? =some [.obj q]/\Ah own t q
theorem Fu.mono {own own':List (List D)}(h:own<+:own'){t:A6}{k:Nat}(o:Fu own t k):Fu own' t k:=by
 refine Dm o λa c q h1 h2 h3 h4=>?_
 try clear o
 exact⟨a,c,q,Aj h h1,Aj h h2,Aj h h3,Ah.mono h _ _ h4⟩
theorem eE {own:List (List D)}{t:A6}{k:Nat}(h:K8 5 t)(o:Fu own t k):fz own 0 20 (.obj k)=some (.lst [.lst [.int 6,.str [],.lst [Z4 5 t]]]):=by
 refine Dm o λa c q h1 h2 h3 h4=>?_
 try clear o
 exact kW h1 (Cp (kW h2 (Cp rfl (Cp rfl (Cp (kW h3 (Cp (gO 5 6 t q h h4) rfl)) rfl)))) rfl)
theorem jV {σ:St}{t:A6}{k1 k2:Nat}{R:Bool->Prop}(h:K8 5 t)(o1:Fu σ.own t k1)(o2:Fu σ.own t k2)(r:R false):Ee .NotEq (.obj k1) (.obj k2) σ R:=
 fR (eE h o1) (eE h o2) (by
  show(Ib 19 (.lst [.int 6,.str [],.lst [Z4 5 t]])&&true)=true
  rw[Bool.and_true]
  show(true&&(true&&(Ib 18 (.lst [Z4 5 t])&&true)))=true
  rw[Bool.and_true,Bool.true_and,Bool.true_and]
  show(Ib 17 (Z4 5 t)&&true)=true
  rw[Bool.and_true]
  exact bF 5 7 t h) r
theorem E4.at {own:List (List D)}{g:Nat->Option (List D)}(hg:∀i l,g i=some l->own[i]? =some l)(t:A6):∀k,E4 g t k->Ah own t k:=by
 induction t using A6.rec (motive_2:=λl=>∀ds,Tqf g l ds->Tqa own l ds)with
 |node x l ih=>
  intro k hk
  unfold E4 at hk
  unfold Ah
  exact Ag hk λc ds e1 e2 e3=>⟨c,ds,hg _ _ e1,hg _ _ e2,ih _ e3⟩
 |nil=>rename_i ds hd;unfold Tqf at hd;unfold Tqa;exact hd
 |cons t l i1 i2=>
  rename_i ds hd
  unfold Tqf at hd
  unfold Tqa
  exact Ag hd λk r e1 e2 e3=>⟨k,r,e1,i1 _ e2,i2 _ e3⟩
theorem SA.one {n₀ k:Nat}{own:List (List D)}{t:A6}{fs cs:List Nat}(h:SA n₀ own k [⟨6,[],[t]⟩].reverse fs cs):Fu own t k:=by
 have ht:=h.top
 have h3:=h.at_
 refine Cm h3 λa fs' c cs' e1 e2 Z e3 e4=>?_
 try clear h3
 refine Ae Z λh4 Y=>?_
 clear Z
 refine Ab Y λkd h5 h6=>?_
 clear Y
 subst e1 e2
 rw[e3]at ht
 unfold Tqf at h6
 refine Ag h6 λq r e5 h7 h8=>?_
 try clear h6
 unfold Tqf at h8
 subst h8
 rw[e5]at h5
 exact⟨a,c,q,ht,h4,h5,E4.at (λi l e=>(Hf e).2) t q h7⟩
theorem SA.start {own:List (List D)}:SA own.length (own++[[]]++[[.int 6,.str [],.obj own.length]]++[[.obj (own.length+1)]]) (own.length+2) Wo.reverse [own.length+1] [own.length]:=by
 have g0:(own++[[]]++[[D.int 6,.str [],.obj own.length]]++[[D.obj (own.length+1)]])[own.length]? =some []:=by
  rw[C4,C4];exact Co rfl
 have g1:(own++[[]]++[[D.int 6,.str [],.obj own.length]]++[[D.obj (own.length+1)]])[own.length+1]? =some [.int 6,.str [],.obj own.length]:=by
  rw[C4,C4,V9 (le_add_right _ 1),Nat.add_sub_cancel_left];rfl
 have g2:(own++[[]]++[[D.int 6,.str [],.obj own.length]]++[[D.obj (own.length+1)]])[own.length+2]? =some [.obj (own.length+1)]:=by
  rw[C4,C4,V9 (le_add_right _ _),Nat.add_sub_cancel_left];rfl
 refine⟨g2,?_,?_,?_⟩
 ·show[own.length+2,own.length+1,own.length].Nodup
  simp
 ·show∀i∈[own.length+2,own.length+1,own.length],own.length<=i
  simp
 ·refine⟨own.length+1,[],own.length,[],rfl,rfl,⟨g1,[],g0,?_⟩,rfl,rfl⟩
  unfold Tqf;rfl
noncomputable def Kr (ms:List Int) (k:Nat):Nat:=(ms.getD k 0/144%(k:Int)).toNat
theorem Qt {ms:List Int}{k:Nat}(h:1<=k):Kr ms k<k/\B8 (Kr ms k)=.int (ms.getD k 0/144%(k:Int)):=by
 have h1:=Int.emod_nonneg (ms.getD k 0/144) (Int.ne_of_gt (Int.ofNat_lt.2 h):(k:Int)≠0)
 have h2:=Int.emod_lt_of_pos (ms.getD k 0/144) (show 0<(k:Int)by exact Int.ofNat_lt.2 (Aq h:0<k))
 unfold Kr B8
 exact⟨(Int.toNat_lt h1).2 h2,by rw[Int.toNat_of_nonneg h1]⟩
noncomputable def Hn (ms:List Int):List Nat:=0::(M1 ms.length).map (Kr ms)
theorem Nt {ms:List Int}(h:1<=ms.length):(Hn ms).length=ms.length:=by
 unfold Hn M1
 rw[G8,B2,B2,length_range];exact le_antisymm (Aq (Bt (sub_add_cancel (Aq h:1<=ms.length)))) (Aq (Cv (ms.length) (1)))
theorem Xz {ms:List Int}(h:1<=ms.length)(h5:ms.length<=5):Dw (Hn ms):=by
 have hl:=Nt h
 refine⟨by exact Aq (Bk h (Bt hl.symm)),by exact Aq (Bk (Bt hl) h5),λk hk=>?_⟩
 cases k with
 |zero=>exact le_refl 1
 |succ i=>
  rw[hl]at hk
  have e:(M1 ms.length)[i]? =some (i+1):=by unfold M1;rw[List.getElem?_map,List.getElem?_range (by exact Aq (Bk hk (Cv (ms.length) (1))))];rfl
  have:(Hn ms).getD (i+1) 0=Kr ms (i+1):=by
   unfold Hn
   rw[List.getD_cons_succ,List.getD_eq_getElem?_getD,List.getElem?_map,e];rfl
  rw[this]
  have:=(Qt (ms:=ms) (k:=i+1) (by simp +arith only)).1
  exact lt_of_lt_of_le this (Nat.le_max_right _ _)
noncomputable def Nx (m:Nat) (p:Nat) (z:Int):Nat:=(((p:Int)+z)%(if(m:Int)-1>1 then(m:Int)-1 else 1)).toNat
theorem Yq (m p:Nat)(z:Int):Nx m p z<max 1 (m-1)/\B8 (Nx m p z)=.int (((p:Int)+z)%(if(m:Int)-1>1 then(m:Int)-1 else 1))/\0<(if(m:Int)-1>1 then(m:Int)-1 else 1):=by
 have h0:0<(if(m:Int)-1>1 then(m:Int)-1 else 1):=L7 (λx:Int=>0<x) (λh=>Int.lt_trans (by decide) h) λ_=>by decide
 have h1:=Int.emod_nonneg ((p:Int)+z) (Int.ne_of_gt h0)
 have h2:=Int.emod_lt_of_pos ((p:Int)+z) h0
 have h3:(if(m:Int)-1>1 then(m:Int)-1 else 1)<=((max 1 (m-1):Nat):Int):=L7 (λx:Int=>x<=((max 1 (m-1):Nat):Int)) (λ_=>Int.le_trans (Int.sub_right_le_of_le_add (Int.ofNat_le.2 (Cv m 1))) (Int.ofNat_le.2 (Nat.le_max_right _ _))) λ_=>Int.ofNat_le.2 (Nat.le_max_left 1 _)
 unfold Nx B8
 exact⟨(Int.toNat_lt h1).2 (Int.lt_of_lt_of_le h2 h3),by rw[Int.toNat_of_nonneg h1],h0⟩
theorem gA {l:List Nat}{x k:Nat}(h:k<l.length):(l++[x]).getD k 0=l.getD k 0:=by
 rw[List.getD_eq_getElem?_getD,List.getD_eq_getElem?_getD,Ro h]
theorem gB {l:List Nat}{x:Nat}:(l++[x]).getD l.length 0=x:=by
 rw[List.getD_eq_getElem?_getD,V9 (le_refl _),sub_self];rfl
theorem fO {par:List Nat}{pi:List Nat}{p q:Nat}(h:Dw par)(e:par=pi++[p])(hq:q<max 1 (par.length-1)):Dw (pi++[q])/\(pi++[q]).length=par.length:=by
 have el:(pi++[q]).length=par.length:=by rw[e,Bu,Bu];rfl
 refine⟨⟨by rw[el];exact h.1,by rw[el];exact h.2.1,λk hk=>?_⟩,el⟩
 have hl:par.length=pi.length+1:=by rw[e,Bu];rfl
 rw[el,hl]at hk
 by_cases hk2:k<pi.length
 ·have:=h.2.2 k (by exact Aq (Bk hk2 (Bt hl.symm)))
  rw[e,gA hk2]at this
  rw[gA hk2];exact this
 ·have:k=pi.length:=by exact le_antisymm (Aq hk) (Aq (not_lt.1 hk2))
  subst this
  rw[gB]
  rw[hl,Nat.add_sub_cancel]at hq
  exact hq
theorem U8 {α:Type}(l:List α)(x:α):K0 (l++[x]) none (some (-1)) none=l:=by
 rw[Nr]
 unfold cut kms_lo kms_hi
 dsimp only
 rw[List.drop_zero,Nat.sub_zero,Bc (by decide),Bu]
 have:l.length+[x].length - (- -1:Int).toNat=l.length:=by
  rw[show([x]:List α).length=1 from rfl];rfl
 rw[this,List.take_append_of_le_length (by exact le_refl _)]
 exact take_of_length_le (by exact le_refl _)
theorem gL {ms:List Int}{k:Nat}(h:k<ms.length):K9 (ms.map D.int) (k:Int)=some (.int (ms.getD k 0)):=by
 refine Cl ?_
 rw[List.getElem?_map,List.getD_eq_getElem?_getD,Fz h];rfl
theorem Js {m:Nat}(h:m<=5):Builtin.Range.small 1 (m:Int) 1=true/\Builtin.Range.rangeSize 1 (m:Int) 1=((m-1:Nat):Int)/\Cx 1 1 (m-1)=(M1 m).map B8:=by
 have h2:=(by decide:∀m:Nat,m<6->Builtin.Range.small 1 (m:Int) 1=true/\Builtin.Range.rangeSize 1 (m:Int) 1=((m-1:Nat):Int)) m (lt_succ_of_le h)
 refine⟨h2.1,h2.2,?_⟩
 unfold Cx M1
 rw[map_map]
 refine map_congr_left λi _=>?_
 show D.int (1+(i:Int)*1)=.int ((i+1:Nat):Int)
 congr 1;rw[Int.mul_one,Int.add_comm];rfl
theorem Lo {m:Nat}(h:m<=5):Builtin.Range.small ((m:Int)-1) 0 (-1)=true/\Builtin.Range.rangeSize ((m:Int)-1) 0 (-1)=((m-1:Nat):Int)/\Cx ((m:Int)-1) (-1) (m-1)=(U7 m).map B8:=by
 have h2:=(by decide:∀m:Nat,m<6->Builtin.Range.small ((m:Int)-1) 0 (-1)=true/\Builtin.Range.rangeSize ((m:Int)-1) 0 (-1)=((m-1:Nat):Int)) m (lt_succ_of_le h)
 refine⟨h2.1,h2.2,?_⟩
 unfold Cx U7
 rw[map_map]
 refine map_congr_left λi hi=>?_
 have:=mem_range.mp hi
 show D.int ((m:Int)-1+(i:Int)* -1)=.int ((m-1-i:Nat):Int)
 congr 1;rw[Int.ofNat_sub (le_of_lt this),Int.ofNat_sub (lt_of_lt_of_le (Nat.zero_lt_of_lt this) (sub_le m 1)),Int.mul_neg_one];rfl
theorem Un {own:List (List D)}{ms:List Int}{par pl:List Nat}(h:Dw par)(hl:par.length=ms.length)(hpl:pl=M1 par.length\/pl=U7 par.length):Ah (own++Dq (own.length+2) (ms.map B0).length::NL (own.length+1) (Ea (own.length+2) par pl) 0 (ms.map B0)) (Ng ms par pl) (own.length+2):=by
 have h1:=h.1
 have h2:=h.2.1
 refine Uo (b:=own.length+1) (e:=own.length+2) (K:=Ea (own.length+2) par pl) (λ_=>rfl) (λi k hk=>?_) (λj hj=>Sa hj) (λj x hx=>Yb hx) 4 0 (by rw[B2];exact Aq (Bk h1 (Bt hl))) (by rw[B2];exact Aq (Bk (Bt hl.symm) h2))
 have hm:=mem_filter.mp hk
 have hk2:1<=k/\k<par.length:=by
  rcases hpl with rfl|rfl
  ·exact R9 hm.1
  ·exact Xw hm.1
 have hp:=h.2.2 k hk2.2
 have he:par.getD k 0=i:=eq_of_beq hm.2
 rw[B2]
 exact⟨he▸lt_of_lt_of_le hp (Bt (Nat.max_eq_right hk2.1)),hl▸hk2.2⟩
theorem jS {ms:List Int}{par pl:List Nat}(h:Dw par)(hl:par.length=ms.length)(hpl:pl=M1 par.length\/pl=U7 par.length):pl.length<=5/\∀k∈pl,k<(ms.map B0).length/\k<par.length/\par.getD k 0<(ms.map B0).length:=by
 have h2:=h.2.1
 constructor
 ·rcases hpl with rfl|rfl
  ·unfold M1;rw[B2,length_range];exact Aq (Bk (sub_le (par.length) (1)) h2)
  ·unfold U7;rw[B2,length_range];exact Aq (Bk (sub_le (par.length) (1)) h2)
 ·intro k hk
  have hk2:1<=k/\k<par.length:=by
   rcases hpl with rfl|rfl
   ·exact R9 hk
   ·exact Xw hk
  have hp:=h.2.2 k hk2.2
  rw[B2]
  exact⟨hl▸hk2.2,hk2.2,lt_trans (lt_of_lt_of_le hp (Bt (Nat.max_eq_right hk2.1))) (hl▸hk2.2)⟩
noncomputable def rO:Mine.Internal.B3:=λds own Q=>∃ns:List Int,ds=[.lst (ns.map D.int)]/\ns.length<=63/\∀own',Q (.bool true) own'
noncomputable def numsOf (ns:List Int):List Int:=if ns.take 5=[]then[169,4,4,246,403]else ns.take 5
theorem Ya (ns:List Int):1<=(numsOf ns).length/\(numsOf ns).length<=5:=by
 unfold numsOf
 split
 ·decide
 ·rename_i h
  exact⟨List.length_pos_iff.mpr h,by rw[length_take];exact Aq (Nat.min_le_left 5 ns.length)⟩
theorem fL (ns:List Int):K0 (ns.map D.int) none (some 5) none=(ns.take 5).map D.int:=by
 rw[Nr,List.map_take]
 unfold cut kms_lo kms_hi
 dsimp only
 rw[List.drop_zero,Nat.sub_zero,Ay (by decide)]
 show(ns.map D.int).take (min 5 (ns.map D.int).length)=_
 by_cases h:5<=(ns.map D.int).length
 ·rw[min_eq_left h]
 ·rw[Nat.min_eq_right (by exact Aq (not_le.1 h)),take_of_length_le (le_refl _),take_of_length_le (by exact Aq (not_le.1 h))]
theorem fK {α:Type}{a b:List α}(h:∀i,i<a.length->b[i]? =a[i]?)(hl:a.length<=b.length):a<+:b:=by
 have:b.take a.length=a:=by
  refine List.ext_getElem? λi=>?_
  rw[List.getElem?_take]
  by_cases hi:i<a.length
  ·rw[Bc hi,h i hi]
  ·rw[Ay hi,List.getElem?_eq_none (not_lt.mp hi)]
 rw[<-this];exact List.take_prefix _ _
theorem Ql {a24:Addr}{own:List (List D)}{td:A6}{t:List Nat}{Q:D->List (List D)->Prop}(h:K8 5 td)(e:t=wr 5 td)(q:∀own' k,own<+:own'->Fu own' td k->Q (.obj k) own'):
  mQ a24 [.raw (.ref a24),.obj own.length,.obj (((own++[(A3 0 false t).map Fh])++[[]])++[[D.int 6,.str [],.obj (own++[(A3 0 false t).map Fh]).length]]).length]
   ((((own++[(A3 0 false t).map Fh])++[[]])++[[D.int 6,.str [],.obj (own++[(A3 0 false t).map Fh]).length]])++[[D.obj ((own++[(A3 0 false t).map Fh])++[[]]).length]]) Q:=by
 have s0:=SA.start (own:=own++[(A3 0 false t).map Fh])
 generalize hX:own++[(A3 0 false t).map Fh]=X at s0⊢
 have e1:(X++[[]]).length=X.length+1:=Bu
 have e2:((X++[[]])++[[D.int 6,.str [],.obj X.length]]).length=X.length+2:=by rw[Bu,e1];rfl
 rw[e1,e2]
 have hXl:X.length=own.length+1:=by rw[<-hX];exact Bu
 have r:=Lp (n:=5) (by decide) h
 rw[<-e]at r
 refine⟨X.length,own.length,X.length+2,A3 0 false t,Wo,_,_,rfl,by rw[hXl];exact lt_succ_self _,?_,s0,?_,r.2,λown' fs' cs' s1 hag hle=>?_⟩
 ·rw[C4,C4,<-hX,C4];exact Co rfl
 ·rw[C4,C4,Bu];exact le_add_right _ _
 ·rw[r.1]at s1
  refine q own' _ ?_ s1.one
  have hp:X<+:own':=fK (λi hi=>(hag i hi).trans (by rw[C4,C4];exact Ro hi)) (Ao (by rw[C4,C4,Bu];exact le_add_right _ _) hle)
  rw[<-hX]at hp
  exact(Dg _ _).trans hp
theorem bD {own:List (List D)}{td:A6}{k:Nat}(h:Ah own td k):Fu (((own++[[D.obj k]])++[[D.int 6,.str [],.obj own.length]])++[[D.obj (own++[[D.obj k]]).length]]) td ((own++[[D.obj k]])++[[D.int 6,.str [],.obj own.length]]).length:=
 ⟨_,_,k,Aw _ _,Dc (own++[[D.obj k]]) _ [] _,by rw[C4];exact Dc own _ [] _,Ah.mono (((Dg _ _).trans (Dg _ _)).trans (Dg _ _)) _ _ h⟩
theorem Pf {α:Type}{l:List α}{k:Nat}(h:k<=l.length):cut l none (some (k:Int))=l.take k:=by
 unfold cut kms_lo kms_hi
 dsimp only
 rw[Ay (by exact fQ (n:=k) rfl),List.drop_zero,Nat.sub_zero,show min (k:Int).toNat l.length=k from min_eq_left h]
theorem Qa {own:List (List D)}{k c q:Nat}{t:A6}(h1:own[k]? =some [.str [],.obj c])(h2:own[c]? =some [.obj q])(h:Ah own t q):Ah own (.node [] [t]) k:=by
 unfold Ah
 refine⟨c,_,h1,h2,?_⟩
 unfold Tqa
 refine⟨q,[],rfl,h,?_⟩
 unfold Tqa
 rfl
theorem Tu {t:A6}(h:Z3 5 t):Z3 6 (.node [] [t]):=⟨zero_le _,Cr rfl,λc hc=>by rw[K2.mp hc];exact h⟩
theorem mF (ct n:Nat):([0,(n:Int)].any λx=>x==(ct:Int))=decide (ct=0\/ct=n):=by
 rw[List.any_cons,List.any_cons,List.any_nil,Bool.or_false]
 refine Bool.eq_iff_iff.mpr ?_
 rw[Bool.or_eq_true,beq_iff_eq,beq_iff_eq,decide_eq_true_iff]
 exact or_congr ⟨λh=>(Int.ofNat_inj.1 h).symm,λh=>Int.ofNat_inj.2 h.symm⟩ ⟨λh=>(Int.ofNat_inj.1 h).symm,λh=>Int.ofNat_inj.2 h.symm⟩
noncomputable def qF (ns:List Int) (kn:Nat):List (String×D):=[("script",.lst (ns.map D.int)),("numbers",.obj kn)]
noncomputable def qE (ns:List Int) (kn:Nat) (m kx:Nat):List (String×D):=qF ns kn++[("size",.int m),("names",.obj kx)]
noncomputable def qD (ns:List Int) (kn:Nat) (m kx:Nat) (w:Int):List (String×D):=qE ns kn m kx++[("way",.int w)]
noncomputable def qC (ns:List Int) (kn:Nat) (m kx:Nat) (w:Int) (kp:Nat):List (String×D):=qD ns kn m kx w++[("parents",.obj kp)]
noncomputable def qB (ns:List Int) (kn:Nat) (m kx:Nat) (w:Int) (kp:Nat) (ko:Nat):List (String×D):=qC ns kn m kx w kp++[("others",.obj ko)]
noncomputable def qA (ns:List Int) (kn:Nat) (m kx:Nat) (w:Int) (kp:Nat) (ko:Nat) (k1:Nat):List (String×D):=qB ns kn m kx w kp ko++[("first",.obj k1)]
noncomputable def pZ (ns:List Int) (kn:Nat) (m kx:Nat) (w:Int) (kp:Nat) (ko:Nat) (k1:Nat) (k2:Nat):List (String×D):=qA ns kn m kx w kp ko k1++[("second",.obj k2)]
noncomputable def pY (ns:List Int) (kn:Nat) (m kx:Nat) (w:Int) (kp:Nat) (ko:Nat) (k1:Nat) (k2:Nat) (t1:List Nat) (kt:Nat):List (String×D):=pZ ns kn m kx w kp ko k1 k2++[("text",.str t1),("tree",.obj kt)]
noncomputable def mS (ns:List Int) (kn:Nat) (m kx:Nat) (w:Int) (kp:Nat) (ko:Nat) (k1:Nat) (k2:Nat) (t1:List Nat) (kt:Nat) (t2:List Nat):List (String×D):=pY ns kn m kx w kp ko k1 k2 t1 kt++[("again",.str t2),("written",.str t1)]
noncomputable def Z0 (ns:List Int) (kn:Nat) (m kx:Nat) (w:Int) (kp:Nat) (ko:Nat) (k1:Nat) (k2:Nat) (t1:List Nat) (kt:Nat) (t2:List Nat) (kb:Nat):List (String×D):=mS ns kn m kx w kp ko k1 k2 t1 kt t2++[("back",.obj kb)]
noncomputable def dF (ns:List Int) (kn:Nat) (m kx:Nat) (w:Int) (kp:Nat) (ko:Nat) (k1:Nat) (k2:Nat) (t1:List Nat) (kt:Nat) (t2:List Nat) (kb:Nat) (ct:Nat):List (String×D):=Z0 ns kn m kx w kp ko k1 k2 t1 kt t2 kb++[("cut",.int ct)]
noncomputable def bE (w:Int) (T:A6):Prop:=Ks 5 w T/\(Bf 5 w T).length<=1700
noncomputable def D8 (w:Int) (T1 T2:A6):Prop:=(w.natAbs<=10/\w≠0)/\bE w T1/\bE w T2
noncomputable def J0 (σ:St):Prop:=∃(ns:List Int) (own:List (List D)),σ=⟨[("script",.lst (ns.map D.int))],own,[]⟩/\ns.length<=63
noncomputable def J1 (σ:St):Prop:=∃(ns:List Int) (kn:Nat) (ms:List Int) (own:List (List D)),σ=⟨qF ns kn,own,[]⟩/\(1<=ms.length/\ms.length<=5)/\own[kn]? =some (ms.map D.int)
noncomputable def J2 (σ:St):Prop:=∃(ns:List Int) (kn:Nat) (ms:List Int) (kx:Nat) (own:List (List D)),σ=⟨qE ns kn ms.length kx,own,[]⟩/\(1<=ms.length/\ms.length<=5)/\own[kn]? =some (ms.map D.int)/\own[kx]? =some ((ms.map B0).map D.str)
noncomputable def J3 (σ:St):Prop:=∃(ns:List Int) (kn:Nat) (ms:List Int) (kx:Nat) (w:Int) (own:List (List D)),σ=⟨qD ns kn ms.length kx w,own,[]⟩/\(1<=ms.length/\ms.length<=5)/\(w.natAbs<=10/\w≠0)/\own[kn]? =some (ms.map D.int)/\own[kx]? =some ((ms.map B0).map D.str)
noncomputable def J4 (σ:St):Prop:=∃(ns:List Int) (kn:Nat) (ms:List Int) (kx:Nat) (w:Int) (kp:Nat) (own:List (List D)),σ=⟨qC ns kn ms.length kx w kp,own,[]⟩/\(1<=ms.length/\ms.length<=5)/\(w.natAbs<=10/\w≠0)/\own[kn]? =some (ms.map D.int)/\own[kx]? =some ((ms.map B0).map D.str)/\own[kp]? =some ((Hn ms).map B8)
noncomputable def J5 (σ:St):Prop:=∃(ns:List Int) (kn:Nat) (ms:List Int) (kx:Nat) (w:Int) (kp:Nat) (ko:Nat) (par:List Nat) (oth:List Nat) (own:List (List D)),σ=⟨qB ns kn ms.length kx w kp ko,own,[]⟩/\ms.length<=5/\(w.natAbs<=10/\w≠0)/\(Dw par/\par.length=ms.length)/\(Dw oth/\oth.length=ms.length)/\own[kn]? =some (ms.map D.int)/\own[kx]? =some ((ms.map B0).map D.str)/\own[kp]? =some (par.map B8)/\own[ko]? =some (oth.map B8)
noncomputable def J6 (σ:St):Prop:=∃(ns:List Int) (kn:Nat) (ms:List Int) (kx:Nat) (w:Int) (kp:Nat) (ko:Nat) (k1:Nat) (T1:A6) (oth:List Nat) (own:List (List D)),σ=⟨qA ns kn ms.length kx w kp ko k1,own,[]⟩/\ms.length<=5/\(w.natAbs<=10/\w≠0)/\(Dw oth/\oth.length=ms.length)/\bE w T1/\own[kn]? =some (ms.map D.int)/\own[kx]? =some ((ms.map B0).map D.str)/\own[ko]? =some (oth.map B8)/\Ah own T1 k1
noncomputable def J7 (σ:St):Prop:=∃(ns:List Int) (kn:Nat) (ms:List Int) (m:Nat) (kx:Nat) (w:Int) (kp:Nat) (ko:Nat) (k1:Nat) (k2:Nat) (T1:A6) (T2:A6) (own:List (List D)),σ=⟨pZ ns kn m kx w kp ko k1 k2,own,[]⟩/\D8 w T1 T2/\own[kn]? =some (ms.map D.int)/\Ah own T1 k1/\Ah own T2 k2
noncomputable def J8 (σ:St):Prop:=∃(ns:List Int) (kn:Nat) (ms:List Int) (m:Nat) (kx:Nat) (w:Int) (kp:Nat) (ko:Nat) (k1:Nat) (k2:Nat) (kt:Nat) (T1:A6) (T2:A6) (own:List (List D)),σ=⟨pY ns kn m kx w kp ko k1 k2 (Bf 5 w T1) kt,own,[]⟩/\D8 w T1 T2/\own[kn]? =some (ms.map D.int)/\Ah own T1 k1/\Ah own T2 k2/\Ah own (Ia 5 w T1) kt
noncomputable def J9 (σ:St):Prop:=∃(ns:List Int) (kn:Nat) (ms:List Int) (m:Nat) (kx:Nat) (w:Int) (kp:Nat) (ko:Nat) (k1:Nat) (k2:Nat) (kt:Nat) (T1:A6) (T2:A6) (own:List (List D)),σ=⟨mS ns kn m kx w kp ko k1 k2 (Bf 5 w T1) kt (Bf 5 w T2),own,[]⟩/\D8 w T1 T2/\own[kn]? =some (ms.map D.int)/\Ah own T1 k1/\Ah own T2 k2/\Ah own (Ia 5 w T1) kt
noncomputable def qI (σ:St):Prop:=∃(ns:List Int) (kn:Nat) (ms:List Int) (m:Nat) (kx:Nat) (w:Int) (kp:Nat) (ko:Nat) (k1:Nat) (k2:Nat) (kt:Nat) (T1:A6) (T2:A6) (own:List (List D)),σ=⟨mS ns kn m kx w kp ko k1 k2 (Bf 5 w T1) kt (Bf 5 w T2),own,[]⟩/\D8 w T1 T2/\own[kn]? =some (ms.map D.int)/\Ah own T1 k1/\Ah own T2 k2
noncomputable def qH (σ:St):Prop:=∃(ns:List Int) (kn:Nat) (ms:List Int) (m:Nat) (kx:Nat) (w:Int) (kp:Nat) (ko:Nat) (k1:Nat) (k2:Nat) (kt:Nat) (kb:Nat) (T1:A6) (T2:A6) (own:List (List D)),σ=⟨Z0 ns kn m kx w kp ko k1 k2 (Bf 5 w T1) kt (Bf 5 w T2) kb,own,[]⟩/\D8 w T1 T2/\own[kn]? =some (ms.map D.int)/\Ah own T1 k1/\Ah own T2 k2/\Fu own (Ia 5 w T2) kb
noncomputable def qG (σ:St):Prop:=∃(ns:List Int) (kn:Nat) (ms:List Int) (m:Nat) (kx:Nat) (w:Int) (kp:Nat) (ko:Nat) (k1:Nat) (k2:Nat) (kt:Nat) (kb:Nat) (T1:A6) (T2:A6) (own:List (List D)),σ=⟨Z0 ns kn m kx w kp ko k1 k2 (Bf 5 w T1) kt (Bf 5 w T2) kb,own,[]⟩/\D8 w T1 T2/\own[kn]? =some (ms.map D.int)/\Ah own T1 k1/\Ah own T2 k2
noncomputable def eM (σ:St):Prop:=∃(ns:List Int) (kn:Nat) (m:Nat) (kx:Nat) (w:Int) (kp:Nat) (ko:Nat) (k1:Nat) (k2:Nat) (kt:Nat) (kb:Nat) (ct:Nat) (T1:A6) (T2:A6) (own:List (List D)),σ=⟨dF ns kn m kx w kp ko k1 k2 (Bf 5 w T1) kt (Bf 5 w T2) kb ct,own,[]⟩/\D8 w T1 T2/\ct<=(Bf 5 w T1).length/\Ah own T1 k1/\Ah own T2 k2
noncomputable def dB:Mine.Internal.B3:=λds own Q=>∃n,n<=6/\nA n ds own Q
noncomputable def Kx:DefRec:=Ec PySem.Challenge.pw_in0167_02 27
noncomputable def Of (pm code doc:Value) (L a:Addr):Env:=callEnvC (docDef Kx.name Kx.params Kx.body Kx.scope pm code doc) L a
noncomputable def sp (I J:St->Prop):TS:=λσ Q=>I σ/\∀σ',J σ'->Q .next σ'
noncomputable def qK (I:St->Prop):TS:=λσ Q=>I σ/\∀σ',Q (.ret (.bool true)) σ'
theorem H2 {Γ:W}{A:Around}{env:Env}{body rest:List Stmt}{st:Stmt}{T T':TS}(e:body=st::rest)(h:Cs Γ A env st T)(w:∀σ Q,T' σ Q->T σ Q):∀s r,body=s::r->Cs Γ A env s T':=λs r e2=>(List.cons.inj (e.symm.trans e2)).1▸λK G ι σ s Q F q=>h K G ι σ s Q F (w σ Q q)
theorem w0:Bb 0:=iw (n:=0) rfl (by decide)
theorem rS:Bb (-1):=by unfold Bb;decide
theorem Fv {own:List (List D)}{a:List D}:own<+:own++[a]:=Dg _ _
theorem jR {own:List (List D)}{a b:List D}:own<+:(own++[a])++[b]:=Fv.trans Fv
theorem Lx {own:List (List D)}{a b c:List D}:own<+:((own++[a])++[b])++[c]:=jR.trans Fv
theorem D8.h1 {w:Int}{T1 T2:A6}(h:D8 w T1 T2):(Bf 5 w T1).length<=2000:=Ao h.2.1.2 (by decide)
theorem D8.h2 {w:Int}{T1 T2:A6}(h:D8 w T1 T2):(Bf 5 w T2).length<=2000:=Ao h.2.2.2 (by decide)
theorem oT {Γ:W}{A:Around}{env:Env}{body rest:List Stmt}{st:Stmt}{T:TS}{K:St->Prop}(e:body=st::rest)(h:Cs Γ A env st T)(wW:∀(ns:List Int) (own:List (List D)),ns.length<=63->∀R:FD->St->Prop,(∀σ',K σ'->R .next σ')->T ⟨[("script",.lst (ns.map D.int))],own,[]⟩ R):∀s r,body=s::r->Cs Γ A env s (sp J0 K):=H2 e h λσ R q=>A1 q.1 λns own e f0=>by subst e;exact wW ns own f0 R q.2
theorem oS {Γ:W}{A:Around}{env:Env}{body rest:List Stmt}{st:Stmt}{T:TS}{K:St->Prop}(e:body=st::rest)(h:Cs Γ A env st T)(wW:∀(ns:List Int) (kn:Nat) (ms:List Int) (own:List (List D)),(1<=ms.length/\ms.length<=5)->own[kn]? =some (ms.map D.int)->∀R:FD->St->Prop,(∀σ',K σ'->R .next σ')->T ⟨qF ns kn,own,[]⟩ R):∀s r,body=s::r->Cs Γ A env s (sp J1 K):=H2 e h λσ R q=>Ja q.1 λns kn ms own e f0 f1=>by subst e;exact wW ns kn ms own f0 f1 R q.2
theorem oR {Γ:W}{A:Around}{env:Env}{body rest:List Stmt}{st:Stmt}{T:TS}{K:St->Prop}(e:body=st::rest)(h:Cs Γ A env st T)(wW:∀(ns:List Int) (kn:Nat) (ms:List Int) (kx:Nat) (own:List (List D)),(1<=ms.length/\ms.length<=5)->own[kn]? =some (ms.map D.int)->own[kx]? =some ((ms.map B0).map D.str)->∀R:FD->St->Prop,(∀σ',K σ'->R .next σ')->T ⟨qE ns kn ms.length kx,own,[]⟩ R):∀s r,body=s::r->Cs Γ A env s (sp J2 K):=H2 e h λσ R q=>Mc q.1 λns kn ms kx own e f0 f1 f2=>by subst e;exact wW ns kn ms kx own f0 f1 f2 R q.2
theorem oQ {Γ:W}{A:Around}{env:Env}{body rest:List Stmt}{st:Stmt}{T:TS}{K:St->Prop}(e:body=st::rest)(h:Cs Γ A env st T)(wW:∀(ns:List Int) (kn:Nat) (ms:List Int) (kx:Nat) (w:Int) (own:List (List D)),(1<=ms.length/\ms.length<=5)->(w.natAbs<=10/\w≠0)->own[kn]? =some (ms.map D.int)->own[kx]? =some ((ms.map B0).map D.str)->∀R:FD->St->Prop,(∀σ',K σ'->R .next σ')->T ⟨qD ns kn ms.length kx w,own,[]⟩ R):∀s r,body=s::r->Cs Γ A env s (sp J3 K):=H2 e h λσ R q=>Bj q.1 λns kn ms kx w zz=>Dn zz λown e f0 f1 f2 f3=>by subst e;exact wW ns kn ms kx w own f0 f1 f2 f3 R q.2
theorem oP {Γ:W}{A:Around}{env:Env}{body rest:List Stmt}{st:Stmt}{T:TS}{K:St->Prop}(e:body=st::rest)(h:Cs Γ A env st T)(wW:∀(ns:List Int) (kn:Nat) (ms:List Int) (kx:Nat) (w:Int) (kp:Nat) (own:List (List D)),(1<=ms.length/\ms.length<=5)->(w.natAbs<=10/\w≠0)->own[kn]? =some (ms.map D.int)->own[kx]? =some ((ms.map B0).map D.str)->own[kp]? =some ((Hn ms).map B8)->∀R:FD->St->Prop,(∀σ',K σ'->R .next σ')->T ⟨qC ns kn ms.length kx w kp,own,[]⟩ R):∀s r,body=s::r->Cs Γ A env s (sp J4 K):=H2 e h λσ R q=>Bj q.1 λns kn ms kx w zz=>Bz zz λkp own e f0 f1 zz=>At zz λf2 f3 f4=>by subst e;exact wW ns kn ms kx w kp own f0 f1 f2 f3 f4 R q.2
theorem oO {Γ:W}{A:Around}{env:Env}{body rest:List Stmt}{st:Stmt}{T:TS}{K:St->Prop}(e:body=st::rest)(h:Cs Γ A env st T)(wW:∀(ns:List Int) (kn:Nat) (ms:List Int) (kx:Nat) (w:Int) (kp:Nat) (ko:Nat) (par:List Nat) (oth:List Nat) (own:List (List D)),ms.length<=5->(w.natAbs<=10/\w≠0)->(Dw par/\par.length=ms.length)->(Dw oth/\oth.length=ms.length)->own[kn]? =some (ms.map D.int)->own[kx]? =some ((ms.map B0).map D.str)->own[kp]? =some (par.map B8)->own[ko]? =some (oth.map B8)->∀R:FD->St->Prop,(∀σ',K σ'->R .next σ')->T ⟨qB ns kn ms.length kx w kp ko,own,[]⟩ R):∀s r,body=s::r->Cs Γ A env s (sp J5 K):=H2 e h λσ R q=>Bj q.1 λns kn ms kx w zz=>Cq zz λkp ko par oth own e f0 f1 f2 zz=>B6 zz λf3 f4 f5 f6 f7=>by subst e;exact wW ns kn ms kx w kp ko par oth own f0 f1 f2 f3 f4 f5 f6 f7 R q.2
theorem oN {Γ:W}{A:Around}{env:Env}{body rest:List Stmt}{st:Stmt}{T:TS}{K:St->Prop}(e:body=st::rest)(h:Cs Γ A env st T)(wW:∀(ns:List Int) (kn:Nat) (ms:List Int) (kx:Nat) (w:Int) (kp:Nat) (ko:Nat) (k1:Nat) (T1:A6) (oth:List Nat) (own:List (List D)),ms.length<=5->(w.natAbs<=10/\w≠0)->(Dw oth/\oth.length=ms.length)->bE w T1->own[kn]? =some (ms.map D.int)->own[kx]? =some ((ms.map B0).map D.str)->own[ko]? =some (oth.map B8)->Ah own T1 k1->∀R:FD->St->Prop,(∀σ',K σ'->R .next σ')->T ⟨qA ns kn ms.length kx w kp ko k1,own,[]⟩ R):∀s r,body=s::r->Cs Γ A env s (sp J6 K):=H2 e h λσ R q=>Bj q.1 λns kn ms kx w zz=>Bj zz λkp ko k1 T1 oth zz=>Dn zz λown e f0 f1 f2 zz=>B6 zz λf3 f4 f5 f6 f7=>by subst e;exact wW ns kn ms kx w kp ko k1 T1 oth own f0 f1 f2 f3 f4 f5 f6 f7 R q.2
theorem oM {Γ:W}{A:Around}{env:Env}{body rest:List Stmt}{st:Stmt}{T:TS}{K:St->Prop}(e:body=st::rest)(h:Cs Γ A env st T)(wW:∀(ns:List Int) (kn:Nat) (ms:List Int) (m:Nat) (kx:Nat) (w:Int) (kp:Nat) (ko:Nat) (k1:Nat) (k2:Nat) (T1:A6) (T2:A6) (own:List (List D)),D8 w T1 T2->own[kn]? =some (ms.map D.int)->Ah own T1 k1->Ah own T2 k2->∀R:FD->St->Prop,(∀σ',K σ'->R .next σ')->T ⟨pZ ns kn m kx w kp ko k1 k2,own,[]⟩ R):∀s r,body=s::r->Cs Γ A env s (sp J7 K):=H2 e h λσ R q=>Bj q.1 λns kn ms m kx zz=>Bj zz λw kp ko k1 k2 zz=>Fp zz λT1 T2 own e f0 f1 f2 f3=>by subst e;exact wW ns kn ms m kx w kp ko k1 k2 T1 T2 own f0 f1 f2 f3 R q.2
theorem oL {Γ:W}{A:Around}{env:Env}{body rest:List Stmt}{st:Stmt}{T:TS}{K:St->Prop}(e:body=st::rest)(h:Cs Γ A env st T)(wW:∀(ns:List Int) (kn:Nat) (ms:List Int) (m:Nat) (kx:Nat) (w:Int) (kp:Nat) (ko:Nat) (k1:Nat) (k2:Nat) (kt:Nat) (T1:A6) (T2:A6) (own:List (List D)),D8 w T1 T2->own[kn]? =some (ms.map D.int)->Ah own T1 k1->Ah own T2 k2->Ah own (Ia 5 w T1) kt->∀R:FD->St->Prop,(∀σ',K σ'->R .next σ')->T ⟨pY ns kn m kx w kp ko k1 k2 (Bf 5 w T1) kt,own,[]⟩ R):∀s r,body=s::r->Cs Γ A env s (sp J8 K):=H2 e h λσ R q=>Bj q.1 λns kn ms m kx zz=>Bj zz λw kp ko k1 k2 zz=>Cd zz λkt T1 T2 own e f0 f1 f2 f3 f4=>by subst e;exact wW ns kn ms m kx w kp ko k1 k2 kt T1 T2 own f0 f1 f2 f3 f4 R q.2
theorem jX {Γ:W}{A:Around}{env:Env}{body rest:List Stmt}{st:Stmt}{T:TS}{K:St->Prop}(e:body=st::rest)(h:Cs Γ A env st T)(wW:∀(ns:List Int) (kn:Nat) (ms:List Int) (m:Nat) (kx:Nat) (w:Int) (kp:Nat) (ko:Nat) (k1:Nat) (k2:Nat) (kt:Nat) (T1:A6) (T2:A6) (own:List (List D)),D8 w T1 T2->own[kn]? =some (ms.map D.int)->Ah own T1 k1->Ah own T2 k2->Ah own (Ia 5 w T1) kt->∀R:FD->St->Prop,(∀σ',K σ'->R .next σ')->T ⟨mS ns kn m kx w kp ko k1 k2 (Bf 5 w T1) kt (Bf 5 w T2),own,[]⟩ R):∀s r,body=s::r->Cs Γ A env s (sp J9 K):=H2 e h λσ R q=>Bj q.1 λns kn ms m kx zz=>Bj zz λw kp ko k1 k2 zz=>Cd zz λkt T1 T2 own e f0 f1 f2 f3 f4=>by subst e;exact wW ns kn ms m kx w kp ko k1 k2 kt T1 T2 own f0 f1 f2 f3 f4 R q.2
theorem kD {Γ:W}{A:Around}{env:Env}{body rest:List Stmt}{st:Stmt}{T:TS}{K:St->Prop}(e:body=st::rest)(h:Cs Γ A env st T)(wW:∀(ns:List Int) (kn:Nat) (ms:List Int) (m:Nat) (kx:Nat) (w:Int) (kp:Nat) (ko:Nat) (k1:Nat) (k2:Nat) (kt:Nat) (T1:A6) (T2:A6) (own:List (List D)),D8 w T1 T2->own[kn]? =some (ms.map D.int)->Ah own T1 k1->Ah own T2 k2->∀R:FD->St->Prop,(∀σ',K σ'->R .next σ')->T ⟨mS ns kn m kx w kp ko k1 k2 (Bf 5 w T1) kt (Bf 5 w T2),own,[]⟩ R):∀s r,body=s::r->Cs Γ A env s (sp qI K):=H2 e h λσ R q=>Bj q.1 λns kn ms m kx zz=>Bj zz λw kp ko k1 k2 zz=>Cm zz λkt T1 T2 own e f0 f1 f2 f3=>by subst e;exact wW ns kn ms m kx w kp ko k1 k2 kt T1 T2 own f0 f1 f2 f3 R q.2
theorem jZ {Γ:W}{A:Around}{env:Env}{body rest:List Stmt}{st:Stmt}{T:TS}{K:St->Prop}(e:body=st::rest)(h:Cs Γ A env st T)(wW:∀(ns:List Int) (kn:Nat) (ms:List Int) (m:Nat) (kx:Nat) (w:Int) (kp:Nat) (ko:Nat) (k1:Nat) (k2:Nat) (kt:Nat) (kb:Nat) (T1:A6) (T2:A6) (own:List (List D)),D8 w T1 T2->own[kn]? =some (ms.map D.int)->Ah own T1 k1->Ah own T2 k2->Fu own (Ia 5 w T2) kb->∀R:FD->St->Prop,(∀σ',K σ'->R .next σ')->T ⟨Z0 ns kn m kx w kp ko k1 k2 (Bf 5 w T1) kt (Bf 5 w T2) kb,own,[]⟩ R):∀s r,body=s::r->Cs Γ A env s (sp qH K):=H2 e h λσ R q=>Bj q.1 λns kn ms m kx zz=>Bj zz λw kp ko k1 k2 zz=>Cq zz λkt kb T1 T2 own e f0 f1 f2 zz=>Ae zz λf3 f4=>by subst e;exact wW ns kn ms m kx w kp ko k1 k2 kt kb T1 T2 own f0 f1 f2 f3 f4 R q.2
theorem jY {Γ:W}{A:Around}{env:Env}{body rest:List Stmt}{st:Stmt}{T:TS}{K:St->Prop}(e:body=st::rest)(h:Cs Γ A env st T)(wW:∀(ns:List Int) (kn:Nat) (ms:List Int) (m:Nat) (kx:Nat) (w:Int) (kp:Nat) (ko:Nat) (k1:Nat) (k2:Nat) (kt:Nat) (kb:Nat) (T1:A6) (T2:A6) (own:List (List D)),D8 w T1 T2->own[kn]? =some (ms.map D.int)->Ah own T1 k1->Ah own T2 k2->∀R:FD->St->Prop,(∀σ',K σ'->R .next σ')->T ⟨Z0 ns kn m kx w kp ko k1 k2 (Bf 5 w T1) kt (Bf 5 w T2) kb,own,[]⟩ R):∀s r,body=s::r->Cs Γ A env s (sp qG K):=H2 e h λσ R q=>Bj q.1 λns kn ms m kx zz=>Bj zz λw kp ko k1 k2 zz=>Cq zz λkt kb T1 T2 own e f0 f1 f2 f3=>by subst e;exact wW ns kn ms m kx w kp ko k1 k2 kt kb T1 T2 own f0 f1 f2 f3 R q.2
theorem dW {Γ:W}{A:Around}{env:Env}{body rest:List Stmt}{st:Stmt}{T:TS}{K:St->Prop}(e:body=st::rest)(h:Cs Γ A env st T)(wW:∀(ns:List Int) (kn:Nat) (m:Nat) (kx:Nat) (w:Int) (kp:Nat) (ko:Nat) (k1:Nat) (k2:Nat) (kt:Nat) (kb:Nat) (ct:Nat) (T1:A6) (T2:A6) (own:List (List D)),D8 w T1 T2->ct<=(Bf 5 w T1).length->Ah own T1 k1->Ah own T2 k2->∀R:FD->St->Prop,(∀σ',K σ'->R .next σ')->T ⟨dF ns kn m kx w kp ko k1 k2 (Bf 5 w T1) kt (Bf 5 w T2) kb ct,own,[]⟩ R):∀s r,body=s::r->Cs Γ A env s (sp eM K):=H2 e h λσ R q=>Bj q.1 λns kn m kx w zz=>Bj zz λkp ko k1 k2 kt zz=>Cq zz λkb ct T1 T2 own e f0 f1 f2 f3=>by subst e;exact wW ns kn m kx w kp ko k1 k2 kt kb ct T1 T2 own f0 f1 f2 f3 R q.2
theorem fS {Γ:W}{A:Around}{env:Env}{body rest:List Stmt}{st:Stmt}{T:TS}(e:body=st::rest)(h:Cs Γ A env st T)(wW:∀(ns:List Int) (kn:Nat) (m:Nat) (kx:Nat) (w:Int) (kp:Nat) (ko:Nat) (k1:Nat) (k2:Nat) (kt:Nat) (kb:Nat) (ct:Nat) (T1:A6) (T2:A6) (own:List (List D)),D8 w T1 T2->ct<=(Bf 5 w T1).length->Ah own T1 k1->Ah own T2 k2->∀R:FD->St->Prop,(∀σ',R (.ret (.bool true)) σ')->T ⟨dF ns kn m kx w kp ko k1 k2 (Bf 5 w T1) kt (Bf 5 w T2) kb ct,own,[]⟩ R):∀s r,body=s::r->Cs Γ A env s (qK eM):=H2 e h λσ R q=>Bj q.1 λns kn m kx w zz=>Bj zz λkp ko k1 k2 kt zz=>Cq zz λkb ct T1 T2 own e f0 f1 f2 f3=>by subst e;exact wW ns kn m kx w kp ko k1 k2 kt kb ct T1 T2 own f0 f1 f2 f3 R q.2
theorem gG {P:List Nat->Prop}{a:List Nat}(h3:a.length+3<=sizeLine)(h:P a):∃x,[D.str a]=[.str x]/\x.length+3<=sizeLine/\x.length+3<=sizeLine/\P x:=⟨a,rfl,h3,h3,h⟩
theorem Xa {x y:List Nat}{lo hi:Option Int}{σ:St}{Q:D->St->Prop}(e:cut x lo hi=y)(hz:x.length<=20000)(h:Q (.str y) σ):Mk (.str x) lo hi none σ Q:=by subst e;exact M5 hz h
theorem jG {xs:List Nat}{b:Bool}{own:List (List D)}{Q:D->List (List D)->Prop}(hz:xs.length<=2000)(e:Fi xs=b)(h:∀own',own<+:own'->Q (.bool b) own'):mR [.str xs] own Q:=⟨xs,rfl,hz,by rw[e];exact h⟩
theorem jF {dn dk:D}{kp:Nat}{own:List (List D)}{Q:D->List (List D)->Prop}{ms:List Int}{par pl:List Nat}(h1:Al own dn=some ((ms.map B0).map D.str))(h2:own[kp]? =some (par.map B8))(h3:Al own dk=some (pl.map B8))(hp:Dw par)(hl:par.length=ms.length)(h5:ms.length<=5)(hpl:pl=M1 par.length\/pl=U7 par.length)
  (h:∀own',own<+:own'->Ah own' (Ng ms par pl) (own.length+2)->Q (.obj (own.length+2)) own'):mP [dn,.obj kp,dk] own Q:=
 have hg:=jS (ms:=ms) hp hl hpl
 ⟨_,_,_,ms.map B0,par,pl,rfl,h1,h2,h3,λz=>absurd (hl▸hp.1:1<=ms.length) (by have:=congrArg List.length z;rw[B2]at this;rw[this];decide),by rw[B2];exact h5,hg.1,hg.2,hp.2.1,h _ (Dg _ _) (Un hp hl hpl)⟩
theorem jE {Γ:W}{w:Int}{own:List (List D)}{Q:D->List (List D)->Prop}(hw:w.natAbs<=10)(h:Q (.sem (Hi Γ 1 (Dv w))) own):mO Γ [.int w] own Q:=⟨w,rfl,hw,h⟩
theorem jD {Γ:W}{n k:Nat}{w:Int}{t:A6}{own:List (List D)}{Q:D->List (List D)->Prop}(hw:w.natAbs<=10)(h1:Ah own t k)(h2:Ks n w t)(h:∀own',own<+:own'->Q (.str (Bf n w t)) own'):iG Γ n [.obj k,.sem (Hi Γ 1 (Dv w))] own Q:=⟨k,w,t,rfl,hw,h1,h2,h⟩
theorem nS {n k:Nat}{w:Int}{t:A6}{own:List (List D)}{Q:D->List (List D)->Prop}(hw:w.natAbs<=10)(h1:Ah own t k)(h2:Ks n w t)(h:∀own' k',own<+:own'->Ah own' (Ia n w t) k'->Q (.tup [.str (Bf n w t),.obj k']) own'):iF n [.obj k,.int w] own Q:=⟨k,w,t,rfl,hw,h1,h2,λext k' hk=>h _ k' (Dg _ _) (hk own rfl)⟩
theorem nR {d:D}{t:List Nat}{own:List (List D)}{Q:D->List (List D)->Prop}(hi:Al own d=some ((A3 0 false t).map Cc))(hz:t.length<=2000)(h:∀own',own<+:own'->Q (.bool true) own'):mM [d,.str t] own Q:=
 ⟨d,A3 0 false t,t,rfl,hi,Ao (Gw _ 0 false) hz,hz,(Sh t 0 _ (by rw[Int.natCast_zero,Int.zero_add])).1,(Vv t 0).1,h⟩
theorem jC {n k1 k2:Nat}{t1 t2:A6}{b:Bool}{own:List (List D)}{Q:D->List (List D)->Prop}(hn:n<=6)(h1:Ah own t1 k1)(h2:Ah own t2 k2)(o1:Z3 n t1)(o2:Z3 n t2)(e:Bo n t1 t2=b)(h:∀own',own<+:own'->Q (.bool b) own'):dB [.obj k1,.obj k2] own Q:=
 ⟨n,hn,k1,k2,t1,t2,rfl,h1,h2,o1,o2,by rw[e];exact h⟩
theorem rA {a b c:Int}{n:Nat}{σ:St}{Q:D->St->Prop}{l:List D}(h1:Builtin.Range.small a b c=true)(h2:Builtin.Range.rangeSize a b c=(n:Nat))(h3:Cx a c n=l)(hz:l.length<=20000)(h:Q (.obj σ.own.length) {σ with own:=σ.own++[l]}):Yj [.rng a b c] σ Q:=⟨_,l,rfl,.inr ⟨a,b,c,n,rfl,h1,h2,h3.symm⟩,hz,h⟩
theorem kJ {par:List Nat}(h:Dw par):((M1 par.length).map B8).length<=20000/\((U7 par.length).map B8).length<=20000:=by
 have h2:par.length-1<=20000:=Ao (sub_le _ _) (Ao h.2.1 (by decide))
 unfold M1 U7
 rw[B2,B2,B2,B2,length_range]
 exact⟨h2,h2⟩
theorem nN {a b:Bool}{σ:St}{R:Bool->Prop}(e:(a==b)=true)(h:R true):Ee .Is (.bool a) (.bool b) σ R:=by show R (a==b);rw[e];exact h
theorem Th {a b:Bool}{σ:St}{R:Bool->Prop}(e:a=b)(h:R false):Ee .IsNot (.bool a) (.bool b) σ R:=by subst e;show R (!(a==a));rw[beq_self_eq_true];exact h
theorem V6 {w:Int}{T:A6}(h:Ks 5 w T):Fi (Bf 5 w T)=true/\∀ct,ct<=(Bf 5 w T).length->Fi ((Bf 5 w T).take ct)=decide (ct=0\/ct=(Bf 5 w T).length):=by
 have htd:=Hu 5 w T h
 have hcc:=λc (hc:c<=(Bf 5 w T).length)=>V5 (n:=4) htd.2 (cut:=c) (by rw[<-htd.1];exact hc)
 rw[<-htd.1]at hcc
 have:=hcc _ (le_refl _)
 rw[take_length,decide_eq_true (.inr rfl)]at this
 exact⟨this,hcc⟩
theorem D8.h3 {w:Int}{T1 T2:A6}(h:D8 w T1 T2):(Bf 5 w T1).length+3<=sizeLine:=by unfold sizeLine;exact Ao (add_le_add_right h.h1 3) (by decide)
theorem D8.h4 {w:Int}{T1 T2:A6}(h:D8 w T1 T2):(Bf 5 w T2).length+3<=sizeLine:=by unfold sizeLine;exact Ao (add_le_add_right h.h2 3) (by decide)
theorem pF {a:Bool}{i:Int}{k:Nat}{ns:List Int}{own:List (List D)}{σ:St}{R:Bool->Prop}(hi:own[k]? =some (ns.map D.int))(e:ns.any (·==i)=a)(h:R false):∃(j:Int) (ms:List Int),D.int i=.int j/\Al own (.obj k)=some (ms.map D.int)/\Ee .IsNot (.bool a) (.bool (ms.any (·==j))) σ R:=⟨i,ns,rfl,hi,Th e.symm h⟩
section
variable {Γ:W}{B:Around}{L a a11 a13 a17 a19 a20 a21 a22 a23 a24 a25 a26:Addr}{fd11 fd13 Sj fd19 fd20 fd21 fd22 fd23 fd25 fd26:FuncData}{pm code doc:Value}(H:Ev Γ B (Of pm code doc L a))(g19:Γ.mg (ofString "_law_name")=some (.ref a19))(o19:∃o,Γ.B.get? a19=some o/\o.data=.func fd19)(f19:Ap Γ B (.ref a19) nB)(g20:Γ.mg (ofString "_law_tree")=some (.ref a20))(o20:∃o,Γ.B.get? a20=some o/\o.data=.func fd20)(f20:Ap Γ B (.ref a20) mP)(g23:Γ.mg (ofString "_law_told")=some (.ref a23))(o23:∃o,Γ.B.get? a23=some o/\o.data=.func fd23)(f23:Ap Γ B (.ref a23) (iF 5))(g22:Γ.mg (ofString "_law_written")=some (.ref a22))(o22:∃o,Γ.B.get? a22=some o/\o.data=.func fd22)(f22:Ap Γ B (.ref a22) (iG Γ 5))(g21:Γ.mg (ofString "_law_turn")=some (.ref a21))(o21:∃o,Γ.B.get? a21=some o/\o.data=.func fd21)(f21:Ap Γ B (.ref a21) (mO Γ))(g17:Γ.mg (ofString "reduce")=some (.ref a17))(o17:∃o,Γ.B.get? a17=some o/\o.data=.func Sj)(f17:Ap Γ B (.ref a17) (mQ a24))(g26:Γ.mg (ofString "_law_alike")=some (.ref a26))(o26:∃o,Γ.B.get? a26=some o/\o.data=.func fd26)(f26:Ap Γ B (.ref a26) dB)(g13:Γ.mg (ofString "_check_parenthesis")=some (.ref a13))(o13:∃o,Γ.B.get? a13=some o/\o.data=.func fd13)(f13:Ap Γ B (.ref a13) mR)(g25:Γ.mg (ofString "_law_whole")=some (.ref a25))(o25:∃o,Γ.B.get? a25=some o/\o.data=.func fd25)(f25:Ap Γ B (.ref a25) mM)(g24:Γ.mg (ofString "_law_read")=some (.ref a24))(g11:Γ.mg (ofString "_iter_escaped_chars")=some (.ref a11))(e11:Jj Γ a11 fd11)(su1:Γ.mg (ofString "sum")=none)(su2:Γ.mb (ofString "sum")=some (.builtin "sum"))(mx1:Γ.mg (ofString "max")=none)(mx2:Γ.mb (ofString "max")=some (.builtin "max"))(len1:Γ.mg (ofString "len")=none)(len2:Γ.mb (ofString "len")=some (.builtin "len"))(rng1:Γ.mg (ofString "range")=none)(rng2:Γ.mb (ofString "range")=some (.type "range"))(li1:Γ.mg (ofString "list")=none)(li2:Γ.mb (ofString "list")=some (.type "list"))
include H in
theorem sE:∀s r,Kx.body.drop 0=s::r->Cs Γ B (Of pm code doc L a) s (sp J0 J1):=by
 refine' oT rfl ?w ?p
 case w=>
  first
   |with_reducible first|refine' Bx ..
  all_goals repeat' first
   |(show(_:Prop);with_reducible assumption)|(intros;rfl)|decide|exact Kd.local (by rfl)|exact Kd.cell (by rfl) ⟨_,by rfl⟩|exact λ_ _=>⟨_,rfl⟩
   |with_reducible first|exact Ds|refine' Ei .. |exact Br|refine' A0 .. |refine' Hz .. |exact fN|refine' Ly .. |refine' fE .. |refine' Bi ..
 case p=>
  clear H
  intro ns own hns R r1
  dsimp only[tU,tV,Mq]
  have hp:=fL ns
  have hnl:=Ya ns
  refine Ac rfl (⟨5,rfl,by decide,_,rfl,by rw[B2];unfold sizeLine;exact Ao hns (by decide),⟨_,Aw _ _,by rw[hp,B2,length_take];exact lt_of_le_of_lt (Aq (Nat.min_le_left 5 ns.length)) rN,W8 (λh=>?_) λh=>?_⟩⟩)
  ·refine⟨λ_=>not_mem_nil,r1 _ ⟨ns,_,numsOf ns,_,rfl,hnl,(Aw _ _).trans ?_⟩⟩
   rw[hp]at h⊢
   unfold numsOf
   rw[Ay λe=>by rw[e]at h;cases h]
  ·refine⟨Cr rfl,λ_=>not_mem_nil,r1 _ ⟨ns,_,numsOf ns,_,rfl,hnl,(Aw _ _).trans ?_⟩⟩
   rw[hp]at h
   unfold numsOf
   rw[Bc (by cases e:ns.take 5 with|nil=>rfl|cons a t=>rw[e]at h;cases h)]
   rfl
include H g19 o19 f19 len1 len2 in
theorem sD:∀s r,Kx.body.drop 1=s::r->Cs Γ B (Of pm code doc L a) s (sp J1 J2):=by
 refine' oS rfl ?w ?p
 case w=>
  first
   |with_reducible first|refine' Pw ..
  all_goals repeat' first
   |(show(_:Prop);with_reducible assumption)|(intros;rfl)|decide|exact Kd.local (by rfl)|exact Kd.cell (by rfl) ⟨_,by rfl⟩
   |((with_reducible show∀_:Addr,Ev _ _ _->_);intro C hC)
   |((with_reducible refine' Gk (cap:=[]) ..);any_goals ((with_reducible show CE _ _ _ _);exact Gy (by rfl) (by rfl) (λ_=>by rfl) rfl))
   |with_reducible first|refine' Ls .. |refine' Dk _ _ (by assumption) .. |refine' Hx .. |exact Br|refine' A0 .. |refine' Du .. |exact Vo|refine' Bi ..
 case p=>
  clear len2 len1 f19 o19 g19 H
  intro ns kn ms own hnl hkn R r1
  dsimp only[tU,tV,Mq]
  refine Gi (Ac rfl (Cf (hkn:Al own (.obj kn)=some _) (Nz D.int (λdon=>don.map λn=>.str (B0 n)) ms rfl (λes junk=>Aj (Dg _ _) hkn) (λn don res junk R2 e hn=>?_) λjunk=>?_)))
  ·have hdl:(don.map λn=>D.str (B0 n)).length<=sizeLine:=by
    rw[B2];exact Ao (by rw[e,Bu];exact le_add_right _ _:don.length<=ms.length) (Ao hnl.2 (by decide))
   have hn6:=hn [("n",.int n)] [Lj.map D.str]
   rw[Id]at hn6
   refine Ck (sT (W9 (Ac rfl ⟨n,rfl,_,Dc _ _ _ _,hdl,?_⟩)))
   show R2 .next ⟨_,(own++(_::junk)++[Lj.map D.str]).set own.length _,_⟩
   rw[Ii]
   exact hn6
  ·refine Ac rfl ⟨_,rfl,Nm (Aj (Dg _ _) hkn) (by rw[B2];exact Ao hnl.2 (by decide)) ⟨Cr rfl,⟨_,rfl,rfl,r1 _ ⟨ns,kn,ms,_,_,by rw[B2];rfl,hnl,Aj (Dg _ _) hkn,?_⟩⟩⟩⟩
   rw[map_map];exact Co rfl
include H in
theorem sC:∀s r,Kx.body.drop 2=s::r->Cs Γ B (Of pm code doc L a) s (sp J2 J3):=by
 refine' oR rfl ?w ?p
 case w=>
  first
   |with_reducible first|refine' Bx ..
  all_goals repeat' first
   |(show(_:Prop);with_reducible assumption)|(intros;rfl)|decide|exact Kd.local (by rfl)|exact Kd.cell (by rfl) ⟨_,by rfl⟩
   |with_reducible first|exact Ds|refine' It .. |refine' Ju .. |refine' R8 .. |refine' U3 .. |refine' Ki .. |refine' Bi ..
 case p=>
  clear H
  intro ns kn ms kx own hnl hkn hkx R r1
  dsimp only[tU,tV,Mq]
  have h0:K9 (ms.map D.int) 0=some (.int (ms.getD 0 0)):=gL (k:=0) hnl.1
  exact Ac rfl (B7 hkn w0 h0 (Tk ⟨by decide,by decide⟩ (Ll (by decide) (Qk (W8 (λ_=>⟨1,rfl,Ck (r1 _ ⟨ns,kn,ms,kx,-1,own,rfl,hnl,⟨by decide,by decide⟩,hkn,hkx⟩)⟩) λ_=>Ck (r1 _ ⟨ns,kn,ms,kx,1,own,rfl,hnl,⟨by decide,by decide⟩,hkn,hkx⟩))))))
include H rng1 rng2 in
theorem sB:∀s r,Kx.body.drop 3=s::r->Cs Γ B (Of pm code doc L a) s (sp J3 J4):=by
 refine' oQ rfl ?w ?p
 case w=>
  first
   |with_reducible first|refine' Bx ..
  all_goals repeat' first
   |(show(_:Prop);with_reducible assumption)|(intros;rfl)|decide|exact Kd.local (by rfl)|exact Kd.cell (by rfl) ⟨_,by rfl⟩
   |((with_reducible show∀_:Addr,Ev _ _ _->_);intro C hC)
   |((with_reducible refine' Gk (cap:=["numbers"]) ..);any_goals ((with_reducible show CE _ _ _ _);exact Gy (by rfl) (by rfl) (λ_=>by rfl) rfl))
   |with_reducible first|refine' To .. |exact Ds|refine' It .. |refine' Ei .. |exact Br|refine' A0 .. |refine' Ju .. |refine' Du .. |exact Vo|refine' Bi ..
 case p=>
  clear rng2 rng1 H
  intro ns kn ms kx w own hnl hw hkn hkx R r1
  dsimp only[tU,tV,Mq]
  refine⟨Cr rfl,Gi (Ac rfl ⟨1,(ms.length:Int),rfl,⟨by decide,(Js hnl.2).1⟩,?_⟩)⟩
  rw[show(Builtin.Range.rangeSize 1 (ms.length:Int) 1).toNat=ms.length-1 from congrArg Int.toNat (Js hnl.2).2.1,(Js hnl.2).2.2]
  refine Nz B8 (λdon=>don.map λk=>B8 (Kr ms k)) (M1 ms.length) rfl (λ_ _=>trivial) (λk don res junk R2 e hn=>?_) λjunk=>?_
  ·have hk:=R9 (m:=ms.length) (k:=k) (by rw[e];exact M2 _ Ht)
   have hdl:(don.map λk=>B8 (Kr ms k)).length<=sizeLine:=by
    rw[B2]
    refine Ao (by rw[e,Bu];exact le_add_right _ _:don.length<=(M1 ms.length).length) ?_
    unfold M1;rw[B2,length_range];exact Ao (sub_le _ _) (Ao hnl.2 (by decide))
   refine Ck (sT (W9 (Ac rfl (Ac rfl (B7 (Aj ((Dg _ _).trans (Dg _ _)) hkn) (iw rfl (Ao (le_of_lt hk.2) (Ao hnl.2 (by decide)))) (gL hk.2) (Tk ⟨by decide,by decide⟩ (Ac rfl (Ll (Int.ofNat_lt.2 hk.1) ⟨_,O8 _ _ _,hdl,?_⟩))))))))
   rw[<-(Qt hk.1).2]
   have hn6:=hn [("k",B8 k)] []
   rw[Id,Pv]at hn6
   show R2 .next ⟨_,((own++[[D.int 0]])++_::junk).set (own++[[D.int 0]]).length _,_⟩
   rw[Dy]
   exact hn6
  ·have pf:∀a b:List (List D),own<+:((own++[[D.int 0]])++a)++b:=λ_ _=>((Dg _ _).trans (Dg _ _)).trans (Dg _ _)
   refine⟨rfl,[.int 0],(M1 ms.length).map (λk=>B8 (Kr ms k)),Dc own [.int 0] [] _,O8 _ _ _,?_,Ck (r1 _ ⟨ns,kn,ms,kx,w,_,_,rfl,hnl,hw,Aj (pf _ _) hkn,Aj (pf _ _) hkx,(Aw _ _).trans (congrArg some ?_)⟩)⟩
   ·show([D.int 0].length+_:Nat)<=sizeLine
    rw[B2];unfold M1;rw[B2,length_range]
    have:(5:Nat)<=sizeLine:=by decide
    have:=hnl.2
    show(1+(ms.length-1):Nat)<=sizeLine
    exact Ao (Nat.add_le_add_left (Ao (sub_le _ _) hnl.2) 1) (by decide)
   ·unfold Hn
    rw[Gb,map_map];rfl
include H mx1 mx2 in
theorem sA:∀s r,Kx.body.drop 4=s::r->Cs Γ B (Of pm code doc L a) s (sp J4 J5):=by
 refine' oP rfl ?w ?p
 case w=>
  first
   |with_reducible first|refine' Bx ..
  all_goals repeat' first
   |(show(_:Prop);with_reducible assumption)|(intros;rfl)|decide|exact Kd.local (by rfl)|exact Kd.cell (by rfl) ⟨_,by rfl⟩|exact λ_ _=>⟨_,rfl⟩
   |with_reducible first|refine' nV .. |exact Ds|refine' It .. |refine' Ei .. |exact Br|refine' A0 .. |refine' Hz .. |refine' Ju .. |exact fN|refine' Ly .. |refine' U3 .. |refine' Bi ..
 case p=>
  clear mx2 mx1 H
  intro ns kn ms kx w kp own hnl hw hkn hkx hkp R r1
  dsimp only[tU,tV,Mq]
  have hpar:=Xz hnl.1 hnl.2
  have hpl:=Nt hnl.1
  have h0:K9 (ms.map D.int) 0=some (.int (ms.getD 0 0)):=gL (k:=0) hnl.1
  refine Jb (show∃pi pz,Hn ms=pi++[pz]from⟨_,_,(List.dropLast_concat_getLast (λz=>by rw[z]at hpl;exact absurd (hpl▸hnl.1) (by decide))).symm⟩) λpi pz ep=>?_
  generalize Hn ms=par at hpar hpl hkp ep
  have hkp2:=hkp
  rw[ep,Id]at hkp2
  have hz:(pi.map B8++[pz].map B8).length<=20000:=by
   rw[<-Id,<-ep,B2,hpl];exact Ao hnl.2 (by decide)
  have hq:=Yq ms.length pz (ms.getD 0 0/288%2)
  have ho:=fO hpar ep (q:=Nx ms.length pz (ms.getD 0 0/288%2)) (by rw[hpl];exact hq.1)
  refine Ac rfl ⟨1,rfl,-1,rfl,jA hkp2 (λh=>nomatch h) hz (Ac rfl ⟨1,rfl,B7 (Aj (Dg _ _) hkp2) rS (I3 _ _) (Ac rfl (B7 (Aj (Dg _ _) hkn) w0 h0 (Tk ⟨by decide,by decide⟩ (Ll (by decide) (Ln (Ac rfl (W7 ⟨1,(ms.length:Int)-1,rfl,Ll hq.2.2 ⟨Cr rfl,rfl,pi.map B8,[B8 (Nx ms.length pz (ms.getD 0 0/288%2))],?_,?_,?_,?_⟩⟩)))))))⟩)⟩
  ·exact(Dc own _ [] _).trans (congrArg some (U8 _ _))
  ·rw[hq.2.1];exact Aw _ _
  ·refine Ao ?_ (by decide:20000<=sizeLine)
   rw[Bu]at hz;exact hz
  ·refine Ck (r1 _ ⟨ns,kn,ms,kx,w,kp,_,par,pi++[Nx ms.length pz (ms.getD 0 0/288%2)],_,rfl,hnl.2,hw,⟨hpar,hpl⟩,⟨ho.1,ho.2.trans hpl⟩,Aj Lx hkn,Aj Lx hkx,Aj Lx hkp,(Aw _ _).trans (congrArg some ?_)⟩)
   rw[Id];rfl
include H g20 o20 f20 rng1 rng2 li1 li2 in
theorem rZ:∀s r,Kx.body.drop 5=s::r->Cs Γ B (Of pm code doc L a) s (sp J5 J6):=by
 refine' oO rfl ?w ?p
 case w=>
  first
   |with_reducible first|refine' Bx ..
  all_goals repeat' first
   |(show(_:Prop);with_reducible assumption)|(intros;rfl)|decide|exact Kd.local (by rfl)|exact Kd.cell (by rfl) ⟨_,by rfl⟩
   |with_reducible first|refine' To .. |refine' Ov .. |exact Ds|refine' Dk _ _ (by assumption) .. |exact Br|refine' A0 .. |refine' Bi ..
 case p=>
  clear li2 li1 rng2 rng1 f20 o20 g20 H
  intro ns kn ms kx w kp ko par oth own hn5 hw hpar hoth hkn hkx hkp hko R r1
  dsimp only[tU,tV,Mq]
  exact Ac rfl (Ac rfl (Ac rfl (sX (rA (l:=(M1 par.length).map B8) (Js hn5).1 (Js hn5).2.1 (by rw[hpar.2];exact(Js hn5).2.2) (kJ hpar.1).1 (jF (Aj Fv hkx) (Aj Fv hkp) (Aw _ _) hpar.1 hpar.2 hn5 (.inl rfl) λown' hp ht=>Ck (r1 _ ⟨ns,kn,ms,kx,w,kp,ko,_,Ng ms par (M1 par.length),oth,own',rfl,hn5,hw,hoth,Qb hpar.1 (.inl rfl) w,Aj (Fv.trans hp) hkn,Aj (Fv.trans hp) hkx,Aj (Fv.trans hp) hko,ht⟩))))))
include H g20 o20 f20 rng1 rng2 li1 li2 in
theorem rY:∀s r,Kx.body.drop 6=s::r->Cs Γ B (Of pm code doc L a) s (sp J6 J7):=by
 refine' oN rfl ?w ?p
 case w=>
  first
   |with_reducible first|refine' Bx ..
  all_goals repeat' first
   |(show(_:Prop);with_reducible assumption)|(intros;rfl)|decide|exact Kd.local (by rfl)|exact Kd.cell (by rfl) ⟨_,by rfl⟩
   |with_reducible first|refine' Ov .. |exact Ds|refine' Tn .. |refine' Dk _ _ (by assumption) .. |refine' It .. |exact Br|refine' A0 .. |refine' U3 .. |refine' Bi ..
 case p=>
  clear li2 li1 rng2 rng1 f20 o20 g20 H
  intro ns kn ms kx w kp ko k1 T1 oth own hn5 hw hoth hT1 hkn hkx hko ht1 R r1
  dsimp only[tU,tV,Mq]
  exact Ac rfl (Ac rfl (Ac rfl (W7 ⟨1,rfl,(ms.length:Int)-1,0,-1,rfl,by decide,rA (l:=(U7 oth.length).map B8) (Lo hn5).1 (Lo hn5).2.1 (by rw[hoth.2];exact(Lo hn5).2.2) (kJ hoth.1).2 (jF (Aj Fv hkx) (Aj Fv hko) (Aw _ _) hoth.1 hoth.2 hn5 (.inr rfl) λown' hp ht=>Ck (r1 _ ⟨ns,kn,ms,_,kx,w,kp,ko,k1,_,T1,Ng ms oth (U7 oth.length),own',rfl,⟨hw,hT1,Qb hoth.1 (.inr rfl) w⟩,Aj (Fv.trans hp) hkn,Ah.mono (Fv.trans hp) _ _ ht1,ht⟩))⟩)))
include H g23 o23 f23 in
theorem rX:∀s r,Kx.body.drop 7=s::r->Cs Γ B (Of pm code doc L a) s (sp J7 J8):=by
 refine' oM rfl ?w ?p
 case w=>
  first
   |with_reducible first|refine' nE ..
  all_goals repeat' first
   |(show(_:Prop);with_reducible assumption)|(intros;rfl)|decide|exact Kd.local (by rfl)|exact Kd.cell (by rfl) ⟨_,by rfl⟩
   |with_reducible first|refine' Dk _ _ (by assumption) .. |exact Br|refine' A0 .. |refine' Du .. |refine' Jg .. |exact Rk|refine' Ms .. |refine' Bi ..
 case p=>
  clear f23 o23 g23 H
  intro ns kn ms m kx w kp ko k1 k2 T1 T2 own hT hkn ht1 ht2 R r1
  dsimp only[tU,tV,Mq]
  exact Ac rfl (Ac rfl (nS hT.1.1 ht1 hT.2.1.1 λown' kt hp hk=>⟨_,rfl,rfl,_,_,rfl,Ck ⟨_,_,rfl,Ck (r1 _ ⟨ns,kn,ms,m,kx,w,kp,ko,k1,k2,kt,T1,T2,own',rfl,hT,Aj hp hkn,Ah.mono hp _ _ ht1,Ah.mono hp _ _ ht2,hk⟩)⟩⟩))
include H g22 o22 f22 g21 o21 f21 in
theorem rW:∀s r,Kx.body.drop 8=s::r->Cs Γ B (Of pm code doc L a) s (sp J8 J9):=by
 refine' oL rfl ?w ?p
 case w=>
  first
   |with_reducible first|refine' Pw ..
  all_goals repeat' first
   |(show(_:Prop);with_reducible assumption)|(intros;rfl)|decide
   |with_reducible first|refine' Dk _ _ (by assumption) .. |refine' Hx .. |exact Br|refine' A0 .. |refine' Bi ..
 case p=>
  clear f21 o21 g21 f22 o22 g22 H
  intro ns kn ms m kx w kp ko k1 k2 kt T1 T2 own hT hkn ht1 ht2 ht R r1
  dsimp only[tU,tV,Mq]
  exact Ac rfl (Ac rfl (jE hT.1.1 (jD hT.1.1 ht1 hT.2.1.1 λown' hp=>Ac rfl (Ac rfl (jE hT.1.1 (jD hT.1.1 (Ah.mono hp _ _ ht2) hT.2.2.1 λown2 hp2=>⟨Cr rfl,_,rfl,rfl,r1 _ ⟨ns,kn,ms,m,kx,w,kp,ko,k1,k2,kt,T1,T2,own2,rfl,hT,Aj (hp.trans hp2) hkn,Ah.mono (hp.trans hp2) _ _ ht1,Ah.mono (hp.trans hp2) _ _ ht2,Ah.mono (hp.trans hp2) _ _ ht⟩⟩))))))
include H in
theorem rV:∀s r,Kx.body.drop 9=s::r->Cs Γ B (Of pm code doc L a) s (sp J9 J9):=by
 refine' jX rfl ?w ?p
 case w=>
  first
   |with_reducible first|refine' Sy ..
  all_goals repeat' first
   |(show(_:Prop);with_reducible assumption)|(intros;rfl)|decide
   |with_reducible first|exact Dr|refine' Av .. |refine' Dx .. |exact Ir|refine' Ki .. |refine' Bi ..
 case p=>
  clear H
  intro ns kn ms m kx w kp ko k1 k2 kt T1 T2 own hT hkn ht1 ht2 ht R r1
  dsimp only[tU,tV,Mq]
  exact Ac rfl (Ac rfl (R0 (Il (by rw[decide_eq_true rfl];rfl) (r1 _ ⟨ns,kn,ms,m,kx,w,kp,ko,k1,k2,kt,T1,T2,own,rfl,hT,hkn,ht1,ht2,ht⟩))))
include H g17 o17 f17 g24 g11 e11 li1 li2 in
theorem oG:∀s r,Kx.body.drop 10=s::r->Cs Γ B (Of pm code doc L a) s (sp J9 qI):=by
 refine' jX rfl ?w ?p
 case w=>
  first
   |with_reducible first|refine' Sy ..
  all_goals repeat' first
   |(show(_:Prop);with_reducible assumption)|(intros;rfl)|decide
   |with_reducible first|refine' Lr _ (by assumption) _ (by assumption) (by assumption) .. |refine' Lu _ _ (by assumption) .. |exact Dr|refine' Av .. |refine' Dx .. |exact Hy|exact Ds|exact Ir|refine' Dk _ _ (by assumption) .. |refine' Ei .. |exact Br|refine' A0 .. |refine' Ki .. |refine' Bi ..
 case p=>
  clear li2 li1 e11 g11 g24 f17 o17 g17 H
  intro ns kn ms m kx w kp ko k1 k2 kt T1 T2 own hT hkn ht1 ht2 ht R r1
  dsimp only[tU,tV,Mq]
  have htd:=Hu 5 w T1 hT.2.1.1
  exact Ac rfl (gG hT.h3 ⟨zero_le _,Cr rfl,Cr rfl,Ql htd.2 htd.1 λown' k hp ho=>Ac rfl ⟨Cr rfl,Cr rfl,Cr rfl,jV htd.2 (Fu.mono Lx ho) (bD (Ah.mono hp _ _ ht)) (sF (r1 _ ⟨ns,kn,ms,m,kx,w,kp,ko,k1,k2,kt,T1,T2,_,rfl,hT,Aj (hp.trans Lx) hkn,Ah.mono (hp.trans Lx) _ _ ht1,Ah.mono (hp.trans Lx) _ _ ht2⟩))⟩⟩)
include H g17 o17 f17 g24 g11 e11 li1 li2 in
theorem oF:∀s r,Kx.body.drop 11=s::r->Cs Γ B (Of pm code doc L a) s (sp qI qH):=by
 refine' kD rfl ?w ?p
 case w=>
  first
   |with_reducible first|refine' Bx ..
  all_goals repeat' first
   |(show(_:Prop);with_reducible assumption)|(intros;rfl)|decide|exact Kd.local (by rfl)|exact Kd.cell (by rfl) ⟨_,by rfl⟩
   |with_reducible first|refine' Lr _ (by assumption) _ (by assumption) (by assumption) .. |refine' Lu _ _ (by assumption) .. |exact Hy|exact Ds|refine' Dk _ _ (by assumption) .. |refine' Ei .. |exact Br|refine' A0 .. |refine' Bi ..
 case p=>
  clear li2 li1 e11 g11 g24 f17 o17 g17 H
  intro ns kn ms m kx w kp ko k1 k2 kt T1 T2 own hT hkn ht1 ht2 R r1
  dsimp only[tU,tV,Mq]
  have htd:=Hu 5 w T2 hT.2.2.1
  exact Ac rfl (gG hT.h4 ⟨zero_le _,Cr rfl,Cr rfl,Ql htd.2 htd.1 λown' k hp ho=>Ck (r1 _ ⟨ns,kn,ms,m,kx,w,kp,ko,k1,k2,kt,k,T1,T2,own',rfl,hT,Aj hp hkn,Ah.mono hp _ _ ht1,Ah.mono hp _ _ ht2,ho⟩)⟩)
include H g26 o26 f26 len1 len2 in
theorem oE:∀s r,Kx.body.drop 12=s::r->Cs Γ B (Of pm code doc L a) s (sp qH qG):=by
 refine' jZ rfl ?w ?p
 case w=>
  first
   |with_reducible first|refine' Sy ..
  all_goals repeat' first
   |(show(_:Prop);with_reducible assumption)|(intros;rfl)|decide
   |with_reducible first|exact Dr|refine' Av .. |refine' Dx .. |exact Hy|exact Ds|exact Ir|refine' Ls .. |refine' Dk _ _ (by assumption) .. |refine' Ei .. |exact Br|refine' A0 .. |refine' Ju .. |refine' Ki .. |refine' cV .. |refine' Mp .. |refine' iO .. |exact Kj|refine' Zw .. |refine' Bi ..
 case p=>
  clear len2 len1 f26 o26 g26 H
  intro ns kn ms m kx w kp ko k1 k2 kt kb T1 T2 own hT hkn ht1 ht2 hkb R r1
  dsimp only[tU,tV,Mq]
  have htd:=Hu 5 w T2 hT.2.2.1
  refine Dm hkb λka kc kq hb1 hb2 hb3 hb4=>?_
  exact Ac rfl (rG (Nm hb1 (Cr rfl) (Os (sF (Ac rfl (B7 hb1 w0 rfl (B7 hb2 (iw (n:=2) rfl (by decide)) rfl ⟨Cr rfl,Ac rfl ⟨Cr rfl,Cr rfl,jC (le_refl _) (Ah.mono jR _ _ (Qa (Aw own _) (Aj Fv hb3) (Ah.mono Fv _ _ hb4))) (Qa (Aw _ _) (Dc _ _ [] _) (Ah.mono Lx _ _ ht2)) (Tu (Tv 5 _ htd.2)) (Tu (Tv 5 _ (X7 5 w T2 hT.2.2.1))) (Su hT.1.2 (by decide) hT.2.2.1) λown' hp=>Ik (sF (sF (r1 _ ⟨ns,kn,ms,m,kx,w,kp,ko,k1,k2,kt,kb,T1,T2,own',rfl,hT,Aj (Lx.trans hp) hkn,Ah.mono (Lx.trans hp) _ _ ht1,Ah.mono (Lx.trans hp) _ _ ht2⟩)))⟩⟩)))))))
include H su1 su2 len1 len2 in
theorem oC:∀s r,Kx.body.drop 13=s::r->Cs Γ B (Of pm code doc L a) s (sp qG eM):=by
 refine' jY rfl ?w ?p
 case w=>
  first
   |with_reducible first|refine' Bx ..
  all_goals repeat' first
   |(show(_:Prop);with_reducible assumption)|(intros;rfl)|decide|exact Kd.local (by rfl)|exact Kd.cell (by rfl) ⟨_,by rfl⟩
   |with_reducible first|refine' nT .. |exact Ds|refine' Ls .. |refine' It .. |exact Br|refine' A0 .. |refine' Bi ..
 case p=>
  clear len2 len1 su2 su1 H
  intro ns kn ms m kx w kp ko k1 k2 kt kb T1 T2 own hT hkn ht1 ht2 R r1
  dsimp only[tU,tV,Mq]
  have h1:=Int.emod_nonneg ms.sum (show((Bf 5 w T1).length:Int)+1≠0 from nz (Bf 5 w T1).length)
  have h2:=Int.emod_lt_of_pos ms.sum (show 0<((Bf 5 w T1).length:Int)+1 by exact Int.ofNat_lt.2 (by simp +arith only:0<(Bf 5 w T1).length+1))
  exact Ac rfl ⟨_,ms,rfl,hkn,Ac rfl ⟨_,rfl,Fm (Ao hT.h1 (by decide)) (Ln (Ll (by exact Int.ofNat_lt.2 (by simp +arith only:0<(Bf 5 w T1).length+1)) (Ck (r1 _ ⟨ns,kn,m,kx,w,kp,ko,k1,k2,kt,kb,(ms.sum%(((Bf 5 w T1).length:Int)+1)).toNat,T1,T2,own,by rw[dF,Int.toNat_of_nonneg h1];rfl,hT,Nat.le_of_lt_succ ((Int.toNat_lt h1).2 h2),ht1,ht2⟩))))⟩⟩
include H g13 o13 f13 len1 len2 in
theorem oB:∀s r,Kx.body.drop 14=s::r->Cs Γ B (Of pm code doc L a) s (sp eM eM):=by
 refine' dW rfl ?w ?p
 case w=>
  first
   |with_reducible first|refine' Sy ..
  all_goals repeat' first
   |(show(_:Prop);with_reducible assumption)|(intros;rfl)|decide|exact λ_ _=>⟨_,rfl⟩
   |with_reducible first|refine' nY .. |exact Dr|refine' Av .. |refine' Dx .. |exact Ds|exact Ir|refine' Ls .. |refine' Dk _ _ (by assumption) .. |refine' Ei .. |exact Br|refine' A0 .. |refine' Hz .. |exact fN|refine' Ly .. |refine' Ki .. |refine' Mp .. |refine' iO .. |exact Kj|refine' Bi ..
 case p=>
  clear len2 len1 f13 o13 g13 H
  intro ns kn m kx w kp ko k1 k2 kt kb ct T1 T2 own hT hct ht1 ht2 R r1
  dsimp only[tU,tV,Mq]
  have hc:=V6 hT.2.1.1
  have hz1:=hT.h1
  exact Ac rfl (jG hz1 hc.1 λown' hp=>Th rfl (sF (Ac rfl (Ac rfl (pG (Xa (Pf hct) (Ao hz1 (by decide)) (jG (Ao (List.length_take_le' _ _) hz1) (hc.2 ct hct) λown2' hp2=>Ac rfl (Ac rfl (rG (Fm (Ao hz1 (by decide)) ⟨Cr rfl,pF (ns:=[0,((Bf 5 w T1).length:Int)]) (Aw _ _) (mF ct (Bf 5 w T1).length) (sF (sF (r1 _ ⟨ns,kn,m,kx,w,kp,ko,k1,k2,kt,kb,ct,T1,T2,_,rfl,hT,hct,Ah.mono ((hp.trans hp2).trans Fv) _ _ ht1,Ah.mono ((hp.trans hp2).trans Fv) _ _ ht2⟩)))⟩))))))))))
include H g25 o25 f25 g11 e11 li1 li2 in
theorem oA:∀s r,Kx.body.drop 15=s::r->Cs Γ B (Of pm code doc L a) s (sp eM eM):=by
 refine' dW rfl ?w ?p
 case w=>
  first
   |with_reducible first|refine' Sy ..
  all_goals repeat' first
   |(show(_:Prop);with_reducible assumption)|(intros;rfl)|decide|exact λ_ _=>⟨_,rfl⟩
   |with_reducible first|refine' Lr _ (by assumption) _ (by assumption) (by assumption) .. |exact Dr|refine' Av .. |refine' Dx .. |exact Ir|refine' Dk _ _ (by assumption) .. |exact Br|refine' A0 .. |refine' Hz .. |exact fN|refine' Ly .. |refine' cV .. |refine' Zw .. |refine' Bi ..
 case p=>
  clear li2 li1 e11 g11 f25 o25 g25 H
  intro ns kn m kx w kp ko k1 k2 kt kb ct T1 T2 own hT hct ht1 ht2 R r1
  dsimp only[tU,tV,Mq]
  have hzt:((Bf 5 w T1).take ct).length<=2000:=Ao (List.length_take_le' _ _) hT.h1
  exact Ac rfl (Ac rfl (pG (Xa (Pf hct) (Ao hT.h1 (by decide)) (gG (by unfold sizeLine;exact Ao (add_le_add_right hzt 3) (by decide)) (Ac rfl (Ac rfl (pG (Xa (Pf hct) (Ao hT.h1 (by decide)) (nR (Aw _ _) hzt λown' hp=>Ik (sF (r1 _ ⟨ns,kn,m,kx,w,kp,ko,k1,k2,kt,kb,ct,T1,T2,own',rfl,hT,hct,Ah.mono (Fv.trans hp) _ _ ht1,Ah.mono (Fv.trans hp) _ _ ht2⟩)))))))))))
include H g26 o26 f26 in
theorem nZ:∀s r,Kx.body.drop 16=s::r->Cs Γ B (Of pm code doc L a) s (qK eM):=by
 refine' fS rfl ?w ?p
 case w=>
  first
   |with_reducible first|refine' Dx ..
  all_goals repeat' first
   |(show(_:Prop);with_reducible assumption)|(intros;rfl)|decide
   |with_reducible first|refine' Dk _ _ (by assumption) .. |refine' Xo .. |exact Br|refine' A0 .. |refine' Bi ..
 case p=>
  clear f26 o26 g26 H
  intro ns kn m kx w kp ko k1 k2 kt kb ct T1 T2 own hT hct ht1 ht2 R r1
  dsimp only[tU,tV,Mq]
  exact Ac rfl (Ac rfl (Nn (Ac rfl (Ac rfl (jC (by decide) ht1 ht2 (Tv 5 _ (X7 5 w T1 hT.2.1.1)) (Tv 5 _ (X7 5 w T2 hT.2.2.1)) (Rj hT.1.2 5 T1 T2 (by decide) hT.2.1.1 hT.2.2.1) λown' hp=>nN (beq_self_eq_true _) (r1 _))))))
end
theorem Cw {I J:St->Prop}{T:TS}{σ:St}{R:FD->St->Prop}(h:I σ)(k:∀σ',J σ'->T σ' R):Uv (sp I J) T σ R:=⟨h,k⟩
theorem pN {Γ:W}{A:Around}{a19 a20 a21 a22 a23 a25 a26 a17 a13 a a11 a24:Addr}{pm code doc:Value}{fd19 fd20 fd21 fd22 fd23 fd25 fd26 Sj fd13 fd11:FuncData}(ok:Γ.Ok)(N:Fn Γ a (docDef Kx.name Kx.params Kx.body Kx.scope pm code doc) ["script"] Kx.body)(g19:Γ.mg (ofString "_law_name")=some (.ref a19))(o19:∃o,Γ.B.get? a19=some o/\o.data=.func fd19)(g20:Γ.mg (ofString "_law_tree")=some (.ref a20))(o20:∃o,Γ.B.get? a20=some o/\o.data=.func fd20)(g21:Γ.mg (ofString "_law_turn")=some (.ref a21))(o21:∃o,Γ.B.get? a21=some o/\o.data=.func fd21)(g22:Γ.mg (ofString "_law_written")=some (.ref a22))(o22:∃o,Γ.B.get? a22=some o/\o.data=.func fd22)(g23:Γ.mg (ofString "_law_told")=some (.ref a23))(o23:∃o,Γ.B.get? a23=some o/\o.data=.func fd23)(g25:Γ.mg (ofString "_law_whole")=some (.ref a25))(o25:∃o,Γ.B.get? a25=some o/\o.data=.func fd25)(g26:Γ.mg (ofString "_law_alike")=some (.ref a26))(o26:∃o,Γ.B.get? a26=some o/\o.data=.func fd26)(g17:Γ.mg (ofString "reduce")=some (.ref a17))(o17:∃o,Γ.B.get? a17=some o/\o.data=.func Sj)(g13:Γ.mg (ofString "_check_parenthesis")=some (.ref a13))(o13:∃o,Γ.B.get? a13=some o/\o.data=.func fd13)(g24:Γ.mg (ofString "_law_read")=some (.ref a24))(g11:Γ.mg (ofString "_iter_escaped_chars")=some (.ref a11))(e11:Jj Γ a11 fd11)(len1:Γ.mg (ofString "len")=none)(len2:Γ.mb (ofString "len")=some (.builtin "len"))(rng1:Γ.mg (ofString "range")=none)(rng2:Γ.mb (ofString "range")=some (.type "range"))(li1:Γ.mg (ofString "list")=none)(li2:Γ.mb (ofString "list")=some (.type "list"))(mx1:Γ.mg (ofString "max")=none)(mx2:Γ.mb (ofString "max")=some (.builtin "max"))(su1:Γ.mg (ofString "sum")=none)(su2:Γ.mb (ofString "sum")=some (.builtin "sum"))
  (hA:A9 6 A)(f19:∀env,Ap Γ (A.deeper env) (.ref a19) nB)(f20:∀env,Ap Γ (A.deeper env) (.ref a20) mP)(f21:∀env,Ap Γ (A.deeper env) (.ref a21) (mO Γ))(f22:∀env,Ap Γ (A.deeper env) (.ref a22) (iG Γ 5))(f23:∀env,Ap Γ (A.deeper env) (.ref a23) (iF 5))(f25:∀env,Ap Γ (A.deeper env) (.ref a25) mM)(f26:∀env,Ap Γ (A.deeper env) (.ref a26) dB)(f17:∀env,Ap Γ (A.deeper env) (.ref a17) (mQ a24))(f13:∀env,Ap Γ (A.deeper env) (.ref a13) mR):Ap Γ A (.ref a) rO:=by
 refine'(Dl ok N rfl (by have:=hA.depth;exact Aq this) (λL=>?w)).imp ?p
 case w=>
  have H:Ev Γ (A.deeper (Of pm code doc L a)) (Of pm code doc L a):=Hk ok N (hA.deeper _) L
  exact Av (sE H _ _ rfl) (Av (sD H g19 o19 (f19 _) len1 len2 _ _ rfl) (Av (sC H _ _ rfl) (Av (sB H rng1 rng2 _ _ rfl) (Av (sA H mx1 mx2 _ _ rfl) (Av (rZ H g20 o20 (f20 _) rng1 rng2 li1 li2 _ _ rfl) (Av (rY H g20 o20 (f20 _) rng1 rng2 li1 li2 _ _ rfl) (Av (rX H g23 o23 (f23 _) _ _ rfl) (Av (rW H g22 o22 (f22 _) g21 o21 (f21 _) _ _ rfl) (Av (rV H _ _ rfl) (Av (oG H g17 o17 (f17 _) g24 g11 e11 li1 li2 _ _ rfl) (Av (oF H g17 o17 (f17 _) g24 g11 e11 li1 li2 _ _ rfl) (Av (oE H g26 o26 (f26 _) len1 len2 _ _ rfl) (Av (oC H su1 su2 len1 len2 _ _ rfl) (Av (oB H g13 o13 (f13 _) len1 len2 _ _ rfl) (Av (oA H g25 o25 (f25 _) g11 e11 li1 li2 _ _ rfl) (Av (nZ H g26 o26 (f26 _) _ _ rfl) (Dr)))))))))))))))))
 case p=>
  intro ds own Q h
  refine Au h λns e hns q=>?_
  subst e
  have h:J0 ⟨[("script",.lst (ns.map D.int))],own,[]⟩:=⟨ns,own,rfl,hns⟩
  exact⟨rfl,Cw h λσ h=>Cw h λσ h=>Cw h λσ h=>Cw h λσ h=>Cw h λσ h=>Cw h λσ h=>Cw h λσ h=>Cw h λσ h=>Cw h λσ h=>Cw h λσ h=>Cw h λσ h=>Cw h λσ h=>Cw h λσ h=>Cw h λσ h=>Cw h λσ h=>Cw h λσ h=>⟨h,λ_=>q _⟩⟩
noncomputable def d9:DefRec:=Ec PySem.Challenge.pw_in0167_02 13
noncomputable def S9:Mine.Internal.B3:=λds own Q=>∃(k:Nat) (r:Addr) (us:List (List Nat)),ds=[.obj k,.raw (.ref r)]/\own[k]? =some (us.map D.str)/\us.length<=1000/\us.flatten.length<=1000000/\∀own',own<+:own'->Q (.str (cs "(?s:"++us.flatten++cs ")\\Z")) own'
noncomputable def L9 (k:Nat) (r:Addr) (o n i:Nat):List (String×D):=[("inp",.obj k),("STAR",.raw (.ref r)),("res",.obj o),("add",.app o),("n",.int n),("i",.int i)]
theorem lU {Γ:W}(ok:Γ.Ok){A:Around}{a:Addr}{pm code doc:Value}(N:Fn Γ a (docDef d9.name d9.params d9.body d9.scope pm code doc) ["inp","STAR"] d9.body)(hA:A9 1 A)
  (len1:Γ.mg (ofString "len")=none)(len2:Γ.mb (ofString "len")=some (.builtin "len")):Ap Γ A (.ref a) S9:=by
 refine'(Dl ok N rfl (by have:=hA.depth;exact Aq this) (λL=>?w)).imp ?p
 case w=>
  have H:=Hk ok N (hA.deeper (callEnvC (docDef d9.name d9.params d9.body d9.scope pm code doc) L a)) L
  refine' Av ?_ ?_
  all_goals repeat' first
   |(show(_:Prop);with_reducible assumption)|(intros;rfl)|decide|exact Kd.local (by rfl)|exact Kd.cell (by rfl) ⟨_,by rfl⟩
   |with_reducible first|exact Dr|refine' Av .. |refine' Bx .. |refine' Pw .. |refine' Le .. |refine' Sy .. |refine' Wg .. |refine' Dx .. |refine' Px .. |exact Wi|refine' S1 .. |exact Hy|exact Ds|refine' Iu .. |refine' Qp .. |refine' Ls .. |refine' Xq .. |refine' Qq _ (by decide) .. |refine' dP .. |refine' jO .. |refine' eF .. |exact lS|refine' Ei .. |refine' Hx .. |exact Br|refine' A0 .. |refine' Ju .. |refine' Ki .. |refine' Mp .. |exact Ld|refine' cZ .. |refine' Bi ..
 case p=>
  intro ds own Q Z
  refine Fp Z λk r us Y hi hl hf q=>?_
  clear Z
  subst Y
  refine⟨rfl,?_⟩
  have hk:k<own.length:=(H7.mp hi).1
  have hin:∀x:List (List D),(own++x)[k]? =some (us.map D.str):=λx=>by rw[Ro hk];exact hi
  refine An ⟨zero_le _,Ck (An (Ac rfl ⟨_,_,rfl,Aw _ _,Ck (An (Ac rfl ⟨_,rfl,jB (hin _) (B2 ..) (by exact Ao hl (by decide)) ⟨Cr rfl,_,rfl,rfl,?_⟩⟩))⟩))⟩
  refine A5 (λσ=>σ=⟨L9 k r own.length us.length us.length,own++[us.map D.str],[]⟩) (λ_ _=>False) (λR h1 _=>?_) (λσ zq=>?_) (λ_ _ h=>h.elim)
  ·refine⟨us.length+1,E6 (λm σ=>∃j,j+m=us.length/\σ=⟨L9 k r own.length us.length j,own++[(us.take j).map D.str],[]⟩) (λm σ R2 zq hn _=>?_) _ us.length _ (lt_succ_self _) ⟨0,zero_add _,rfl⟩⟩
   refine Ab zq λj hj V=>?_
   clear zq
   subst V
   refine Ac rfl (Ac rfl (Ot (W8 (λhlt=>?_) λhge=>?_)))
   ·have hlt:j<us.length:=Int.ofNat_lt.mp (of_decide_eq_true hlt)
    have hx:K9 (us.map D.str) (j:Int)=some (.str us[j]):=Cl (by rw[List.getElem?_map,Fz hlt];rfl)
    have hw:Bb (j:Int):=iw (n:=j) rfl (Aq (Bk (Bt hj) hl))
    refine Ac rfl (Ac rfl (B7 (hin _) hw hx (Ac rfl (aX (sT (sT (An ⟨_,rfl,Ac rfl (Ac rfl (B7 (hin _) hw hx ⟨_,_,rfl,Aw _ _,?_,Ak ⟨_,rfl,Tj (Ck (hn (m-1) _ _ (by exact Aq (Bt (sub_add_cancel (Aq (Bk hlt (Bt hj.symm)):1<=m)))) (G9.refl _ _) ⟨j+1,by exact le_antisymm (Aq (Bk (Bt hj) (Bt (sub_add_cancel (Aq (Bk hlt (Bt hj.symm)):1<=m))))) (Aq (Bk (Bt hj.symm) (Cv (m) (1)))),?_⟩))⟩⟩))⟩)))))))
    ·rw[B2,length_take];unfold sizeLine;exact Ao (Aq (Bk (min_le_right (j) (us.length)) hl)) b6
    ·show St.mk _ ((own++[(us.take j).map D.str]).set own.length _) _=_
     rw[Dj,take_add_one,Fz hlt,Id]
     rfl
   ·have ej:j=us.length:=by exact le_antisymm (Aq (Bt hj)) (Aq (not_lt.1 (mt Int.ofNat_lt.2 (of_decide_eq_false hge))))
    subst ej
    exact sF (h1 _ (by rw[take_length]))
  ·subst zq
   have ir:decide ((us.length:Int)<us.length)=false:=decide_eq_false (Int.lt_irrefl _)
   refine A5 (λσ=>σ=⟨L9 k r own.length us.length us.length,own++[us.map D.str],[]⟩) (λ_ _=>False) (λR h1 _=>⟨1,E6 (λ_ σ=>σ=⟨L9 k r own.length us.length us.length,own++[us.map D.str],[]⟩) (λm σ R2 zq _ _=>?_) 1 0 _ Nat.one_pos rfl⟩) (λσ zq=>?_) (λ_ _ h=>h.elim)
   ·subst zq
    refine Ac rfl (Ac rfl (Ot ?_))
    rw[ir]
    exact sF (h1 _ rfl)
   ·subst zq
    refine An (Ac rfl (Ac rfl (Qk ⟨beq_self_eq_true _,An ⟨⟨_,rfl⟩,Ac rfl (Jr (Aw _ _) (by exact Ao hf (by decide)) (Ck (Ak ?_)))⟩⟩)))
    have z1:(([]++cs "(?s:":List Nat)++us.flatten).length<=sizeLine:=by rw[Bu];show 4+_<=sizeLine;unfold sizeLine;exact Ao (Aq hf) b6
    have z2:(([]++cs "(?s:":List Nat)++us.flatten++cs ")\\Z").length<=sizeLine:=by rw[Bu,Bu];show 4+_+3<=sizeLine;unfold sizeLine;exact Ao (Aq hf) b6
    exact⟨_,rfl,Cr rfl,Ac rfl ⟨_,rfl,by unfold sizeLine;exact Ao hf (by decide),_,rfl,z1,_,rfl,z2,z2,q _ (Dg _ _)⟩⟩
noncomputable def Hq:DefRec:=Ec PySem.Challenge.pw_in0167_02 12
noncomputable def U6:Str:=(Hq.name++".<locals>.")++"<lambda>"
theorem jL {Γ:W}{A:Around}{env:Env}(H:Ev Γ A env){c P:Addr}{params:Arguments}{body:Expr}{scope:Scope}{clos:List (Str×Addr)}{pos:Pos}{q:Str}(hq:env.qual++"<lambda>"=q)(hcode:env.code=.ref c)(hcP:(c,P)∈Γ.tabs)(hdef:defaultsOf params env=([],[]))(hcl:closureFor scope env=pure clos)
  (hit:∀G cv,Γ.codeOk P pos G cv->Bd G cv q)(mk:∀G cv pos',pos'.line=pos.line->pos'.col=pos.col->Bd G cv q->Γ.codeOk P pos' G cv):
  Bl Γ A env (.Lambda params body scope pos) (λσ Q=>∃P,(∀G v,Od "<lambda>" q params body scope clos ((Γ.mg "__name__").getD .none) G v->P G v)/\Q (.sem P) σ):=by
 subst hq;exact nW H hcode hcP hdef hcl hit mk
theorem jJ {Γ:W}{A:Around}{env:Env}(H:Ev Γ A env)(hA:A9 1 A){p:Addr}(hp:K3 (λa=>Γ.B.get? a) p)(hpt:∃o,Γ.B.get? p=some o/\o.cls=.type "re.Pattern"/\o.dict=none){c P:Addr}{f x:String}{p0 apos lpos p2 pos:Pos}{params:Arguments}{body:Expr}{scope:Scope}{q:Str}
  (hk:env.kindOf (ofString f)=some .globalImplicit)(hv:Γ.mg (ofString f)=some (.ref p))(hq:env.qual++"<lambda>"=q)(hcode:env.code=.ref c)(hcP:(c,P)∈Γ.tabs)(hdef:defaultsOf params env=([],[]))(hcl:closureFor scope env=pure [])
  (hit:∀G cv,Γ.codeOk P lpos G cv->Bd G cv q)(mk:∀G cv pos',pos'.line=lpos.line->pos'.col=lpos.col->Bd G cv q->Γ.codeOk P pos' G cv)(hlam:∀pm G v,Od "<lambda>" q params body scope [] pm G v->Wc Γ p G v)
  (hd:(ofString f==("__debug__":Str))=false)(hx:(ofString x==("__debug__":Str))=false)(hx2:(ofString x==("__classdict__":Str))=false)(hs:starEach [.Lambda params body scope lpos,.Name (ofString x) p2] env=(false,eval (.Lambda params body scope lpos) env)::starEach [.Name (ofString x) p2] env)
  (hs2:starEach [.Name (ofString x) p2] env=(false,eval (.Name (ofString x) p2) env)::starEach [] env)(hpp:(backTo pos (starEach [.Name (ofString x) p2] env)).any (·.1)=false)(hbase:attributeBase (.Name (ofString f) p0) (ofString "sub") env (eval (.Name (ofString f) p0) env)=eval (.Name (ofString f) p0) env)
  (hfew:((backTo pos (starEach [.Lambda params body scope lpos,.Name (ofString x) p2] env)).all (λx=> !x.1)&&(backToKw pos (keywordEach [] env)).all (λx=>x.1.isSome)&&decide ([Expr.Lambda params body scope lpos,.Name (ofString x) p2].length+([]:List Keyword).length+(if([]:List Keyword).isEmpty then 0 else 1)<30))=true)(hline:(apos.endLine==pos.line)=true):
  Bl Γ A env (.Call (.Attribute (.Name (ofString f) p0) (ofString "sub") apos) [.Lambda params body scope lpos,.Name (ofString x) p2] [] pos) (λσ Q=>Ws x σ λd σ=>∃xs,d=.str xs/\xs.length<=2000/\∀ps:List (List Nat),tV (.str (Da xs)) {σ with own:=σ.own++[ps.map D.str]} Q):=λK G ι σ s Q F h=>
 fD H.ok hA hp hpt (Lu H hk hv hd) (A0 (jL H hq hcode hcP hdef hcl hit mk) (A0 (Bi H hx hx2) Br hs2) hs) hs hpp hbase hfew hline K G ι σ s Q F ⟨rfl,Wc Γ p,hlam _,Ab h λd e h=>Au h λxs e2 hl hq=>⟨d,e,rfl,xs,by rw[e2],hl,hq⟩⟩
noncomputable def w8 (S10:Mine.Internal.B3):{T:TS // ∀{Γ:W} {a p P cc a10:Addr} {pm doc:Value} {fd10:FuncData},Γ.mg (ofString "escape")=some (.ref a10)->(∃o,Γ.B.get? a10=some o/\o.data=.func fd10)->Γ.Ok->Fn Γ a (docDef Hq.name Hq.params Hq.body Hq.scope pm (.ref cc) doc) ["pat","STAR","QUESTION_MARK"] Hq.body->(cc,P)∈Γ.tabs->Γ.mg (ofString "_twin_re_1")=some (.ref p)->K3 (λa=>Γ.B.get? a) p->(∃o,Γ.B.get? p=some o/\o.cls=.type "re.Pattern"/\o.dict=none)->(∀G cv (pos':Pos) q,pos'.line=105->Bd G cv q->Γ.codeOk P pos' G cv)->(∀G cv (pos':Pos),pos'.line=106->Bd G cv U6->Γ.codeOk P pos' G cv)->(∀G cv (pos':Pos),pos'.line=106->Γ.codeOk P pos' G cv->Bd G cv U6)->Γ.mg (ofString "len")=none->Γ.mb (ofString "len")=some (.builtin "len")->Γ.mg (ofString "range")=none->Γ.mb (ofString "range")=some (.type "range")->∀A:Around,A9 2 A->∀L,Ap Γ (A.deeper (callEnvC (docDef Hq.name Hq.params Hq.body Hq.scope pm (.ref cc) doc) L a)) (.ref a10) S10->Rr Γ (A.deeper (callEnvC (docDef Hq.name Hq.params Hq.body Hq.scope pm (.ref cc) doc) L a)) (callEnvC (docDef Hq.name Hq.params Hq.body Hq.scope pm (.ref cc) doc) L a) Hq.body T}:=by
 refine'⟨?T,?w⟩
 case w=>
  intro Γ a p P cc a10 pm doc fd10 g10 o10 ok N hcP hp1 hp hpt hmk1 hmk2 hhit len1 len2 ran1 ran2 A hA L F10
  have H:=Hk ok N (hA.deeper (callEnvC (docDef Hq.name Hq.params Hq.body Hq.scope pm (.ref cc) doc) L a)) L
  refine' Av ?_ ?_
  all_goals repeat' first
   |(show(_:Prop);with_reducible assumption)|(intros;rfl)|decide|exact Kd.local (by rfl)|exact Kd.cell (by rfl) ⟨_,by rfl⟩|exact λ_ _=>⟨_,rfl⟩
   |((with_reducible refine' Tp ?h ?hcode ?hcP ?mk ?hco ?hclos ?hcell ?h0 ?hx ?hkind ?hd ?hc ?hdx ?hs ?hl1 ?hl2 ?hn1 ?hn2 ?hz1 ?hz2 ?hge ?hst ?hbase ?hfew ?hline);(case h=>assumption);(case hge=>rfl);(case hcode=>rfl);(case hcP=>assumption);(case mk=>(intro G cv pos' h1 h2 h3;solve_by_elim));(case hs=>intro _;rfl);(all_goals first|rfl|decide))
   |with_reducible first|exact Dr|refine' Av .. |refine' Bx .. |refine' Pw .. |refine' nG .. |refine' S0 .. |refine' iR .. |refine' Z6 .. |refine' Sy .. |refine' Wg .. |refine' Dx .. |refine' Px .. |exact Wi|refine' S1 .. |exact Hy|exact Ds|exact Ir|refine' Iu .. |refine' Ls .. |refine' Tn .. |refine' Xm .. |refine' jP .. |refine' Xq .. |refine' Dk _ _ (by assumption) .. |refine' Qq _ (by decide) .. |refine' dP .. |refine' jO .. |refine' eF .. |exact lS|refine' It .. |refine' Ei .. |refine' Hx .. |exact Br|refine' A0 .. |refine' Hz .. |refine' Ju .. |exact fN|refine' Ly .. |refine' R8 .. |refine' U3 .. |refine' Ki .. |refine' cV .. |refine' Mp .. |exact Ld|exact Kj|refine' cZ .. |refine' iO .. |refine' Zw .. |refine' Du .. |refine' Bi ..
  all_goals try (refine' Tp H (c:=cc) (P:=P) rfl hcP (λG cv pos' h1 h2 h3=>hmk1 G cv pos' _ h1 h3) ?_ ?_ ?_ ?_ ?_ ?_ ?_ ?_ ?_ (λ_=>rfl) ?_ ?_ ?_ ?_ ?_ ?_ ?_ ?_ ?_ ?_ ?_)
  all_goals try (refine' jJ H (hA.deeper _) hp hpt (c:=cc) (P:=P) (q:=U6) rfl hp1 rfl rfl hcP rfl rfl (λG cv h=>hhit G cv _ rfl h) (λG cv pos' h1 h2 h3=>hmk2 G cv pos' h1 h3) (λpm G v h=>fZ ok (by decide) (by decide) (by decide) rfl rfl rfl h) ?_ ?_ ?_ ?_ ?_ ?_ ?_ ?_ ?_)
  all_goals first|rfl|decide
noncomputable def d7:DefRec:=Ec PySem.Challenge.pw_in0167_02 7
noncomputable def iH:Mine.Internal.B3:=λds own Q=>∃x u v,ds=[.str (x.flatMap El),u,v]/\Em x/\∀own' k,own<+:own'->own'[k]? =some ((x.map E5).map D.str)->Q (.obj k) own'
theorem S4 (c:Nat):(E5 c).length<=4:=by
 unfold E5
 exact L7 (λl:List Nat=>l.length<=4) (λ_=>Cr rfl) λ_=>L7 (λl:List Nat=>l.length<=4) (λ_=>Cr rfl) λ_=>L7 (λl:List Nat=>l.length<=4) (λ_=>Cr rfl) λ_=>Cr rfl
theorem aC:∀x:List Nat,(x.map E5).flatten.length<=4*x.length:=by
 intro x
 induction x with
 |nil=>exact le_refl _
 |cons c x ih=>rw[Gb,flatten_cons,Bu,G8];exact Aq (Bk (S4 c) ih)
theorem sY {Γ:W}(ok:Γ.Ok){A:Around}{a a8 a9:Addr}{pm code doc pm8 code8 doc8 pm9 code9 doc9:Value}(N:Fn Γ a (docDef d7.name d7.params d7.body d7.scope pm code doc) ["pat"] d7.body)(hA:A9 3 A)
  (g8:Γ.mg (ofString "_translate")=some (.ref a8))(o8:∃o,Γ.B.get? a8=some o/\o.data=.func (docDef Hq.name Hq.params Hq.body Hq.scope pm8 code8 doc8))(f8:∀env,Ap Γ (A.deeper env) (.ref a8) iH)
  (g9:Γ.mg (ofString "_join_translated_parts")=some (.ref a9))(o9:∃o,Γ.B.get? a9=some o/\o.data=.func (docDef d9.name d9.params d9.body d9.scope pm9 code9 doc9))(f9:∀env,Ap Γ (A.deeper env) (.ref a9) S9)
  (ob1:Γ.mg (ofString "object")=none)(ob2:Γ.mb (ofString "object")=some (.type "object")):Ap Γ A (.ref a) S7:=by
 refine'(Dl ok N rfl (by have:=hA.depth;exact Aq this) (λL=>?w)).imp ?p
 case w=>
  have H:=Hk ok N (hA.deeper (callEnvC (docDef d7.name d7.params d7.body d7.scope pm code doc) L a)) L
  have F8:=f8 (callEnvC (docDef d7.name d7.params d7.body d7.scope pm code doc) L a)
  have F9:=f9 (callEnvC (docDef d7.name d7.params d7.body d7.scope pm code doc) L a)
  refine' Av ?_ ?_
  all_goals repeat' first
   |(show(_:Prop);with_reducible assumption)|(intros;rfl)|decide|exact Kd.local (by rfl)|exact Kd.cell (by rfl) ⟨_,by rfl⟩
   |with_reducible first|exact Dr|refine' Av .. |refine' Bx .. |refine' Dx .. |exact Hy|refine' Dk _ _ (by assumption) .. |refine' bA .. |exact Br|refine' A0 .. |refine' Bi ..
 case p=>
  intro ds own Q h
  refine Au h λx e hx q=>?_
  subst e
  refine⟨rfl,?_⟩
  exact An (λa=>Ck (An (Ac rfl (Ac rfl (⟨x,_,_,rfl,hx,λown' k h1 h2=>Ck (Ak (Ac rfl (Ac rfl ⟨k,a,x.map E5,rfl,h2,by rw[B2];exact Ao hx.1 (by decide),Ao (aC x) (Ao (mul_le_mul_left 4 hx.1) (by decide)),λown'' h3=>q _ (h1.trans h3)⟩)))⟩)))))
noncomputable def S10:Mine.Internal.B3:=λds own Q=>∃c,ds=[.str [c]]/\c∈cs "a*?[]()\\-!^"/\¬(cs "*?[").contains c=true/\∀own',own<+:own'->Q (.str (E5 c)) own'
noncomputable def Fw (x:List Nat):List Nat:=x.flatMap El
theorem Xy (x:List Nat):(Fw x).length<=3*x.length:=Tq x
noncomputable def Fs (T:List Nat) (u v:D) (r:Nat) (i:Int):List (String×D):=[("pat",.str T),("STAR",u),("QUESTION_MARK",v),("res",.obj r),("add",.app r),("n",.int T.length),("i",.int i)]
theorem lY {a b:Nat}{i:Int}(e:i=a)(h:a<b):decide (i<(b:Int))=true:=decide_eq_true (e▸Int.ofNat_lt.2 h)
theorem sZ {a b:Nat}{i:Int}(e:i=a)(h:a<b):decide (i>=(b:Int))=false:=decide_eq_false (Int.not_le.2 (e▸Int.ofNat_lt.2 h))
theorem cN (l:List Nat)(a b:Nat)(hab:a<=b)(hb:b<=l.length):cut l (some (a:Int)) (some (b:Int))=(l.drop a).take (b-a):=by
 unfold cut kms_lo kms_hi
 dsimp only
 have h1:¬((a:Int)<0):=by exact fQ (n:=a) rfl
 have h2:¬((b:Int)<0):=by exact fQ (n:=b) rfl
 rw[Ay h1,Ay h2,show min (a:Int).toNat l.length=a from min_eq_left (Ao hab hb),show min (b:Int).toNat l.length=b from min_eq_left hb]
theorem cO (X B Y:List Nat){i j:Int}(hi:i=X.length)(hj:j=X.length+B.length):cut (X++(B++Y)) (some i) (some j)=B:=by
 subst hi hj
 rw[show((X.length:Int)+B.length)=((X.length+B.length:Nat):Int)by rfl,cN _ _ _ (by simp +arith only) (by simp)]
 simp
theorem pU (c:Nat):([cs "^",cs "["]:List (List Nat)).any (·==[c])=decide (c=94\/c=91):=by
 rw[show cs "^"=[94]by decide,show cs "["=[91]by decide,Pm]
 congr 1
 simp
theorem kR (x:List Nat):Eb (cs "-") x=decide (45∈x):=by
 unfold Eb
 rw[show cs "-"=[45]by decide]
 exact(StrLaws.found_one ⟨x.toArray⟩ 45).trans (by simp)
theorem oY {T Bp B post:List Nat}{x y:Nat}(h:T=Bp++(x::(B++y::post))):T.length=Bp.length+1+B.length+1+post.length:=by
 rw[h,Bu,G8,Bu,G8];exact le_antisymm (by simp +arith only) (by simp +arith only)
theorem oI {T Bp S:List Nat}{x:Nat}(h:T=Bp++(x::S))(k c:Nat)(e:S[k]? =some c):K9 T ((Bp.length:Int)+1+k)=some c:=by
 rw[show((Bp.length:Int)+1+k)=((Bp.length+1+k:Nat):Int)by rfl]
 refine Cl ?_
 rw[h,append_cons,V9 (by rw[Bu];exact le_add_right _ _),Bu]
 exact(congrArg (S[·]?) (Nat.add_sub_cancel_left (Bp.length+1) k)).trans e
theorem Gm {c d:Nat}(h:c≠d):decide ([c]=[d])=false:=decide_eq_false λe=>h (List.cons.inj e).1
theorem Sk {Γ:W}{A:Around}{a p P cc a10:Addr}{pm doc:Value}{fd10:FuncData}(g10:Γ.mg (ofString "escape")=some (.ref a10))(o10:∃o,Γ.B.get? a10=some o/\o.data=.func fd10)(ok:Γ.Ok)(N:Fn Γ a (docDef Hq.name Hq.params Hq.body Hq.scope pm (.ref cc) doc) ["pat","STAR","QUESTION_MARK"] Hq.body)(hcP:(cc,P)∈Γ.tabs)(hp1:Γ.mg (ofString "_twin_re_1")=some (.ref p))(hp:K3 (λa=>Γ.B.get? a) p)(hpt:∃o,Γ.B.get? p=some o/\o.cls=.type "re.Pattern"/\o.dict=none)(hmk1:∀G cv (pos':Pos) q,pos'.line=105->Bd G cv q->Γ.codeOk P pos' G cv)(hmk2:∀G cv (pos':Pos),pos'.line=106->Bd G cv U6->Γ.codeOk P pos' G cv)(hhit:∀G cv (pos':Pos),pos'.line=106->Γ.codeOk P pos' G cv->Bd G cv U6)(len1:Γ.mg (ofString "len")=none)(len2:Γ.mb (ofString "len")=some (.builtin "len"))(ran1:Γ.mg (ofString "range")=none)(ran2:Γ.mb (ofString "range")=some (.type "range"))(hA:A9 2 A)(f10:∀env,Ap Γ (A.deeper env) (.ref a10) S10):Ap Γ A (.ref a) iH:=by
 refine(Dl ok N rfl (by have:=hA.depth;exact Aq this) (λL=>(w8 S10).2 g10 o10 ok N hcP hp1 hp hpt hmk1 hmk2 hhit len1 len2 ran1 ran2 A hA L (f10 _))).imp ?_
 intro ds own Q h
 refine Ez h λx u v e hx q=>?_
 try clear h
 subst e
 refine⟨rfl,?_⟩
 have hTl:=Xy x
 have hT6:(Fw x).length<=6:=Ao hTl (mul_le_mul_left 3 hx.1)
 unfold w8
 dsimp only
 refine An ⟨by decide,Ck (An (Ac rfl ⟨_,_,rfl,Aw _ _,Ck (An ((Ac rfl ⟨_,rfl,Fm (Ao hT6 (by decide)) ⟨(by show(2:Nat)<=sizeLine;decide),_,rfl,rfl,?_⟩⟩)))⟩))⟩
 refine A5 (λσ=>∃g,σ=⟨Fs (Fw x) u v own.length (Fw x).length,own++(x.map E5).map D.str::g,[]⟩) (λ_ _=>False) ?_ ?_ (λ_ _ h=>h.elim)
 ·intro R h1 _
  refine⟨x.length+1,?_⟩
  refine E6 (λm σ=>∃don rest g,x=don++rest/\m=rest.length/\σ=⟨Fs (Fw x) u v own.length (Fw don).length,own++(don.map E5).map D.str::g,[]⟩) ?_ _ x.length _ (lt_succ_self _) ⟨[],x,[],rfl,rfl,rfl⟩
  intro m σ RR hI hn _
  refine Ez hI λdon rest g e V U=>?_
  try clear hI
  subst V
  subst U
  refine Ac rfl (Ac rfl (Ot ?_))
  cases rest with
  |nil=>
   rw[Pv]at e
   subst e
   exact Il (decide_eq_false (Int.lt_irrefl _)) (h1 _ ⟨g,rfl⟩)
  |cons c rest=>
   have hc:=hx.2 c (by rw[e];exact M2 _ Ht)
   have hT:Fw x=Fw don++(El c++Fw rest):=by unfold Fw;rw[e,List.flatMap_append,flatMap_cons]
   have htl:((don.map E5).map D.str).length<=sizeLine:=by
    rw[B2,B2];exact Ao (by rw[e,Bu];exact le_add_right _ _:don.length<=x.length) (Ao hx.1 (by decide))
   have hpd:(Fw (don++[c])).length=(Fw don).length+(El c).length:=by unfold Fw;rw[List.flatMap_append,Bu,flatMap_cons,List.flatMap_nil,Pv]
   have fin:∀(loc ext:List (String×D)) (o:List (List D)) (j:List (List D)),loc=Fs (Fw x) u v own.length ((Fw don).length+(El c).length:Nat)++ext->o=own++((don.map E5).map D.str++[.str (E5 c)])::j->RR .next ⟨loc,o,[]⟩:=λloc ext o j e1 e2=>by
    rw[e1,e2]
    refine hn rest.length _ _ (lt_succ_self _) (Hl _ _) ⟨don++[c],rest,j,by rw[e,C4];rfl,rfl,?_⟩
    rw[hpd,Id,Id];rfl
   generalize hp:Fw don=P at hT fin⊢
   generalize hD:(don.map E5).map D.str=M at htl fin⊢
   generalize Fw rest=S at hT
   generalize Fw x=T at hT hT6 fin⊢
   by_cases hb:(cs "*?[").contains c=true
   ·have hpc:El c=[91,c,93]:=Bc hb
    rw[hpc]at hT fin
    have h3:c=42\/c=63\/c=91:=(by decide:∀z∈cs "*?[",z=42\/z=63\/z=91) c (elem_iff.mp hb)
    have n33:c≠33:=λz=>by rw[z]at h3;revert h3;decide
    have n93:c≠93:=λz=>by rw[z]at h3;revert h3;decide
    have n45:c≠45:=λz=>by rw[z]at h3;revert h3;decide
    have n92:c≠92:=λz=>by rw[z]at h3;revert h3;decide
    have hT2:T=P++(91::([c]++93::S)):=hT
    have hTl:T.length=P.length+1+1+1+S.length:=oY hT2
    have at_:=oI hT2
    have b0:P.length<T.length:=by rw[hTl];exact lt_of_lt_of_le (lt_succ_self _) (by simp +arith only)
    have b1:P.length+1<T.length:=by rw[hTl];exact lt_of_lt_of_le (lt_succ_self _) (by simp +arith only)
    have b2:P.length+1+1<T.length:=by rw[hTl];exact lt_of_lt_of_le (lt_succ_self _) (by simp +arith only)
    have hw:∀{k:Nat} {i:Int},i=k->k<T.length->Bb i:=λe h=>iw e (Ao (le_of_lt h) (Ao hT6 (by decide)))
    have a0:K9 T ((P.length:Int)+1)=some c:=by have:=at_ 0 c rfl;rwa [Int.natCast_zero,Int.add_zero]at this
    refine Mz (lY rfl b0) ?_
    refine An (Ac rfl (Ac rfl (Oq (hw rfl b0) (Cl (by rw[hT];exact Co rfl)) (Ck (An (Ac rfl ((Ln (Ck (Ak (Ac rfl ((Nn ?_)))))))))))))
    refine Il (by decide) (Ak (Ac rfl (Nn (Il (by decide) (Ak (Ac rfl (Nn (Mz (by decide) (An (Ac rfl (Ck ?_)))))))))))
    refine A5 (λσ=>σ=⟨Fs T u v own.length (P.length+1)++[("c",.str [91]),("j",.int (P.length+1))],own++M::g,[]⟩) (λ_ _=>False) (λR r1 _=>?_) ?_ (λ_ _ h=>h.elim)
    ·exact Ac rfl (Ac rfl (Ot (Mz (lY (a:=P.length+1) rfl b1) (Ac rfl (Ac rfl (Oq (hw (k:=P.length+1) rfl b1) a0 (Nn (Il (Gm n33) (sF (r1 _ rfl))))))))))
    rintro σ rfl
    refine A5 (λσ=>σ=⟨Fs T u v own.length (P.length+1)++[("c",.str [91]),("j",.int (P.length+1))],own++M::g,[]⟩) (λ_ _=>False) (λR r1 _=>?_) ?_ (λ_ _ h=>h.elim)
    ·exact Ac rfl (Ac rfl (Ot (Mz (lY (a:=P.length+1) rfl b1) (Ac rfl (Ac rfl (Oq (hw (k:=P.length+1) rfl b1) a0 (Nn (Il (Gm n93) (sF (r1 _ rfl))))))))))
    rintro σ rfl
    refine A5 (λσ=>σ=⟨Fs T u v own.length (P.length+1)++[("c",.str [91]),("j",.int (P.length+1+1))],own++M::g,[]⟩) (λ_ _=>False) (λR r1 _=>?_) ?_ (λ_ _ h=>h.elim)
    ·refine⟨2,?_⟩
     refine E6 (λm σ=>∃k:Nat,k+m=1/\σ=⟨Fs T u v own.length (P.length+1)++[("c",.str [91]),("j",.int (P.length+1+k))],own++M::g,[]⟩) ?_ _ 1 _ (lt_succ_self _) ⟨0,rfl,by rw[Int.natCast_zero,Int.add_zero]⟩
     intro m σ RR2 hI hn2 _
     refine Ab hI λkk hk z0=>?_
     try clear hI
     subst z0
     match kk,hk with
     |0,hk=>
      refine Ac rfl (Ac rfl (Ot (Mz (lY (a:=P.length+1) (by rw[Int.natCast_zero,Int.add_zero];rfl) b1) ?_)))
      refine Ac rfl (Ac rfl (Oq (hw (k:=P.length+1) (by rw[Int.natCast_zero,Int.add_zero];rfl) b1) (at_ 0 c rfl) (R0 (Mz (by rw[show decide ([c]=cs "]")=false from Gm n93];rfl) (sT (Ak (Ac rfl (Ln (Ck (hn2 0 _ _ (by rw[zero_add]at hk;rw[hk];decide) (G9.refl _ _) ⟨1,rfl,rfl⟩))))))))))
     |1,hk=>
      refine Ac rfl (Ac rfl (Ot (Mz (lY (a:=P.length+1+1) rfl b2) ?_)))
      exact Ac rfl (Ac rfl (Oq (hw (k:=P.length+1+1) rfl b2) (at_ 1 93 rfl) (R0 (Il (by decide) (sF (r1 _ rfl))))))
     |kk+2,hk=>exfalso;simp +arith at hk
    rintro σ rfl
    refine Ak (Ac rfl (Ac rfl (nQ (Il (sZ (a:=P.length+1+1) rfl b2) ?_))))
    have hcut:cut T (some ((P.length:Int)+1)) (some ((P.length:Int)+1+1))=[c]:=by
     rw[hT2,append_cons]
     exact cO _ _ _ (by rw[Bu];rfl) (by rw[Bu];rfl)
    refine An (Ac rfl (Ac rfl ⟨_,rfl,Ac rfl ⟨_,rfl,M5 (Ao hT6 (by decide)) ?_⟩⟩))
    rw[hcut]
    refine Ck ?_
    refine A5 (λσ=>σ=⟨Fs T u v own.length (P.length+1)++[("c",.str [91]),("j",.int (P.length+1+1)),("stuff",.str [c])],own++M::g,[]⟩) (λ_ _=>False) (λR r1 _=>?_) ?_ (λ_ _ h=>h.elim)
    ·refine Ac rfl ?_
     rw[eJ,kR,decide_eq_false (by rw[K2];exact λz=>n45 z.symm)]
     refine sT (Ak (Ac rfl ⟨_,rfl,by show 1+(1+1)*(cs "\\\\").length<=16777216;decide,Ck (r1 _ ?_)⟩))
     rw[show Cz [c] (cs "\\") (cs "\\\\")=[c]from U0 _ _ 92 (by rw[K2];exact λz=>n92 z.symm)]
     rfl
    rintro σ rfl
    refine A5 (λσ=>∃g',σ=⟨Fs T u v own.length (P.length+1)++[("c",.str [91]),("j",.int (P.length+1+1)),("stuff",.str [c])],own++M::g',[]⟩) (λ_ _=>False) (λR r1 _=>?_) ?_ (λ_ _ h=>h.elim)
    ·refine Ac rfl ⟨_,rfl,Cr rfl,λps=>Ck (r1 _ ⟨g++[ps.map D.str],?_⟩)⟩
     have hsub:Da [c]=[c]:=(by decide:∀z∈cs "*?[",Da [z]=[z]) c (elem_iff.mp hb)
     refine(congrArg (λz=>St.mk (Fs T u v own.length (P.length+1)++[("c",.str [91]),("j",.int (P.length+1+1)),("stuff",.str z)]) ((own++M::g)++[ps.map D.str]) []) hsub).trans ?_
     exact congrArg (λo=>St.mk (Fs T u v own.length (P.length+1)++[("c",.str [91]),("j",.int (P.length+1+1)),("stuff",.str [c])]) o []) (C4 own (M::g) [ps.map D.str])
    intro σ Z
    refine Ad Z λg2 z1=>?_
    clear Z
    subst z1
    refine An (Ac rfl (Ln (Ck ?_)))
    refine Ak (Ac rfl ⟨lt_of_le_of_lt (Cr rfl:[c].length<=1) (by decide),sF (Ak (Ac rfl (Nn (Il (Gm n33) ?_))))⟩)
    refine A5 (λσ=>σ=⟨Fs T u v own.length (P.length+1+1+1)++[("c",.str [91]),("j",.int (P.length+1+1)),("stuff",.str (if c=94\/c=91 then[92,c]else[c]))],own++M::g2,[]⟩) (λ_ _=>False) (λR r1 _=>?_) ?_ (λ_ _ h=>h.elim)
    ·refine Ac rfl (Oq (iw (n:=0) rfl (by decide)) (Cl (j:=0) (x:=c) rfl) (Nn (Il (Gm n33) (Ak (Ac rfl (Oq (iw (n:=0) rfl (by decide)) (Cl (j:=0) (x:=c) rfl) ⟨by decide,pR (ys:=[cs "^",cs "["]) ?_⟩))))))
     rw[pU]
     refine W8 (λhc=>?_) λhc=>?_
     ·have hc:=of_decide_eq_true hc
      refine Ak (Ac rfl ⟨rfl,Cr rfl,Ck (r1 _ ?_)⟩)
      rw[Bc hc];rfl
     ·have hc:=of_decide_eq_false hc
      refine r1 _ ?_
      rw[Ay hc];rfl
    rintro σ rfl
    have htr:[]++cs "["++(if c=94\/c=91 then[92,c]else[c])++cs "]"=E5 c:=by
     rcases h3 with rfl|rfl|rfl<;>decide
    have hwl:(if c=94\/c=91 then[92,c]else[c]).length<=2:=L7 (λl:List Nat=>l.length<=2) (λ_=>Cr rfl) λ_=>Cr rfl
    have hwl2:(([]:List Nat)++cs "["++(if c=94\/c=91 then[92,c]else[c])).length<=3:=by rw[Bu];exact Nat.add_le_add_left hwl 1
    have hwl3:(([]:List Nat)++cs "["++(if c=94\/c=91 then[92,c]else[c])++cs "]").length<=4:=by rw[htr];exact S4 c
    refine Ak ⟨_,rfl,⟨_,rfl,by decide,Ac rfl ⟨_,rfl,Ao hwl (by decide),_,rfl,Ao hwl2 (by decide),⟨_,rfl,Ao hwl3 (by decide),Ao hwl3 (by decide),_,M,rfl,Co rfl,htl,fin _ [("c",.str [91]),("j",.int (P.length+1+1)),("stuff",.str (if c=94\/c=91 then[92,c]else[c]))] _ g2 rfl ?_⟩⟩⟩⟩
    show(own++M::g2).set own.length _=_
    rw[Dy,htr]
   ·have hpc:El c=[c]:=Ay hb
    rw[hpc]at hT fin
    have hlt:P.length<T.length:=by rw[hT,Bu];exact Nat.lt_add_of_pos_right (succ_pos _)
    refine Mz (decide_eq_true (Int.ofNat_lt.2 hlt)) ?_
    refine An (Ac rfl (Ac rfl (Oq (iw rfl (Ao (le_of_lt hlt) (Ao hT6 (by decide)))) (Cl (by rw[hT];exact Co rfl)) (Ck (An (Ac rfl ((Ln (Ck (Ak (Ac rfl ((Nn ?_)))))))))))))
    have hn3:c≠42/\c≠63/\c≠91:=⟨λz=>hb (by rw[z];decide),λz=>hb (by rw[z];decide),λz=>hb (by rw[z];decide)⟩
    refine Il (Gm hn3.1) (Ak (Ac rfl ((Nn (Il (Gm hn3.2.1) (Ak (Ac rfl ((Nn (Il (Gm hn3.2.2) ?_))))))))))
    refine Ak ⟨own.length,rfl,Ac rfl ⟨c,rfl,hc,hb,λown' hp=>?_⟩⟩
    refine Ad hp λj z2=>?_
    try clear hp
    subst z2
    refine⟨_,M,rfl,?_,htl,fin _ [("c",.str [c])] _ (g++j) ?_ ?_⟩
    ·exact Aj (Dg _ _) (Co rfl)
    ·rfl
    ·show((own++M::g)++j).set own.length _=_
     rw[C4,cons_append,Dy]
 ·intro σ Y
  refine Ad Y λg z3=>?_
  clear Y
  subst z3
  refine An (Ac rfl (Ac rfl (Qk ⟨beq_self_eq_true _,Ak (Ac rfl ?_)⟩)))
  exact q _ _ (Dg _ _) (Co rfl)
noncomputable def cM:DefRec:=Ec PySem.Challenge.pw_in0167_02 10
section
variable {α β γ δ:Type}{Γ:W}{K:Cj}{A:Around}{env:Env}{G G₀ G':Gh}{ι ι':List Addr}{σ:St}{s s':Shared}
theorem Se {ds:List D}{vs:List Value}{Q:D->St->Prop}(F:Aa Γ K env G ι σ s)(r:Rl G ι ds vs)(h:∃x,ds=[.str x,.raw (.type "str")]/\Q (.bool true) σ):
  wpAny (model Γ.prog Γ.w) A (call (.builtin "isinstance") vs) (As Γ K env VR G ι Q) (λ_ _=>False) s:=by
 refine Ab h λx e q=>?_
 subst e
 refine Ag r λv w e rv hw=>?_
 refine Ag hw λv2 w2 e2 rv2 hw2=>?_
 rw[Az hw2]at e2
 subst e2
 subst e
 refine Ad rv λt e=>?_
 subst e
 cases rv2
 exact PySem.IsiPair.str_str (Ts F q)
theorem fF (H:Ev Γ A env){e e':Expr}{p pos:Pos}{T:St->(List D->St->Prop)->Prop}(hk:env.kindOf (ofString "isinstance")=some .globalImplicit)(hn:Γ.mg (ofString "isinstance")=none)(hv:Γ.mb (ofString "isinstance")=some (.builtin "isinstance"))
  (h:H8 Γ A env pos [e,e'] T)(hs:starEach [e,e'] env=(false,eval e env)::starEach [e'] env)(hp:(backTo pos (starEach [e'] env)).any (·.1)=false):
  Bl Γ A env (.Call (.Name (ofString "isinstance") p) [e,e'] [] pos) (λσ Q=>T σ λds σ=>∃x,ds=[.str x,.raw (.type "str")]/\Q (.bool true) σ):=
 Iq H hk hn hv (by decide) (λF r q=>Se F r q) h hs hp
noncomputable def Yh (m:Addr) (d:D) (ds:List D) (σ:St) (Q:D->St->Prop):Prop:=∃c,d=.str [c]/\ds=[.raw (.ref m)]/\c∈cs "a*?[]()\\-!^"/\¬(cs "*?[").contains c=true/\Q (.str (E5 c)) σ
theorem Qc:∀c∈cs "a*?[]()\\-!^",¬(cs "*?[").contains c=true->c<128/\((c=97\/c=33)/\E5 c=[c]\/c∈cs "()]\\-^"/\E5 c=[92,c]):=by decide +kernel
theorem Rt {m:Addr}{f:Int->Option Value}(H:Ev Γ A env)(hmap:Γ.B.MapOf (PySem.intKind Γ.prog Γ.w) m f)(hm0:(m==sysModules)=false)(hf:∀c∈cs "()]\\-^",∃t,f (c:Nat)=some (.str ⟨#[92,c]⟩ t))(hf1:f (97:Nat)=none)(hf2:f (33:Nat)=none)
  {d:D}{v:Value}{ds:List D}{vs:List Value}{Q:D->St->Prop}(F:Aa Γ K env G ι σ s)(r:A7 G ι d v)(rl:Rl G ι ds vs)(h:Yh m d ds σ Q):wpAny (model Γ.prog Γ.w) A (call (.builtin "str.translate") (v::vs)) (As Γ K env VR G ι Q) (λ_ _=>False) s:=by
 refine Dn h λc e1 e2 hc hb q=>?_
 subst e1 e2
 refine Ad r λt e=>?_
 subst e
 refine Ag rl λv2 w2 e rv hw=>?_
 rw[Az hw]at e
 subst e
 cases rv
 have hmp:s.heap.MapOf (PySem.intKind Γ.prog Γ.w) m f:=by
  refine Ce hmap λo es ep ho r=>?_
  try clear hmap
  exact⟨o,es,ep,F.store.gin _ _ (F.store.base _ _ ho),r⟩
 have htc:=Qc c hc hb
 rcases htc.2 with⟨h1,h2⟩|⟨h1,h2⟩
 ·rw[h2]at q
  refine Up htc.1 H.handled hm0 hmp (h1.elim (λe=>by rw[e];exact hf1) λe=>by rw[e];exact hf2) λt' h' tk hk htk=>?_
  exact Ix (F.keepsTo hk tk (lt_of_lt_of_le F.tk htk)) rfl q
 ·rw[h2]at q
  refine Ad (hf c h1) λt2 hv=>?_
  refine Wn htc.1 rfl (by show 2<=sizeLine;decide) hmp hv λt' tk htk=>?_
  exact Ix (F.toks tk (lt_of_lt_of_le F.tk htk)) rfl q
theorem fC {m:Addr}{f:Int->Option Value}(H:Ev Γ A env)(hmap:Γ.B.MapOf (PySem.intKind Γ.prog Γ.w) m f)(hm0:(m==sysModules)=false)(hf:∀c∈cs "()]\\-^",∃t,f (c:Nat)=some (.str ⟨#[92,c]⟩ t))(hf1:f (97:Nat)=none)(hf2:f (33:Nat)=none)
  {o:Expr}{apos pos:Pos}{e:Expr}{T0:TT}{T:St->(List D->St->Prop)->Prop}(h0:Bl Γ A env o T0)(h:H8 Γ A env pos [e] T)(hs:starEach [e] env=(false,eval e env)::starEach [] env)
  (hbase:attributeBase o (ofString "translate") env (eval o env)=eval o env)
  (hfew:((backTo pos (starEach [e] env)).all (λx=> !x.1)&&(backToKw pos (keywordEach [] env)).all (λx=>x.1.isSome)&&decide ([e].length+([]:List Keyword).length+(if([]:List Keyword).isEmpty then 0 else 1)<30))=true)
  (hline:(apos.endLine==pos.line)=true):
  Bl Γ A env (.Call (.Attribute o (ofString "translate") apos) [e] [] pos) (λσ Q=>T0 σ λd σ=>O7 d σ/\T σ λds σ=>Yh m d ds σ Q):=
 Lq PySem.F.plainAttrs_str PySem.F.slot_str_translate PySem.F.type_str_translate (λF r h=>Oj F r h) (λF r rl h=>Rt H hmap hm0 hf hf1 hf2 F r rl h) h0 h hs rfl hbase hfew hline
end
theorem cE {Γ:W}(ok:Γ.Ok){A:Around}{a:Addr}{pm code doc:Value}(N:Fn Γ a (docDef cM.name cM.params cM.body cM.scope pm code doc) ["pattern"] cM.body)(hA:A9 1 A)
  {m:Addr}{f:Int->Option Value}(gm:Γ.mg (ofString "_special_chars_map")=some (.ref m))(hmap:Γ.B.MapOf (PySem.intKind Γ.prog Γ.w) m f)(hm0:(m==sysModules)=false)(hf:∀c∈cs "()]\\-^",∃t,f (c:Nat)=some (.str ⟨#[92,c]⟩ t))(hf1:f (97:Nat)=none)(hf2:f (33:Nat)=none)
  (is1:Γ.mg (ofString "isinstance")=none)(is2:Γ.mb (ofString "isinstance")=some (.builtin "isinstance"))(st1:Γ.mg (ofString "str")=none)(st2:Γ.mb (ofString "str")=some (.type "str")):Ap Γ A (.ref a) S10:=by
 refine'(Dl ok N rfl (by have:=hA.depth;exact Aq this) (λL=>?w)).imp ?p
 case w=>
  have H:=Hk ok N (hA.deeper (callEnvC (docDef cM.name cM.params cM.body cM.scope pm code doc) L a)) L
  refine' Av (Sy (Zw (fF H rfl is1 is2 (A0 (Bi H (by decide) (by decide)) (A0 (Fb H rfl st1 st2 (by decide)) Br rfl) rfl) rfl rfl) rfl) (Av (Dx (fC H hmap hm0 hf hf1 hf2 (Bi H (by decide) (by decide)) (A0 (Lu H rfl gm (by decide)) Br rfl) rfl rfl rfl rfl)) Dr) dH) Dr
 case p=>
  intro ds own Q h
  refine Do h λc e hc hb q=>?_
  subst e
  refine⟨rfl,?_⟩
  refine Ak (Ac rfl ⟨[c],rfl,Ik (sT (Ak (Ac rfl ⟨⟨_,rfl⟩,c,rfl,rfl,hc,hb,q _ (prefix_refl _)⟩)))⟩)
noncomputable abbrev Jl:=PySem.Challenge.pw_in0167_02
noncomputable def Er:List (Addr×Addr):=[(82,78),(96,92),(124,120),(134,132)]
noncomputable def Y6 (o:Obj):Obj:=⟨o.cls,o.dict,.freed,o.slots⟩
noncomputable def B1 (h:Heap):Heap:=(((h.update 78 Y6).update 92 Y6).update 120 Y6).update 132 Y6
theorem Oh (h:Heap)(t a:Addr):(h.update t Y6).get? a=if a=t then none else h.get? a:=by
 obtain⟨objs,l⟩:=h
 unfold Heap.update Heap.get?
 dsimp only
 by_cases e:a=t
 ·subst e
  rw[Bc rfl,Array.getElem?_modify,Bc rfl]
  cases objs[a]? with
  |none=>rfl
  |some o=>rfl
 ·rw[Ay e,Array.getElem?_modify,Ay λx=>e x.symm]
theorem Kk (h:Heap)(a:Addr):(B1 h).get? a=if a=132 then none else if a=120 then none else if a=92 then none else if a=78 then none else h.get? a:=by
 unfold B1
 rw[Oh,Oh,Oh,Oh]
theorem Cy {h₀:Heap}{a:Addr}(h:a∉Er.map (·.2)):(B1 h₀).get? a=h₀.get? a:=by
 have h:a∉[78,92,120,132]:=h
 simp only[E1,not_mem_nil,or_false,not_or]at h
 rw[Kk,Ay h.2.2.2,Ay h.2.2.1,Ay h.2.1,Ay h.1]
theorem mT {h:Heap}{a:Addr}{o:Obj}(e:(B1 h).get? a=some o):h.get? a=some o:=by
 rw[Kk]at e
 split at e
 ·cases e
 ·split at e
  ·cases e
  ·split at e
   ·cases e
   ·split at e
    ·cases e
    ·exact e
noncomputable def Pj (P:Addr) (pos:Pos) (G:Gh) (c:Value):Prop:=(P=92->pos.line=152/\pos.col=4/\Oe G c)/\(P=120->Bd G c bC)/\(P=132->Bd G c U5)/\(P=78->pos.line=106->Bd G c U6)
theorem Pi (P:Addr)(pos:Pos)(G G':Gh)(c:Value)(l:G.le G')(h:Pj P pos G c):Pj P pos G' c:=
 ⟨λe=>(by refine At (h.1 e) λa b d=>?_;exact⟨a,b,d.mono l⟩),λe=>(h.2.1 e).mono l,λe=>(h.2.2.1 e).mono l,λe e2=>(h.2.2.2 e e2).mono l⟩
structure Bh (w:World)(s s₁:Shared):Prop where
 T:Top q1 (looseW q1 L3) (ExcName.means s.heap) (s.heap.nsMap mainGlobals) (s.heap.nsMap builtinsNs) s₁.heap
 y:W6 s=Y5
 k:∀b o,s.heap.get? b=some o->s₁.heap.get? b=some o
noncomputable def G1 (w:World) (s s₁:Shared):W:={prog:=Jl,w:=w,B:=B1 s₁.heap,mg:=s.heap.nsMap mainGlobals,mb:=s.heap.nsMap builtinsNs,tabs:=Er,codeOk:=Pj}
section
variable {w:World}{s s₁:Shared}
theorem Bh.name (X:Bh w s s₁){x:Str}{v:Value}(h:(x,v)∈L0):(G1 w s s₁).mg x=some v:=by
 have e:=congrArg (λx=>x.2.1) X.y
 exact List.map_inj_left.mp (show L0.map (λp=>s.heap.nsMap mainGlobals p.1)=L0.map (λp=>some p.2)from e) (x,v) h
theorem Bh.bare (X:Bh w s s₁){x:Str}(h:x∈Rf):(G1 w s s₁).mg x=none:=by
 have e:=congrArg (λx=>x.2.2.1) X.y
 exact List.map_inj_left.mp (show Rf.map (λx=>s.heap.nsMap mainGlobals x)=Rf.map (λ_=>none)from e) x h
theorem Bh.obj (X:Bh w s s₁){a:Nat}{o:Obj}(h:(a,o)∈Nv):s₁.heap.get? a=some o:=by
 have e:=congrArg (λx=>x.2.2.2.2.2.2.1) X.y
 exact X.k _ _ (List.map_inj_left.mp (show Nv.map (λp=>s.heap.get? p.1)=Nv.map (λp=>some p.2)from e) (a,o) h)
theorem Bh.fn (X:Bh w s s₁){r:Ca}(h:r∈Cb):W5 s.heap r=Y1 r:=by
 have e:=congrArg (λx=>x.2.2.2.1) X.y
 exact List.map_inj_left.mp (show Cb.map (W5 s.heap)=Cb.map Y1 from e) r h
theorem Bh.fobj (X:Bh w s s₁){r:Ca}(h:r∈Cb)(hq:r.a∉Er.map (·.2)):∃o,(B1 s₁.heap).get? r.a=some o/\o.data=.func r.fd:=by
 have e:(s.heap.get? r.a).map (·.data)=some (.func r.fd):=congrArg Prod.fst (X.fn h)
 refine Ab (Option.map_eq_some_iff.mp e) λo ho hd=>?_
 exact⟨o,by rw[Cy hq];exact X.k _ _ ho,hd⟩
theorem Bh.fcode (X:Bh w s s₁){r:Ca}(h:r∈Cb)(hq:r.c∉Er.map (·.2)):(B1 s₁.heap).CodeRec (.ref r.c) (Ec Jl r.i).name:=by
 have e:(s.heap.get? r.c).map (λo=>match o.data with| .fields vs=>vs[1]? |_=>none)=some (some (.str (Ec Jl r.i).name r.qt)):=congrArg Prod.snd (X.fn h)
 refine Ab (Option.map_eq_some_iff.mp e) λo ho hd=>?_
 cases hdat:o.data with
 |fields vs=>
  rw[hdat]at hd
  exact⟨r.c,o,vs,r.qt,rfl,by rw[Cy hq];exact X.k _ _ ho,hdat,hd⟩
 |_=>rw[hdat]at hd;cases hd
theorem Bh.ns (X:Bh w s s₁){a:Addr}{m:Str->Option Value}(h:s₁.heap.Ns a m)(hq:a∉Er.map (·.2)):(B1 s₁.heap).Ns a m:=
 by refine Ce h λo es ep ho r=>?_;try clear h;exact⟨o,es,ep,by rw[Cy hq];exact ho,r⟩
theorem Ar {α:Type}{l:List α}{x:α}(i:Nat)(h:l[i]? =some x):x∈l:=List.mem_of_getElem? h
theorem Bh.ok (X:Bh w s s₁):(G1 w s s₁).Ok where
 g:=X.ns X.T.g (by decide)
 b:=X.ns X.T.b (by decide)
 nolimit:=by refine Ab X.T.nolimit λmc h e=>?_;exact⟨mc,X.ns h (by decide),e⟩
 bm:=⟨4,{cls:=.type "module",dict:=some builtinsNs},X.name (Ar 21 rfl),by decide,by decide,by show(B1 s₁.heap).get? 4=_;rw[Cy (by decide)];exact X.obj (Ar 0 rfl),rfl,rfl,rfl⟩
 tinj:=by show∀p∈Er,∀q∈Er,p.2=q.2->p=q;decide
 codeMono:=Pi
theorem Dp {Γ:W}{fd:FuncData}{ps:List String}{vs:List Value}(h:bindArgs fd ⟨vs,[]⟩=pure ((ps.map ofString).zip vs)):∀(M:Model) (A:Around) (Q:List (Str×Value)->Shared->Prop) (E:Value->Shared->Prop) (s:Shared),(∀b o,Γ.B.get? b=some o->s.heap.get? b=some o)->Q ((ps.map ofString).zip vs) s->wpAny M A (bindArgs fd ⟨vs,[]⟩) Q E s:=
 λ_ _ _ _ _ _ q=>wpAny_of_eq h q
theorem Vb {l:List (Str×NameKind)}(h:(l.all λp=>p.2 != .free)=true)(x:Str):l.lookup x≠some .free:=λe=>by
 have:=all_eq_true.mp h _ (mem_of_lookup e)
 simp at this
theorem Fy (X:Bh w s s₁){r:Ca}{ps:List String}{body:List Stmt}(h:r∈Cb)(h1:r.a∉Er.map (·.2))(h2:r.c∉Er.map (·.2))(hb:r.fd.body=.stmts body)(hc:r.fd.closure=[])(hg:r.fd.globals=mainGlobals)(hbi:r.fd.builtins=builtinsNs)
  (bind:∀vs:List Value,vs.length=ps.length->∀(M:Model) (A:Around) (Q:List (Str×Value)->Shared->Prop) (E:Value->Shared->Prop) (s':Shared),(∀b o,(G1 w s s₁).B.get? b=some o->s'.heap.get? b=some o)->Q ((ps.map ofString).zip vs) s'->wpAny M A (bindArgs r.fd ⟨vs,[]⟩) Q E s')
  (kinds:∀p∈ps,r.fd.scope.names.lookup (ofString p)=some .local\/(r.fd.scope.names.lookup (ofString p)=some .cell/\∀n,((cellsFrom n r.fd.scope.names []).lookup (ofString p)).isSome=true))(nd:ps.Nodup)(nf:(r.fd.scope.names.all λp=>p.2 != .free)=true)(kd:r.fd.scope.kind=.function)(co:r.fd.scope.isCoroutine=false):Fn (G1 w s s₁) r.a r.fd ps body:=
 ⟨X.fobj h h1,X.fcode h h2,hb,hc,hg,hbi,bind,kinds,nd,Vb nf,kd,co⟩
noncomputable def rK:Ca:=Cb.getD 0 ⟨0,0,0,"",0,.none,0⟩
theorem n2 (X:Bh w s s₁):Fn (G1 w s s₁) 38 rK.fd ["addr"] (Ec Jl 2).body:=Fy X (r:=rK) (ps:=["addr"]) (Ar 0 rfl) (by decide) (by decide) rfl rfl rfl rfl (Gz λx0=>Dp (by kernel_rfl)) (E3.mpr ⟨.inl (by kernel_rfl),forall_mem_nil _⟩) (by decide) (by kernel_rfl) (by kernel_rfl) (by kernel_rfl)
theorem m2 (X:Bh w s s₁):(G1 w s s₁).mg (ofString "_iter_escaped_chars")=some (.ref 38):=X.name (Ar 0 rfl)
noncomputable def rJ:Ca:=Cb.getD 1 ⟨0,0,0,"",0,.none,0⟩
theorem n3 (X:Bh w s s₁):Fn (G1 w s s₁) 45 rJ.fd ["addr"] (Ec Jl 3).body:=Fy X (r:=rJ) (ps:=["addr"]) (Ar 1 rfl) (by decide) (by decide) rfl rfl rfl rfl (Gz λx0=>Dp (by kernel_rfl)) (E3.mpr ⟨.inl (by kernel_rfl),forall_mem_nil _⟩) (by decide) (by kernel_rfl) (by kernel_rfl) (by kernel_rfl)
theorem m3 (X:Bh w s s₁):(G1 w s s₁).mg (ofString "_strip_quoted_realnames")=some (.ref 45):=X.name (Ar 1 rfl)
noncomputable def rI:Ca:=Cb.getD 2 ⟨0,0,0,"",0,.none,0⟩
theorem n4 (X:Bh w s s₁):Fn (G1 w s s₁) 52 rI.fd ["addr"] (Ec Jl 4).body:=Fy X (r:=rI) (ps:=["addr"]) (Ar 2 rfl) (by decide) (by decide) rfl rfl rfl rfl (Gz λx0=>Dp (by kernel_rfl)) (E3.mpr ⟨.inl (by kernel_rfl),forall_mem_nil _⟩) (by decide) (by kernel_rfl) (by kernel_rfl) (by kernel_rfl)
theorem m4 (X:Bh w s s₁):(G1 w s s₁).mg (ofString "_check_parenthesis")=some (.ref 52):=X.name (Ar 2 rfl)
noncomputable def rH:Ca:=Cb.getD 3 ⟨0,0,0,"",0,.none,0⟩
theorem n7 (X:Bh w s s₁):Fn (G1 w s s₁) 64 rH.fd ["pat"] (Ec Jl 7).body:=Fy X (r:=rH) (ps:=["pat"]) (Ar 3 rfl) (by decide) (by decide) rfl rfl rfl rfl (Gz λx0=>Dp (by kernel_rfl)) (E3.mpr ⟨.inl (by kernel_rfl),forall_mem_nil _⟩) (by decide) (by kernel_rfl) (by kernel_rfl) (by kernel_rfl)
theorem m7 (X:Bh w s s₁):(G1 w s s₁).mg (ofString "translate")=some (.ref 64):=X.name (Ar 3 rfl)
noncomputable def lK:Ca:=Cb.getD 4 ⟨0,0,0,"",0,.none,0⟩
theorem qZ (X:Bh w s s₁):Fn (G1 w s s₁) 76 lK.fd ["pattern"] (Ec Jl 10).body:=Fy X (r:=lK) (ps:=["pattern"]) (Ar 4 rfl) (by decide) (by decide) rfl rfl rfl rfl (Gz λx0=>Dp (by kernel_rfl)) (E3.mpr ⟨.inl (by kernel_rfl),forall_mem_nil _⟩) (by decide) (by kernel_rfl) (by kernel_rfl) (by kernel_rfl)
theorem sR (X:Bh w s s₁):(G1 w s s₁).mg (ofString "escape")=some (.ref 76):=X.name (Ar 4 rfl)
noncomputable def lJ:Ca:=Cb.getD 5 ⟨0,0,0,"",0,.none,0⟩
theorem qY (X:Bh w s s₁):Fn (G1 w s s₁) 83 lJ.fd ["pat","STAR","QUESTION_MARK"] (Ec Jl 12).body:=Fy X (r:=lJ) (ps:=["pat","STAR","QUESTION_MARK"]) (Ar 5 rfl) (by decide) (by decide) rfl rfl rfl rfl (Zt λx0 x1 x2=>Dp (by kernel_rfl)) (E3.mpr ⟨.inl (by kernel_rfl),E3.mpr ⟨.inl (by kernel_rfl),E3.mpr ⟨.inl (by kernel_rfl),forall_mem_nil _⟩⟩⟩) (by decide) (by kernel_rfl) (by kernel_rfl) (by kernel_rfl)
theorem sQ (X:Bh w s s₁):(G1 w s s₁).mg (ofString "_translate")=some (.ref 83):=X.name (Ar 5 rfl)
noncomputable def lI:Ca:=Cb.getD 6 ⟨0,0,0,"",0,.none,0⟩
theorem qX (X:Bh w s s₁):Fn (G1 w s s₁) 90 lI.fd ["inp","STAR"] (Ec Jl 13).body:=Fy X (r:=lI) (ps:=["inp","STAR"]) (Ar 6 rfl) (by decide) (by decide) rfl rfl rfl rfl (Mn λx0 x1=>Dp (by kernel_rfl)) (E3.mpr ⟨.inl (by kernel_rfl),E3.mpr ⟨.inl (by kernel_rfl),forall_mem_nil _⟩⟩) (by decide) (by kernel_rfl) (by kernel_rfl) (by kernel_rfl)
theorem sP (X:Bh w s s₁):(G1 w s s₁).mg (ofString "_join_translated_parts")=some (.ref 90):=X.name (Ar 6 rfl)
noncomputable def lH:Ca:=Cb.getD 7 ⟨0,0,0,"",0,.none,0⟩
theorem qW (X:Bh w s s₁):Fn (G1 w s s₁) 97 lH.fd ["mycmp"] (Ec Jl 15).body:=Fy X (r:=lH) (ps:=["mycmp"]) (Ar 7 rfl) (by decide) (by decide) rfl rfl rfl rfl (Gz λx0=>Dp (by kernel_rfl)) (E3.mpr ⟨.inr ⟨by kernel_rfl,λn=>by kernel_rfl⟩,forall_mem_nil _⟩) (by decide) (by kernel_rfl) (by kernel_rfl) (by kernel_rfl)
theorem sO (X:Bh w s s₁):(G1 w s s₁).mg (ofString "cmp_to_key")=some (.ref 97):=X.name (Ar 7 rfl)
noncomputable def lG:Ca:=Cb.getD 8 ⟨0,0,0,"",0,.none,0⟩
theorem qV (X:Bh w s s₁):Fn (G1 w s s₁) 106 lG.fd ["function","sequence","initial"] (Ec Jl 17).body:=Fy X (r:=lG) (ps:=["function","sequence","initial"]) (Ar 8 rfl) (by decide) (by decide) rfl rfl rfl rfl (Zt λx0 x1 x2 M A Q E s' hB q=>by
  have h99:s'.heap.get? 99=some {cls:=.type "tuple",data:=.seq #[.ref 98]}:=hB _ _ (by show(B1 s₁.heap).get? 99=_;rw[Cy (by decide)];exact X.obj (Ar 8 rfl))
  refine Ai (wpAny_of_eq forIn_nil ?_)
  refine Ai (m:=seqItems? (.ref 99)) (Ai (wpAny_load' h99 (Be ?_)))
  exact wpAny_of_eq (by kernel_rfl) q) (E3.mpr ⟨.inl (by kernel_rfl),E3.mpr ⟨.inl (by kernel_rfl),E3.mpr ⟨.inl (by kernel_rfl),forall_mem_nil _⟩⟩⟩) (by decide) (by kernel_rfl) (by kernel_rfl) (by kernel_rfl)
theorem sN (X:Bh w s s₁):(G1 w s s₁).mg (ofString "reduce")=some (.ref 106):=X.name (Ar 8 rfl)
noncomputable def lF:Ca:=Cb.getD 9 ⟨0,0,0,"",0,.none,0⟩
theorem qU (X:Bh w s s₁):Fn (G1 w s s₁) 113 lF.fd ["n"] (Ec Jl 19).body:=Fy X (r:=lF) (ps:=["n"]) (Ar 9 rfl) (by decide) (by decide) rfl rfl rfl rfl (Gz λx0=>Dp (by kernel_rfl)) (E3.mpr ⟨.inl (by kernel_rfl),forall_mem_nil _⟩) (by decide) (by kernel_rfl) (by kernel_rfl) (by kernel_rfl)
theorem sM (X:Bh w s s₁):(G1 w s s₁).mg (ofString "_law_name")=some (.ref 113):=X.name (Ar 9 rfl)
noncomputable def lE:Ca:=Cb.getD 10 ⟨0,0,0,"",0,.none,0⟩
theorem qT (X:Bh w s s₁):Fn (G1 w s s₁) 118 lE.fd ["names","parents","places"] (Ec Jl 20).body:=Fy X (r:=lE) (ps:=["names","parents","places"]) (Ar 10 rfl) (by decide) (by decide) rfl rfl rfl rfl (Zt λx0 x1 x2=>Dp (by kernel_rfl)) (E3.mpr ⟨.inl (by kernel_rfl),E3.mpr ⟨.inl (by kernel_rfl),E3.mpr ⟨.inl (by kernel_rfl),forall_mem_nil _⟩⟩⟩) (by decide) (by kernel_rfl) (by kernel_rfl) (by kernel_rfl)
theorem sL (X:Bh w s s₁):(G1 w s s₁).mg (ofString "_law_tree")=some (.ref 118):=X.name (Ar 10 rfl)
noncomputable def lD:Ca:=Cb.getD 11 ⟨0,0,0,"",0,.none,0⟩
theorem qS (X:Bh w s s₁):Fn (G1 w s s₁) 125 lD.fd ["way"] (Ec Jl 21).body:=Fy X (r:=lD) (ps:=["way"]) (Ar 11 rfl) (by decide) (by decide) rfl rfl rfl rfl (Gz λx0=>Dp (by kernel_rfl)) (E3.mpr ⟨.inr ⟨by kernel_rfl,λn=>by kernel_rfl⟩,forall_mem_nil _⟩) (by decide) (by kernel_rfl) (by kernel_rfl) (by kernel_rfl)
theorem sK (X:Bh w s s₁):(G1 w s s₁).mg (ofString "_law_turn")=some (.ref 125):=X.name (Ar 11 rfl)
noncomputable def lC:Ca:=Cb.getD 12 ⟨0,0,0,"",0,.none,0⟩
theorem qR (X:Bh w s s₁):Fn (G1 w s s₁) 130 lC.fd ["node","turn"] (Ec Jl 22).body:=Fy X (r:=lC) (ps:=["node","turn"]) (Ar 12 rfl) (by decide) (by decide) rfl rfl rfl rfl (Mn λx0 x1=>Dp (by kernel_rfl)) (E3.mpr ⟨.inl (by kernel_rfl),E3.mpr ⟨.inr ⟨by kernel_rfl,λn=>by kernel_rfl⟩,forall_mem_nil _⟩⟩) (by decide) (by kernel_rfl) (by kernel_rfl) (by kernel_rfl)
theorem rD (X:Bh w s s₁):(G1 w s s₁).mg (ofString "_law_written")=some (.ref 130):=X.name (Ar 12 rfl)
noncomputable def lB:Ca:=Cb.getD 13 ⟨0,0,0,"",0,.none,0⟩
theorem qQ (X:Bh w s s₁):Fn (G1 w s s₁) 135 lB.fd ["node","way"] (Ec Jl 23).body:=Fy X (r:=lB) (ps:=["node","way"]) (Ar 13 rfl) (by decide) (by decide) rfl rfl rfl rfl (Mn λx0 x1=>Dp (by kernel_rfl)) (E3.mpr ⟨.inl (by kernel_rfl),E3.mpr ⟨.inr ⟨by kernel_rfl,λn=>by kernel_rfl⟩,forall_mem_nil _⟩⟩) (by decide) (by kernel_rfl) (by kernel_rfl) (by kernel_rfl)
theorem rC (X:Bh w s s₁):(G1 w s s₁).mg (ofString "_law_told")=some (.ref 135):=X.name (Ar 13 rfl)
noncomputable def lA:Ca:=Cb.getD 14 ⟨0,0,0,"",0,.none,0⟩
theorem qP (X:Bh w s s₁):Fn (G1 w s s₁) 142 lA.fd ["stack","pair"] (Ec Jl 24).body:=Fy X (r:=lA) (ps:=["stack","pair"]) (Ar 14 rfl) (by decide) (by decide) rfl rfl rfl rfl (Mn λx0 x1=>Dp (by kernel_rfl)) (E3.mpr ⟨.inl (by kernel_rfl),E3.mpr ⟨.inl (by kernel_rfl),forall_mem_nil _⟩⟩) (by decide) (by kernel_rfl) (by kernel_rfl) (by kernel_rfl)
theorem sJ (X:Bh w s s₁):(G1 w s s₁).mg (ofString "_law_read")=some (.ref 142):=X.name (Ar 14 rfl)
noncomputable def kZ:Ca:=Cb.getD 15 ⟨0,0,0,"",0,.none,0⟩
theorem qO (X:Bh w s s₁):Fn (G1 w s s₁) 147 kZ.fd ["pairs","text"] (Ec Jl 25).body:=Fy X (r:=kZ) (ps:=["pairs","text"]) (Ar 15 rfl) (by decide) (by decide) rfl rfl rfl rfl (Mn λx0 x1=>Dp (by kernel_rfl)) (E3.mpr ⟨.inl (by kernel_rfl),E3.mpr ⟨.inl (by kernel_rfl),forall_mem_nil _⟩⟩) (by decide) (by kernel_rfl) (by kernel_rfl) (by kernel_rfl)
theorem sI (X:Bh w s s₁):(G1 w s s₁).mg (ofString "_law_whole")=some (.ref 147):=X.name (Ar 15 rfl)
noncomputable def kY:Ca:=Cb.getD 16 ⟨0,0,0,"",0,.none,0⟩
theorem qN (X:Bh w s s₁):Fn (G1 w s s₁) 152 kY.fd ["one","two"] (Ec Jl 26).body:=Fy X (r:=kY) (ps:=["one","two"]) (Ar 16 rfl) (by decide) (by decide) rfl rfl rfl rfl (Mn λx0 x1=>Dp (by kernel_rfl)) (E3.mpr ⟨.inl (by kernel_rfl),E3.mpr ⟨.inl (by kernel_rfl),forall_mem_nil _⟩⟩) (by decide) (by kernel_rfl) (by kernel_rfl) (by kernel_rfl)
theorem rB (X:Bh w s s₁):(G1 w s s₁).mg (ofString "_law_alike")=some (.ref 152):=X.name (Ar 16 rfl)
noncomputable def kX:Ca:=Cb.getD 17 ⟨0,0,0,"",0,.none,0⟩
theorem sG (X:Bh w s s₁):Fn (G1 w s s₁) 157 kX.fd ["script"] (Ec Jl 27).body:=Fy X (r:=kX) (ps:=["script"]) (Ar 17 rfl) (by decide) (by decide) rfl rfl rfl rfl (Gz λx0=>Dp (by kernel_rfl)) (E3.mpr ⟨.inl (by kernel_rfl),forall_mem_nil _⟩) (by decide) (by kernel_rfl) (by kernel_rfl) (by kernel_rfl)
theorem sH (X:Bh w s s₁):(G1 w s s₁).mg (ofString "law")=some (.ref 157):=X.name (Ar 17 rfl)
end
section
variable {w:World}{s s₁:Shared}
theorem Bh.bi (X:Bh w s s₁){x:Str}{v:Value}(h:x≠"__name__")(e:bootBuiltins x=some v):(G1 w s s₁).mb x=some v:=(X.T.builtins x h).trans e
theorem Bh.len2 (X:Bh w s s₁):(G1 w s s₁).mb (ofString "len")=some (.builtin "len"):=X.bi (by decide) (by kernel_rfl)
theorem Bh.ran2 (X:Bh w s s₁):(G1 w s s₁).mb (ofString "range")=some (.type "range"):=X.bi (by decide) (by kernel_rfl)
theorem Bh.li2 (X:Bh w s s₁):(G1 w s s₁).mb (ofString "list")=some (.type "list"):=X.bi (by decide) (by kernel_rfl)
theorem Bh.so2 (X:Bh w s s₁):(G1 w s s₁).mb (ofString "sorted")=some (.builtin "sorted"):=X.bi (by decide) (by kernel_rfl)
theorem Bh.it2 (X:Bh w s s₁):(G1 w s s₁).mb (ofString "iter")=some (.builtin "iter"):=X.bi (by decide) (by kernel_rfl)
theorem Bh.en2 (X:Bh w s s₁):(G1 w s s₁).mb (ofString "enumerate")=some (.type "enumerate"):=X.bi (by decide) (by kernel_rfl)
theorem Bh.ob2 (X:Bh w s s₁):(G1 w s s₁).mb (ofString "object")=some (.type "object"):=X.bi (by decide) (by kernel_rfl)
theorem Bh.is2 (X:Bh w s s₁):(G1 w s s₁).mb (ofString "isinstance")=some (.builtin "isinstance"):=X.bi (by decide) (by kernel_rfl)
theorem Bh.st2 (X:Bh w s s₁):(G1 w s s₁).mb (ofString "str")=some (.type "str"):=X.bi (by decide) (by kernel_rfl)
theorem Bh.mx2 (X:Bh w s s₁):(G1 w s s₁).mb (ofString "max")=some (.builtin "max"):=X.bi (by decide) (by kernel_rfl)
theorem Bh.su2 (X:Bh w s s₁):(G1 w s s₁).mb (ofString "sum")=some (.builtin "sum"):=X.bi (by decide) (by kernel_rfl)
theorem Bh.len1 (X:Bh w s s₁):(G1 w s s₁).mg (ofString "len")=none:=X.bare (Ar 0 rfl)
theorem Bh.ran1 (X:Bh w s s₁):(G1 w s s₁).mg (ofString "range")=none:=X.bare (Ar 1 rfl)
theorem Bh.li1 (X:Bh w s s₁):(G1 w s s₁).mg (ofString "list")=none:=X.bare (Ar 2 rfl)
theorem Bh.so1 (X:Bh w s s₁):(G1 w s s₁).mg (ofString "sorted")=none:=X.bare (Ar 3 rfl)
theorem Bh.it1 (X:Bh w s s₁):(G1 w s s₁).mg (ofString "iter")=none:=X.bare (Ar 4 rfl)
theorem Bh.en1 (X:Bh w s s₁):(G1 w s s₁).mg (ofString "enumerate")=none:=X.bare (Ar 5 rfl)
theorem Bh.ob1 (X:Bh w s s₁):(G1 w s s₁).mg (ofString "object")=none:=X.bare (Ar 6 rfl)
theorem Bh.is1 (X:Bh w s s₁):(G1 w s s₁).mg (ofString "isinstance")=none:=X.bare (Ar 7 rfl)
theorem Bh.st1 (X:Bh w s s₁):(G1 w s s₁).mg (ofString "str")=none:=X.bare (Ar 8 rfl)
theorem Bh.mx1 (X:Bh w s s₁):(G1 w s s₁).mg (ofString "max")=none:=X.bare (Ar 9 rfl)
theorem Bh.su1 (X:Bh w s s₁):(G1 w s s₁).mg (ofString "sum")=none:=X.bare (Ar 10 rfl)
variable {A:Around}
theorem Bh.off (X:Bh w s s₁){a:Nat}{o:Obj}(h:(a,o)∈Nv)(hq:a∉Er.map (·.2)):(G1 w s s₁).B.get? a=some o:=(Cy hq).trans (X.obj h)
theorem Bh.sm (X:Bh w s s₁):∃o,(G1 w s s₁).B.get? sysModules=some o:=by
 have e:(s.heap.get? 1).isSome=true:=congrArg (λx=>x.2.2.2.2.2.2.2) X.y
 exact Ad (Option.isSome_iff_exists.mp e) λo h=>⟨o,(Cy (by decide)).trans (X.k _ _ h)⟩
theorem tK (X:Bh w s s₁)(hA:A9 1 A):Ap (G1 w s s₁) A (.ref 113) nB:=lT X.ok (qU X) hA
theorem tJ (X:Bh w s s₁)(hA:A9 1 A):Ap (G1 w s s₁) A (.ref 118) mP:=lP X.ok (qT X) hA
theorem tI (X:Bh w s s₁)(hA:A9 1 A):Ap (G1 w s s₁) A (.ref 125) (mO (G1 w s s₁)):=lO X.ok (qS X) hA X.len1 X.len2 (P:=120) (cc:=124) rfl (Ar 2 rfl) (λG cv pos e h=>⟨λe=>absurd e (by decide),λ_=>h,λe=>absurd e (by decide),λe=>absurd e (by decide)⟩) (λG cv pos e h=>h.2.1 rfl)
theorem tF (X:Bh w s s₁)(hA:A9 1 A):Ap (G1 w s s₁) A (.ref 147) mM:=gQ X.ok (qO X) hA X.len1 X.len2
theorem tE (X:Bh w s s₁)(hA:A9 7 A):Ap (G1 w s s₁) A (.ref 152) dB:=λG ι own s' ds vs Q S r t h=>Ab h λn hn h=>gV X.ok (qN X) X.li1 X.li2 X.len1 X.len2 X.ran1 X.ran2 (rB X) n A (hA.le (succ_le_succ hn)) G ι own s' ds vs Q S r t h
theorem tL (X:Bh w s s₁)(hA:A9 2 A):Ap (G1 w s s₁) A (.ref 106) (mQ 142):=
 cD X.ok (qV X) hA (qP X).obj (λenv=>gT X.ok (qP X) (hA.deeper env)) (X.name (Ar 19 rfl)) ⟨_,X.off (Ar 7 rfl) (by decide)⟩ X.it1 X.it2
theorem e11 (X:Bh w s s₁):Jj (G1 w s s₁) 38 (docDef (Ec Jl 2).name (Ec Jl 2).params (Ec Jl 2).body (Ec Jl 2).scope (.str (ofString "cpy313.email.utils") 282) (.ref 37) .none) where
 fn:=⟨λn=>[⟨0,0,0,0⟩,_,_,_,_,_,_,_,_,_,_,_,_,_,_,_,_,_,_,_,_,_,_,_,_,_,_,_,_,_,_,_,_,_,_,_,_,_,_,_,_,_,_,_,_].getD n ⟨0,0,0,0⟩,n2 X⟩
 gen:=by kernel_rfl
 gf:=λL=>⟨by kernel_rfl,by kernel_rfl,by kernel_rfl,by kernel_rfl,by kernel_rfl,by kernel_rfl⟩
 kn:=λL=>by kernel_rfl
 hn:=X.en1
 hv:=X.en2
theorem c3 (X:Bh w s s₁)(hA:A9 2 A):Ap (G1 w s s₁) A (.ref 45) pX:=gS X.ok (n3 X) hA (e11 X) (m2 X) X.len1 X.len2
theorem c4 (X:Bh w s s₁)(hA:A9 3 A):Ap (G1 w s s₁) A (.ref 52) mR:=gU X.ok (n4 X) hA (e11 X) (m2 X) (m3 X) (n3 X).obj (λenv=>c3 X (hA.deeper env))
theorem tO (X:Bh w s s₁)(hA:A9 1 A):Ap (G1 w s s₁) A (.ref 90) S9:=lU X.ok (qX X) hA X.len1 X.len2
theorem bM:KeysOf (PySem.intKind Jl w) Yg:=by
 have:(Yg.toList.all λe=>match e.key with| .int k _=>e.hash==hashInt k|_=>false)=true:=by kernel_rfl
 intro e he
 have h:=all_eq_true.mp this e (Array.mem_toList_iff.mpr he)
 cases hk:e.key with
 |int k t=>rw[hk]at h;exact⟨k,by show Value.isInt k (.int k t)=true;exact beq_self_eq_true k,eq_of_beq h⟩
 |_=>rw[hk]at h;cases h
theorem tQ (X:Bh w s s₁)(hA:A9 1 A):Ap (G1 w s s₁) A (.ref 76) S10:=
 cE X.ok (qZ X) hA (m:=66) (f:=λk=>findBy Value.isInt Yg k) (X.name (Ar 20 rfl)) ⟨_,Yg,24,X.off (Ar 13 rfl) (by decide),⟨rfl,rfl,rfl⟩,rfl,bM,λ_=>rfl⟩ rfl (λc hc=>by
  have hc:c∈[40,41,93,92,45,94]:=hc
  simp only[E1,not_mem_nil,or_false]at hc
  rcases hc with rfl|rfl|rfl|rfl|rfl|rfl
  ·exact⟨372,by kernel_rfl⟩
  ·exact⟨378,by kernel_rfl⟩
  ·exact⟨390,by kernel_rfl⟩
  ·exact⟨450,by kernel_rfl⟩
  ·exact⟨426,by kernel_rfl⟩
  ·exact⟨438,by kernel_rfl⟩) (by kernel_rfl) (by kernel_rfl) X.is1 X.is2 X.st1 X.st2
theorem tP (X:Bh w s s₁)(hA:A9 2 A):Ap (G1 w s s₁) A (.ref 83) iH:=Sk (p:=57) (P:=78) (sR X) (qZ X).obj X.ok (qY X) (Ar 0 rfl) (X.name (Ar 18 rfl)) (⟨_,_,56,_,_,_,X.off (Ar 2 rfl) (by decide),rfl,rfl,by kernel_rfl,rfl,by kernel_rfl,X.off (Ar 1 rfl) (by decide),rfl,by kernel_rfl⟩) (⟨_,X.off (Ar 2 rfl) (by decide),rfl,rfl⟩) (λG cv pos q e h=>⟨λe=>absurd e (by decide),λe=>absurd e (by decide),λe=>absurd e (by decide),λ_ e2=>absurd (e.symm.trans e2) (by decide)⟩) (λG cv pos e h=>⟨λe=>absurd e (by decide),λe=>absurd e (by decide),λe=>absurd e (by decide),λ_ _=>h⟩) (λG cv pos e h=>h.2.2.2 rfl e) X.len1 X.len2 X.ran1 X.ran2 hA (λenv=>tQ X ((hA.deeper env).le (by decide)))
theorem c7 (X:Bh w s s₁)(hA:A9 3 A):Ap (G1 w s s₁) A (.ref 64) S7:=sY X.ok (n7 X) hA (sQ X) (qY X).obj (λenv=>tP X (hA.deeper env)) (sP X) (qX X).obj (λenv=>tO X ((hA.deeper env).le (by decide))) X.ob1 X.ob2
end
theorem Zk {n:Nat}{d:Data}{l:List (Value×Value)}(h:lX n d=some l):∃es e,d=.dict es e/\(es.toList.take n).map (λe=>(e.key,e.val))=l:=by
 cases d with
 |dict es e=>exact⟨es,e,rfl,Option.some.inj h⟩
 |_=>exact(Option.some_ne_none l h.symm).elim
theorem oH {o:Obj}{c:Value}{a:Option Addr}{d:Data}{l:Array (Option Value)}(e1:o.cls=c)(e2:o.dict=a)(e3:o.slots=l)(e4:o.data=d):o=⟨c,a,d,l⟩:=by
 subst e1 e2 e3 e4;rfl
theorem Nl {n:Nat}{o:Option Obj}{c:Value}{l:List (Value×Value)}(h:Qj n o=some (c,none,#[],some l)):∃es e,o=some {cls:=c,data:=.dict es e}/\(es.toList.take n).map (λe=>(e.key,e.val))=l:=
 Ab (Option.map_eq_some_iff.mp h) λ_ e1 e2=>A1 (Zk (congrArg (λx=>x.2.2.2) e2)) λes e ed el=>
  ⟨es,e,e1.trans (congrArg some (oH (congrArg (λx=>x.1) e2) (congrArg (λx=>x.2.1) e2) (congrArg (λx=>x.2.2.1) e2) ed)),el⟩
noncomputable def Zf (hh:Nat->Int):Nat->List (Value×Value)->List DictEntry
 |_,[]=>[]
 |k,p::r=>⟨hh k,p.1,p.2⟩::Zf hh (k+1) r
theorem lW (hh:Nat->Int):∀(r:List (Value×Value)) (k:Nat) (l:List DictEntry),(∀i,hh (k+i)=(l.map (·.hash)).getD i 0)->l.map (λe=>(e.key,e.val))=r->l=Zf hh k r:=by
 intro lq
 induction lq with
 |nil=>intro k l _ h;exact map_eq_nil_iff.mp h
 |cons p r ih=>
  intro k l hk h
  cases l with
  |nil=>cases h
  |cons e l=>
   have h:=List.cons.inj h
   exact(congr (congrArg List.cons (show e=⟨hh k,p.1,p.2⟩from by rw[<-h.1,show hh k=e.hash from hk 0])) (ih (k+1) l (λi=>by rw[add_assoc,add_comm 1 i];exact hk (i+1)) h.2))
section
variable {w:World}{s s₁:Shared}
theorem Bh.o2 (X:Bh w s s₁):∃hh cn,(G1 w s s₁).B.get? 2=some (Sn hh (λi=>[183,185,206,216,245,270,272,0,273].getD i 0) (λi=>(Mh.map (·.2)).getD i .none) cn):=by
 have e:Qj 10 (s.heap.get? 2)=some (Value.none,none,#[],some Mh):=congrArg (λx=>x.2.2.2.2.1) X.y
 refine A1 (Nl e) λes n ho hl=>?_
 have hl':es.toList.map (λe=>(e.key,e.val))=Mh:=by
  have h9:=congrArg List.length hl
  rw[B2,length_take]at h9
  have h10:Mh.length=9:=rfl
  rw[take_of_length_le (le_of_lt (not_le.1 λh=>absurd ((min_eq_left h).symm.trans (h9.trans h10)) (by decide)))]at hl;exact hl
 let hh:Nat->Int:=λi=>(es.toList.map λe=>e.hash).getD i 0
 exact⟨hh,n,(Cy (by decide)).trans ((X.k _ _ ho).trans (congrArg (λl=>some ({cls:=.none,data:=.dict ⟨l⟩ n}:Obj)) (lW hh Mh 0 es.toList (λi=>by rw[zero_add]) hl')))⟩
theorem Bh.o3 (X:Bh w s s₁):∃hh rest gn,(G1 w s s₁).B.get? 3=some (gN hh (λi=>[165,166,167,168,169,170,171].getD i 0) (λi=>(Q6.map (·.2)).getD i .none) rest gn):=by
 have e:Qj 7 (s.heap.get? 3)=some (Value.type "dict",none,#[],some Q6):=congrArg (λx=>x.2.2.2.2.2.1) X.y
 refine A1 (Nl e) λes n ho hl'=>?_
 let hh:Nat->Int:=λi=>((es.toList.take 7).map λe=>e.hash).getD i 0
 exact⟨hh,es.toList.drop 7,n,(Cy (by decide)).trans ((X.k _ _ ho).trans (congrArg (λl=>some ({cls:=.type "dict",data:=.dict ⟨l⟩ n}:Obj)) ((List.take_append_drop 7 es.toList).symm.trans (congrArg (·++es.toList.drop 7) (lW hh Q6 0 (es.toList.take 7) (λi=>by rw[zero_add]) hl')))))⟩
theorem Bh.kat (X:Bh w s s₁):∃f:FP,f.cc=96/\f.pm=.str (ofString "cpy313.functools") 554/\f.doc=.none/\Rp (G1 w s s₁) f:=by
 refine Jb X.o2 λch cn h2=>?_
 refine eG X.o3 λhh rest gn h3=>?_
 refine⟨{L:=0,a:=97,cc:=96,P:=92,pm:=.str (ofString "cpy313.functools") 554,doc:=.none,hh:=hh,ct:=λi=>[165,166,167,168,169,170,171].getD i 0,cv:=λi=>(Q6.map (·.2)).getD i .none,gn:=gn,rest:=rest,kt:=λi=>[556,557,558,563].getD i 0,x:=λi=>[Value.ref 91,.none,.ref 93,.ref 94,.ref 95,.int 562 0].getD i .none,ch:=ch,ct2:=λi=>[183,185,206,216,245,270,272,0,273].getD i 0,cv2:=λi=>(Mh.map (·.2)).getD i .none,cn:=cn},rfl,rfl,rfl,?_⟩
 exact⟨h2,h3,(X.off (Ar 0 rfl) (by decide)),(show(G1 w s s₁).B.get? 96=_ from X.off (Ar 6 rfl) (by decide)),(Ar 1 rfl),((by decide:8<=96)),(λpos G c h=>h.1 rfl),(λpos G c a b h=>⟨λ_=>⟨a,b,h⟩,λe=>absurd e (by decide:¬(92=120)),λe=>absurd e (by decide:¬(92=132)),λe=>absurd e (by decide:¬(92=78))⟩),(X.bi (by decide) (by kernel_rfl)),X.ob1,X.ob2⟩
variable {A:Around}
theorem tN (X:Bh w s s₁)(hA:A9 1 A):Ap (G1 w s s₁) A (.ref 97) (λds own Q=>∃P,ds=[.sem P]/\Q (.sem (Z1 (G1 w s s₁).w P)) own):=by
 refine Do X.kat λf h1 h2 h3 K=>?_
 refine lV X.ok K (a:=97) ?_ hA
 rw[h1,h2,h3]
 exact qW X
theorem tH (X:Bh w s s₁)(hA:A9 10 A):Ap (G1 w s s₁) A (.ref 130) (iG (G1 w s s₁) 5):=Zc X.ok (qR X) X.so1 X.so2 (rD X) (m7 X) (n7 X).obj (λA hA=>c7 X (hA.le (by decide))) (sO X) (qW X).obj (λA hA=>tN X (hA.le (by decide))) 5 A hA
theorem tG (X:Bh w s s₁)(hA:A9 10 A):Ap (G1 w s s₁) A (.ref 135) (iF 5):=lQ X.ok (qQ X) X.len1 X.len2 X.so1 X.so2 X.sm (rC X) (P:=132) (cc:=134) rfl (Ar 3 rfl) (λG cv pos e h=>⟨λe=>absurd e (by decide),λe=>absurd e (by decide),λ_=>h,λe=>absurd e (by decide)⟩) (λG cv pos e h=>h.2.2.1 rfl) 5 A hA
theorem tD (X:Bh w s s₁)(hA:A9 11 A):Ap (G1 w s s₁) A (.ref 157) rO:=
 pN X.ok (sG X) (sM X) (qU X).obj (sL X) (qT X).obj (sK X) (qS X).obj (rD X) (qR X).obj (rC X) (qQ X).obj (sI X) (qO X).obj (rB X) (qN X).obj (sN X) (qV X).obj (m4 X) (n4 X).obj (sJ X) (m2 X) (e11 X) X.len1 X.len2 X.ran1 X.ran2 X.li1 X.li2 X.mx1 X.mx2 X.su1 X.su2 (hA.le (by decide)) (λenv=>tK X ((hA.deeper env).le (by decide))) (λenv=>tJ X ((hA.deeper env).le (by decide))) (λenv=>tI X ((hA.deeper env).le (by decide))) (λenv=>tH X ((hA.deeper env).le (by decide))) (λenv=>tG X ((hA.deeper env).le (by decide))) (λenv=>tF X ((hA.deeper env).le (by decide))) (λenv=>tE X ((hA.deeper env).le (by decide))) (λenv=>tL X ((hA.deeper env).le (by decide))) (λenv=>c4 X ((hA.deeper env).le (by decide)))
end
noncomputable abbrev rw1:OpenRow:=PySem.Challenge.rw_in0167_02.row
theorem cX {args:List WData}(h:rw1.toRowW.claim.pre args=true):∃ns:List Int,args=[.list (ns.map .int)]/\ns.length<=63:=by
 refine Ae (pre_splitW h) λh1 h2=>?_
 refine Ag (hasAllW_cons (e:=.list .int) (es:=[]) h1) λd r Z hd hr=>?_
 subst Z
 obtain rfl:=hasAllW_nil hr
 refine Ab (hasW_list hd) λxs Y hx=>?_
 subst Y
 refine Ad (items_int hx) λns V=>?_
 subst V
 refine⟨ns,rfl,?_⟩
 by_cases hl:ns.length<=63
 ·exact hl
 ·exfalso
  have e:WTm.value rw1.records rw1.pre {args:=[.list (ns.map .int)]}=some (.bool false):=by
   have e1:WTm.value rw1.records (.lt (.lit (.int 63)) (.len (.arg 0))) {args:=[.list (ns.map .int)]}=some (.bool true):=by
    show(less? (.int 63) (.int ((ns.map WData.int).length:Int))).map WData.bool=_
    have:((63:Int)<((ns.map WData.int).length:Int)):=by rw[B2];exact Int.ofNat_lt.2 (Aq (not_le.1 hl):63<ns.length)
    show some (WData.bool (decide ((63:Int)<((ns.map WData.int).length:Int))))=_
    rw[decide_eq_true this]
   show(match(match WTm.value rw1.records (.lt (.lit (.int 63)) (.len (.arg 0))) {args:=[.list (ns.map .int)]}with
    |some (.bool b)=>some (WData.bool (!b))
    |_=>none)with
    |some (.bool false)=>some (WData.bool false)
    |some (.bool true)=>_
    |_=>_)=_
   rw[e1]
   rfl
  unfold WTm.holds at h2
  rw[e]at h2
  cases h2
theorem Xe {R:WRecords}{cl:Str->Option Addr}{h:Heap}{G:Gh}{ns:List Int}:∀{vs:List Value} {as:List Addr},ReadsAllW R cl h vs (ns.map .int) as->Rl G [] (ns.map D.int) vs:=by
 induction ns with
 |nil=>exact λh=>(readsAllW_nil_inv h).1
 |cons n ns ih=>exact λh=>C3 (readsAllW_cons_inv h) λv l _ _ e _ r1 r2=>Ab (readsW_int_inv r1) λt e1 _=>⟨v,l,e,⟨t,e1⟩,ih r2⟩
theorem bN {w:World}{s s₁:Shared}(X:Bh w s s₁)(ht:0<s₁.toks)(hg:s₁.gens=#[]){cl:Str->Option Addr}{ns:List Int}(hn:ns.length<=63){vs:List Value}{as:List Addr}(hr:ReadsAllW [] cl s₁.heap vs [.list (ns.map .int)] as):
  wpAny (model Jl w) callerA (call (.ref 157) vs) (λv s'=>v=.bool true/\OldK s₁.heap s'.heap/\s'.os=s₁.os/\AllBare s'.gens) (λ_ _=>False) s₁:=by
 have t78:s₁.heap.get? 78=some {cls:=.none,data:=.fields #[]}:=X.obj (Ar 3 rfl)
 have t92:s₁.heap.get? 92=some {cls:=.none,data:=.fields #[]}:=X.obj (Ar 5 rfl)
 have t120:s₁.heap.get? 120=some {cls:=.none,data:=.fields #[]}:=X.obj (Ar 9 rfl)
 have t132:s₁.heap.get? 132=some {cls:=.none,data:=.fields #[]}:=X.obj (Ar 11 rfl)
 have gin:∀a o,(B1 s₁.heap).get? a=some o->s₁.heap.get? a=some o:=λa o e=>mT e
 have tb:∀p∈Er,s₁.heap.get? p.2=some {cls:=.none,data:=.fields #[]}/\(B1 s₁.heap).get? p.2=none/\s₁.heap.TableAt p.1 p.2 #[]/\s₁.heap.IsCode p.1 p.2 #[]/\∃o,(B1 s₁.heap).get? p.1=some o:=by
  refine E3.mpr ⟨?_,E3.mpr ⟨?_,E3.mpr ⟨?_,E3.mpr ⟨?_,forall_mem_nil _⟩⟩⟩⟩
  ·have hc:=X.obj (Ar 4 rfl)
   exact⟨t78,by rw[Kk];rfl,⟨⟨_,_,hc,rfl,rfl,rfl⟩,t78⟩,⟨_,_,_,_,_,_,_,_,_,_,hc,rfl,rfl,rfl,rfl,rfl,rfl,t78,rfl,trivial,by decide⟩,_,(Cy (by decide)).trans hc⟩
  ·have hc:=X.obj (Ar 6 rfl)
   exact⟨t92,by rw[Kk];rfl,⟨⟨_,_,hc,rfl,rfl,rfl⟩,t92⟩,⟨_,_,_,_,_,_,_,_,_,_,hc,rfl,rfl,rfl,rfl,rfl,rfl,t92,rfl,trivial,by decide⟩,_,(Cy (by decide)).trans hc⟩
  ·have hc:=X.obj (Ar 10 rfl)
   exact⟨t120,by rw[Kk];rfl,⟨⟨_,_,hc,rfl,rfl,rfl⟩,t120⟩,⟨_,_,_,_,_,_,_,_,_,_,hc,rfl,rfl,rfl,rfl,rfl,rfl,t120,rfl,trivial,by decide⟩,_,(Cy (by decide)).trans hc⟩
  ·have hc:=X.obj (Ar 12 rfl)
   exact⟨t132,by rw[Kk];rfl,⟨⟨_,_,hc,rfl,rfl,rfl⟩,t132⟩,⟨_,_,_,_,_,_,_,_,_,_,hc,rfl,rfl,rfl,rfl,rfl,rfl,t132,rfl,trivial,by decide⟩,_,(Cy (by decide)).trans hc⟩
 have S:Cn (G1 w s s₁) (λa=>(B1 s₁.heap).get? a) [] [] s₁.heap:={
  base:=λ_ _ e=>e
  gin:=gin
  len:=rfl
  at_:=λk a ds e _=>by cases e
  nodup:=List.nodup_nil
  fresh:=λ_ h=>absurd h not_mem_nil
  tabs:=λp hp=>by
   obtain⟨a1,a2,a3,a4,a5⟩:=tb p hp
   exact⟨a2,not_mem_nil,#[],a3,a4,a5,λ_ _ e=>(by cases e),trivial⟩}
 refine C3 (readsAllW_cons_inv hr) λv l as1 as2 e0 _ r1 r2=>?_
 subst e0
 obtain rfl:=(readsAllW_nil_inv r2).1
 refine Dm (readsW_list_inv r1) λa xs bs e1 hL hxs _=>?_
 subst e1
 refine Au hL λo ho hcl Z=>?_
 refine Ad Z λn hd=>?_
 have hoff:∀t,s₁.heap.get? t=some {cls:=.none,data:=.fields #[]}->a≠t:=λt ht' e=>by
  subst e
  rw[ho]at ht'
  cases ht'
  cases hd
 have ha:(B1 s₁.heap).get? a=some o:=by
  rw[Cy (λhm=>?_)]
  ·exact ho
  ·have hm:a∈[78,92,120,132]:=hm
   simp only[E1,not_mem_nil,or_false]at hm
   rcases hm with h|h|h|h
   ·exact hoff _ t78 h
   ·exact hoff _ t92 h
   ·exact hoff _ t120 h
   ·exact hoff _ t132 h
 refine Ba (wpAny_call (E:=λ_ _=>False) (Q:=λv s'=>v=.bool true/\OldK s₁.heap s'.heap/\s'.os=s₁.os/\AllBare s'.gens) (codeAny_mono (tD X (A:=callerA) ⟨rfl,by decide +kernel,by decide +kernel⟩ _ [] [] s₁ [.lst (ns.map .int)] [.ref a] (λd _=>d=.bool true) S ⟨_,[],rfl,⟨a,xs.toList,rfl,⟨o,ha,hcl,n,hd⟩,Xe hxs⟩,rfl⟩ ht ⟨ns,rfl,hn,λ_=>rfl⟩) λr s' Y=>Mc Y λv d G' ι' own' e R rv hq=>?_)) (λ_ _ h=>h) λ_ _ x=>x
 subst e hq
 refine⟨rv,⟨λb o' e=>?_,λb o' e=>?_⟩,R.os,λy hy=>?_⟩
 ·by_cases hb:b∈Er.map (·.2)
  ·obtain⟨p,hp,rfl⟩:=G7.mp hb
   obtain⟨_,_,ps,⟨⟨oc,vc,k1,k2,k3,k4⟩,kt⟩,_⟩:=R.store.tabs p hp
   obtain⟨a1,_,a3,_⟩:=tb p hp
   rw[a1]at e;cases e
   refine .inr (.inl ⟨a3.isCodeTable,rfl,#[],ps,rfl,?_⟩)
   rw[kt,Array.empty_append]
  ·refine .inl (R.store.gin _ _ (R.le _ _ ?_))
   show(B1 s₁.heap).get? b=some o'
   rw[Cy hb];exact e
 ·by_cases hb:b∈Er.map (·.2)
  ·obtain⟨p,hp,rfl⟩:=G7.mp hb
   obtain⟨_,_,ps,⟨_,kt⟩,_⟩:=R.store.tabs p hp
   exact⟨_,kt⟩
  ·exact⟨o',R.store.gin _ _ (R.le _ _ (by show(B1 s₁.heap).get? b=some o';rw[Cy hb];exact e))⟩
 ·obtain⟨i,hi,rfl⟩:=Array.getElem_of_mem hy
  exact R.gens.2.2 i _ (by rw[hg];exact zero_le _) (Array.getElem?_eq_getElem hi)
theorem iY:PySem.Challenge.rw_in0167_02.wellSaid=true:=by
 delta OpenLaw.wellSaid OpenRow.wellSaid OpenRow.partSaid looksOpen
 repeat' with_reducible apply look_both
 all_goals decide +kernel
theorem fY (said:rw1.wellSaid=true):rw1.Holds:=by
 have hwit:∃args,rw1.toRowW.claim.pre args=true/\WData.layableAll args=true:=⟨[.list []],by decide +kernel,by decide +kernel⟩
 refine⟨said,⟨[.list []],by decide +kernel,by decide +kernel⟩,⟨⟨⟨rfl,rfl,rfl,rfl,rfl,by kernel_rfl⟩,by kernel_rfl,rfl⟩,hwit,λw=>?_⟩⟩
 refine Ae (kK.behind (XP:=λ_ _=>True) (λ_ _=>trivial) (by kernel_rfl) w) λh1 h2=>?_
 refine⟨h1,λs' hs'=>?_⟩
 refine Au (h2 s' hs') λs₀ hf hg0 Z=>?_
 refine Dn Z λs hT hz hgens hg zz=>Ae zz λG y=>?_
 clear Z
 have hgens:s.gens=#[]:=Array.eq_empty_of_size_eq_zero (beq_iff_eq.mp hgens)
 have htk:0<s.toks:=Cr (congrArg Prod.fst y)
 refine⟨s₀,hf,hg0,s,hT,λn hn=>?_,λx hx=>(absurd hx not_mem_nil),λx hx=>(absurd hx not_mem_nil),?_⟩
 ·obtain rfl:n=ofString "law":=K2.mp hn
  exact pinned_of_view (q:=q1) (loose:=L3) hg G (d:=Ec Jl 27) (kwd:=[]) (by kernel_rfl) (by kernel_rfl) (by kernel_rfl)
 refine ClaimW.callFrom_of_specG (c:=rw1.toRowW.claim) hz hgens λargs hpre hlay ord hord=>?_
 refine Ab (cX hpre) λns Y hns=>?_
 subst Y
 refine Ad (Option.isSome_iff_exists.mp (layAllW_isSome (P:=w.params) (ord:=ord) G.has [.list (ns.map WData.int)] [.list .int] s (pre_splitW hpre).1)) λV hlaid=>?_
 obtain⟨vs,s₁⟩:=V
 have gr:=layAllW_grows _ _ _ hlaid
 refine Au (reads_layAllW hord _ _ _ hlaid hlay s₁.heap λ_ _ e=>e) λas hrd hin hold=>?_
 have L:Laid [] w s s₁ [.list (ns.map .int)] vs as:=⟨⟨ord,hord,hlaid⟩,hrd,hin,hold,gr.keeps,gr.alike.1.trans hgens,gr.alike.2.2.1⟩
 have X:Bh w s s₁:=⟨(G.keeps (λ_ _ _ h _=>h) gr.keeps).T,y,gr.keeps⟩
 refine⟨vs,s₁,hlaid,?_⟩
 have hlaw:s.heap.nsMap mainGlobals (ofString "law")=some (.ref 157):=sH X
 refine Ai (wpAny_nsGet X.T.g ?_)
 rw[show(ofString "law":Str)=rw1.name from rfl]at hlaw
 rw[hlaw]
 refine Ai (Ba (bN X (lt_of_lt_of_le htk gr.toks) (gr.alike.1.trans hgens) hns hrd) (λv s'' U=>Bn U λe1 e2 e3 e4=>Be ⟨.ret v,rfl,?_⟩) λ_ _ h=>h.elim)
 subst e1
 have z:=GoodWG.laid (c:=rw1.toRowW.claim) rfl rfl (ident_freeW (r:=rw1.toRowW) rfl rfl rfl) L (r:=.ok (.ret (.bool true))) (s':=s'') ⟨.inl ⟨.bool true,.bool true,[],rfl,λ_=>rfl,.bool true,by kernel_rfl,λ_=>⟨List.nodup_nil,λ_ h=>(absurd h not_mem_nil)⟩⟩,e2,e3,e4⟩
 exact⟨z.1,z.2.1,z.2.2,λh=>(nomatch h)⟩
end Mine.Internal
theorem PySem.Challenge.cw_in0167_02_holds : PySem.Challenge.rw_in0167_02.Holds :=
 holds_law Mine.Internal.iY Mine.Internal.fY
