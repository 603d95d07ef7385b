import PyProof.Rows.All
import Wide.All
import OpenK.AllK
import Wide.FinOn
import OpenK.ZLast
import PyProof.StrLawsReplace
import PyProof.StrLawsFrom
import KE.KSortAsk
import KE.KSortKey
import Lean
import PySem.Challenge.RW_in0167_01
open PySem PySem.W PySem.Calls PyProof.Rows
open Nat (add_le_add add_mul le_add_right le_antisymm le_of_ble_eq_true le_of_eq le_of_lt le_of_not_lt le_refl le_succ le_succ_of_le le_trans lt_irrefl lt_of_le_of_lt lt_of_lt_of_le lt_succ_of_lt lt_succ_self lt_trans min_eq_left min_le_left min_le_right mul_le_mul_left mul_le_mul_right ne_of_gt ne_of_lt not_le not_lt one_mul sub_add_cancel sub_le sub_self succ_le_succ succ_pos zero_add zero_le)
open List (all_eq_true append_assoc append_cons append_nil cons_append cons_ne_nil dropLast_concat drop_drop filterMap_cons filter_cons_of_neg filter_cons_of_pos flatMap_cons flatten_append flatten_cons foldl_append foldl_cons forall_mem_cons forall_mem_nil getLast?_concat length_append length_cons length_drop length_filter_le length_flatten length_map length_nil length_set length_singleton length_take lookup_cons map_append map_congr_left map_cons map_flatMap map_map map_nil mem_append mem_append_right mem_cons mem_cons_of_mem mem_cons_self mem_filter mem_flatMap mem_map mem_map_of_mem mem_of_mem_drop mem_reverse mem_singleton nil_append nodup_cons not_mem_nil of_mem_zip prefix_append size_toArray sum_cons take_add_one take_append_drop take_of_length_le toArray zip_cons_cons)
open PySem.Str (ofString)
set_option genInjectivity false
set_option genSizeOf false
set_option Elab.async false
set_option linter.all false
set_option maxRecDepth 100000
set_option maxHeartbeats 0
namespace Mine
theorem Ah {a b c d:Nat}(h:a<=b)(e:b+c<=a+d:=by first|simp +arith only|simp +arith only[Nat.reducePow]):c<=d:=Nat.le_of_add_le_add_left (le_trans (Nat.add_le_add_right h c) e)
theorem oO {a b:Nat}(h:a<=b)(e:b+1<=a:=by simp +arith only):False:=lt_irrefl b (le_trans e h)
theorem lP {n:Nat}{i:Int}(e:i=n):0<=i:=e▸Int.natCast_nonneg n
theorem Wl {n:Nat}{i:Int}(e:i=n):¬i<0:=Int.not_lt.2 (lP e)
theorem pY {n:Nat}{i:Int}(e:i=n): -2^63<=i:=Int.le_trans (by decide) (lP e)
theorem b6:5000000<=2^24:=by decide
theorem oQ:5000000<2^62:=by decide
theorem Z3 {n:Nat}{i:Int}(e:i=n)(h:n<2^62):i<2^63:=e▸Int.lt_trans (Int.ofNat_lt.2 h) (by decide)
theorem sZ {n:Nat}{i:Int}(e:i=n)(h:n<=5000000):i<2^63:=Z3 e (lt_of_le_of_lt h oQ)
theorem Bp (a b:Nat):a<=a-b+b:=Nat.sub_le_iff_le_add.1 (le_refl _)
theorem Pv {s o:Nat}(h:s<=o):o=s+(o-s):=(Nat.add_sub_cancel' h).symm
theorem cB {k i:Nat}(h:k<i):i-k=i-k-1+1:=(sub_add_cancel (Nat.sub_pos_of_lt h)).symm
theorem pG {k i:Nat}(h:k<i):i-k=i-(k+1)+1:=cB h
theorem iQ (t:Nat):(↑(t+1):Int)+ -1=t:=Int.add_sub_cancel (t:Int) 1
theorem qC (t:Nat):(↑(t+1):Int)-1=t:=Int.add_sub_cancel (t:Int) 1
theorem iw {n:Nat}{i:Int}(e:i=n)(h:n<=5000000): -2^63<=i/\i<2^63:=⟨pY e,sZ e h⟩
theorem rE {i:Int}(h0: -1073741824<i)(h:i<1073741824):i.natAbs<1073741824:=Int.ofNat_lt.1 ((Int.natAbs_eq i).elim (λe=>by rw[<-e];exact h) λe=>Int.neg_lt_neg_iff.1 (by rw[<-e];exact h0))
theorem nz (n:Nat):¬((n+1:Nat):Int)=0:=λh=>absurd (Int.ofNat_inj.1 h) (Nat.succ_ne_zero n)
theorem tn {k:Nat}{i:Int}(h:i.toNat=k+1):i=((k+1:Nat):Int):=match i,h with
 | .ofNat _,h=>congrArg Int.ofNat h
theorem sB {w:Int}(h:w.natAbs<=10): -(2^64)<w/\w<2^64:=by
 have h1:(w.natAbs:Int)<=10:=Int.ofNat_le.2 h
 exact⟨Int.lt_of_lt_of_le (by decide) (Int.le_trans (Int.neg_le_neg h1) (Int.neg_le_of_neg_le (by rw[<-Int.natAbs_neg];exact Int.le_natAbs))),Int.lt_of_le_of_lt (Int.le_trans Int.le_natAbs h1) (by decide)⟩
theorem fK (k:Nat):(0<=(-1:Int)+(k+1)/\(-1:Int)+(k+1)<k+1)/\((-1:Int)+(k+1)).toNat=k:=by
 rw[show(-1:Int)+(k+1)=k from(Int.add_comm _ _).trans (iQ k)]
 exact⟨⟨Int.natCast_nonneg k,Int.lt_succ k⟩,rfl⟩
theorem sU {n:Nat}(h:¬0<n):n=0:=Nat.eq_zero_of_not_pos h
theorem sY {i:Int}(h0:0<=i)(h1:i<3):i=0\/i=1\/i=2:=by
 obtain⟨n,rfl⟩:=Int.eq_ofNat_of_zero_le h0
 exact(by decide:∀n:Nat,n<3->(n:Int)=0\/(n:Int)=1\/(n:Int)=2) n (Int.ofNat_lt.1 h1)
theorem lQ (k n:Nat):((k:Int)==(n:Int))=(k==n):=by
 rw[Bool.eq_iff_iff,beq_iff_eq,beq_iff_eq];exact Int.ofNat_inj
theorem qM (k:Int):(k%13).toNat<13:=(Int.toNat_lt (Int.emod_nonneg k (by decide))).2 (Int.emod_lt_of_pos k (by decide))
theorem Ae {P0 P1:Prop}{C:Prop}(h:P0/\P1)(k:P0->P1->C):C:=k h.1 h.2
theorem A0 {P0 P1 P2:Prop}{C:Prop}(h:P0/\P1/\P2)(k:P0->P1->P2->C):C:=Ae h.2 (k h.1)
theorem B7 {P0 P1 P2 P3:Prop}{C:Prop}(h:P0/\P1/\P2/\P3)(k:P0->P1->P2->P3->C):C:=A0 h.2 (k h.1)
theorem Hi {P0 P1 P2 P3 P4:Prop}{C:Prop}(h:P0/\P1/\P2/\P3/\P4)(k:P0->P1->P2->P3->P4->C):C:=B7 h.2 (k h.1)
theorem aS {P0 P1 P2 P3 P4 P5:Prop}{C:Prop}(h:P0/\P1/\P2/\P3/\P4/\P5)(k:P0->P1->P2->P3->P4->P5->C):C:=Hi h.2 (k h.1)
theorem gC {P0 P1 P2 P3 P4 P5 P6:Prop}{C:Prop}(h:P0/\P1/\P2/\P3/\P4/\P5/\P6)(k:P0->P1->P2->P3->P4->P5->P6->C):C:=aS h.2 (k h.1)
theorem gB {P0 P1 P2 P3 P4 P5 P6 P7:Prop}{C:Prop}(h:P0/\P1/\P2/\P3/\P4/\P5/\P6/\P7)(k:P0->P1->P2->P3->P4->P5->P6->P7->C):C:=gC h.2 (k h.1)
theorem gA {P0 P1 P2 P3 P4 P5 P6 P7 P8:Prop}{C:Prop}(h:P0/\P1/\P2/\P3/\P4/\P5/\P6/\P7/\P8)(k:P0->P1->P2->P3->P4->P5->P6->P7->P8->C):C:=gB h.2 (k h.1)
theorem jP {P0 P1 P2 P3 P4 P5 P6 P7 P8 P9:Prop}{C:Prop}(h:P0/\P1/\P2/\P3/\P4/\P5/\P6/\P7/\P8/\P9)(k:P0->P1->P2->P3->P4->P5->P6->P7->P8->P9->C):C:=gA h.2 (k h.1)
theorem jO {P0 P1 P2 P3 P4 P5 P6 P7 P8 P9 P10:Prop}{C:Prop}(h:P0/\P1/\P2/\P3/\P4/\P5/\P6/\P7/\P8/\P9/\P10)(k:P0->P1->P2->P3->P4->P5->P6->P7->P8->P9->P10->C):C:=jP h.2 (k h.1)
theorem Af {T0:Sort _}{P0:T0->Prop}{C:Prop}(h:∃x0,P0 x0)(k:∀x0,P0 x0->C):C:=h.elim k
theorem Ac {T0:Sort _}{P0 P1:T0->Prop}{C:Prop}(h:∃x0,P0 x0/\P1 x0)(k:∀x0,P0 x0->P1 x0->C):C:=h.elim λx0 h=>Ae h (k x0)
theorem Ay {T0:Sort _}{P0 P1 P2:T0->Prop}{C:Prop}(h:∃x0,P0 x0/\P1 x0/\P2 x0)(k:∀x0,P0 x0->P1 x0->P2 x0->C):C:=h.elim λx0 h=>A0 h (k x0)
theorem Ck {T0:Sort _}{P0 P1 P2 P3:T0->Prop}{C:Prop}(h:∃x0,P0 x0/\P1 x0/\P2 x0/\P3 x0)(k:∀x0,P0 x0->P1 x0->P2 x0->P3 x0->C):C:=h.elim λx0 h=>B7 h (k x0)
theorem Lv {T0:Sort _}{P0 P1 P2 P3 P4:T0->Prop}{C:Prop}(h:∃x0,P0 x0/\P1 x0/\P2 x0/\P3 x0/\P4 x0)(k:∀x0,P0 x0->P1 x0->P2 x0->P3 x0->P4 x0->C):C:=h.elim λx0 h=>Hi h (k x0)
theorem fZ {T0:Sort _}{P0 P1 P2 P3 P4 P5:T0->Prop}{C:Prop}(h:∃x0,P0 x0/\P1 x0/\P2 x0/\P3 x0/\P4 x0/\P5 x0)(k:∀x0,P0 x0->P1 x0->P2 x0->P3 x0->P4 x0->P5 x0->C):C:=h.elim λx0 h=>aS h (k x0)
theorem aQ {T0:Sort _}{P0 P1 P2 P3 P4 P5 P6:T0->Prop}{C:Prop}(h:∃x0,P0 x0/\P1 x0/\P2 x0/\P3 x0/\P4 x0/\P5 x0/\P6 x0)(k:∀x0,P0 x0->P1 x0->P2 x0->P3 x0->P4 x0->P5 x0->P6 x0->C):C:=h.elim λx0 h=>gC h (k x0)
theorem fY {T0:Sort _}{P0 P1 P2 P3 P4 P5 P6 P7:T0->Prop}{C:Prop}(h:∃x0,P0 x0/\P1 x0/\P2 x0/\P3 x0/\P4 x0/\P5 x0/\P6 x0/\P7 x0)(k:∀x0,P0 x0->P1 x0->P2 x0->P3 x0->P4 x0->P5 x0->P6 x0->P7 x0->C):C:=h.elim λx0 h=>gB h (k x0)
theorem fX {T0:Sort _}{P0 P1 P2 P3 P4 P5 P6 P7 P8:T0->Prop}{C:Prop}(h:∃x0,P0 x0/\P1 x0/\P2 x0/\P3 x0/\P4 x0/\P5 x0/\P6 x0/\P7 x0/\P8 x0)(k:∀x0,P0 x0->P1 x0->P2 x0->P3 x0->P4 x0->P5 x0->P6 x0->P7 x0->P8 x0->C):C:=h.elim λx0 h=>gA h (k x0)
theorem jL {T0:Sort _}{P0 P1 P2 P3 P4 P5 P6 P7 P8 P9 P10:T0->Prop}{C:Prop}(h:∃x0,P0 x0/\P1 x0/\P2 x0/\P3 x0/\P4 x0/\P5 x0/\P6 x0/\P7 x0/\P8 x0/\P9 x0/\P10 x0)(k:∀x0,P0 x0->P1 x0->P2 x0->P3 x0->P4 x0->P5 x0->P6 x0->P7 x0->P8 x0->P9 x0->P10 x0->C):C:=h.elim λx0 h=>jO h (k x0)
theorem Gp {T0:Sort _}{T1:Sort _}{P0:T0->T1->Prop}{C:Prop}(h:∃x0 x1,P0 x0 x1)(k:∀x0 x1,P0 x0 x1->C):C:=h.elim λx0 h=>Af h (k x0)
theorem A2 {T0:Sort _}{T1:Sort _}{P0 P1:T0->T1->Prop}{C:Prop}(h:∃x0 x1,P0 x0 x1/\P1 x0 x1)(k:∀x0 x1,P0 x0 x1->P1 x0 x1->C):C:=h.elim λx0 h=>Ac h (k x0)
theorem Aj {T0:Sort _}{T1:Sort _}{P0 P1 P2:T0->T1->Prop}{C:Prop}(h:∃x0 x1,P0 x0 x1/\P1 x0 x1/\P2 x0 x1)(k:∀x0 x1,P0 x0 x1->P1 x0 x1->P2 x0 x1->C):C:=h.elim λx0 h=>Ay h (k x0)
theorem Dt {T0:Sort _}{T1:Sort _}{P0 P1 P2 P3:T0->T1->Prop}{C:Prop}(h:∃x0 x1,P0 x0 x1/\P1 x0 x1/\P2 x0 x1/\P3 x0 x1)(k:∀x0 x1,P0 x0 x1->P1 x0 x1->P2 x0 x1->P3 x0 x1->C):C:=h.elim λx0 h=>Ck h (k x0)
theorem Lu {T0:Sort _}{T1:Sort _}{P0 P1 P2 P3 P4:T0->T1->Prop}{C:Prop}(h:∃x0 x1,P0 x0 x1/\P1 x0 x1/\P2 x0 x1/\P3 x0 x1/\P4 x0 x1)(k:∀x0 x1,P0 x0 x1->P1 x0 x1->P2 x0 x1->P3 x0 x1->P4 x0 x1->C):C:=h.elim λx0 h=>Lv h (k x0)
theorem Hh {T0:Sort _}{T1:Sort _}{P0 P1 P2 P3 P4 P5:T0->T1->Prop}{C:Prop}(h:∃x0 x1,P0 x0 x1/\P1 x0 x1/\P2 x0 x1/\P3 x0 x1/\P4 x0 x1/\P5 x0 x1)(k:∀x0 x1,P0 x0 x1->P1 x0 x1->P2 x0 x1->P3 x0 x1->P4 x0 x1->P5 x0 x1->C):C:=h.elim λx0 h=>fZ h (k x0)
theorem aP {T0:Sort _}{T1:Sort _}{P0 P1 P2 P3 P4 P5 P6:T0->T1->Prop}{C:Prop}(h:∃x0 x1,P0 x0 x1/\P1 x0 x1/\P2 x0 x1/\P3 x0 x1/\P4 x0 x1/\P5 x0 x1/\P6 x0 x1)(k:∀x0 x1,P0 x0 x1->P1 x0 x1->P2 x0 x1->P3 x0 x1->P4 x0 x1->P5 x0 x1->P6 x0 x1->C):C:=h.elim λx0 h=>aQ h (k x0)
theorem nQ {T0:Sort _}{T1:Sort _}{P0 P1 P2 P3 P4 P5 P6 P7:T0->T1->Prop}{C:Prop}(h:∃x0 x1,P0 x0 x1/\P1 x0 x1/\P2 x0 x1/\P3 x0 x1/\P4 x0 x1/\P5 x0 x1/\P6 x0 x1/\P7 x0 x1)(k:∀x0 x1,P0 x0 x1->P1 x0 x1->P2 x0 x1->P3 x0 x1->P4 x0 x1->P5 x0 x1->P6 x0 x1->P7 x0 x1->C):C:=h.elim λx0 h=>fY h (k x0)
theorem nO {T0:Sort _}{T1:Sort _}{P0 P1 P2 P3 P4 P5 P6 P7 P8:T0->T1->Prop}{C:Prop}(h:∃x0 x1,P0 x0 x1/\P1 x0 x1/\P2 x0 x1/\P3 x0 x1/\P4 x0 x1/\P5 x0 x1/\P6 x0 x1/\P7 x0 x1/\P8 x0 x1)(k:∀x0 x1,P0 x0 x1->P1 x0 x1->P2 x0 x1->P3 x0 x1->P4 x0 x1->P5 x0 x1->P6 x0 x1->P7 x0 x1->P8 x0 x1->C):C:=h.elim λx0 h=>fX h (k x0)
theorem jK {T0:Sort _}{T1:Sort _}{P0 P1 P2 P3 P4 P5 P6 P7 P8 P9 P10:T0->T1->Prop}{C:Prop}(h:∃x0 x1,P0 x0 x1/\P1 x0 x1/\P2 x0 x1/\P3 x0 x1/\P4 x0 x1/\P5 x0 x1/\P6 x0 x1/\P7 x0 x1/\P8 x0 x1/\P9 x0 x1/\P10 x0 x1)(k:∀x0 x1,P0 x0 x1->P1 x0 x1->P2 x0 x1->P3 x0 x1->P4 x0 x1->P5 x0 x1->P6 x0 x1->P7 x0 x1->P8 x0 x1->P9 x0 x1->P10 x0 x1->C):C:=h.elim λx0 h=>jL h (k x0)
theorem Vc {T0:Sort _}{T1:Sort _}{T2:Sort _}{P0:T0->T1->T2->Prop}{C:Prop}(h:∃x0 x1 x2,P0 x0 x1 x2)(k:∀x0 x1 x2,P0 x0 x1 x2->C):C:=h.elim λx0 h=>Gp h (k x0)
theorem B9 {T0:Sort _}{T1:Sort _}{T2:Sort _}{P0 P1:T0->T1->T2->Prop}{C:Prop}(h:∃x0 x1 x2,P0 x0 x1 x2/\P1 x0 x1 x2)(k:∀x0 x1 x2,P0 x0 x1 x2->P1 x0 x1 x2->C):C:=h.elim λx0 h=>A2 h (k x0)
theorem Fq {T0:Sort _}{T1:Sort _}{T2:Sort _}{P0 P1 P2:T0->T1->T2->Prop}{C:Prop}(h:∃x0 x1 x2,P0 x0 x1 x2/\P1 x0 x1 x2/\P2 x0 x1 x2)(k:∀x0 x1 x2,P0 x0 x1 x2->P1 x0 x1 x2->P2 x0 x1 x2->C):C:=h.elim λx0 h=>Aj h (k x0)
theorem Ds {T0:Sort _}{T1:Sort _}{T2:Sort _}{P0 P1 P2 P3:T0->T1->T2->Prop}{C:Prop}(h:∃x0 x1 x2,P0 x0 x1 x2/\P1 x0 x1 x2/\P2 x0 x1 x2/\P3 x0 x1 x2)(k:∀x0 x1 x2,P0 x0 x1 x2->P1 x0 x1 x2->P2 x0 x1 x2->P3 x0 x1 x2->C):C:=h.elim λx0 h=>Dt h (k x0)
theorem Iw {T0:Sort _}{T1:Sort _}{T2:Sort _}{P0 P1 P2 P3 P4:T0->T1->T2->Prop}{C:Prop}(h:∃x0 x1 x2,P0 x0 x1 x2/\P1 x0 x1 x2/\P2 x0 x1 x2/\P3 x0 x1 x2/\P4 x0 x1 x2)(k:∀x0 x1 x2,P0 x0 x1 x2->P1 x0 x1 x2->P2 x0 x1 x2->P3 x0 x1 x2->P4 x0 x1 x2->C):C:=h.elim λx0 h=>Lu h (k x0)
theorem Hg {T0:Sort _}{T1:Sort _}{T2:Sort _}{P0 P1 P2 P3 P4 P5:T0->T1->T2->Prop}{C:Prop}(h:∃x0 x1 x2,P0 x0 x1 x2/\P1 x0 x1 x2/\P2 x0 x1 x2/\P3 x0 x1 x2/\P4 x0 x1 x2/\P5 x0 x1 x2)(k:∀x0 x1 x2,P0 x0 x1 x2->P1 x0 x1 x2->P2 x0 x1 x2->P3 x0 x1 x2->P4 x0 x1 x2->P5 x0 x1 x2->C):C:=h.elim λx0 h=>Hh h (k x0)
theorem Vb {T0:Sort _}{T1:Sort _}{T2:Sort _}{P0 P1 P2 P3 P4 P5 P6:T0->T1->T2->Prop}{C:Prop}(h:∃x0 x1 x2,P0 x0 x1 x2/\P1 x0 x1 x2/\P2 x0 x1 x2/\P3 x0 x1 x2/\P4 x0 x1 x2/\P5 x0 x1 x2/\P6 x0 x1 x2)(k:∀x0 x1 x2,P0 x0 x1 x2->P1 x0 x1 x2->P2 x0 x1 x2->P3 x0 x1 x2->P4 x0 x1 x2->P5 x0 x1 x2->P6 x0 x1 x2->C):C:=h.elim λx0 h=>aP h (k x0)
theorem nN {T0:Sort _}{T1:Sort _}{T2:Sort _}{P0 P1 P2 P3 P4 P5 P6 P7:T0->T1->T2->Prop}{C:Prop}(h:∃x0 x1 x2,P0 x0 x1 x2/\P1 x0 x1 x2/\P2 x0 x1 x2/\P3 x0 x1 x2/\P4 x0 x1 x2/\P5 x0 x1 x2/\P6 x0 x1 x2/\P7 x0 x1 x2)(k:∀x0 x1 x2,P0 x0 x1 x2->P1 x0 x1 x2->P2 x0 x1 x2->P3 x0 x1 x2->P4 x0 x1 x2->P5 x0 x1 x2->P6 x0 x1 x2->P7 x0 x1 x2->C):C:=h.elim λx0 h=>nQ h (k x0)
theorem nM {T0:Sort _}{T1:Sort _}{T2:Sort _}{P0 P1 P2 P3 P4 P5 P6 P7 P8:T0->T1->T2->Prop}{C:Prop}(h:∃x0 x1 x2,P0 x0 x1 x2/\P1 x0 x1 x2/\P2 x0 x1 x2/\P3 x0 x1 x2/\P4 x0 x1 x2/\P5 x0 x1 x2/\P6 x0 x1 x2/\P7 x0 x1 x2/\P8 x0 x1 x2)(k:∀x0 x1 x2,P0 x0 x1 x2->P1 x0 x1 x2->P2 x0 x1 x2->P3 x0 x1 x2->P4 x0 x1 x2->P5 x0 x1 x2->P6 x0 x1 x2->P7 x0 x1 x2->P8 x0 x1 x2->C):C:=h.elim λx0 h=>nO h (k x0)
theorem jJ {T0:Sort _}{T1:Sort _}{T2:Sort _}{P0 P1 P2 P3 P4 P5 P6 P7 P8 P9 P10:T0->T1->T2->Prop}{C:Prop}(h:∃x0 x1 x2,P0 x0 x1 x2/\P1 x0 x1 x2/\P2 x0 x1 x2/\P3 x0 x1 x2/\P4 x0 x1 x2/\P5 x0 x1 x2/\P6 x0 x1 x2/\P7 x0 x1 x2/\P8 x0 x1 x2/\P9 x0 x1 x2/\P10 x0 x1 x2)(k:∀x0 x1 x2,P0 x0 x1 x2->P1 x0 x1 x2->P2 x0 x1 x2->P3 x0 x1 x2->P4 x0 x1 x2->P5 x0 x1 x2->P6 x0 x1 x2->P7 x0 x1 x2->P8 x0 x1 x2->P9 x0 x1 x2->P10 x0 x1 x2->C):C:=h.elim λx0 h=>jK h (k x0)
theorem nL {T0:Sort _}{T1:Sort _}{T2:Sort _}{T3:Sort _}{P0:T0->T1->T2->T3->Prop}{C:Prop}(h:∃x0 x1 x2 x3,P0 x0 x1 x2 x3)(k:∀x0 x1 x2 x3,P0 x0 x1 x2 x3->C):C:=h.elim λx0 h=>Vc h (k x0)
theorem Va {T0:Sort _}{T1:Sort _}{T2:Sort _}{T3:Sort _}{P0 P1:T0->T1->T2->T3->Prop}{C:Prop}(h:∃x0 x1 x2 x3,P0 x0 x1 x2 x3/\P1 x0 x1 x2 x3)(k:∀x0 x1 x2 x3,P0 x0 x1 x2 x3->P1 x0 x1 x2 x3->C):C:=h.elim λx0 h=>B9 h (k x0)
theorem Go {T0:Sort _}{T1:Sort _}{T2:Sort _}{T3:Sort _}{P0 P1 P2:T0->T1->T2->T3->Prop}{C:Prop}(h:∃x0 x1 x2 x3,P0 x0 x1 x2 x3/\P1 x0 x1 x2 x3/\P2 x0 x1 x2 x3)(k:∀x0 x1 x2 x3,P0 x0 x1 x2 x3->P1 x0 x1 x2 x3->P2 x0 x1 x2 x3->C):C:=h.elim λx0 h=>Fq h (k x0)
theorem Fp {T0:Sort _}{T1:Sort _}{T2:Sort _}{T3:Sort _}{P0 P1 P2 P3:T0->T1->T2->T3->Prop}{C:Prop}(h:∃x0 x1 x2 x3,P0 x0 x1 x2 x3/\P1 x0 x1 x2 x3/\P2 x0 x1 x2 x3/\P3 x0 x1 x2 x3)(k:∀x0 x1 x2 x3,P0 x0 x1 x2 x3->P1 x0 x1 x2 x3->P2 x0 x1 x2 x3->P3 x0 x1 x2 x3->C):C:=h.elim λx0 h=>Ds h (k x0)
theorem Cs {T0:Sort _}{T1:Sort _}{T2:Sort _}{T3:Sort _}{P0 P1 P2 P3 P4:T0->T1->T2->T3->Prop}{C:Prop}(h:∃x0 x1 x2 x3,P0 x0 x1 x2 x3/\P1 x0 x1 x2 x3/\P2 x0 x1 x2 x3/\P3 x0 x1 x2 x3/\P4 x0 x1 x2 x3)(k:∀x0 x1 x2 x3,P0 x0 x1 x2 x3->P1 x0 x1 x2 x3->P2 x0 x1 x2 x3->P3 x0 x1 x2 x3->P4 x0 x1 x2 x3->C):C:=h.elim λx0 h=>Iw h (k x0)
theorem Eh {T0:Sort _}{T1:Sort _}{T2:Sort _}{T3:Sort _}{P0 P1 P2 P3 P4 P5:T0->T1->T2->T3->Prop}{C:Prop}(h:∃x0 x1 x2 x3,P0 x0 x1 x2 x3/\P1 x0 x1 x2 x3/\P2 x0 x1 x2 x3/\P3 x0 x1 x2 x3/\P4 x0 x1 x2 x3/\P5 x0 x1 x2 x3)(k:∀x0 x1 x2 x3,P0 x0 x1 x2 x3->P1 x0 x1 x2 x3->P2 x0 x1 x2 x3->P3 x0 x1 x2 x3->P4 x0 x1 x2 x3->P5 x0 x1 x2 x3->C):C:=h.elim λx0 h=>Hg h (k x0)
theorem U9 {T0:Sort _}{T1:Sort _}{T2:Sort _}{T3:Sort _}{P0 P1 P2 P3 P4 P5 P6:T0->T1->T2->T3->Prop}{C:Prop}(h:∃x0 x1 x2 x3,P0 x0 x1 x2 x3/\P1 x0 x1 x2 x3/\P2 x0 x1 x2 x3/\P3 x0 x1 x2 x3/\P4 x0 x1 x2 x3/\P5 x0 x1 x2 x3/\P6 x0 x1 x2 x3)(k:∀x0 x1 x2 x3,P0 x0 x1 x2 x3->P1 x0 x1 x2 x3->P2 x0 x1 x2 x3->P3 x0 x1 x2 x3->P4 x0 x1 x2 x3->P5 x0 x1 x2 x3->P6 x0 x1 x2 x3->C):C:=h.elim λx0 h=>Vb h (k x0)
theorem nK {T0:Sort _}{T1:Sort _}{T2:Sort _}{T3:Sort _}{P0 P1 P2 P3 P4 P5 P6 P7:T0->T1->T2->T3->Prop}{C:Prop}(h:∃x0 x1 x2 x3,P0 x0 x1 x2 x3/\P1 x0 x1 x2 x3/\P2 x0 x1 x2 x3/\P3 x0 x1 x2 x3/\P4 x0 x1 x2 x3/\P5 x0 x1 x2 x3/\P6 x0 x1 x2 x3/\P7 x0 x1 x2 x3)(k:∀x0 x1 x2 x3,P0 x0 x1 x2 x3->P1 x0 x1 x2 x3->P2 x0 x1 x2 x3->P3 x0 x1 x2 x3->P4 x0 x1 x2 x3->P5 x0 x1 x2 x3->P6 x0 x1 x2 x3->P7 x0 x1 x2 x3->C):C:=h.elim λx0 h=>nN h (k x0)
theorem N3 {T0:Sort _}{T1:Sort _}{T2:Sort _}{T3:Sort _}{P0 P1 P2 P3 P4 P5 P6 P7 P8:T0->T1->T2->T3->Prop}{C:Prop}(h:∃x0 x1 x2 x3,P0 x0 x1 x2 x3/\P1 x0 x1 x2 x3/\P2 x0 x1 x2 x3/\P3 x0 x1 x2 x3/\P4 x0 x1 x2 x3/\P5 x0 x1 x2 x3/\P6 x0 x1 x2 x3/\P7 x0 x1 x2 x3/\P8 x0 x1 x2 x3)(k:∀x0 x1 x2 x3,P0 x0 x1 x2 x3->P1 x0 x1 x2 x3->P2 x0 x1 x2 x3->P3 x0 x1 x2 x3->P4 x0 x1 x2 x3->P5 x0 x1 x2 x3->P6 x0 x1 x2 x3->P7 x0 x1 x2 x3->P8 x0 x1 x2 x3->C):C:=h.elim λx0 h=>nM h (k x0)
theorem jI {T0:Sort _}{T1:Sort _}{T2:Sort _}{T3:Sort _}{P0 P1 P2 P3 P4 P5 P6 P7 P8 P9 P10:T0->T1->T2->T3->Prop}{C:Prop}(h:∃x0 x1 x2 x3,P0 x0 x1 x2 x3/\P1 x0 x1 x2 x3/\P2 x0 x1 x2 x3/\P3 x0 x1 x2 x3/\P4 x0 x1 x2 x3/\P5 x0 x1 x2 x3/\P6 x0 x1 x2 x3/\P7 x0 x1 x2 x3/\P8 x0 x1 x2 x3/\P9 x0 x1 x2 x3/\P10 x0 x1 x2 x3)(k:∀x0 x1 x2 x3,P0 x0 x1 x2 x3->P1 x0 x1 x2 x3->P2 x0 x1 x2 x3->P3 x0 x1 x2 x3->P4 x0 x1 x2 x3->P5 x0 x1 x2 x3->P6 x0 x1 x2 x3->P7 x0 x1 x2 x3->P8 x0 x1 x2 x3->P9 x0 x1 x2 x3->P10 x0 x1 x2 x3->C):C:=h.elim λx0 h=>jJ h (k x0)
theorem Iv {T0:Sort _}{T1:Sort _}{T2:Sort _}{T3:Sort _}{T4:Sort _}{P0:T0->T1->T2->T3->T4->Prop}{C:Prop}(h:∃x0 x1 x2 x3 x4,P0 x0 x1 x2 x3 x4)(k:∀x0 x1 x2 x3 x4,P0 x0 x1 x2 x3 x4->C):C:=h.elim λx0 h=>nL h (k x0)
theorem aO {T0:Sort _}{T1:Sort _}{T2:Sort _}{T3:Sort _}{T4:Sort _}{P0 P1 P2 P3:T0->T1->T2->T3->T4->Prop}{C:Prop}(h:∃x0 x1 x2 x3 x4,P0 x0 x1 x2 x3 x4/\P1 x0 x1 x2 x3 x4/\P2 x0 x1 x2 x3 x4/\P3 x0 x1 x2 x3 x4)(k:∀x0 x1 x2 x3 x4,P0 x0 x1 x2 x3 x4->P1 x0 x1 x2 x3 x4->P2 x0 x1 x2 x3 x4->P3 x0 x1 x2 x3 x4->C):C:=h.elim λx0 h=>Fp h (k x0)
theorem U8 {T0:Sort _}{T1:Sort _}{T2:Sort _}{T3:Sort _}{T4:Sort _}{P0 P1 P2 P3 P4:T0->T1->T2->T3->T4->Prop}{C:Prop}(h:∃x0 x1 x2 x3 x4,P0 x0 x1 x2 x3 x4/\P1 x0 x1 x2 x3 x4/\P2 x0 x1 x2 x3 x4/\P3 x0 x1 x2 x3 x4/\P4 x0 x1 x2 x3 x4)(k:∀x0 x1 x2 x3 x4,P0 x0 x1 x2 x3 x4->P1 x0 x1 x2 x3 x4->P2 x0 x1 x2 x3 x4->P3 x0 x1 x2 x3 x4->P4 x0 x1 x2 x3 x4->C):C:=h.elim λx0 h=>Cs h (k x0)
theorem nJ {T0:Sort _}{T1:Sort _}{T2:Sort _}{T3:Sort _}{T4:Sort _}{P0 P1 P2 P3 P4 P5:T0->T1->T2->T3->T4->Prop}{C:Prop}(h:∃x0 x1 x2 x3 x4,P0 x0 x1 x2 x3 x4/\P1 x0 x1 x2 x3 x4/\P2 x0 x1 x2 x3 x4/\P3 x0 x1 x2 x3 x4/\P4 x0 x1 x2 x3 x4/\P5 x0 x1 x2 x3 x4)(k:∀x0 x1 x2 x3 x4,P0 x0 x1 x2 x3 x4->P1 x0 x1 x2 x3 x4->P2 x0 x1 x2 x3 x4->P3 x0 x1 x2 x3 x4->P4 x0 x1 x2 x3 x4->P5 x0 x1 x2 x3 x4->C):C:=h.elim λx0 h=>Eh h (k x0)
theorem aN {T0:Sort _}{T1:Sort _}{T2:Sort _}{T3:Sort _}{T4:Sort _}{P0 P1 P2 P3 P4 P5 P6:T0->T1->T2->T3->T4->Prop}{C:Prop}(h:∃x0 x1 x2 x3 x4,P0 x0 x1 x2 x3 x4/\P1 x0 x1 x2 x3 x4/\P2 x0 x1 x2 x3 x4/\P3 x0 x1 x2 x3 x4/\P4 x0 x1 x2 x3 x4/\P5 x0 x1 x2 x3 x4/\P6 x0 x1 x2 x3 x4)(k:∀x0 x1 x2 x3 x4,P0 x0 x1 x2 x3 x4->P1 x0 x1 x2 x3 x4->P2 x0 x1 x2 x3 x4->P3 x0 x1 x2 x3 x4->P4 x0 x1 x2 x3 x4->P5 x0 x1 x2 x3 x4->P6 x0 x1 x2 x3 x4->C):C:=h.elim λx0 h=>U9 h (k x0)
theorem fW {T0:Sort _}{T1:Sort _}{T2:Sort _}{T3:Sort _}{T4:Sort _}{P0 P1 P2 P3 P4 P5 P6 P7 P8:T0->T1->T2->T3->T4->Prop}{C:Prop}(h:∃x0 x1 x2 x3 x4,P0 x0 x1 x2 x3 x4/\P1 x0 x1 x2 x3 x4/\P2 x0 x1 x2 x3 x4/\P3 x0 x1 x2 x3 x4/\P4 x0 x1 x2 x3 x4/\P5 x0 x1 x2 x3 x4/\P6 x0 x1 x2 x3 x4/\P7 x0 x1 x2 x3 x4/\P8 x0 x1 x2 x3 x4)(k:∀x0 x1 x2 x3 x4,P0 x0 x1 x2 x3 x4->P1 x0 x1 x2 x3 x4->P2 x0 x1 x2 x3 x4->P3 x0 x1 x2 x3 x4->P4 x0 x1 x2 x3 x4->P5 x0 x1 x2 x3 x4->P6 x0 x1 x2 x3 x4->P7 x0 x1 x2 x3 x4->P8 x0 x1 x2 x3 x4->C):C:=h.elim λx0 h=>N3 h (k x0)
theorem jH {T0:Sort _}{T1:Sort _}{T2:Sort _}{T3:Sort _}{T4:Sort _}{P0 P1 P2 P3 P4 P5 P6 P7 P8 P9 P10:T0->T1->T2->T3->T4->Prop}{C:Prop}(h:∃x0 x1 x2 x3 x4,P0 x0 x1 x2 x3 x4/\P1 x0 x1 x2 x3 x4/\P2 x0 x1 x2 x3 x4/\P3 x0 x1 x2 x3 x4/\P4 x0 x1 x2 x3 x4/\P5 x0 x1 x2 x3 x4/\P6 x0 x1 x2 x3 x4/\P7 x0 x1 x2 x3 x4/\P8 x0 x1 x2 x3 x4/\P9 x0 x1 x2 x3 x4/\P10 x0 x1 x2 x3 x4)(k:∀x0 x1 x2 x3 x4,P0 x0 x1 x2 x3 x4->P1 x0 x1 x2 x3 x4->P2 x0 x1 x2 x3 x4->P3 x0 x1 x2 x3 x4->P4 x0 x1 x2 x3 x4->P5 x0 x1 x2 x3 x4->P6 x0 x1 x2 x3 x4->P7 x0 x1 x2 x3 x4->P8 x0 x1 x2 x3 x4->P9 x0 x1 x2 x3 x4->P10 x0 x1 x2 x3 x4->C):C:=h.elim λx0 h=>jI h (k x0)
theorem nI {T0:Sort _}{T1:Sort _}{T2:Sort _}{T3:Sort _}{T4:Sort _}{T5:Sort _}{P0 P1 P2 P3:T0->T1->T2->T3->T4->T5->Prop}{C:Prop}(h:∃x0 x1 x2 x3 x4 x5,P0 x0 x1 x2 x3 x4 x5/\P1 x0 x1 x2 x3 x4 x5/\P2 x0 x1 x2 x3 x4 x5/\P3 x0 x1 x2 x3 x4 x5)(k:∀x0 x1 x2 x3 x4 x5,P0 x0 x1 x2 x3 x4 x5->P1 x0 x1 x2 x3 x4 x5->P2 x0 x1 x2 x3 x4 x5->P3 x0 x1 x2 x3 x4 x5->C):C:=Iv h λx0 x1 x2 x3 x4 h=>Ck h (k x0 x1 x2 x3 x4)
theorem nH {T0:Sort _}{T1:Sort _}{T2:Sort _}{T3:Sort _}{T4:Sort _}{T5:Sort _}{P0 P1 P2 P3 P4:T0->T1->T2->T3->T4->T5->Prop}{C:Prop}(h:∃x0 x1 x2 x3 x4 x5,P0 x0 x1 x2 x3 x4 x5/\P1 x0 x1 x2 x3 x4 x5/\P2 x0 x1 x2 x3 x4 x5/\P3 x0 x1 x2 x3 x4 x5/\P4 x0 x1 x2 x3 x4 x5)(k:∀x0 x1 x2 x3 x4 x5,P0 x0 x1 x2 x3 x4 x5->P1 x0 x1 x2 x3 x4 x5->P2 x0 x1 x2 x3 x4 x5->P3 x0 x1 x2 x3 x4 x5->P4 x0 x1 x2 x3 x4 x5->C):C:=Iv h λx0 x1 x2 x3 x4 h=>Lv h (k x0 x1 x2 x3 x4)
theorem nG {T0:Sort _}{T1:Sort _}{T2:Sort _}{T3:Sort _}{T4:Sort _}{T5:Sort _}{P0 P1 P2 P3 P4 P5 P6 P7:T0->T1->T2->T3->T4->T5->Prop}{C:Prop}(h:∃x0 x1 x2 x3 x4 x5,P0 x0 x1 x2 x3 x4 x5/\P1 x0 x1 x2 x3 x4 x5/\P2 x0 x1 x2 x3 x4 x5/\P3 x0 x1 x2 x3 x4 x5/\P4 x0 x1 x2 x3 x4 x5/\P5 x0 x1 x2 x3 x4 x5/\P6 x0 x1 x2 x3 x4 x5/\P7 x0 x1 x2 x3 x4 x5)(k:∀x0 x1 x2 x3 x4 x5,P0 x0 x1 x2 x3 x4 x5->P1 x0 x1 x2 x3 x4 x5->P2 x0 x1 x2 x3 x4 x5->P3 x0 x1 x2 x3 x4 x5->P4 x0 x1 x2 x3 x4 x5->P5 x0 x1 x2 x3 x4 x5->P6 x0 x1 x2 x3 x4 x5->P7 x0 x1 x2 x3 x4 x5->C):C:=Iv h λx0 x1 x2 x3 x4 h=>fY h (k x0 x1 x2 x3 x4)
theorem fT {T0:Sort _}{T1:Sort _}{T2:Sort _}{T3:Sort _}{T4:Sort _}{T5:Sort _}{P0 P1 P2 P3 P4 P5 P6 P7 P8:T0->T1->T2->T3->T4->T5->Prop}{C:Prop}(h:∃x0 x1 x2 x3 x4 x5,P0 x0 x1 x2 x3 x4 x5/\P1 x0 x1 x2 x3 x4 x5/\P2 x0 x1 x2 x3 x4 x5/\P3 x0 x1 x2 x3 x4 x5/\P4 x0 x1 x2 x3 x4 x5/\P5 x0 x1 x2 x3 x4 x5/\P6 x0 x1 x2 x3 x4 x5/\P7 x0 x1 x2 x3 x4 x5/\P8 x0 x1 x2 x3 x4 x5)(k:∀x0 x1 x2 x3 x4 x5,P0 x0 x1 x2 x3 x4 x5->P1 x0 x1 x2 x3 x4 x5->P2 x0 x1 x2 x3 x4 x5->P3 x0 x1 x2 x3 x4 x5->P4 x0 x1 x2 x3 x4 x5->P5 x0 x1 x2 x3 x4 x5->P6 x0 x1 x2 x3 x4 x5->P7 x0 x1 x2 x3 x4 x5->P8 x0 x1 x2 x3 x4 x5->C):C:=Iv h λx0 x1 x2 x3 x4 h=>fX h (k x0 x1 x2 x3 x4)
theorem fS {T0:Sort _}{T1:Sort _}{T2:Sort _}{T3:Sort _}{T4:Sort _}{T5:Sort _}{T6:Sort _}{P0 P1:T0->T1->T2->T3->T4->T5->T6->Prop}{C:Prop}(h:∃x0 x1 x2 x3 x4 x5 x6,P0 x0 x1 x2 x3 x4 x5 x6/\P1 x0 x1 x2 x3 x4 x5 x6)(k:∀x0 x1 x2 x3 x4 x5 x6,P0 x0 x1 x2 x3 x4 x5 x6->P1 x0 x1 x2 x3 x4 x5 x6->C):C:=Iv h λx0 x1 x2 x3 x4 h=>A2 h (k x0 x1 x2 x3 x4)
theorem jN {T0:Sort _}{T1:Sort _}{T2:Sort _}{T3:Sort _}{T4:Sort _}{T5:Sort _}{T6:Sort _}{T7:Sort _}{T8:Sort _}{T9:Sort _}{P0 P1 P2 P3 P4:T0->T1->T2->T3->T4->T5->T6->T7->T8->T9->Prop}{C:Prop}(h:∃x0 x1 x2 x3 x4 x5 x6 x7 x8 x9,P0 x0 x1 x2 x3 x4 x5 x6 x7 x8 x9/\P1 x0 x1 x2 x3 x4 x5 x6 x7 x8 x9/\P2 x0 x1 x2 x3 x4 x5 x6 x7 x8 x9/\P3 x0 x1 x2 x3 x4 x5 x6 x7 x8 x9/\P4 x0 x1 x2 x3 x4 x5 x6 x7 x8 x9)(k:∀x0 x1 x2 x3 x4 x5 x6 x7 x8 x9,P0 x0 x1 x2 x3 x4 x5 x6 x7 x8 x9->P1 x0 x1 x2 x3 x4 x5 x6 x7 x8 x9->P2 x0 x1 x2 x3 x4 x5 x6 x7 x8 x9->P3 x0 x1 x2 x3 x4 x5 x6 x7 x8 x9->P4 x0 x1 x2 x3 x4 x5 x6 x7 x8 x9->C):C:=Iv h λx0 x1 x2 x3 x4 h=>U8 h (k x0 x1 x2 x3 x4)
theorem aR {T0:Sort _}{T1:Sort _}{T2:Sort _}{T3:Sort _}{T4:Sort _}{T5:Sort _}{T6:Sort _}{T7:Sort _}{T8:Sort _}{T9:Sort _}{P0 P1 P2 P3 P4 P5:T0->T1->T2->T3->T4->T5->T6->T7->T8->T9->Prop}{C:Prop}(h:∃x0 x1 x2 x3 x4 x5 x6 x7 x8 x9,P0 x0 x1 x2 x3 x4 x5 x6 x7 x8 x9/\P1 x0 x1 x2 x3 x4 x5 x6 x7 x8 x9/\P2 x0 x1 x2 x3 x4 x5 x6 x7 x8 x9/\P3 x0 x1 x2 x3 x4 x5 x6 x7 x8 x9/\P4 x0 x1 x2 x3 x4 x5 x6 x7 x8 x9/\P5 x0 x1 x2 x3 x4 x5 x6 x7 x8 x9)(k:∀x0 x1 x2 x3 x4 x5 x6 x7 x8 x9,P0 x0 x1 x2 x3 x4 x5 x6 x7 x8 x9->P1 x0 x1 x2 x3 x4 x5 x6 x7 x8 x9->P2 x0 x1 x2 x3 x4 x5 x6 x7 x8 x9->P3 x0 x1 x2 x3 x4 x5 x6 x7 x8 x9->P4 x0 x1 x2 x3 x4 x5 x6 x7 x8 x9->P5 x0 x1 x2 x3 x4 x5 x6 x7 x8 x9->C):C:=Iv h λx0 x1 x2 x3 x4 h=>nJ h (k x0 x1 x2 x3 x4)
theorem jM {T0:Sort _}{T1:Sort _}{T2:Sort _}{T3:Sort _}{T4:Sort _}{T5:Sort _}{T6:Sort _}{T7:Sort _}{T8:Sort _}{T9:Sort _}{P0 P1 P2 P3 P4 P5 P6 P7 P8:T0->T1->T2->T3->T4->T5->T6->T7->T8->T9->Prop}{C:Prop}(h:∃x0 x1 x2 x3 x4 x5 x6 x7 x8 x9,P0 x0 x1 x2 x3 x4 x5 x6 x7 x8 x9/\P1 x0 x1 x2 x3 x4 x5 x6 x7 x8 x9/\P2 x0 x1 x2 x3 x4 x5 x6 x7 x8 x9/\P3 x0 x1 x2 x3 x4 x5 x6 x7 x8 x9/\P4 x0 x1 x2 x3 x4 x5 x6 x7 x8 x9/\P5 x0 x1 x2 x3 x4 x5 x6 x7 x8 x9/\P6 x0 x1 x2 x3 x4 x5 x6 x7 x8 x9/\P7 x0 x1 x2 x3 x4 x5 x6 x7 x8 x9/\P8 x0 x1 x2 x3 x4 x5 x6 x7 x8 x9)(k:∀x0 x1 x2 x3 x4 x5 x6 x7 x8 x9,P0 x0 x1 x2 x3 x4 x5 x6 x7 x8 x9->P1 x0 x1 x2 x3 x4 x5 x6 x7 x8 x9->P2 x0 x1 x2 x3 x4 x5 x6 x7 x8 x9->P3 x0 x1 x2 x3 x4 x5 x6 x7 x8 x9->P4 x0 x1 x2 x3 x4 x5 x6 x7 x8 x9->P5 x0 x1 x2 x3 x4 x5 x6 x7 x8 x9->P6 x0 x1 x2 x3 x4 x5 x6 x7 x8 x9->P7 x0 x1 x2 x3 x4 x5 x6 x7 x8 x9->P8 x0 x1 x2 x3 x4 x5 x6 x7 x8 x9->C):C:=Iv h λx0 x1 x2 x3 x4 h=>fW h (k x0 x1 x2 x3 x4)
theorem Ix {T0:Sort _}{T1:Sort _}{T2:Sort _}{T3:Sort _}{T4:Sort _}{T5:Sort _}{T6:Sort _}{T7:Sort _}{T8:Sort _}{T9:Sort _}{P0 P1 P2 P3 P4 P5 P6 P7 P8 P9 P10:T0->T1->T2->T3->T4->T5->T6->T7->T8->T9->Prop}{C:Prop}(h:∃x0 x1 x2 x3 x4 x5 x6 x7 x8 x9,P0 x0 x1 x2 x3 x4 x5 x6 x7 x8 x9/\P1 x0 x1 x2 x3 x4 x5 x6 x7 x8 x9/\P2 x0 x1 x2 x3 x4 x5 x6 x7 x8 x9/\P3 x0 x1 x2 x3 x4 x5 x6 x7 x8 x9/\P4 x0 x1 x2 x3 x4 x5 x6 x7 x8 x9/\P5 x0 x1 x2 x3 x4 x5 x6 x7 x8 x9/\P6 x0 x1 x2 x3 x4 x5 x6 x7 x8 x9/\P7 x0 x1 x2 x3 x4 x5 x6 x7 x8 x9/\P8 x0 x1 x2 x3 x4 x5 x6 x7 x8 x9/\P9 x0 x1 x2 x3 x4 x5 x6 x7 x8 x9/\P10 x0 x1 x2 x3 x4 x5 x6 x7 x8 x9)(k:∀x0 x1 x2 x3 x4 x5 x6 x7 x8 x9,P0 x0 x1 x2 x3 x4 x5 x6 x7 x8 x9->P1 x0 x1 x2 x3 x4 x5 x6 x7 x8 x9->P2 x0 x1 x2 x3 x4 x5 x6 x7 x8 x9->P3 x0 x1 x2 x3 x4 x5 x6 x7 x8 x9->P4 x0 x1 x2 x3 x4 x5 x6 x7 x8 x9->P5 x0 x1 x2 x3 x4 x5 x6 x7 x8 x9->P6 x0 x1 x2 x3 x4 x5 x6 x7 x8 x9->P7 x0 x1 x2 x3 x4 x5 x6 x7 x8 x9->P8 x0 x1 x2 x3 x4 x5 x6 x7 x8 x9->P9 x0 x1 x2 x3 x4 x5 x6 x7 x8 x9->P10 x0 x1 x2 x3 x4 x5 x6 x7 x8 x9->C):C:=Iv h λx0 x1 x2 x3 x4 h=>jH h (k x0 x1 x2 x3 x4)
theorem Sg {α:Type _}{x:α}{P:Prop}(e:(none:Option α)=some x):P:=by cases e
theorem Xo {α:Type _}{l:List α}(h:l.length=2):∃x y,l=[x,y]:=by
 cases l with
 |nil=>cases h
 |cons x l=>
  cases l with
  |nil=>cases h
  |cons y l=>exact⟨x,y,by rw[List.eq_nil_of_length_eq_zero (Nat.succ.inj (Nat.succ.inj h))]⟩
theorem O8 {α:Sort _}{c:Prop}[i:Decidable c]{a b:α}(P:α->Prop)(h1:c->P a)(h2:¬c->P b):P (if c then a else b):=
 match i with
 | .isTrue h=>h1 h
 | .isFalse h=>h2 h
theorem A4 {α:Type}{M:Model}{A:Around}{t:Sem α}{Q:α->Shared->Prop}{E:Value->Shared->Prop}{s:Shared}(h:wpAny M A t Q E s):
  wpAny M A t (λa s'=>Q a s'/\s.toks<=s'.toks) E s:=wpAny_mono (wpAny_toks_of (le_refl _) h) (λ_ _ x=>x.symm) λ_ _ x=>x.2
inductive D where
 |none
 |bool (b:Bool)
 |int (i:Int)
 |str (l:List Nat)
 |tup (l:List D)
 |lst (l:List D)
 |obj (k:Nat)
 |raw (v:Value)
 |app (k:Nat)
 |rng (a b c:Int)
 |sem (P:(Addr->Option Obj)->Value->Prop)
abbrev Gh:=Addr->Option Obj
noncomputable def Gh.le (G G':Gh):Prop:=∀a o,G a=some o->G' a=some o
theorem Gh.le.refl (G:Gh):G.le G:=λ_ _ e=>e
theorem Gh.le.trans {G₁ G₂ G₃:Gh}(x:G₁.le G₂)(y:G₂.le G₃):G₁.le G₃:=λa o e=>y a o (x a o e)
noncomputable def Eo (a:Addr):Obj:={cls:=.type "builtin_function_or_method",data:=.fields #[.builtin "list.append",.ref a]}
noncomputable def Ul (G:Gh) (a:Addr) (T:String) (vs:List Value):Prop:=∃o,G a=some o/\o.cls=.type T/\∃n,o.data=.seq vs.toArray n
mutual
noncomputable def Bb (G:Gh) (ι:List Addr):D->Value->Prop
 | .none,v=>v=.none
 | .bool b,v=>v=.bool b
 | .int i,v=>∃t,v=.int i t
 | .str l,v=>∃t,v=.str ⟨l.toArray⟩ t
 | .tup l,v=>∃a vs,v=.ref a/\Ul G a "tuple" vs/\RelL G ι l vs
 | .lst l,v=>∃a vs,v=.ref a/\Ul G a "list" vs/\RelL G ι l vs
 | .obj k,v=>∃a,ι[k]? =some a/\v=.ref a
 | .raw w,v=>v=w
 | .rng a b c,v=>∃r t u w,v=.ref r/\G r=some {cls:=.type "range",data:=.fields #[.int a t,.int b u,.int c w]}
 | .app k,v=>∃m a,ι[k]? =some a/\v=.ref m/\G m=some (Eo a)
 | .sem P,v=>∃G₀:Gh,G₀.le G/\P G₀ v
noncomputable def RelL (G:Gh) (ι:List Addr):List D->List Value->Prop
 |[],vs=>vs=[]
 |d::ds,vs=>∃v r,vs=v::r/\Bb G ι d v/\RelL G ι ds r
end
noncomputable def A1 (ι ι':List Addr):Prop:=∀(k:Nat) (a:Addr),ι[k]? =some a->ι'[k]? =some a
theorem A1.refl (ι:List Addr):A1 ι ι:=λ_ _ e=>e
theorem A1.trans {a b c:List Addr}(x:A1 a b)(y:A1 b c):A1 a c:=λk e h=>y k e (x k e h)
theorem A1.append (a b:List Addr):A1 a (a++b):=λk x h=>by
 rw[List.getElem?_append_left];exact h
 exact(List.getElem?_eq_some_iff.mp h).1
theorem Gh.le.seqs {G G':Gh}(x:G.le G'){a:Addr}{T:String}{vs:List Value}(h:Ul G a T vs):Ul G' a T vs:=by refine Ac h λo e r=>?_;try clear h;exact⟨o,x _ _ e,r⟩
theorem Bb.mono' {G G':Gh}{ι ι':List Addr}(hG:G.le G')(hι:A1 ι ι')(d:D):∀(v:Value),Bb G ι d v->Bb G' ι' d v:=by
 induction d using D.rec (motive_2:=λds=>∀vs,RelL G ι ds vs->RelL G' ι' ds vs)with
 |none=>exact λ_ h=>h
 |bool _=>exact λ_ h=>h
 |int _=>exact λ_ h=>h
 |str _=>exact λ_ h=>h
 |raw _=>exact λ_ h=>h
 |tup l ih=>exact λv h=>Aj h λa vs e s r=>⟨a,vs,e,hG.seqs s,ih vs r⟩
 |lst l ih=>exact λv h=>Aj h λa vs e s r=>⟨a,vs,e,hG.seqs s,ih vs r⟩
 |obj _=>exact λv h=>Ac h λa e h=>⟨a,hι _ _ e,h⟩
 |rng _ _ _=>exact λv h=>Va h λr t u w e h=>⟨r,t,u,w,e,hG _ _ h⟩
 |app _=>exact λv h=>Aj h λm a e ev h=>⟨m,a,hι _ _ e,ev,hG _ _ h⟩
 |sem _=>exact λv h=>Ac h λG₀ l p=>⟨G₀,l.trans hG,p⟩
 |nil _ h=>exact h
 |cons d ds ih1 ih2 vs h=>exact Aj h λv r e h t=>⟨v,r,e,ih1 v h,ih2 r t⟩
theorem RelL.mono' {G G':Gh}{ι ι':List Addr}(hG:G.le G')(hι:A1 ι ι')(ds:List D):∀(vs:List Value),RelL G ι ds vs->RelL G' ι' ds vs:=by
 induction ds with
 |nil=>exact λ_ h=>h
 |cons d ds ih=>exact λvs h=>Aj h λv r e h t=>⟨v,r,e,Bb.mono' hG hι d v h,ih r t⟩
theorem Bb.mono {G G':Gh}{ι ι':List Addr}{d:D}{v:Value}(h:Bb G ι d v)(hG:G.le G')(hι:A1 ι ι'):Bb G' ι' d v:=Bb.mono' hG hι d v h
theorem RelL.mono {G G':Gh}{ι ι':List Addr}{d:List D}{v:List Value}(h:RelL G ι d v)(hG:G.le G')(hι:A1 ι ι'):RelL G' ι' d v:=RelL.mono' hG hι d v h
theorem Bs {G:Gh}{ι:List Addr}{vs:List Value}(h:RelL G ι [] vs):vs=[]:=h
theorem RelL.length {G:Gh}{ι:List Addr}{ds:List D}:∀{vs:List Value},RelL G ι ds vs->vs.length=ds.length:=by
 induction ds with
 |nil=>exact λh=>congrArg List.length (show _=[]from h)
 |cons d ds ih=>exact λh=>Aj h λv r e _ t=>(congrArg List.length e).trans (congrArg Nat.succ (ih t))
theorem RelL.append {G:Gh}{ι:List Addr}{ds ds':List D}:∀{vs vs':List Value},RelL G ι ds vs->RelL G ι ds' vs'->RelL G ι (ds++ds') (vs++vs'):=by
 induction ds with
 |nil=>exact λ{_ vs'} h h'=>Eq.mpr (congrArg (λv=>RelL G ι ds' (v++vs')) (show _=[]from h)) h'
 |cons d ds ih=>exact λ{_ vs'} h h'=>Aj h λv r e x t=>⟨v,r++vs',congrArg (·++vs') e,x,ih t h'⟩
theorem RelL.getElem? {G:Gh}{ι:List Addr}{ds:List D}:∀{vs:List Value},RelL G ι ds vs->∀{k:Nat} {d:D},ds[k]? =some d->∃v,vs[k]? =some v/\Bb G ι d v:=by
 induction ds with
 |nil=>intro vs _ k d e;exact nomatch (show none=some d from e)
 |cons d ds ih=>
  intro vs h k d' e'
  refine Aj h λv r e x t=>?_
  subst e
  cases k with
  |zero=>exact⟨v,rfl,Option.some.inj e'▸x⟩
  |succ k=>exact ih t e'
theorem RelL.snoc {G:Gh}{ι:List Addr}{ds:List D}{vs:List Value}{d:D}{v:Value}(h:RelL G ι ds vs)(x:Bb G ι d v):RelL G ι (ds++[d]) (vs++[v]):=
 RelL.append h ⟨v,[],rfl,x,rfl⟩
theorem RelL.take {G:Gh}{ι:List Addr}{ds:List D}:∀{vs:List Value},RelL G ι ds vs->∀n,RelL G ι (ds.take n) (vs.take n):=by
 induction ds with
 |nil=>intro vs h n;rw[show vs=[]from h,List.take_nil,List.take_nil];exact rfl
 |cons d ds ih=>
  intro vs h n
  cases n with
  |zero=>exact rfl
  |succ n=>exact Aj h λv r e x t=>⟨v,r.take n,congrArg (List.take (n+1)) e,x,ih t n⟩
theorem RelL.drop {G:Gh}{ι:List Addr}{ds:List D}:∀{vs:List Value},RelL G ι ds vs->∀n,RelL G ι (ds.drop n) (vs.drop n):=by
 induction ds with
 |nil=>intro vs h n;rw[show vs=[]from h,List.drop_nil,List.drop_nil];exact rfl
 |cons d ds ih=>
  intro vs h n
  cases n with
  |zero=>exact h
  |succ n=>exact Aj h λv r e x t=>Eq.mpr (congrArg (λw=>RelL G ι (ds.drop n) (List.drop (n+1) w)) e) (ih t n)
theorem RelL.set {G:Gh}{ι:List Addr}{ds:List D}:∀{vs:List Value},RelL G ι ds vs->∀(n:Nat) {d:D} {v:Value},Bb G ι d v->RelL G ι (ds.set n d) (vs.set n v):=by
 induction ds with
 |nil=>intro vs h n _ _ _;rw[show vs=[]from h,List.set_nil,List.set_nil];exact rfl
 |cons d ds ih=>
  intro vs h n d' v' y
  cases n with
  |zero=>exact Aj h λv r e x t=>⟨v',r,congrArg (List.set · 0 v') e,y,t⟩
  |succ n=>exact Aj h λv r e x t=>⟨v,r.set n v',congrArg (List.set · (n+1) v') e,x,ih t n y⟩
noncomputable def Uc:List Value->Prop
 | .int a _:: .int b _::_::r=>0<=a/\0<=b/\Uc r
 |_=>True
structure W where
 prog:Program
 w:World
 B:Heap
 mg:Str->Option Value
 mb:Str->Option Value
 tabs:List (Addr×Addr)
 codeOk:Addr->Pos->Gh->Value->Prop
structure W.Ok (Γ:W):Prop where
 g:Γ.B.Ns mainGlobals Γ.mg
 b:Γ.B.Ns builtinsNs Γ.mb
 nolimit:Γ.B.NoLimit
 bm:∃b o,Γ.mg "__builtins__"=some (.ref b)/\b≠builtinsNs/\b≠mainGlobals/\Γ.B.get? b=some o/\o.cls=.type "module"/\o.dict=some builtinsNs/\o.data=.plain
 tinj:∀p∈Γ.tabs,∀q∈Γ.tabs,p.2=q.2->p=q
 codeMono:∀P pos G G' c,G.le G'->Γ.codeOk P pos G c->Γ.codeOk P pos G' c
structure Ch (Γ:W)(G:Gh)(ι:List Addr)(own:List (List D))(h:Heap):Prop where
 base:∀a o,Γ.B.get? a=some o->G a=some o
 gin:∀a o,G a=some o->h.get? a=some o
 len:ι.length=own.length
 at_:∀(k:Nat) (a:Addr) (ds:List D),ι[k]? =some a->own[k]? =some ds->∃vs,h.PlainList a (toArray vs)/\RelL G ι ds vs
 nodup:ι.Nodup
 fresh:∀a∈ι,G a=none
 tabs:∀p∈Γ.tabs,G p.2=none/\p.2∉ι/\∃ps,h.TableAt p.1 p.2 ps/\h.IsCode p.1 p.2 ps/\(∃o,G p.1=some o)/\(∀pos c,codeAmong pos ps.toList=some c->Γ.codeOk p.2 pos G c)/\Uc ps.toList
theorem Ch.lt {Γ:W}{G:Gh}{ι:List Addr}{own:List (List D)}{h:Heap}(S:Ch Γ G ι own h):∀a∈ι,a<h.objs.size:=λa ha=>by
 obtain⟨k,hk,e⟩:=List.getElem_of_mem ha
 have e1:ι[k]? =some a:=by rw[List.getElem?_eq_getElem hk,e]
 have hk2:k<own.length:=S.len▸hk
 obtain⟨vs,⟨o,ho⟩,_⟩:=S.at_ k a own[k] e1 (List.getElem?_eq_getElem hk2)
 exact Heap.lt_size ho
theorem Ch.gfresh {Γ:W}{G:Gh}{ι:List Addr}{own:List (List D)}{h:Heap}(S:Ch Γ G ι own h):G h.objs.size=none:=by
 cases e:G h.objs.size with
 |none=>rfl
 |some o=>exact absurd (Heap.lt_size (S.gin _ _ e)) (lt_irrefl _)
theorem Ch.ext {Γ:W}{G:Gh}{ι:List Addr}{own:List (List D)}{h h':Heap}(S:Ch Γ G ι own h)
  (k:∀a o,(G a=some o\/a∈ι\/a∈Γ.tabs.map (·.2))->h.get? a=some o->h'.get? a=some o):Ch Γ G ι own h' where
 base:=S.base
 gin:=λa o e=>k a o (.inl e) (S.gin a o e)
 len:=S.len
 at_:=λn a ds e e'=>by
  refine Ac (S.at_ n a ds e e') λvs Z q=>?_
  refine Af Z λo ho=>?_
  clear Z
  exact⟨vs,⟨o,k a _ (.inr (.inl (List.mem_of_getElem? e))) ho⟩,q⟩
 nodup:=S.nodup
 fresh:=S.fresh
 tabs:=λp hp=>by
  refine A0 (S.tabs p hp) λa b Y=>?_
  refine Ck Y λps V ic U q=>?_
  clear Y
  refine Ae V λz0 t=>?_
  clear V
  refine A2 z0 λo vs e1 r1=>?_
  clear z0
  refine Af U λog eg=>?_
  clear U
  have k1:∀o,h.get? p.1=some o->h'.get? p.1=some o:=λo ho=>k _ _ (.inl (by have:=S.gin _ _ eg;rw[this]at ho;cases ho;exact eg)) ho
  have k2:∀o,h.get? p.2=some o->h'.get? p.2=some o:=λo ho=>k _ _ (.inr (.inr (mem_map_of_mem hp))) ho
  refine⟨a,b,ps,⟨⟨o,vs,k1 _ e1,r1⟩,k2 _ t⟩,?_,⟨og,eg⟩,q⟩
  refine jM ic λo vs file tf flags tg inF text tt op a1 r1 r2 r3 r4 r5 r6 b1 r=>?_
  try clear ic
  exact⟨o,vs,file,tf,flags,tg,inF,text,tt,op,k1 _ a1,r1,r2,r3,r4,r5,r6,k2 _ b1,r⟩
theorem Ch.freeze {Γ:W}(ok:Γ.Ok){G G':Gh}{ι:List Addr}{own:List (List D)}{h:Heap}(S:Ch Γ G ι own h)(le:G.le G')(hin:∀a o,G' a=some o->h.get? a=some o)
  (hn:∀a∈ι,G' a=none)(ht:∀a∈Γ.tabs.map (·.2),G' a=none):Ch Γ G' ι own h where
 base:=λa o e=>le a o (S.base a o e)
 gin:=hin
 len:=S.len
 at_:=λn a ds e e'=>by
  refine Ac (S.at_ n a ds e e') λvs q r=>?_
  exact⟨vs,q,r.mono le (A1.refl _)⟩
 nodup:=S.nodup
 fresh:=hn
 tabs:=λp hp=>by
  refine A0 (S.tabs p hp) λa b Z=>?_
  refine Ck Z λps t ic Y q=>?_
  clear Z
  refine Af Y λog eg=>?_
  clear Y
  exact⟨ht _ (mem_map_of_mem hp),b,ps,t,ic,⟨og,le _ _ eg⟩,λpos c e=>ok.codeMono _ _ _ _ _ le (q.1 pos c e),q.2⟩
structure St where
 loc:List (String×D)
 own:List (List D)
 ro:List String:=[]
noncomputable def St.get (σ:St) (x:String):Option D:=σ.loc.lookup x
noncomputable def gO (x:String) (d:D):List (String×D)->List (String×D)
 |[]=>[(x,d)]
 |p::r=>if p.1=x then(x,d)::r else p::gO x d r
noncomputable def St.set (σ:St) (x:String) (d:D):St:={σ with loc:=gO x d σ.loc}
theorem lk (y:String)(p:String×D)(r:List (String×D)):List.lookup y (p::r)=if y=p.1 then some p.2 else List.lookup y r:=by
 refine lookup_cons.trans ?_
 by_cases h:y=p.1
 ·rw[if_pos h,beq_iff_eq.mpr h]
 ·rw[if_neg h,beq_false_of_ne h]
theorem Kf (x:String)(d:D)(l:List (String×D))(y:String):(gO x d l).lookup y=if y=x then some d else l.lookup y:=by
 induction l with
 |nil=>exact lk y (x,d) []
 |cons p r ih=>
  refine O8 (c:=p.1=x) (λl=>List.lookup y l=_) (λhp=>?_) λhp=>?_
  ·rw[lk,lk,hp]
   by_cases h:y=x
   ·rw[if_pos h,if_pos h]
   ·rw[if_neg h,if_neg h,if_neg h]
  ·rw[lk,lk,ih]
   by_cases h:y=p.1
   ·rw[if_pos h,if_pos h,if_neg λe=>hp (h▸e)]
   ·rw[if_neg h,if_neg h]
theorem Ba {x y:String}(h:ofString x=ofString y):x=y:=by
 rw[Str.ofString_eq_toList,Str.ofString_eq_toList]at h
 have h':x.toList.map Char.toNat=y.toList.map Char.toNat:=by simpa using h
 have:x.toList=y.toList:=(List.map_inj_right (λa b e=>by
  have:a.val.toNat=b.val.toNat:=e
  exact Char.ext (UInt32.toNat_inj.mp this))).mp h'
 exact String.toList_inj.mp this
structure Cw where
 os:OsState
 gens:Array GenState
 old:Gh
noncomputable def A5 (g g':Array GenState):Prop:=g.size<=g'.size/\(∀i,i<g.size->g'[i]? =g[i]?)/\∀i x,g.size<=i->g'[i]? =some x->x.bare=true
theorem A5.refl (g:Array GenState):A5 g g:=⟨le_refl _,λ_ _=>rfl,λi x h e=>by
 have:=Array.getElem?_eq_none (xs:=g) h;rw[this]at e;cases e⟩
theorem A5.trans {a b c:Array GenState}(x:A5 a b)(y:A5 b c):A5 a c:=
 ⟨le_trans x.1 y.1,λi h=>(y.2.1 i (lt_of_lt_of_le h x.1)).trans (x.2.1 i h),λi z h e=>by
  by_cases hb:i<b.size
  ·rw[y.2.1 i hb]at e;exact x.2.2 i z h e
  ·exact y.2.2 i z (le_of_not_lt hb) e⟩
noncomputable def Mf (K:Cw) (env:Env) (m:Str->Option Value) (h:Heap) (G:Gh) (ι:List Addr) (x:Str) (d:D):Prop:=
 (env.kindOf x=some .local/\∃v,m x=some v/\Bb G ι d v)\/
 (env.kindOf x=some .cell/\∃c v,env.cells.lookup x=some c/\h.IsCell c (some v)/\Bb G ι d v)\/
 (env.kindOf x=some .free/\∃c o v,env.cells.lookup x=some c/\(G c=some o\/K.old c=some o)/\o.data=.cell (some v)/\Bb G ι d v)
noncomputable def Jz (env:Env) (a:Addr):Prop:=a=env.locals\/∃x,env.kindOf x=some .cell/\env.cells.lookup x=some a
structure Aa (Γ:W)(K:Cw)(env:Env)(G:Gh)(ι:List Addr)(σ:St)(s:Shared):Prop where
 store:Ch Γ G ι σ.own s.heap
 ns:∃m,s.heap.Ns env.locals m/\∀x d,σ.get x=some d->Mf K env m s.heap G ι (ofString x) d
 loc:G env.locals=none
 away:∀a,Jz env a->a∉ι/\a∉Γ.tabs.map (·.2)
 cell:∀x c,env.kindOf x=some .cell->env.cells.lookup x=some c->c≠env.locals/\(∃v,s.heap.IsCell c v)/\(∀y,env.kindOf y=some .cell->env.cells.lookup y=some c->y=x)/\
  ∀z,x=ofString z->z∉σ.ro->G c=none/\K.old c=none
 freeIn:∀x c,env.kindOf x=some .free->env.cells.lookup x=some c->∃o,G c=some o\/K.old c=some o
 far:∀a o,K.old a=some o->s.heap.get? a=some o/\G a=none/\a∉ι/\a∉Γ.tabs.map (·.2)/\a≠env.locals
 os:s.os=K.os
 gens:A5 K.gens s.gens
 tk:0<s.toks
section
theorem Wk {l:List Addr}(h:l.Nodup){i j:Nat}(hi:i<l.length)(hj:j<l.length)(e:l[i]=l[j]):i=j:=by
 have p:=List.pairwise_iff_getElem.mp h
 rcases Nat.lt_trichotomy i j with q|q|q
 ·exact absurd e (p i j hi hj q)
 ·exact q
 ·exact absurd e.symm (p j i hj hi q)
section frame
variable {Γ:W}{K K':Cw}{env:Env}{G G':Gh}{ι:List Addr}{σ:St}{s:Shared}
theorem Mf.mono {m:Str->Option Value}{h h':Heap}{ι':List Addr}{x:Str}{d:D}(n:Mf K env m h G ι x d)(hr:∀v,Bb G ι d v->Bb G' ι' d v)
  (hc:∀c v,env.kindOf x=some .cell->env.cells.lookup x=some c->h.IsCell c v->h'.IsCell c v)(hg:∀c o,G c=some o\/K.old c=some o->G' c=some o\/K'.old c=some o):Mf K' env m h' G' ι' x d:=by
 rcases n with⟨k,v,e,r⟩|⟨k,c,v,e,i,r⟩|⟨k,c,o,v,e,i,od,r⟩
 ·exact .inl ⟨k,v,e,hr v r⟩
 ·exact .inr (.inl ⟨k,c,v,e,hc c _ k e i,hr v r⟩)
 ·exact .inr (.inr ⟨k,c,o,v,e,hg c o i,od,hr v r⟩)
theorem Ff (le:G.le G'){c:Addr}{o:Obj}(h:G c=some o\/K.old c=some o):G' c=some o\/K.old c=some o:=h.imp (le _ _) id
theorem Aa.ext (F:Aa Γ K env G ι σ s){h':Heap}{t:Nat}{g:Array GenState}{dr:Drawn}
  (k:∀a o,(G a=some o\/a∈ι\/a∈Γ.tabs.map (·.2)\/Jz env a\/K.old a=some o)->s.heap.get? a=some o->h'.get? a=some o)
  (hg:A5 s.gens g:=by exact A5.refl _)(ht:0<t:=by solve_by_elim [succ_pos]):Aa Γ K env G ι σ ⟨h',g,dr,t,s.os⟩ where
 tk:=ht
 store:=F.store.ext λa o hh=>k a o (by rcases hh with h|h|h;exact .inl h;exact .inr (.inl h);exact .inr (.inr (.inl h)))
 ns:=by
  refine Ac F.ns λm Z q=>?_
  refine B9 Z λo es ep ho r=>?_
  clear Z
  refine⟨m,⟨o,es,ep,k _ _ (.inr (.inr (.inr (.inl (.inl rfl))))) ho,r⟩,λx d e=>(q x d e).mono (λ_ r=>r) ?_ (λ_ _ e=>e)⟩
  intro c v hk hl Y
  refine Ac Y λo ho hd=>?_
  clear Y
  exact⟨o,k _ _ (.inr (.inr (.inr (.inl (.inr ⟨_,hk,hl⟩))))) ho,hd⟩
 loc:=F.loc
 away:=F.away
 cell:=λx c hk hl=>by
  refine A0 (F.cell x c hk hl) λc1 V c3=>?_
  refine A2 V λv o ho hd=>?_
  clear V
  exact⟨c1,⟨v,o,k _ _ (.inr (.inr (.inr (.inl (.inr ⟨x,hk,hl⟩))))) ho,hd⟩,c3⟩
 freeIn:=F.freeIn
 far:=λa o e=>⟨k a o (.inr (.inr (.inr (.inr e)))) (F.far a o e).1,(F.far a o e).2⟩
 os:=F.os
 gens:=F.gens.trans hg
theorem Aa.toks (F:Aa Γ K env G ι σ s)(t:Nat)(ht:0<t:=by solve_by_elim [succ_pos]):Aa Γ K env G ι σ {s with toks:=t}:=
 F.ext (λ_ _ _ e=>e)
theorem Aa.push (F:Aa Γ K env G ι σ s)(o:Obj)(t:Nat)(ht:0<t:=by solve_by_elim [succ_pos,Aa.tk]):Aa Γ K env G ι σ {s with heap:=s.heap.push o,toks:=t}:=
 F.ext (λ_ _ _ e=>Heap.get?_push_of_some o e)
theorem Aa.keepsTo (F:Aa Γ K env G ι σ s){h':Heap}(k:∀a o,s.heap.get? a=some o->h'.get? a=some o)(t:Nat)(ht:0<t:=by solve_by_elim [succ_pos,Aa.tk]):
  Aa Γ K env G ι σ {s with heap:=h',toks:=t}:=F.ext (λa o _ e=>k a o e)
theorem Aa.own_lt (F:Aa Γ K env G ι σ s){a:Addr}(ha:Jz env a):a<s.heap.objs.size:=by
 rcases ha with rfl|⟨x,hk,hl⟩
 ·refine Ac F.ns λm hn _=>?_;exact hn.lt
 ·refine A0 (F.cell x a hk hl) λ_ Z _=>?_
  refine Af Z λv hc=>?_
  clear Z;exact hc.lt
noncomputable def Gh.put (G:Gh) (a:Addr) (o:Obj):Gh:=λb=>if b=a then some o else G b
theorem Gh.put_le {a:Addr}{o:Obj}(hn:G a=none):G.le (G.put a o):=λb p e=>by
 unfold Gh.put
 by_cases h:b=a
 ·subst h;rw[hn]at e;cases e
 ·rw[if_neg h];exact e
theorem Gh.put_self (G:Gh)(a:Addr)(o:Obj):G.put a o a=some o:=by unfold Gh.put;rw[if_pos rfl]
theorem Gh.put_ne {a b:Addr}{o:Obj}(h:b≠a):G.put a o b=G b:=by unfold Gh.put;rw[if_neg h]
theorem Aa.freeze (ok:Γ.Ok)(F:Aa Γ K env G ι σ s){ro:List String}(le:G.le G')(hin:∀a o,G' a=some o->s.heap.get? a=some o)
  (hn:∀a,(a∈ι\/a∈Γ.tabs.map (·.2)\/a=env.locals\/K.old a≠none)->G' a=none)
  (hr:∀x c,env.kindOf x=some .cell->env.cells.lookup x=some c->∀z,x=ofString z->z∉ro->G' c=none/\K.old c=none):Aa Γ K env G' ι {σ with ro:=ro} s where
 store:=F.store.freeze ok le hin (λa h=>hn a (.inl h)) (λa h=>hn a (.inr (.inl h)))
 ns:=by
  refine Ac F.ns λm hm q=>?_
  exact⟨m,hm,λx d e=>(q x d e).mono (λv r=>r.mono le (A1.refl _)) (λ_ _ _ _ i=>i) (λc o=>Ff le)⟩
 tk:=F.tk
 loc:=hn _ (.inr (.inr (.inl rfl)))
 away:=F.away
 cell:=λx c hk hl=>by refine B7 (F.cell x c hk hl) λa b d _=>?_;exact⟨a,b,d,hr x c hk hl⟩
 freeIn:=λx c hk hl=>by refine Af (F.freeIn x c hk hl) λo e=>?_;exact⟨o,Ff le e⟩
 far:=λa o e=>⟨(F.far a o e).1,hn a (.inr (.inr (.inr (by rw[e];exact Option.some_ne_none _)))),(F.far a o e).2.2⟩
 os:=F.os
 gens:=F.gens
theorem Aa.lt_own (F:Aa Γ K env G ι σ s){a:Addr}(h:G a≠none\/a∈ι\/a∈Γ.tabs.map (·.2)\/Jz env a\/K.old a≠none):a<s.heap.objs.size:=by
 rcases h with h|h|h|h|h
 ·cases e:G a with
  |none=>exact absurd e h
  |some o=>exact Heap.lt_size (F.store.gin _ _ e)
 ·exact F.store.lt a h
 ·refine Ac (mem_map.mp h) λp hp V=>?_
  subst V
  refine A0 (F.store.tabs p hp) λ_ _ Z=>?_
  refine Ac Z λps Y _=>?_
  clear Z
  refine Ae Y λ_ t=>?_
  clear Y
  exact Heap.lt_size t
 ·exact F.own_lt h
 ·cases e:K.old a with
  |none=>exact absurd e h
  |some o=>exact Heap.lt_size (F.far _ _ e).1
theorem Aa.alloc (ok:Γ.Ok)(F:Aa Γ K env G ι σ s){o:Obj}(hf:o.isFreed=false)(t:Nat)(ht:0<t:=by solve_by_elim [succ_pos,Aa.tk]):
  G.le (G.put s.heap.objs.size o)/\Aa Γ K env (G.put s.heap.objs.size o) ι σ {s with heap:=s.heap.push o,toks:=t}:=by
 have le:=Gh.put_le (o:=o) F.store.gfresh
 have ne:∀a,(a∈ι\/a∈Γ.tabs.map (·.2)\/Jz env a\/K.old a≠none)->a≠s.heap.objs.size:=λa h=>ne_of_lt (F.lt_own (.inr h))
 refine⟨le,(F.push o t).freeze ok le (λa p e=>?_) (λa ha=>?_) λx c hk hl z hx hz=>?_⟩
 ·unfold Gh.put at e
  split at e
  ·rename_i h;subst h;cases e;exact Heap.get?_push_size _ hf
  ·exact Heap.get?_push_of_some _ (F.store.gin a p e)
 ·rw[Gh.put_ne (ne a (by rcases ha with h|h|h|h;exact .inl h;exact .inr (.inl h);exact .inr (.inr (.inl (.inl h)));exact .inr (.inr (.inr h))))]
  rcases ha with h|h|h|h
  ·exact F.store.fresh a h
  ·refine Ac (mem_map.mp h) λp hp Z=>?_
   subst Z;exact(F.store.tabs p hp).1
  ·rw[h];exact F.loc
  ·cases e:K.old a with
   |none=>exact absurd e h
   |some o=>exact(F.far a o e).2.1
 ·have q:=(F.cell x c hk hl).2.2.2 z hx hz
  exact⟨by rw[Gh.put_ne (ne c (.inr (.inr (.inl (.inr ⟨x,hk,hl⟩)))))];exact q.1,q.2⟩
theorem Kt {a b:NameKind}{x:Option NameKind}(h:x=some a)(h':x=some b)(n:a≠b):False:=by rw[h]at h';cases h';exact n rfl
theorem Aa.setLocal (F:Aa Γ K env G ι σ s){x:String}{d:D}{v:Value}{h':Heap}{m':Str->Option Value}(hk:env.kindOf (ofString x)=some .local)(r:Bb G ι d v)
  (hm:∃m,s.heap.Ns env.locals m/\(∀x d,σ.get x=some d->Mf K env m s.heap G ι (ofString x) d)/\m'=λy=>if y=ofString x then some v else m y)
  (hn:h'.Ns env.locals m')(hs:Heap.SameBut env.locals s.heap h')(t:Nat)(ht:0<t:=by solve_by_elim [succ_pos,Aa.tk]):
  Aa Γ K env G ι (σ.set x d) {s with heap:=h',toks:=t}:=by
 have aw:=F.away _ (.inl rfl)
 have kk:∀a o,a≠env.locals->s.heap.get? a=some o->h'.get? a=some o:=λa o h e=>(hs.2 a h).trans e
 refine⟨F.store.ext λa o hh e=>kk a o (λq=>?_) e,?_,F.loc,F.away,λy c hk' hl'=>?_,F.freeIn,λa o e=>?_,F.os,F.gens,ht⟩
 ·subst q
  rcases hh with h|h|h
  ·rw[F.loc]at h;cases h
  ·exact aw.1 h
  ·exact aw.2 h
 ·refine Ay hm λm Y q V=>?_
  try clear hm
  revert Y
  intro hm
  subst V
  refine⟨_,hn,λy d' e=>?_⟩
  unfold St.get St.set at e
  rw[Kf]at e
  split at e
  ·rename_i hy;subst hy;cases e
   exact .inl ⟨hk,v,by simp,r⟩
  ·rename_i hy
   rcases q y d' e with⟨k,v',e',r'⟩|⟨k,c,v',e',⟨o,ho,hd⟩,r'⟩|z
   ·exact .inl ⟨k,v',by dsimp only;rw[if_neg (λz=>hy (Ba z))];exact e',r'⟩
   ·exact .inr (.inl ⟨k,c,v',e',⟨o,kk _ _ (F.cell _ _ k e').1 ho,hd⟩,r'⟩)
   ·exact .inr (.inr z)
 ·refine A0 (F.cell y c hk' hl') λc1 Z c3=>?_
  refine A2 Z λv' o ho hd=>?_
  clear Z
  exact⟨c1,⟨v',o,kk _ _ c1 ho,hd⟩,c3⟩
 ·have f:=F.far a o e
  exact⟨kk a o (λz=>f.2.2.2.2 z) f.1,f.2⟩
theorem Aa.setCell (F:Aa Γ K env G ι σ s){x:String}{d:D}{v:Value}{h':Heap}{c:Addr}(hk:env.kindOf (ofString x)=some .cell)(hc:env.cells.lookup (ofString x)=some c)(hro:x∉σ.ro)(r:Bb G ι d v)
  (hn:h'.IsCell c (some v))(hs:Heap.SameBut c s.heap h'):
  Aa Γ K env G ι (σ.set x d) {s with heap:=h'}:=by
 have aw:=F.away c (.inr ⟨_,hk,hc⟩)
 have kk:∀a o,a≠c->s.heap.get? a=some o->h'.get? a=some o:=λa o h e=>(hs.2 a h).trans e
 have cl:=F.cell _ _ hk hc
 refine⟨F.store.ext λa o hh e=>kk a o (λq=>?_) e,?_,F.loc,F.away,λy c' hk' hl'=>?_,F.freeIn,λa o e=>?_,F.os,F.gens,F.tk⟩
 ·subst q
  rcases hh with h|h|h
  ·rw[(cl.2.2.2 x rfl hro).1]at h;cases h
  ·exact aw.1 h
  ·exact aw.2 h
 ·refine Ac F.ns λm Z q=>?_
  refine B9 Z λo es ep ho r'=>?_
  clear Z
  refine⟨m,⟨o,es,ep,kk _ _ (λz=>cl.1 z.symm) ho,r'⟩,λy d' e=>?_⟩
  unfold St.get St.set at e
  rw[Kf]at e
  split at e
  ·rename_i hy;subst hy;cases e
   exact .inr (.inl ⟨hk,c,v,hc,hn,r⟩)
  ·rename_i hy
   rcases q y d' e with z|⟨k,c',v',e',⟨o,ho,hd⟩,r'⟩|z
   ·exact .inl z
   ·refine .inr (.inl ⟨k,c',v',e',⟨o,kk _ _ (λz=>?_) ho,hd⟩,r'⟩)
    subst z
    exact hy (Ba (cl.2.2.1 _ k e'))
   ·exact .inr (.inr z)
 ·refine A0 (F.cell y c' hk' hl') λc1 Y c3=>?_
  refine A2 Y λv' o ho hd=>?_
  clear Y
  by_cases q:c'=c
  ·subst q;exact⟨c1,⟨_,hn⟩,c3⟩
  ·exact⟨c1,⟨v',o,kk _ _ q ho,hd⟩,c3⟩
 ·have f:=F.far a o e
  exact⟨kk a o (λz=>by subst z;rw[(cl.2.2.2 x rfl hro).2]at e;cases e) f.1,f.2⟩
theorem Aa.setOwn (F:Aa Γ K env G ι σ s){k:Nat}{a:Addr}{ds':List D}{vs':List Value}{h':Heap}(hk:ι[k]? =some a)(r:RelL G ι ds' vs')
  (hn:h'.PlainList a vs'.toArray)(hs:Heap.SameBut a s.heap h')(t:Nat)(ht:0<t:=by solve_by_elim [succ_pos,Aa.tk]):
  Aa Γ K env G ι {σ with own:=σ.own.set k ds'} {s with heap:=h',toks:=t}:=by
 have ha:a∈ι:=List.mem_of_getElem? hk
 have kk:∀b o,b≠a->s.heap.get? b=some o->h'.get? b=some o:=λb o h e=>(hs.2 b h).trans e
 have no:∀b,Jz env b->b≠a:=λb hb e=>by subst e;exact(F.away b hb).1 ha
 have ng:∀b o,G b=some o->b≠a:=λb o e q=>by subst q;rw[F.store.fresh b ha]at e;cases e
 have nt:∀p∈Γ.tabs,p.2≠a:=λp hp q=>(F.store.tabs p hp).2.1 (q▸ha)
 refine⟨⟨F.store.base,λb o e=>kk b o (ng b o e) (F.store.gin b o e),?_,?_,F.store.nodup,F.store.fresh,λp hp=>?_⟩,?_,F.loc,F.away,λy c hk' hl'=>?_,F.freeIn,λb o e=>?_,F.os,F.gens,ht⟩
 ·show ι.length=(σ.own.set k ds').length;rw[length_set];exact F.store.len
 ·intro n b ds e e'
  by_cases q:n=k
  ·subst q
   rw[hk]at e;cases e
   have hlt:n<σ.own.length:=F.store.len▸(List.getElem?_eq_some_iff.mp hk).1
   have:ds=ds':=by simpa[List.getElem?_set,hlt]using e'.symm
   subst this
   exact⟨vs',hn,r⟩
  ·have e'':σ.own[n]? =some ds:=by
    have:(σ.own.set k ds')[n]? =some ds:=e'
    rwa [List.getElem?_set_ne (λz=>q z.symm)]at this
   refine Ac (F.store.at_ n b ds e e'') λvs Z rl=>?_
   refine Af Z λo ho=>?_
   clear Z
   have:b≠a:=λz=>by
    subst z
    have l1:=(List.getElem?_eq_some_iff.mp e)
    have l2:=(List.getElem?_eq_some_iff.mp hk)
    exact q (Wk F.store.nodup l1.1 l2.1 (l1.2.trans l2.2.symm))
   exact⟨vs,⟨o,kk b _ this ho⟩,rl⟩
 ·refine A0 (F.store.tabs p hp) λa1 b1 Y=>?_
  refine Ck Y λps tt ic V q=>?_
  clear Y
  refine Af V λog eg=>?_
  clear V
  exact⟨a1,b1,ps,tt.sameBut hs (ng _ _ eg) (nt p hp),ic.sameBut hs (ng _ _ eg) (nt p hp),⟨og,eg⟩,q⟩
 ·refine Ac F.ns λm U q=>?_
  refine B9 U λo es ep ho r'=>?_
  clear U
  refine⟨m,⟨o,es,ep,kk _ _ (no _ (.inl rfl)) ho,r'⟩,λx d e=>(q x d e).mono (λ_ r=>r) ?_ (λ_ _ e=>e)⟩
  intro c v hk' hl z0
  refine Ac z0 λo ho hd=>?_
  clear z0
  exact⟨o,kk _ _ (no _ (.inr ⟨_,hk',hl⟩)) ho,hd⟩
 ·refine A0 (F.cell y c hk' hl') λc1 z1 c3=>?_
  refine A2 z1 λv' o ho hd=>?_
  clear z1
  exact⟨c1,⟨v',o,kk _ _ (no c (.inr ⟨y,hk',hl'⟩)) ho,hd⟩,c3⟩
 ·have f:=F.far b o e
  exact⟨kk b o (λz=>f.2.2.1 (z▸ha)) f.1,f.2⟩
theorem Aa.newOwn (F:Aa Γ K env G ι σ s){ds:List D}{vs:List Value}(r:RelL G ι ds vs)(n t:Nat)(ht:0<t:=by solve_by_elim [succ_pos,Aa.tk]):
  Aa Γ K env G (ι++[s.heap.objs.size]) {σ with own:=σ.own++[ds]} {s with heap:=s.heap.push {cls:=.type "list",data:=.seq vs.toArray n},toks:=t}:=by
 have F':=F.push {cls:=.type "list",data:=.seq vs.toArray n} t
 have nlt:s.heap.objs.size∉ι:=λh=>lt_irrefl _ (F.store.lt _ h)
 have pr:=A1.append ι [s.heap.objs.size]
 have nin:∀b,b∉ι->b≠s.heap.objs.size->b∉ι++[s.heap.objs.size]:=λb h1 h2 h=>by
  rcases mem_append.mp h with h|h
  ·exact h1 h
  ·rw[mem_singleton]at h;exact h2 h
 refine⟨⟨F'.store.base,F'.store.gin,?_,?_,?_,?_,λp hp=>?_⟩,?_,F.loc,λb hb=>?_,F'.cell,F.freeIn,λb o e=>?_,F.os,F.gens,ht⟩
 ·simp[F.store.len]
 ·intro k a ds' e e'
  by_cases hn:k<ι.length
  ·rw[List.getElem?_append_left hn]at e
   rw[List.getElem?_append_left (F.store.len▸hn)]at e'
   refine Ac (F'.store.at_ k a ds' e e') λvs' q rl=>?_
   exact⟨vs',q,rl.mono (Gh.le.refl _) pr⟩
  ·have e2:k=ι.length:=by
    have:=(List.getElem?_eq_some_iff.mp e).1
    rw[length_append,length_singleton]at this;exact le_antisymm (Ah this) (Ah (not_lt.1 hn))
   subst e2
   rw[List.getElem?_append_right (le_refl _),sub_self]at e
   rw[F.store.len,List.getElem?_append_right (le_refl _),sub_self]at e'
   cases e;cases e'
   exact⟨vs,⟨n,Heap.get?_push_size _ rfl⟩,r.mono (Gh.le.refl _) pr⟩
 ·exact List.nodup_append.mpr ⟨F.store.nodup,by simp,λa ha b hb=>by rw[mem_singleton]at hb;subst hb;exact λz=>nlt (z▸ha)⟩
 ·intro a ha
  rcases mem_append.mp ha with h|h
  ·exact F.store.fresh a h
  ·rw[mem_singleton]at h;subst h;exact F.store.gfresh
 ·refine A0 (F'.store.tabs p hp) λa1 b1 rest=>?_
  exact⟨a1,nin _ b1 (ne_of_lt (F.lt_own (a:=p.2) (.inr (.inr (.inl (mem_map_of_mem hp)))))),rest⟩
 ·refine Ac F'.ns λm hm q=>?_
  exact⟨m,hm,λx d e=>(q x d e).mono (λv r=>r.mono (Gh.le.refl _) pr) (λ_ _ _ _ i=>i) (λ_ _ e=>e)⟩
 ·exact⟨nin _ (F'.away b hb).1 (ne_of_lt (F.own_lt hb)),(F'.away b hb).2⟩
 ·have f:=F'.far b o e
  exact⟨f.1,f.2.1,nin _ f.2.2.1 (ne_of_lt (F.lt_own (.inr (.inr (.inr (.inr (by rw[e];exact Option.some_ne_none _))))))),f.2.2.2⟩
theorem Aa.roCell (ok:Γ.Ok)(F:Aa Γ K env G ι σ s){x:String}{c:Addr}{o:Obj}(hk:env.kindOf (ofString x)=some .cell)(hc:env.cells.lookup (ofString x)=some c)(hro:x∉σ.ro)(ho:s.heap.get? c=some o):
  G.le (G.put c o)/\Aa Γ K env (G.put c o) ι {σ with ro:=x::σ.ro} s:=by
 have cl:=F.cell _ _ hk hc
 have aw:=F.away c (.inr ⟨_,hk,hc⟩)
 have le:=Gh.put_le (o:=o) (cl.2.2.2 x rfl hro).1
 refine⟨le,F.freeze ok le (λa p e=>?_) (λa ha=>?_) λy c' hk' hl z hy hz=>?_⟩
 ·unfold Gh.put at e
  split at e
  ·rename_i h;subst h;cases e;exact ho
  ·exact F.store.gin a p e
 ·have ne:a≠c:=by
   rintro rfl
   rcases ha with h|h|h|h
   ·exact aw.1 h
   ·exact aw.2 h
   ·exact cl.1 h
   ·cases e:K.old a with
    |none=>exact absurd e h
    |some o=>rw[(cl.2.2.2 x rfl hro).2]at e;cases e
  rw[Gh.put_ne ne]
  rcases ha with h|h|h|h
  ·exact F.store.fresh a h
  ·refine Ac (mem_map.mp h) λp hp Z=>?_
   subst Z;exact(F.store.tabs p hp).1
  ·rw[h];exact F.loc
  ·cases e:K.old a with
   |none=>exact absurd e h
   |some o=>exact(F.far a o e).2.1
 ·have ne:c'≠c:=by
   rintro rfl
   have:=cl.2.2.1 y hk' hl
   subst this
   exact hz (by rw[<-Ba hy];exact mem_cons_self)
  have q:=(F.cell y c' hk' hl).2.2.2 z hy λh=>hz (mem_cons_of_mem _ h)
  exact⟨by rw[Gh.put_ne ne];exact q.1,q.2⟩
noncomputable def Bw (Γ:W) (K:Cw) (env:Env) (G:Gh) (ι:List Addr) (X:Addr->Prop):Prop:=∀a,X a->G a=none/\a∉ι/\a∉Γ.tabs.map (·.2)/\¬Jz env a/\K.old a=none
open Classical in
noncomputable def Cw.plus (K:Cw) (X:Addr->Prop) (s:Shared):Cw:={os:=s.os,gens:=s.gens,old:=λa=>if X a then s.heap.get? a else K.old a}
theorem Cw.plus_in {X:Addr->Prop}{a:Addr}(x:X a):(K.plus X s).old a=s.heap.get? a:=by unfold Cw.plus;dsimp only;rw[if_pos x]
theorem Cw.plus_of {X:Addr->Prop}(hX:∀a,X a->K.old a=none){a:Addr}{o:Obj}(e:K.old a=some o):(K.plus X s).old a=some o:=by
 unfold Cw.plus;dsimp only;rw[if_neg (λx=>by rw[hX a x]at e;cases e)];exact e
theorem Aa.cover (F:Aa Γ K env G ι σ s){X:Addr->Prop}(hX:Bw Γ K env G ι X):Aa Γ (K.plus X s) env G ι σ s where
 store:=F.store
 ns:=by refine Ac F.ns λm hm q=>?_;exact⟨m,hm,λx d e=>(q x d e).mono (λ_ r=>r) (λ_ _ _ _ i=>i) (λc o h=>h.imp id (Cw.plus_of λa x=>(hX a x).2.2.2.2))⟩
 loc:=F.loc
 away:=F.away
 cell:=λx c hk hl=>by refine B7 (F.cell x c hk hl) λa b d e=>?_;exact⟨a,b,d,λz hz hr=>⟨(e z hz hr).1,by
  unfold Cw.plus;dsimp only
  rw[if_neg λxc=>(hX c xc).2.2.2.1 (.inr ⟨x,hk,hl⟩)];exact(e z hz hr).2⟩⟩
 freeIn:=λx c hk hl=>by refine Af (F.freeIn x c hk hl) λo e=>?_;exact⟨o,e.imp id (Cw.plus_of λa x=>(hX a x).2.2.2.2)⟩
 far:=λa o e=>by
  by_cases x:X a
  ·rw[Cw.plus_in x]at e
   refine Hi (hX a x) λy1 y2 y3 y4 _=>?_
   exact⟨e,y1,y2,y3,λz=>y4 (.inl z)⟩
  ·unfold Cw.plus at e;dsimp only at e;rw[if_neg x]at e;exact F.far a o e
 os:=rfl
 gens:=A5.refl _
 tk:=F.tk
theorem Aa.uncover (F:Aa Γ K env G ι σ s){X:Addr->Prop}(hX:Bw Γ K env G ι X)(hin:∀a,X a->s.heap.get? a≠none){G₂:Gh}{ι₂:List Addr}{σ₂:St}{s₂:Shared}
  (F2:Aa Γ (K.plus X s) env G₂ ι₂ σ₂ s₂)(hG:G.le G₂):Aa Γ K env G₂ ι₂ σ₂ s₂/\Bw Γ K env G₂ ι₂ X/\(∀a o,X a->s.heap.get? a=some o->s₂.heap.get? a=some o)/\A5 s.gens s₂.gens:=by
 have hold:∀a,X a->K.old a=none:=λa x=>(hX a x).2.2.2.2
 refine⟨⟨F2.store,?_,F2.loc,F2.away,λx c hk hl=>by refine B7 (F2.cell x c hk hl) λa b d e=>?_;exact⟨a,b,d,λz hz hr=>⟨(e z hz hr).1,by
  cases q:K.old c with
  |none=>rfl
  |some o=>have:=Cw.plus_of (s:=s) hold q;rw[(e z hz hr).2]at this;cases this⟩⟩,λx c hk hl=>(by refine Af (F.freeIn x c hk hl) λo e=>?_;exact⟨o,Ff hG e⟩),λa o e=>F2.far a o (Cw.plus_of hold e),F2.os.trans F.os,F.gens.trans F2.gens,F2.tk⟩,λa x=>?_,λa o x e=>(F2.far a o (by rw[Cw.plus_in x];exact e)).1,F2.gens⟩
 ·refine Ac F2.ns λm hm q=>?_
  refine⟨m,hm,λx d e=>?_⟩
  rcases q x d e with z|z|⟨k,c,o,v,e',i,od,r⟩
  ·exact .inl z
  ·exact .inr (.inl z)
  ·refine .inr (.inr ⟨k,c,o,v,e',?_,od,r⟩)
   rcases i with i|i
   ·exact .inl i
   ·by_cases x:X c
    ·refine Af (F.freeIn _ c k e') λo' h=>?_
     rcases h with h|h
     ·rw[(hX c x).1]at h;cases h
     ·rw[hold c x]at h;cases h
    ·unfold Cw.plus at i;dsimp only at i;rw[if_neg x]at i;exact .inr i
 ·refine Hi (hX a x) λy1 y2 y3 y4 y5=>?_
  cases e:s.heap.get? a with
  |none=>exact absurd e (hin a x)
  |some o=>
   have f:=F2.far a o (by rw[Cw.plus_in x];exact e)
   exact⟨f.2.1,f.2.2.1,y3,y4,y5⟩
end frame
noncomputable def fz (own:List (List D)) (n:Nat):Nat->D->Option D
 |0,_=>none
 |f+1,d=>match d with
  | .obj k=>if k<n then some (.obj k)else(own[k]?).bind λds=>(ds.mapM (fz own n f)).map .lst
  | .tup ds=>(ds.mapM (fz own n f)).map .tup
  | .lst ds=>(ds.mapM (fz own n f)).map .lst
  | .app k=>if k<n then some (.app k)else none
  |d=>some d
noncomputable def gH (n:Nat) (σ σ':St):Prop:=
 ∃f,(∀x d',σ'.get x=some d'->∃d,σ.get x=some d/\fz σ.own n f d=some d')/\σ'.own.length=n/\
  (∀(k:Nat) ds',σ'.own[k]? =some ds'->(∃ds,σ.own[k]? =some ds/\ds.mapM (fz σ.own n f)=some ds'))/\σ'.ro=σ.ro
section trunc
variable {Γ:W}{K:Cw}{env:Env}{G G':Gh}{ι:List Addr}{σ:St}{s:Shared}
open Classical in
noncomputable def Gh.withOwn (G:Gh)(ι:List Addr)(n:Nat)(h:Heap):Gh:=λa=>if a∈ι.drop n then h.get? a else G a
theorem Gh.le_withOwn (S:Ch Γ G ι σ.own s.heap)(n:Nat):G.le (G.withOwn ι n s.heap):=λa o e=>by
 unfold Gh.withOwn
 rw[if_neg (λhm=>by have:=S.fresh a (mem_of_mem_drop hm);rw[this]at e;cases e)];exact e
theorem Lc {n k:Nat}{a:Addr}(h:ι[k]? =some a)(hk:k<n):(ι.take n)[k]? =some a:=by rw[List.getElem?_take,if_pos hk];exact h
theorem RelL.fz' {n f:Nat}(ih:∀(d d':D) (v:Value),Mine.fz σ.own n f d=some d'->Bb G ι d v->Bb (G.withOwn ι n s.heap) (ι.take n) d' v)(ds:List D):∀(ds':List D) (vs:List Value),ds.mapM (Mine.fz σ.own n f)=some ds'->RelL G ι ds vs->RelL (G.withOwn ι n s.heap) (ι.take n) ds' vs:=by
 induction ds with
 |nil=>intro ds' vs e r;rw[List.mapM_nil]at e;cases e;exact r
 |cons d ds ihd=>
  intro ds' vs e r
  refine Aj r λv w ev Z t=>?_
  try clear r
  revert Z
  intro r
  rw[List.mapM_cons]at e
  refine Ac (Option.bind_eq_some_iff.mp e) λx e1 e=>?_
  refine Ac (Option.bind_eq_some_iff.mp e) λy e2 e3=>?_
  cases e3
  exact⟨v,w,ev,ih d x v e1 r,ihd y w e2 t⟩
theorem Bb.fz (S:Ch Γ G ι σ.own s.heap)(n f:Nat):∀(d d':D) (v:Value),Mine.fz σ.own n f d=some d'->Bb G ι d v->Bb (G.withOwn ι n s.heap) (ι.take n) d' v:=by
 induction f with
 |zero=>intro d d' v e _;cases d<;>cases e
 |succ f ih=>
  intro d d' v e r
  cases d with
  |none=>cases e;exact r
  |bool b=>cases e;exact r
  |int i=>cases e;exact r
  |str l=>cases e;exact r
  |raw w=>cases e;exact r
  |sem P=>cases e;obtain⟨G₀,l,p⟩:=r;exact⟨G₀,l.trans (Gh.le_withOwn S n),p⟩
  |rng a b c=>cases e;obtain⟨r,t,u,w,ev,h⟩:=r;exact⟨r,t,u,w,ev,Gh.le_withOwn S n _ _ h⟩
  |app k=>
   obtain⟨m,a,ea,ev,g⟩:=r
   have e:(if k<n then some (D.app k)else none)=some d':=e
   by_cases hk:k<n
   ·rw[if_pos hk]at e;cases e;exact⟨m,a,Lc ea hk,ev,Gh.le_withOwn S n _ _ g⟩
   ·rw[if_neg hk]at e;cases e
  |tup l=>
   obtain⟨l',e2,rfl⟩:=Option.map_eq_some_iff.mp (show(l.mapM (Mine.fz σ.own n f)).map D.tup=some d' from e)
   obtain⟨a,vs,ev,sq,r⟩:=r
   exact⟨a,vs,ev,(Gh.le_withOwn S n).seqs sq,RelL.fz' ih l l' vs e2 r⟩
  |lst l=>
   obtain⟨l',e2,rfl⟩:=Option.map_eq_some_iff.mp (show(l.mapM (Mine.fz σ.own n f)).map D.lst=some d' from e)
   obtain⟨a,vs,ev,sq,r⟩:=r
   exact⟨a,vs,ev,(Gh.le_withOwn S n).seqs sq,RelL.fz' ih l l' vs e2 r⟩
  |obj k=>
   obtain⟨a,ha,ev⟩:=r
   have e:(if k<n then some (D.obj k)else(σ.own[k]?).bind λds=>(ds.mapM (Mine.fz σ.own n f)).map D.lst)=some d':=e
   by_cases hk:k<n
   ·rw[if_pos hk]at e;cases e;exact⟨a,Lc ha hk,ev⟩
   ·rw[if_neg hk]at e
    obtain⟨ds,e1,e⟩:=Option.bind_eq_some_iff.mp e
    obtain⟨l',e2,rfl⟩:=Option.map_eq_some_iff.mp e
    obtain⟨vs,⟨o,ho⟩,rl⟩:=S.at_ k a ds ha e1
    have hm:a∈ι.drop n:=List.mem_of_getElem? (i:=k-n) (by rw[List.getElem?_drop,Nat.add_sub_cancel' (le_of_not_lt hk)];exact ha)
    exact⟨a,vs,ev,⟨_,by unfold Gh.withOwn;rw[if_pos hm];exact ho,rfl,_,rfl⟩,RelL.fz' ih ds l' vs e2 rl⟩
theorem RelL.fz (S:Ch Γ G ι σ.own s.heap)(n f:Nat)(ds ds':List D)(vs:List Value)(e:ds.mapM (Mine.fz σ.own n f)=some ds')(r:RelL G ι ds vs):RelL (G.withOwn ι n s.heap) (ι.take n) ds' vs:=RelL.fz' (Bb.fz S n f) ds ds' vs e r
theorem Aa.trunc (ok:Γ.Ok)(F:Aa Γ K env G ι σ s){n:Nat}{σ':St}(h:gH n σ σ'):
  G.le (G.withOwn ι n s.heap)/\Aa Γ K env (G.withOwn ι n s.heap) (ι.take n) σ' s:=by
 refine Ck h λf hloc hlen hown hro=>?_
 try clear h
 have le:=Gh.le_withOwn F.store n
 have hle:n<=ι.length:=by
  rw[<-hlen,F.store.len]
  apply le_of_not_lt
  intro hh
  have e1:σ'.own[σ.own.length]? =some σ'.own[σ.own.length]:=List.getElem?_eq_getElem hh
  refine Ac (hown _ _ e1) λds e _=>?_
  rw[List.getElem?_eq_none (le_refl _)]at e;cases e
 have sub:∀a,a∈ι.take n->a∈ι:=λa ha=>List.mem_of_mem_take ha
 have disj:∀a,a∈ι.take n->a∉ι.drop n:=λa h1 h2=>by
  have:=F.store.nodup
  rw[<-take_append_drop n ι]at this
  exact(List.nodup_append.mp this).2.2 a h1 a h2 rfl
 have gin:∀a o,G.withOwn ι n s.heap a=some o->s.heap.get? a=some o:=λa o e=>by
  unfold Gh.withOwn at e;split at e
  ·exact e
  ·exact F.store.gin _ _ e
 have off:∀a,G a=none->a∉ι.drop n->G.withOwn ι n s.heap a=none:=λa e h=>by
  unfold Gh.withOwn;rw[if_neg h];exact e
 refine⟨le,⟨λa o e=>le a o (F.store.base a o e),gin,?_,?_,?_,?_,λp hp=>?_⟩,?_,off _ F.loc λh=>(F.away _ (.inl rfl)).1 (mem_of_mem_drop h),λa ha=>?_,λx c hk hl=>?_,λx c hk hl=>(by refine Af (F.freeIn x c hk hl) λo e=>?_;exact⟨o,Ff le e⟩),λa o e=>?_,F.os,F.gens,F.tk⟩
 ·rw[length_take,hlen];exact min_eq_left (Ah hle)
 ·intro k a ds' e e'
  refine Ac (hown k ds' e') λds e1 e2=>?_
  have hk:ι[k]? =some a:=by rw[List.getElem?_take]at e;split at e;exact e;cases e
  refine Ac (F.store.at_ k a ds hk e1) λvs q r=>?_
  exact⟨vs,q,RelL.fz F.store n f ds ds' vs e2 r⟩
 ·exact List.Nodup.sublist (List.take_sublist n ι) F.store.nodup
 ·exact λa ha=>off a (F.store.fresh a (sub a ha)) (disj a ha)
 ·refine A0 (F.store.tabs p hp) λa b Z=>?_
  refine Ck Z λps t ic Y q=>?_
  clear Z
  refine Af Y λog eg=>?_
  clear Y
  exact⟨off _ a λh=>b (mem_of_mem_drop h),λh=>b (sub _ h),ps,t,ic,⟨og,le _ _ eg⟩,λpos c e=>ok.codeMono _ _ _ _ _ le (q.1 pos c e),q.2⟩
 ·refine Ac F.ns λm hm q=>?_
  refine⟨m,hm,λx d' e=>?_⟩
  refine Ac (hloc x d' e) λd e1 e2=>?_
  rcases q x d e1 with⟨k,v,e',r⟩|⟨k,c,v,e',i,r⟩|⟨k,c,o,v,e',i,od,r⟩
  ·exact .inl ⟨k,v,e',Bb.fz F.store n f d d' v e2 r⟩
  ·exact .inr (.inl ⟨k,c,v,e',i,Bb.fz F.store n f d d' v e2 r⟩)
  ·exact .inr (.inr ⟨k,c,o,v,e',Ff le i,od,Bb.fz F.store n f d d' v e2 r⟩)
 ·refine Ae (F.away a ha) λa2 a3=>?_
  exact⟨λh=>a2 (sub _ h),a3⟩
 ·refine B7 (F.cell x c hk hl) λc1 c2 c3 c4=>?_
  exact⟨c1,c2,c3,λz hz hr=>⟨off c (c4 z hz (hro▸hr)).1 λh=>(F.away c (.inr ⟨x,hk,hl⟩)).1 (mem_of_mem_drop h),(c4 z hz (hro▸hr)).2⟩⟩
 ·refine B7 (F.far a o e) λf1 f2 f3 f4=>?_
  exact⟨f1,off a f2 λh=>f3 (mem_of_mem_drop h),λh=>f3 (sub _ h),f4⟩
end trunc
end
structure Ev (Γ:W)(A:Around)(env:Env):Prop where
 ok:Γ.Ok
 kind:env.scope.kind=.function
 glob:env.globals=mainGlobals
 bui:env.builtins=builtinsNs
 handled:A.handled=none
 depth:A.depth+150<recursionLimit
 units:A.units+500<cLine
section
variable {α β γ:Type}(Γ:W)(K:Cw)(A:Around)(env:Env)
abbrev Me (α β:Type):=Gh->List Addr->β->α->Prop
noncomputable def As (R:Me α β) (G:Gh) (ι:List Addr) (Q:β->St->Prop):α->Shared->Prop:=
 λv s'=>∃G' ι' b σ',G.le G'/\A1 ι ι'/\R G' ι' b v/\Aa Γ K env G' ι' σ' s'/\Q b σ'
noncomputable def Tr (R:Me α β) (t:Sem α) (T:St->(β->St->Prop)->Prop):Prop:=
 ∀K G ι σ s Q,Aa Γ K env G ι σ s->T σ Q->wpAny (model Γ.prog Γ.w) A t (As Γ K env R G ι Q) (λ_ _=>False) s
noncomputable def VR:Me Value D:=λG ι d v=>Bb G ι d v
noncomputable def BR:Me Bool Bool:=λ_ _ b b'=>b'=b
noncomputable def UR:Me Unit Unit:=λ_ _ _ _=>True
noncomputable def LR:Me (List Value) (List D):=λG ι d v=>RelL G ι d v
inductive FD where|next|brk|cont|ret (d:D)
noncomputable def FR:Me Flow FD:=λG ι f f'=>match f with
 | .next=>f'=.next
 | .brk=>f'=.brk
 | .cont=>f'=.cont
 | .ret d=>∃v,f'=.ret v/\Bb G ι d v
abbrev TT:=St->(D->St->Prop)->Prop
abbrev Bm (e:Expr)(T:TT):=Tr Γ A env VR (eval e env) T
abbrev Xf (e:Expr)(T:St->(Bool->St->Prop)->Prop):=Tr Γ A env BR (isTrue e env (eval e env)) T
abbrev Oc (st:Stmt)(T:St->(FD->St->Prop)->Prop):=Tr Γ A env FR (exec st env) T
abbrev Py (st:List Stmt)(T:St->(FD->St->Prop)->Prop):=Tr Γ A env FR (execs st env) T
end
section
variable {α β γ δ:Type}{Γ:W}{K:Cw}{A:Around}{env:Env}{G G':Gh}{ι ι':List Addr}{σ:St}{s:Shared}
theorem As.up {R:Me α β}{Q:β->St->Prop}{v:α}{s':Shared}(hG:G.le G')(hι:A1 ι ι')(p:As Γ K env R G' ι' Q v s'):As Γ K env R G ι Q v s':=by
 refine Go p λG₂ ι₂ b σ' a1 a2 a3=>?_
 try clear p
 exact⟨G₂,ι₂,b,σ',hG.trans a1,hι.trans a2,a3⟩
theorem As.mk' {R:Me α β}{Q:β->St->Prop}{v:α}{b:β}(r:R G ι b v)(F:Aa Γ K env G ι σ s)(q:Q b σ):As Γ K env R G ι Q v s:=
 ⟨G,ι,b,σ,Gh.le.refl _,A1.refl _,r,F,q⟩
theorem A8 {R:Me α β}{t:Sem α}{T:St->(β->St->Prop)->Prop}{Q:β->St->Prop}{X:α->Shared->Prop}(h:Tr Γ A env R t T)(F:Aa Γ K env G ι σ s)(hT:T σ Q)
  (k:∀G' ι' b v σ' s',G.le G'->A1 ι ι'->R G' ι' b v->Aa Γ K env G' ι' σ' s'->Q b σ'->X v s'):wpAny (model Γ.prog Γ.w) A t X (λ_ _=>False) s:=
 wpAny_mono (h K G ι σ s Q F hT) (λv s' h2_=>by refine Cs h2_ λG' ι' b σ' a1 a2 a3 a4 a5=>?_;try clear h2_;exact k G' ι' b v σ' s' a1 a2 a3 a4 a5) λ_ _ x=>x
theorem Jo {Q:D->St->Prop}{i:Int}{t:Tok}(F:Aa Γ K env G ι σ s)(q:Q (.int i) σ):As Γ K env VR G ι Q (.int i t) s:=As.mk' (b:=.int i) (show Bb G ι (.int i) _ from⟨t,rfl⟩) F q
theorem Mv {Q:D->St->Prop}{x:List Nat}{y:Str}{t:Tok}(F:Aa Γ K env G ι σ s)(e:y=⟨x.toArray⟩)(q:Q (.str x) σ):As Γ K env VR G ι Q (.str y t) s:=by
 subst e;exact As.mk' (b:=.str x) (show Bb G ι (.str x) _ from⟨t,rfl⟩) F q
theorem fF {Q:D->St->Prop}{b:Bool}(F:Aa Γ K env G ι σ s)(q:Q (.bool b) σ):As Γ K env VR G ι Q (.bool b) s:=As.mk' (b:=.bool b) (show Bb G ι (.bool b) _ from rfl) F q
theorem Zc {Q:D->St->Prop}(F:Aa Γ K env G ι σ s)(q:Q .none σ):As Γ K env VR G ι Q .none s:=As.mk' (b:=.none) (show Bb G ι .none _ from rfl) F q
theorem iD {Q:D->St->Prop}{v:Value}(F:Aa Γ K env G ι σ s)(q:Q (.raw v) σ):As Γ K env VR G ι Q v s:=As.mk' (b:=.raw v) (show Bb G ι (.raw v) _ from rfl) F q
theorem Mu {Q:D->St->Prop}{d:D}{v:Value}(r:Bb G ι d v)(F:Aa Γ K env G ι σ s)(q:Q d σ):As Γ K env VR G ι Q v s:=As.mk' (b:=d) r F q
@[reducible] noncomputable def tV (d:D):TT:=λσ Q=>Q d σ
@[reducible] noncomputable def tU {β:Type} (b:β) (σ:St) (Q:β->St->Prop):Prop:=Q b σ
@[reducible] noncomputable def ap {β:Type} (Q:β->St->Prop) (σ:St) (b:β):Prop:=Q b σ
noncomputable def cs (x:String):List Nat:=x.toList.map Char.toNat
theorem Fs (x:String):ofString x=⟨(cs x).toArray⟩:=Str.ofString_eq_toList x
theorem Ig {x:String}{k:Nat}{p:Pos}:Bm Γ A env (.Constant (.str (ofString x)) k p) (tV (.str (cs x))):=λK G ι σ s Q F h=>
 wpAny_Constant_str (Mv (F.toks _) (Fs x) h)
theorem Hx {i:Int}{k:Nat}{p:Pos}:Bm Γ A env (.Constant (.int i) k p) (tV (.int i)):=λK G ι σ s Q F h=>
 wpAny_Constant_int (Jo (F.toks _) h)
theorem Q9 {b:Bool}{k:Nat}{p:Pos}:Bm Γ A env (.Constant (.bool b) k p) (tV (.bool b)):=λK G ι σ s Q F h=>
 wpAny_Constant_bool (fF F h)
theorem fA {k:Nat}{p:Pos}:Bm Γ A env (.Constant .none k p) (tV .none):=λK G ι σ s Q F h=>
 wpAny_Constant_none (Zc F h)
noncomputable def Xu (x:String):TT:=λσ Q=>∃d,σ.get x=some d/\Q d σ
theorem D5 (H:Ev Γ A env){x:String}{d:D}{Q:Value->Shared->Prop}{E:Value->Shared->Prop}(F:Aa Γ K env G ι σ s)(hx:σ.get x=some d)(hc:(ofString x==("__classdict__":Str))=false)(k:∀v,Bb G ι d v->Q v s):
  wpAny (model Γ.prog Γ.w) A (loadName env (ofString x)) Q E s:=by
 refine Ac F.ns λm hm q=>?_
 rcases q x d hx with⟨kd,v,e,r⟩|⟨kd,c,v,e,i,r⟩|⟨kd,c,o,v,e,i,od,r⟩
 ·exact wpAny_loadName_local H.kind kd hm e (k v r)
 ·exact wpAny_loadName_cell H.kind kd e i (k v r)
 ·exact wpAny_loadName_free H.kind kd e ⟨o,i.elim (F.store.gin _ _) (λi=>(F.far _ _ i).1),od⟩ (k v r) hc
theorem Cb (H:Ev Γ A env){x:String}{p:Pos}(hd:(ofString x==("__debug__":Str))=false)(hc:(ofString x==("__classdict__":Str))=false):
  Bm Γ A env (.Name (ofString x) p) (Xu x):=λK G ι σ s Q F Z=>Ac Z λd hx h=>
 wpAny_Name (D5 H F hx hc λv r=>Mu r F h) hd
theorem Ni (H:Ev Γ A env){x:String}{p:Pos}{v:Value}(hk:env.kindOf (ofString x)=some .globalImplicit)(hv:Γ.mg (ofString x)=some v)(hd:(ofString x==("__debug__":Str))=false):
  Bm Γ A env (.Name (ofString x) p) (tV (.raw v)):=λK G ι σ s Q F h=>
 Calls.Name_function_global H.kind hk (Calls.loadGlobal_global (by rw[H.glob];exact H.ok.g.keeps λb o e=>F.store.gin _ _ (F.store.base _ _ e)) hv (iD F h)) hd
theorem Hz (H:Ev Γ A env){x:String}{p:Pos}{v:Value}(hk:env.kindOf (ofString x)=some .globalImplicit)(hn:Γ.mg (ofString x)=none)(hv:Γ.mb (ofString x)=some v)(hd:(ofString x==("__debug__":Str))=false):
  Bm Γ A env (.Name (ofString x) p) (tV (.raw v)):=λK G ι σ s Q F h=>
 Calls.Name_function_global H.kind hk (Calls.loadGlobal_builtin (by rw[H.glob];exact H.ok.g.keeps λb o e=>F.store.gin _ _ (F.store.base _ _ e)) hn
  (by rw[H.bui];exact H.ok.b.keeps λb o e=>F.store.gin _ _ (F.store.base _ _ e)) hv (iD F h)) hd
noncomputable def Al (own:List (List D)):D->Option (List D)
 | .lst l=>some l
 | .obj k=>own[k]?
 |_=>none
theorem Bh {own:List (List D)}{h:Heap}(S:Ch Γ G ι own h){d:D}{v:Value}{ds:List D}(r:Bb G ι d v)(e:Al own d=some ds):
  ∃a vs,v=.ref a/\h.IsList a (toArray vs)/\RelL G ι ds vs:=by
 cases d with
 |lst l=>
  cases Option.some.inj (show some l=some ds from e)
  refine Aj r λa vs Y Z rl=>?_
  try clear r
  subst Y
  refine Ac Z λo ho q=>?_
  clear Z
  exact⟨a,vs,rfl,⟨o,S.gin _ _ ho,q⟩,rl⟩
 |obj k=>
  refine Ac r λa hk V=>?_
  try clear r
  subst V
  refine Ac (S.at_ k a ds hk e) λvs hl rl=>?_
  exact⟨a,vs,rfl,hl.isList,rl⟩
 |_=>exact Sg e
theorem Ez {own:List (List D)}{h:Heap}(S:Ch Γ G ι own h){v:Value}{ds:List D}(r:Bb G ι (.tup ds) v):
  ∃a vs,v=.ref a/\IsTup h a (toArray vs)/\RelL G ι ds vs:=by
 refine Aj r λa vs Y Z rl=>?_
 try clear r
 subst Y
 refine Ac Z λo ho q=>?_
 clear Z
 exact⟨a,vs,rfl,⟨o,S.gin _ _ ho,q⟩,rl⟩
theorem Gs (x y:List Nat):(⟨x.toArray⟩:Str)++⟨y.toArray⟩=⟨(x++y).toArray⟩:=by
 show(⟨x.toArray++y.toArray⟩:Str)=_
 simp
theorem Az (x:List Nat):(⟨x.toArray⟩:Str).length=x.length:=by simp[Str.length]
noncomputable def qR (op:Operator) (i j:Int) (Q:Int->Prop):Prop:=match op with
 | .Add=>Q (i+j)
 | .Sub=>Q (i-j)
 | .Mult=>(-(2^64)<i/\i<2^64)/\Q (i*j)
 | .FloorDiv=>(0<j/\j<1073741824)/\Q (i/j)
 | .Mod=>0<j/\Q (i%j)
 |_=>False
noncomputable def nW (op:Operator) (a b:D) (σ:St) (Q:D->St->Prop):Prop:=
 op=.Add/\∃la lb,Al σ.own a=some la/\Al σ.own b=some lb/\la.length+lb.length<=sizeLine/\Q (.obj σ.own.length) {σ with own:=σ.own++[la++lb]}
noncomputable def Mz (op:Operator) (a b:D) (σ:St) (Q:D->St->Prop):Prop:=match a with
 | .int i=>(match b with| .int j=>qR op i j λk=>Q (.int k) σ|_=>False)
 | .bool i=>(match b with| .bool j=>op=.Sub/\Q (.int (b2i i-b2i j)) σ|_=>False)
 | .str x=>(match b with| .str y=>op=.Add/\x.length+y.length<=sizeLine/\Q (.str (x++y)) σ|_=>False)
 | .obj k=>nW op (.obj k) b σ Q
 | .lst l=>nW op (.lst l) b σ Q
 |_=>False
theorem Ks (F:Aa Γ K env G ι σ s){a:Addr}:Bb G (ι++[a]) (.obj σ.own.length) (.ref a):=by
 show∃b,(ι++[a])[σ.own.length]? =some b/\_
 exact⟨a,by rw[<-F.store.len,List.getElem?_append_right (le_refl _),sub_self];rfl,rfl⟩
theorem Vj (H:Ev Γ A env){a b:D}{va vb:Value}{Q:D->St->Prop}(F:Aa Γ K env G ι σ s)(ra:Bb G ι a va)(rb:Bb G ι b vb){la lb:List D}(ha:Al σ.own a=some la)(hb:Al σ.own b=some lb)
  (hsz:la.length+lb.length<=sizeLine)(q:Q (.obj σ.own.length) {σ with own:=σ.own++[la++lb]}):
  wpAny (model Γ.prog Γ.w) A (binaryOp .Add va vb) (As Γ K env VR G ι Q) (λ_ _=>False) s:=by
 refine Aj (Bh F.store ra ha) λl vs V hl rl=>?_
 subst V
 refine Aj (Bh F.store rb hb) λl' ws U hl' rl'=>?_
 subst U
 refine Ay (id hl) λz0 ho hc Z=>?_
 obtain⟨cls,dd,data,sl⟩:=z0
 refine Af Z λn hd=>?_
 clear Z
 refine Ay (id hl') λz1 ho2 hc2 Y=>?_
 obtain⟨cls2,dd2,data2,sl2⟩:=z1
 refine Af Y λn2 hd2=>?_
 clear Y
 simp only at hc hd hc2 hd2
 subst hc hd hc2 hd2
 have hz:vs.length+ws.length<=sizeLine:=by rw[rl.length,rl'.length];exact hsz
 have e:vs.toArray++ws.toArray=(vs++ws).toArray:=by simp
 refine concat_meets ⟨_,ho,rfl⟩ ⟨_,ho2,rfl⟩ noFill_list_add seq_list_add PySem.F.slot_list_add PySem.F.entry_list_add (PySem.F.args_list_add_2 _ _) (list_addW l l' vs.toArray ws.toArray n n2 dd dd2 sl sl2 (by simpa using hz)) ⟨ho,ho2,?_⟩
 rw[e]
 have F':=F.newOwn (RelL.append rl rl') 0 s.toks
 exact⟨G,_,.obj σ.own.length,_,Gh.le.refl _,A1.append _ _,Ks F,F',q⟩
theorem bK (H:Ev Γ A env){op:Operator}{a b:D}{va vb:Value}{Q:D->St->Prop}(F:Aa Γ K env G ι σ s)(ra:Bb G ι a va)(rb:Bb G ι b vb)(h:Mz op a b σ Q):
  wpAny (model Γ.prog Γ.w) A (binaryOp op va vb) (As Γ K env VR G ι Q) (λ_ _=>False) s:=by
 cases a with
 |int i=>
  cases b with
  |int j=>
   refine Af ra λt V=>?_
   try clear ra
   subst V;refine Af rb λu U=>?_;try clear rb;subst U
   cases op<;>try exact h.elim
   ·exact P.add_int (Jo (F.toks _) h)
   ·exact P.sub_int (Jo (F.toks _) h)
   ·exact P.mul_int (Jo (F.toks _) h.2) (IntMulOk.of_left (intBits_le_64 h.1.1 h.1.2))
   ·have e:i.fmod j=i%j:=Int.fmod_eq_emod_of_nonneg _ (Int.le_of_lt h.1)
    exact mod_int' (Int.ne_of_gt h.1) (by rw[e];exact Jo (F.toks _) h.2)
   ·have e:i.fdiv j=i/j:=Int.fdiv_eq_ediv_of_nonneg _ (Int.le_of_lt h.1.1)
    exact floordiv_int (Int.ne_of_gt h.1.1) (by rw[e];exact Jo (F.toks _) h.2) (.inl (PyProof.noPylong_small (rE (Int.lt_trans (by decide:(-1073741824:Int)<0) h.1.1) h.1.2)))
  |_=>exact h.elim
 |bool i=>
  cases b with
  |bool j=>
   refine Ae h λz0 z1=>?_
   try clear h
   revert z1
   intro h
   subst z0
   cases ra;cases rb
   exact sub_bool (Jo (F.toks _) h)
  |_=>exact h.elim
 |str x=>
  cases b with
  |str y=>
   refine A0 h λz2 h1 z3=>?_
   try clear h
   revert z3
   intro h
   subst z2
   refine Af ra λt z4=>?_
   try clear ra
   subst z4;refine Af rb λu z5=>?_;try clear rb;subst z5
   refine wpAny_mono (A4 (add_str (E:=λ_ _=>False) (Q:=λv s'=>∃t' tk,v=.str (⟨x.toArray⟩++⟨y.toArray⟩) t'/\s'={s with toks:=tk}) (λt' tk=>⟨t',tk,rfl,rfl⟩) (by rw[Az,Az];exact h1))) (λv s' z6=>Ae z6 λz7 hle=>A2 z7 λt' tk e1 e2=>?_) λ_ _ x=>x
   subst e1 e2
   exact Mv (F.toks _ (lt_of_lt_of_le F.tk hle)) (Gs _ _) h
  |_=>exact h.elim
 |obj k=>refine Ae h λz8 Z=>?_;try clear h;subst z8;refine Dt Z λla lb h1 h2 h3 h4=>?_;clear Z;exact Vj H F ra rb h1 h2 h3 h4
 |lst k=>refine Ae h λz9 Y=>?_;try clear h;subst z9;refine Dt Y λla lb h1 h2 h3 h4=>?_;clear Y;exact Vj H F ra rb h1 h2 h3 h4
 |_=>exact h.elim
theorem Kl (H:Ev Γ A env){l r:Expr}{op:Operator}{p:Pos}{T1 T2:TT}(h1:Bm Γ A env l T1)(h2:Bm Γ A env r T2):
  Bm Γ A env (.BinOp l op r p) (λσ Q=>T1 σ λa σ=>T2 σ λb σ=>Mz op a b σ Q):=λK G ι σ s Q F h=>
 wpAny_BinOp (A8 h1 F h λG1 ι1 a va σ1 s1 l1 p1 r1 F1 q1=>A8 h2 F1 q1 λG2 ι2 b vb σ2 s2 l2 p2 r2 F2 q2=>
  wpAny_mono (bK H F2 (r1.mono l2 p2) r2 q2) (λ_ _ p=>p.up (l1.trans l2) (p1.trans p2)) λ_ _ x=>x)
end
mutual
noncomputable def Sk:D->PyData
 | .none=>.none
 | .bool b=>.bool b
 | .int i=>.int i
 | .str l=>.str ⟨l.toArray⟩
 | .tup l=>.tuple (toPs l)
 | .lst l=>.list (toPs l)
 | .obj _=>.none
 | .raw _=>.none
 | .app _=>.none
 | .rng _ _ _=>.none
 | .sem _=>.none
noncomputable def toPs:List D->List PyData
 |[]=>[]
 |d::r=>Sk d::toPs r
end
mutual
noncomputable def Io:Nat->D->Bool
 |_,.none=>true
 |_,.bool _=>true
 |_,.int _=>true
 |_,.str l=>l.all (·<0x110000)
 |n+1,.tup l=>okDs n l
 |n+1,.lst l=>okDs n l
 |_,_=>false
noncomputable def okDs:Nat->List D->Bool
 |_,[]=>true
 |n,d::r=>Io n d&&okDs n r
end
section
variable {α β γ δ:Type}{Γ:W}{K:Cw}{A:Around}{env:Env}{G G':Gh}{ι ι':List Addr}{σ:St}{s:Shared}
theorem Gv {n:Nat}{d:D}{r:List D}(k:okDs n (d::r)=true):Io n d=true/\okDs n r=true:=Bool.and_eq_true_iff.mp (show(Io n d&&okDs n r)=true from k)
theorem Ka {h:Heap}{n:Nat}(ih:∀(d:D) (v:Value),Io n d=true->Bb G ι d v->∃as,Reads h v (Sk d) as)(ds:List D):∀vs:List Value,okDs n ds=true->RelL G ι ds vs->∃as,ReadsAll h vs (toPs ds) as:=by
 induction ds with
 |nil=>intro vs _ e;obtain rfl:vs=[]:=e;exact⟨_,.nil⟩
 |cons d r ihr=>
  intro vs k e
  refine Aj e λv w Z x t=>?_
  try clear e
  subst Z
  refine Ae (Gv k) λk1 k2=>?_
  refine Af (ih d v k1 x) λas q=>?_
  refine Af (ihr w k2 t) λbs p=>?_
  exact⟨_,.cons q p⟩
theorem Ys {h:Heap}(gin:∀a o,G a=some o->h.get? a=some o)(n:Nat):∀(d:D) (v:Value),Io n d=true->Bb G ι d v->∃as,Reads h v (Sk d) as:=by
 induction n with
 |zero=>
  intro d v k e
  cases d with
  |none=>obtain rfl:v=.none:=e;exact⟨_,.none⟩
  |bool b=>obtain rfl:v=.bool b:=e;exact⟨_,.bool b⟩
  |int i=>refine Af e λt z0=>?_;try clear e;subst z0;exact⟨_,.int i t⟩
  |str l=>refine Af e λt z1=>?_;try clear e;subst z1;exact⟨_,.str _ t⟩
  |_=>exact Bool.noConfusion (show false=true from k)
 |succ n ih=>
  intro d v k e
  cases d with
  |none=>obtain rfl:v=.none:=e;exact⟨_,.none⟩
  |bool b=>obtain rfl:v=.bool b:=e;exact⟨_,.bool b⟩
  |int i=>refine Af e λt z2=>?_;try clear e;subst z2;exact⟨_,.int i t⟩
  |str l=>refine Af e λt z3=>?_;try clear e;subst z3;exact⟨_,.str _ t⟩
  |tup l=>
   refine Aj e λa vs z4 Z r=>?_
   try clear e
   subst z4
   refine Ay Z λo ho hc Y=>?_
   clear Z
   refine Af Y λm hd=>?_
   clear Y
   refine Af (Ka ih l vs k r) λas q=>?_
   exact⟨as,reads_tuple_at (gin _ _ ho) hc hd q⟩
  |lst l=>
   refine Aj e λa vs z5 V r=>?_
   try clear e
   subst z5
   refine Ay V λo ho hc U=>?_
   clear V
   refine Af U λm hd=>?_
   clear U
   refine Af (Ka ih l vs k r) λas q=>?_
   exact⟨_,reads_list_at (gin _ _ ho) hc hd q⟩
  |_=>exact Bool.noConfusion (show false=true from k)
theorem Lh {n:Nat}(ih:∀d,Io n d=true->(Sk d).canLay0=true/\(Sk d).depth<=n)(ds:List D):okDs n ds=true->PyData.canLayAll0 (toPs ds)=true/\PyData.depthAll (toPs ds)<=n:=by
 induction ds with
 |nil=>exact λ_=>⟨rfl,zero_le _⟩
 |cons d r ihr=>
  intro k
  refine Ae (Gv k) λk1 k2=>?_
  have q:=ih d k1
  have p:=ihr k2
  exact⟨Bool.and_eq_true_iff.mpr ⟨q.1,p.1⟩,Nat.max_le.mpr ⟨q.2,p.2⟩⟩
theorem Nt (n:Nat):∀(d:D),Io n d=true->(Sk d).canLay0=true/\(Sk d).depth<=n:=by
 have str:∀{l:List Nat},l.all (·<0x110000)=true->(Sk (.str l)).canLay0=true:=λ{l} k=>by
  show PyData.strOk _=true
  unfold PyData.strOk
  simpa using k
 induction n with
 |zero=>
  intro d k
  cases d with
  |none=>exact⟨rfl,zero_le _⟩
  |bool b=>exact⟨rfl,zero_le _⟩
  |int i=>exact⟨rfl,zero_le _⟩
  |str l=>exact⟨str k,zero_le _⟩
  |_=>exact Bool.noConfusion (show false=true from k)
 |succ n ih=>
  intro d k
  cases d with
  |none=>exact⟨rfl,zero_le _⟩
  |bool b=>exact⟨rfl,zero_le _⟩
  |int i=>exact⟨rfl,zero_le _⟩
  |str l=>exact⟨str k,zero_le _⟩
  |tup l=>have q:=Lh ih l k;exact⟨q.1,succ_le_succ q.2⟩
  |lst l=>have q:=Lh ih l k;exact⟨q.1,succ_le_succ q.2⟩
  |_=>exact Bool.noConfusion (show false=true from k)
theorem Gu {n:Nat}{d:D}(hn:n<=60)(k:Io n d=true):SeqAt.shaped (Sk d)=true:=by
 have q:=Nt n d k
 unfold SeqAt.shaped
 rw[q.1,Bool.true_and]
 exact decide_eq_true (by exact Ah (add_le_add q.2 hn))
theorem Fc (S:Ch Γ G ι σ.own s.heap){d d':D}{v:Value}(e:fz σ.own 0 20 d=some d')(k:Io 20 d'=true)(r:Bb G ι d v):∃as,Reads s.heap v (Sk d') as:=
 Ys (G:=G.withOwn ι 0 s.heap) (λa o h=>by
  unfold Gh.withOwn at h;split at h
  ·exact h
  ·exact S.gin _ _ h) 20 d' v k (Bb.fz S 0 20 d d' v e r)
noncomputable def By (y x:List Nat):Bool:= !(Builtin.Str.occurrences ⟨x.toArray⟩ ⟨y.toArray⟩ 0 (⟨x.toArray⟩:Str).length 1).isEmpty
noncomputable def qO (op:CmpOp) (i j:Int) (Q:Bool->Prop):Prop:=match op with
 | .Eq=>Q (i==j)
 | .NotEq=>Q (i != j)
 | .Lt=>Q (decide (i<j))
 | .LtE=>Q (decide (i<=j))
 | .Gt=>Q (decide (i>j))
 | .GtE=>Q (decide (i>=j))
 |_=>False
noncomputable def qN (op:CmpOp) (x y:List Nat) (Q:Bool->Prop):Prop:=match op with
 | .Eq=>Q (decide (x=y))
 | .NotEq=>Q (!decide (x=y))
 | .Lt=>Q (decide (x<y))
 | .LtE=>Q (!decide (y<x))
 | .Gt=>Q (decide (y<x))
 | .In=>Q (By x y)
 | .NotIn=>Q (!By x y)
 |_=>False
noncomputable def qE (a b:D) (Q:Bool->Prop):Prop:=match a with
 | .bool i=>(match b with| .bool j=>Q (i==j)| .none=>Q false|_=>False)
 | .none=>(match b with| .none=>Q true|_=>False)
 | .str _=>(match b with| .none=>Q false| .raw v=>(∃r,v=.ref r)/\Q false|_=>False)
 | .int _=>(match b with| .none=>Q false|_=>False)
 |_=>False
noncomputable def bE (op:CmpOp) (a b:D) (σ:St) (Q:Bool->Prop):Prop:=match op with
 | .In=>∃(k:List Nat) (ys:List (List Nat)),a=.str k/\(b=.tup (ys.map D.str)\/Al σ.own b=some (ys.map D.str))/\Q (ys.any (·==k))
 | .NotIn=>∃(k:List Nat) (ys:List (List Nat)),a=.str k/\(b=.tup (ys.map D.str)\/Al σ.own b=some (ys.map D.str))/\Q (!ys.any (·==k))
 | .Is=>qE a b Q
 | .IsNot=>qE a b λc=>Q (!c)
 | .Eq=>∃a' b',fz σ.own 0 20 a=some a'/\fz σ.own 0 20 b=some b'/\Io 20 a'=true/\Io 20 b'=true/\Q (PyData.eqv (Sk a') (Sk b'))
 | .NotEq=>∃a' b',fz σ.own 0 20 a=some a'/\fz σ.own 0 20 b=some b'/\Io 20 a'=true/\Io 20 b'=true/\Q (!PyData.eqv (Sk a') (Sk b'))
 |_=>False
noncomputable def Em (op:CmpOp) (a b:D) (σ:St) (Q:Bool->Prop):Prop:=match a with
 | .int i=>(match b with| .int j=>qO op i j Q|b=>bE op (.int i) b σ Q)
 | .str x=>(match b with| .str y=>qN op x y Q|b=>bE op (.str x) b σ Q)
 |a=>bE op a b σ Q
theorem Uj (x y:List Nat):((⟨x.toArray⟩:Str)==⟨y.toArray⟩)=decide (x=y):=by
 by_cases h:x=y
 ·subst h;simp
 ·have:(⟨x.toArray⟩:Str)≠⟨y.toArray⟩:=λe=>h (by simpa using e)
  simp[h,this]
theorem Dx:∀{ys:List (List Nat)} {vs:List Value},RelL G ι (ys.map D.str) vs->StrsAre vs (ys.map λy=>⟨y.toArray⟩)
 |[],_,h=>by obtain rfl:=Bs h;exact .nil
 |y::ys,_,⟨v,r,e,⟨t,ev⟩,x⟩=>by subst e ev;exact .cons _ _ (Dx x)
theorem Pt (ys:List (List Nat))(k:List Nat):(ys.map λy=>(⟨y.toArray⟩:Str)).any (·==⟨k.toArray⟩)=ys.any (·==k):=by
 rw[List.any_map]
 congr 1
 funext y
 show((⟨y.toArray⟩:Str)==⟨_⟩)=_
 rw[Uj];by_cases hh:y=k<;>simp[hh]
theorem U4 {a b:D}{va vb:Value}{Q:Bool->Prop}(ra:Bb G ι a va)(rb:Bb G ι b vb)(h:qE a b Q):wpAny (model Γ.prog Γ.w) A (isSame va vb) (λc s'=>s'=s/\Q c) (λ_ _=>False) s:=by
 cases a with
 |bool i=>
  cases ra
  cases b with
  |bool j=>cases rb;exact wpAny_of_eq (show isSame (.bool i) (.bool j)=pure (i==j)by cases i<;>cases j<;>rfl) ⟨rfl,h⟩
  |none=>cases rb;exact wpAny_of_eq (isSame_none _) ⟨rfl,h⟩
  |_=>exact h.elim
 |none=>
  cases ra
  cases b with
  |none=>cases rb;exact wpAny_of_eq (isSame_none _) ⟨rfl,h⟩
  |_=>exact h.elim
 |str x=>
  refine Af ra λt Y=>?_
  try clear ra
  subst Y
  cases b with
  |none=>cases rb;exact wpAny_of_eq (isSame_none _) ⟨rfl,h⟩
  |raw v=>cases rb;refine Ae h λZ V=>?_;try clear h;revert V;intro h;refine Af Z λr U=>?_;clear Z;subst U;exact wpAny_of_eq (show isSame (.str ⟨x.toArray⟩ t) (.ref r)=pure false from rfl) ⟨rfl,h⟩
  |_=>exact h.elim
 |int i=>
  refine Af ra λt z0=>?_
  try clear ra
  subst z0
  cases b with
  |none=>cases rb;exact wpAny_of_eq (isSame_none _) ⟨rfl,h⟩
  |_=>exact h.elim
 |_=>exact h.elim
theorem Jw (H:Ev Γ A env){op:CmpOp}{a b:D}{va vb:Value}{Q:Bool->Prop}(F:Aa Γ K env G ι σ s)(ra:Bb G ι a va)(rb:Bb G ι b vb)(h:bE op a b σ Q):
  wpAny (model Γ.prog Γ.w) A (compareOp op va vb) (λv s'=>∃c,v=.bool c/\Aa Γ K env G ι σ s'/\Q c) (λ_ _=>False) s:=by
 have hu:A.units+64<cLine:=lt_of_le_of_lt (Nat.add_le_add_left (by decide) _) H.units
 cases op with
 |In=>
  refine Aj h λk ys Z e q=>?_
  try clear h
  subst Z
  refine Af ra λt Y=>?_
  try clear ra
  subst Y
  rcases e with rfl|e
  ·refine Aj (Ez F.store rb) λl vs V hl rl=>?_
   subst V
   exact in_tuple_strs hl (by simpa using Dx rl) ⟨_,rfl,F,by rw[Pt];exact q⟩
  ·refine Aj (Bh F.store rb e) λl vs U hl rl=>?_
   subst U
   exact in_list_strs hl (Dx rl) ⟨_,rfl,F,by rw[Pt];exact q⟩
 |NotIn=>
  refine Aj h λk ys z0 e q=>?_
  try clear h
  subst z0
  refine Af ra λt z1=>?_
  try clear ra
  subst z1
  rcases e with rfl|e
  ·refine Aj (Ez F.store rb) λl vs z2 hl rl=>?_
   subst z2
   exact notin_tuple_strs hl (by simpa using Dx rl) ⟨_,rfl,F,by rw[Pt];exact q⟩
  ·refine Aj (Bh F.store rb e) λl vs z3 hl rl=>?_
   subst z3
   exact notin_list_strs hl (Dx rl) ⟨_,rfl,F,by rw[Pt];exact q⟩
 |Is=>
  show wpAny _ _ (do return Value.bool (<-isSame va vb):Sem Value) _ _ _
  exact wpAny_bind (wpAny_mono (U4 ra rb h) (λc s' h2_=>by refine Ae h2_ λe q=>?_;try clear h2_;exact wpAny_pure ⟨c,rfl,by rw[e];exact F,q⟩) λ_ _ x=>x)
 |IsNot=>
  show wpAny _ _ (do return Value.bool (!(<-isSame va vb)):Sem Value) _ _ _
  exact wpAny_bind (wpAny_mono (U4 (Q:=λc=>Q (!c)) ra rb h) (λc s' h2_=>by refine Ae h2_ λe q=>?_;try clear h2_;exact wpAny_pure ⟨_,rfl,by rw[e];exact F,q⟩) λ_ _ x=>x)
 |Eq=>
  refine Lu h λa' b' e1 e2 k1 k2 q=>?_
  try clear h
  refine Af (Fc F.store e1 k1 ra) λas r1=>?_
  refine Af (Fc F.store e2 k2 rb) λbs r2=>?_
  exact eq_dataH r1 r2 (Gu (by decide) k1) (Gu (by decide) k2) hu ⟨_,rfl,F,q⟩
 |NotEq=>
  refine Lu h λa' b' e1 e2 k1 k2 q=>?_
  try clear h
  refine Af (Fc F.store e1 k1 ra) λas r1=>?_
  refine Af (Fc F.store e2 k2 rb) λbs r2=>?_
  exact ne_dataH r1 r2 (Gu (by decide) k1) (Gu (by decide) k2) hu ⟨_,rfl,F,q⟩
 |_=>exact h.elim
theorem Ry (H:Ev Γ A env){op:CmpOp}{a b:D}{va vb:Value}{Q:Bool->Prop}(F:Aa Γ K env G ι σ s)(ra:Bb G ι a va)(rb:Bb G ι b vb)(h:Em op a b σ Q):
  wpAny (model Γ.prog Γ.w) A (compareOp op va vb) (λv s'=>∃c,v=.bool c/\Aa Γ K env G ι σ s'/\Q c) (λ_ _=>False) s:=by
 cases a with
 |int i=>
  cases b with
  |int j=>
   refine Af ra λt Z=>?_
   try clear ra
   subst Z;refine Af rb λu Y=>?_;try clear rb;subst Y
   cases op with
   |Eq=>exact P.eq_int ⟨_,rfl,F,h⟩
   |NotEq=>exact P.ne_int ⟨_,rfl,F,h⟩
   |Lt=>exact P.lt_int ⟨_,rfl,F,h⟩
   |LtE=>exact P.le_int ⟨_,rfl,F,h⟩
   |Gt=>exact P.gt_int ⟨_,rfl,F,h⟩
   |GtE=>exact P.ge_int ⟨_,rfl,F,h⟩
   |_=>exact h.elim
  |_=>exact Jw H F ra rb h
 |str x=>
  cases b with
  |str y=>
   refine Af ra λt V=>?_
   try clear ra
   subst V;refine Af rb λu U=>?_;try clear rb;subst U
   cases op with
   |Eq=>exact eq_str ⟨_,rfl,F,by rw[Uj];exact h⟩
   |NotEq=>exact ne_str ⟨_,rfl,F,by rw[bne,Uj];exact h⟩
   |Lt=>exact lt_str ⟨_,rfl,F,h⟩
   |LtE=>exact P.le_str ⟨_,rfl,F,h⟩
   |Gt=>exact P.gt_str ⟨_,rfl,F,h⟩
   |In=>exact in_str ⟨_,rfl,F,h⟩
   |NotIn=>exact notIn_str ⟨_,rfl,F,h⟩
   |_=>exact h.elim
  |_=>exact Jw H F ra rb h
 |_=>exact Jw H F ra rb h
theorem Q6 (H:Ev Γ A env){l r:Expr}{op:CmpOp}{p:Pos}{T1 T2:TT}(h1:Bm Γ A env l T1)(h2:Bm Γ A env r T2)(hm:behindInMarks op r=false):
  Bm Γ A env (.Compare l [op] [r] p) (λσ Q=>T1 σ λa σ=>T2 σ λb σ=>Em op a b σ λc=>tV (.bool c) σ Q):=λK G ι σ s Q F h=>
 wpAny_Compare1 (A8 h1 F h λG1 ι1 a va σ1 s1 l1 p1 r1 F1 q1=>A8 h2 F1 q1 λG2 ι2 b vb σ2 s2 l2 p2 r2 F2 q2=>
  wpAny_mono (Ry H F2 (r1.mono l2 p2) r2 q2) (λv s' h2_=>by refine Ay h2_ λc e F' q=>?_;try clear h2_;subst e;exact(fF F' q).up (l1.trans l2) (p1.trans p2)) λ_ _ x=>x) hm
theorem Pr (H:Ev Γ A env){l r:Expr}{op:CmpOp}{p:Pos}{T1 T2:TT}(h1:Bm Γ A env l T1)(h2:Bm Γ A env r T2)(hm:behindInMarks op r=false):
  Xf Γ A env (.Compare l [op] [r] p) (λσ Q=>T1 σ λa σ=>T2 σ λb σ=>Em op a b σ (ap Q σ)):=λK G ι σ s Q F h=>
 wpAny_isTrue_Compare1 (A8 h1 F h λG1 ι1 a va σ1 s1 l1 p1 r1 F1 q1=>A8 h2 F1 q1 λG2 ι2 b vb σ2 s2 l2 p2 r2 F2 q2=>
  wpAny_mono (Ry H F2 (r1.mono l2 p2) r2 q2) (λv s' h2_=>by refine Ay h2_ λc e F' q=>?_;try clear h2_;subst e;exact wpAny_truthy_bool ((As.mk' (R:=BR) rfl F' q).up (l1.trans l2) (p1.trans p2))) λ_ _ x=>x) hm
noncomputable def Ju (d:D) (σ:St) (Q:Bool->Prop):Prop:=match d with
 | .none=>Q false
 | .bool b=>Q b
 | .int i=>Q (i != 0)
 | .str l=>l.length<2^62/\Q (!l.isEmpty)
 |d=>∃ds,Al σ.own d=some ds/\ds.length<2^62/\Q (!ds.isEmpty)
theorem Hq {d:D}{v:Value}{Q:Bool->Prop}(F:Aa Γ K env G ι σ s)(r:Bb G ι d v)(h:Ju d σ Q):
  wpAny (model Γ.prog Γ.w) A (truthy v) (λc s'=>Aa Γ K env G ι σ s'/\Q c) (λ_ _=>False) s:=by
 have lst:∀{d:D} {v:Value},Bb G ι d v->(∃ds,Al σ.own d=some ds/\ds.length<2^62/\Q (!ds.isEmpty))->wpAny (model Γ.prog Γ.w) A (truthy v) (λc s'=>Aa Γ K env G ι σ s'/\Q c) (λ_ _=>False) s:=by
  intro d v r Z
  refine Ay Z λds e hz q=>?_
  clear Z
  refine Aj (Bh F.store r e) λa vs Y hl rl=>?_
  subst Y
  have hlen:=rl.length
  refine wpAny_truthy_list hl (by rw[size_toArray,hlen];exact Z3 (n:=ds.length) rfl (Ah hz)) ⟨F.toks _,?_⟩
  have:(toArray vs).isEmpty=ds.isEmpty:=by
   cases vs<;>cases ds<;>simp_all
  rw[this];exact q
 cases d with
 |none=>cases r;exact truthy_none ⟨F,h⟩
 |bool b=>cases r;exact wpAny_truthy_bool ⟨F,h⟩
 |int i=>refine Af r λt V=>?_;try clear r;subst V;exact P.truthy_int ⟨F,h⟩
 |str l=>
  refine Af r λt U=>?_
  try clear r
  subst U
  refine P.truthy_str (by rw[Az];have:=h.1;exact Int.not_le.2 (Z3 (n:=l.length) rfl (Ah this))) ⟨F.toks _,?_⟩
  have:(((⟨l.toArray⟩:Str).length:Int) != 0)= !l.isEmpty:=by
   rw[Az];cases l<;>simp
   exact nz _
  rw[this];exact h.2
 |tup l=>exact lst r h
 |lst l=>exact lst r h
 |obj k=>exact lst r h
 |raw w=>exact lst r h
 |app w=>exact lst r h
 |rng a b c=>exact lst r h
 |sem w=>exact lst r h
theorem Xe {e:Expr}{T:TT}(h:Bm Γ A env e T)(he:isTrue e env (eval e env)=(do let v<-eval e env;standAt e.pos;holding [v] (truthy v))):
  Xf Γ A env e (λσ Q=>T σ λd σ=>Ju d σ (ap Q σ)):=λK G ι σ s Q F q=>
 wpAny_isTrue_value (A8 h F q λG1 ι1 d v σ1 s1 l1 p1 r1 F1 q1=>
  wpAny_mono (Hq F1 r1 q1) (λc s' h2_=>by refine Ae h2_ λF' q'=>?_;try clear h2_;exact(As.mk' (R:=BR) rfl F' q').up l1 p1) λ_ _ x=>x) he
theorem jW {e:Expr}{p:Pos}{T:St->(Bool->St->Prop)->Prop}(h:Xf Γ A env e T):Xf Γ A env (.UnaryOp .Not e p) (λσ Q=>T σ λc σ=>tU (!c) σ Q):=λK G ι σ s Q F q=>
 wpAny_isTrue_Not (A8 h F q λG1 ι1 d v σ1 s1 l1 p1 r1 F1 q1=>by cases r1;exact(As.mk' (R:=BR) rfl F1 q1).up l1 p1)
abbrev jY (Γ:W)(A:Around)(env:Env)(op:BoolOp)(es:List Expr)(T:St->(Bool->St->Prop)->Prop):=Tr Γ A env BR (allTrue op es env) T
theorem Kx:jY Γ A env .And [] (tU true):=λK G ι σ s Q F q=>wpAny_allTrue_And_nil (As.mk' (R:=BR) rfl F q)
theorem Pw:jY Γ A env .Or [] (tU false):=λK G ι σ s Q F q=>wpAny_allTrue_Or_nil (As.mk' (R:=BR) rfl F q)
theorem eK {e:Expr}{es:List Expr}{T T':St->(Bool->St->Prop)->Prop}(h:Xf Γ A env e T)(h':jY Γ A env .And es T'):
  jY Γ A env .And (e::es) (λσ Q=>T σ λc σ=>if c=true then T' σ Q else tU false σ Q):=λK G ι σ s Q F q=>
 wpAny_allTrue_And_cons (A8 h F q λG1 ι1 d v σ1 s1 l1 p1 r1 F1 q1=>by
  cases r1
  cases d with
  |true=>rw[if_pos rfl]at q1⊢;exact wpAny_mono (h' K G1 ι1 σ1 s1 Q F1 q1) (λ_ _ p=>p.up l1 p1) λ_ _ x=>x
  |false=>rw[if_neg Bool.false_ne_true]at q1⊢;exact(As.mk' (R:=BR) rfl F1 q1).up l1 p1)
theorem oR {e:Expr}{es:List Expr}{T T':St->(Bool->St->Prop)->Prop}(h:Xf Γ A env e T)(h':jY Γ A env .Or es T'):
  jY Γ A env .Or (e::es) (λσ Q=>T σ λc σ=>if c=true then tU true σ Q else T' σ Q):=λK G ι σ s Q F q=>
 wpAny_allTrue_Or_cons (A8 h F q λG1 ι1 d v σ1 s1 l1 p1 r1 F1 q1=>by
  cases r1
  cases d with
  |false=>rw[if_neg Bool.false_ne_true]at q1⊢;exact wpAny_mono (h' K G1 ι1 σ1 s1 Q F1 q1) (λ_ _ p=>p.up l1 p1) λ_ _ x=>x
  |true=>rw[if_pos rfl]at q1⊢;exact(As.mk' (R:=BR) rfl F1 q1).up l1 p1)
theorem R8 {op:BoolOp}{es:List Expr}{p:Pos}{T:St->(Bool->St->Prop)->Prop}(h:jY Γ A env op es T):Xf Γ A env (.BoolOp op es p) T:=λK G ι σ s Q F q=>
 wpAny_isTrue_BoolOp (h K G ι σ s Q F q)
theorem Yv {e:Expr}{p:Pos}{T:TT}(h:Bm Γ A env e T):Bm Γ A env (.UnaryOp .USub e p) (λσ Q=>T σ λd σ=>∃i,d=.int i/\tV (.int (-i)) σ Q):=λK G ι σ s Q F q=>
 wpAny_UnaryOp (A8 h F q λG1 ι1 d v σ1 s1 l1 p1 r1 F1 Z=>Ac Z λi e q1=>by
  subst e;refine Af r1 λt Y=>?_;try clear r1;subst Y
  exact P.neg_int ((Jo (F1.toks _) q1).up l1 p1))
theorem Hy {t b o:Expr}{p:Pos}{T:St->(Bool->St->Prop)->Prop}{T1 T2:TT}(ht:Xf Γ A env t T)(hb:Bm Γ A env b T1)(ho:Bm Γ A env o T2):
  Bm Γ A env (.IfExp t b o p) (λσ Q=>T σ λc σ=>if c=true then T1 σ Q else T2 σ Q):=λK G ι σ s Q F q=>
 wpAny_IfExp (A8 ht F q λG1 ι1 d v σ1 s1 l1 p1 r1 F1 q1=>by
  cases r1
  cases d with
  |true=>rw[if_pos rfl]at q1⊢;exact wpAny_mono (hb K G1 ι1 σ1 s1 Q F1 q1) (λ_ _ p=>p.up l1 p1) λ_ _ x=>x
  |false=>rw[if_neg Bool.false_ne_true]at q1⊢;exact wpAny_mono (ho K G1 ι1 σ1 s1 Q F1 q1) (λ_ _ p=>p.up l1 p1) λ_ _ x=>x)
theorem lH {x y:Expr}{p:Pos}{T1 T2:TT}(h1:Bm Γ A env x T1)(h2:Bm Γ A env y T2):
  Bm Γ A env (.BoolOp .And [x,y] p) (λσ Q=>T1 σ λd σ=>Ju d σ λc=>if c=true then T2 σ Q else tV d σ Q):=λK G ι σ s Q F q=>
 wpAny_And2 (A8 h1 F q λG1 ι1 d v σ1 s1 l1 p1 r1 F1 q1=>wpAny_mono (Hq F1 r1 q1) (λc s' Z=>Ae Z λF' q'=>by
  cases c with
  |true=>rw[if_pos rfl]at q'⊢;exact wpAny_mono (h2 K G1 ι1 σ1 s' Q F' q') (λ_ _ p=>p.up l1 p1) λ_ _ x=>x
  |false=>rw[if_neg Bool.false_ne_true]at q'⊢;exact(Mu r1 F' q').up l1 p1) λ_ _ x=>x)
theorem lC {x y:Expr}{p:Pos}{T1 T2:TT}(h1:Bm Γ A env x T1)(h2:Bm Γ A env y T2):
  Bm Γ A env (.BoolOp .Or [x,y] p) (λσ Q=>T1 σ λd σ=>Ju d σ λc=>if c=true then tV d σ Q else T2 σ Q):=λK G ι σ s Q F q=>
 wpAny_Or2 (A8 h1 F q λG1 ι1 d v σ1 s1 l1 p1 r1 F1 q1=>wpAny_mono (Hq F1 r1 q1) (λc s' Z=>Ae Z λF' q'=>by
  cases c with
  |false=>rw[if_neg Bool.false_ne_true]at q'⊢;exact wpAny_mono (h2 K G1 ι1 σ1 s' Q F' q') (λ_ _ p=>p.up l1 p1) λ_ _ x=>x
  |true=>rw[if_pos rfl]at q'⊢;exact(Mu r1 F' q').up l1 p1) λ_ _ x=>x)
end
noncomputable def Ep (n₀:Nat) (σ σ':St):Prop:=(σ'.own=σ.own/\σ'.ro=σ.ro/\∀x d,σ'.get x=some d->σ.get x=some d)\/∃n,n₀<=n/\gH n σ σ'
theorem Ep.refl (n:Nat)(σ:St):Ep n σ σ:=.inl ⟨rfl,rfl,λ_ _ e=>e⟩
section
variable {α β γ δ:Type}{Γ:W}{K:Cw}{A:Around}{env:Env}{G G':Gh}{ι ι':List Addr}{σ σ':St}{s:Shared}
theorem Aa.forget (F:Aa Γ K env G ι σ s)(ho:σ'.own=σ.own)(hr:σ'.ro=σ.ro)(hf:∀x d,σ'.get x=some d->σ.get x=some d):Aa Γ K env G ι σ' s where
 store:=ho▸F.store
 ns:=by refine Ac F.ns λm hm q=>?_;exact⟨m,hm,λx d e=>q x d (hf x d e)⟩
 loc:=F.loc
 away:=F.away
 cell:=hr▸F.cell
 freeIn:=F.freeIn
 far:=F.far
 os:=F.os
 gens:=F.gens
 tk:=F.tk
theorem Aa.weak (ok:Γ.Ok)(F:Aa Γ K env G ι σ s){n₀:Nat}(h:Ep n₀ σ σ'):∃G' ι',G.le G'/\Aa Γ K env G' ι' σ' s/\(∀κ:List Addr,κ.length<=n₀->A1 κ ι->A1 κ ι')/\
  ∀a,G a=none->a∉ι->G' a=none/\a∉ι':=by
 rcases h with⟨ho,hr,hf⟩|⟨n,hn,ht⟩
 ·exact⟨G,ι,Gh.le.refl _,F.forget ho hr hf,λ_ _ h=>h,λa h h'=>⟨h,h'⟩⟩
 ·refine Ae (F.trunc ok ht) λle F'=>?_
  refine⟨_,_,le,F',λκ hk h i a e=>Lc (h i a e) (lt_of_lt_of_le (List.getElem?_eq_some_iff.mp e).1 (le_trans hk hn)),λa h h'=>⟨?_,λhm=>h' (List.mem_of_mem_take hm)⟩⟩
  unfold Gh.withOwn
  rw[if_neg (λhm=>h' (mem_of_mem_drop hm))];exact h
abbrev TS:=St->(FD->St->Prop)->Prop
@[reducible] noncomputable def Xs (T:TS) (R:FD->St->Prop) (f:FD) (σ:St):Prop:=match f with
 | .next=>T σ R
 |f=>R f σ
noncomputable def Ya (T1 T2:TS):TS:=λσ Q=>T1 σ (Xs T2 Q)
theorem Fu:Py Γ A env [] (λσ Q=>Q .next σ):=λK G ι σ s Q F q=>wpAny_execs_nil (As.mk' (R:=FR) (b:=.next) rfl F q)
theorem Be {st:Stmt}{r:List Stmt}{T1 T2:TS}(h1:Oc Γ A env st T1)(h2:Py Γ A env r T2):Py Γ A env (st::r) (Ya T1 T2):=λK G ι σ s Q F q=>
 wpAny_execs_cons (A8 h1 F q λG1 ι1 f v σ1 s1 l1 p1 r1 F1 q1=>by
  cases f with
  |next=>cases r1;exact wpAny_mono (h2 K G1 ι1 σ1 s1 Q F1 q1) (λ_ _ p=>p.up l1 p1) λ_ _ x=>x
  |brk=>cases r1;exact(As.mk' (R:=FR) (Q:=Q) (b:=.brk) rfl F1 q1).up l1 p1
  |cont=>cases r1;exact(As.mk' (R:=FR) (Q:=Q) (b:=.cont) rfl F1 q1).up l1 p1
  |ret d=>refine Ac r1 λv Z rr=>?_;try clear r1;subst Z;exact(As.mk' (R:=FR) (Q:=Q) (b:=.ret d) ⟨v,rfl,rr⟩ F1 q1).up l1 p1)
noncomputable def qW (env:Env) (ro:List String) (x:String):Prop:=env.kindOf (ofString x)=some .local\/(env.kindOf (ofString x)=some .cell/\(∃c,env.cells.lookup (ofString x)=some c)/\x∉ro)
theorem Jh (H:Ev Γ A env){x:String}{d:D}{v:Value}{Q:Unit->Shared->Prop}{E:Value->Shared->Prop}(hk:qW env σ.ro x)(F:Aa Γ K env G ι σ s)(r:Bb G ι d v)
  (k:∀s',Aa Γ K env G ι (σ.set x d) s'->Q () s'):wpAny (model Γ.prog Γ.w) A (storeName env (ofString x) v) Q E s:=by
 rcases hk with hk|⟨hk,⟨c,hc⟩,hro⟩
 ·refine Ac F.ns λm hm q=>?_
  exact wpAny_storeName_local hk hm (λh' hn hs=>k _ (F.setLocal hk r ⟨m,hm,q,rfl⟩ hn hs _)) (by rw[H.kind];rfl)
 ·refine A0 (F.cell _ c hk hc) λc1 Z c3=>?_
  refine Af Z λv₀ hv=>?_
  clear Z
  exact wpAny_storeName_cell H.kind hk hc hv (λh' hn hs=>k _ (F.setCell hk hc hro r hn hs))
inductive Kd (env:Env)(x:String):Bool->Prop where
 |local (h:env.kindOf (ofString x)=some .local):Kd env x false
 |cell (h:env.kindOf (ofString x)=some .cell) (c:∃c,env.cells.lookup (ofString x)=some c):Kd env x true
noncomputable def eQ (b:Bool) (x:String) (d:D) (σ:St) (Q:St->Prop):Prop:=(b=true->x∉σ.ro)/\Q (σ.set x d)
theorem Kd.sto {x:String}{b:Bool}{ro:List String}(k:Kd env x b)(h:b=true->x∉ro):qW env ro x:=
 match b,k,h with
 |_,.local hk,_=>.inl hk
 |_,.cell hk c,h=>.inr ⟨hk,c,h rfl⟩
theorem Co (H:Ev Γ A env){x:String}{e:Expr}{p p':Pos}{T:TT}{c:Bool}(hk:Kd env x c)(h:Bm Γ A env e T)(hs:swapsWith e (some (.Name (ofString x) p')) p.line env=pure false):
  Oc Γ A env (.Assign [.Name (ofString x) p'] e p) (λσ Q=>T σ λd σ=>eQ c x d σ (Q .next)):=λK G ι σ s Q F q=>
 wpAny_Assign_Name (A8 h F q λG1 ι1 d v σ1 s1 l1 p1 r1 F1 q1=>Jh H (hk.sto q1.1) F1 r1 λs' F'=>(As.mk' (R:=FR) (b:=.next) rfl F' q1.2).up l1 p1) hs
theorem bO {t:Expr}{b o:List Stmt}{p:Pos}{T:St->(Bool->St->Prop)->Prop}{T1 T2:TS}(ht:Xf Γ A env t T)(hb:Py Γ A env b T1)(ho:Py Γ A env o T2):
  Oc Γ A env (.If t b o p) (λσ Q=>T σ λc σ=>if c=true then T1 σ Q else T2 σ Q):=λK G ι σ s Q F q=>
 wpAny_If (A8 ht F q λG1 ι1 d v σ1 s1 l1 p1 r1 F1 q1=>by
  cases r1
  cases d with
  |true=>rw[if_pos rfl]at q1⊢;exact wpAny_mono (hb K G1 ι1 σ1 s1 Q F1 q1) (λ_ _ p=>p.up l1 p1) λ_ _ x=>x
  |false=>rw[if_neg Bool.false_ne_true]at q1⊢;exact wpAny_mono (ho K G1 ι1 σ1 s1 Q F1 q1) (λ_ _ p=>p.up l1 p1) λ_ _ x=>x)
theorem Ft {e:Expr}{p:Pos}{T:TT}(h:Bm Γ A env e T):Oc Γ A env (.Return (some e) p) (λσ Q=>T σ λd σ=>Q (.ret d) σ):=λK G ι σ s Q F q=>
 wpAny_Return_some (A8 h F q λG1 ι1 d v σ1 s1 l1 p1 r1 F1 q1=>(As.mk' (R:=FR) (b:=.ret d) ⟨v,rfl,r1⟩ F1 q1).up l1 p1)
theorem K0 {e:Expr}{p:Pos}{T:TT}(h:Bm Γ A env e T)(hi:interactive env=false)(hs:swapsWith e none p.line env=pure false):
  Oc Γ A env (.Expr e p) (λσ Q=>T σ λ_ σ=>Q .next σ):=λK G ι σ s Q F q=>
 wpAny_Expr_any (A8 h F q λG1 ι1 d v σ1 s1 l1 p1 r1 F1 q1=>(As.mk' (R:=FR) (b:=.next) rfl F1 q1).up l1 p1) hi hs
theorem Xm {p:Pos}:Oc Γ A env (.Break p) (λσ Q=>Q .brk σ):=λK G ι σ s Q F q=>wpAny_Break (As.mk' (R:=FR) (b:=.brk) rfl F q)
theorem Ug {t:Expr}{m:Option Expr}{p:Pos}{T:St->(Bool->St->Prop)->Prop}(ht:Xf Γ A env t T):Oc Γ A env (.Assert t m p) (λσ Q=>T σ λc σ=>c=true/\Q .next σ):=λK G ι σ s Q F q=>
 wpAny_Assert_holds (A8 ht F q λG1 ι1 d v σ1 s1 l1 p1 r1 F1 q1=>by cases r1;exact⟨q1.1,(As.mk' (R:=FR) (b:=.next) rfl F1 q1.2).up l1 p1⟩)
noncomputable def Sf (Γ:W) (A:Around) (env:Env) (t:Expr) (T:D->St->(St->Prop)->Prop):Prop:=
 ∀K G ι σ s Q d v,Aa Γ K env G ι σ s->Bb G ι d v->T d σ Q->wpAny (model Γ.prog Γ.w) A (assign t env v) (As Γ K env UR G ι λ_ σ=>Q σ) (λ_ _=>False) s
noncomputable def pB (Γ:W) (A:Around) (env:Env) (ts:List Expr) (T:List D->St->(St->Prop)->Prop):Prop:=
 ((assignEach ts env).length=ts.length/\∀p∈assignEach ts env,p.1=false)/\
 ∀K G ι σ s Q ds vs,Aa Γ K env G ι σ s->RelL G ι ds vs->T ds σ Q->wpAny (model Γ.prog Γ.w) A (assignInOrder ((assignEach ts env).map (·.2)) vs) (As Γ K env UR G ι λ_ σ=>Q σ) (λ_ _=>False) s
theorem Dq (H:Ev Γ A env){x:String}{p:Pos}{c:Bool}(hk:Kd env x c):Sf Γ A env (.Name (ofString x) p) (eQ c x):=λK G ι σ s Q d v F r q=>
 wpAny_assign_Name (Jh H (hk.sto q.1) F r λs' F'=>As.mk' (R:=UR) (b:=()) trivial F' q.2)
theorem Sc:pB Γ A env [] (λ_ σ Q=>Q σ):=⟨⟨rfl,λ_ h=>nomatch h⟩,λK G ι σ s Q ds vs F r q=>by
 show wpAny _ _ (assignInOrder [] vs) _ _ _
 cases vs<;>exact wpAny_pure (As.mk' (R:=UR) (b:=()) trivial F q)⟩
theorem Mb {t:Expr}{ts:List Expr}{T:D->St->(St->Prop)->Prop}{T':List D->St->(St->Prop)->Prop}(h:Sf Γ A env t T)(h':pB Γ A env ts T')
  (hns:assignEach (t::ts) env=(false,assign t env)::assignEach ts env):
  pB Γ A env (t::ts) (λds σ Q=>∃d r,ds=d::r/\T d σ λσ=>T' r σ Q):=by
 refine⟨⟨by rw[hns,length_cons,h'.1.1,length_cons],λp hp=>?_⟩,λK G ι σ s Q ds vs F r q=>?_⟩
 ·rw[hns]at hp
  rcases mem_cons.mp hp with rfl|hp
  ·rfl
  ·exact h'.1.2 p hp
 ·refine A2 q λd rest Z Y=>?_
  try clear q
  revert Y
  intro q
  subst Z
  refine Aj r λv w V rv rw'=>?_
  try clear r
  subst V
  rw[hns]
  refine wpAny_bind (wpAny_holding (wpAny_mono (h K G ι σ s _ d v F rv q) (λ_ s1 p=>?_) λ_ _ x=>x))
  refine Cs p λG1 ι1 _ σ1 l1 p1 _ F1 q1=>?_
  try clear p
  exact wpAny_mono (h'.2 K G1 ι1 σ1 s1 Q rest w F1 (rw'.mono l1 p1) q1) (λ_ _ p=>p.up l1 p1) λ_ _ x=>x
theorem Pf {l:List (Bool×(Value->Sem Unit))}(h:∀p∈l,p.1=false):l.findIdx? (·.1)=none:=by
 rw[List.findIdx?_eq_none_iff];exact λx hx=>h x hx
theorem I7 (H:Ev Γ A env){ts:List Expr}{k:Nat}{p:Pos}{T:List D->St->(St->Prop)->Prop}(h:pB Γ A env ts T):
  Sf Γ A env (.Tuple ts k p) (λd σ Q=>∃ds,d=.tup ds/\ds.length=ts.length/\T ds σ Q):=λK G ι σ s Q d v F r q=>by
 refine Ay q λds Z hl Y=>?_
 try clear q
 revert Y
 intro q
 subst Z
 refine Aj (Ez F.store r) λa vs V hT rl=>?_
 subst V
 refine wpAny_assign_Tuple H.handled (items:=vs.toArray) hT (by rw[h.1.1,size_toArray,rl.length,hl]) (Pf h.1.2) λh' he=>?_
 have F':Aa Γ K env G ι σ {s with heap:=h'}:=F.ext (ht:=F.tk) λa o hh e=>he a o (ne_of_lt (Heap.lt_size e)) e
 exact h.2 K G ι σ _ Q ds vs F' rl q
end
noncomputable def Hp (Tc:St->(Bool->St->Prop)->Prop) (Tb:TS) (n₀:Nat):Nat->TS
 |0,_,_=>False
 |n+1,σ,Q=>Tc σ λc σ1=>if c=true then Tb σ1 λf σ2=>match f with
   | .brk=>Q .next σ2
   | .ret d=>Q (.ret d) σ2
   |_=>∃σ3,Ep n₀ σ2 σ3/\Hp Tc Tb n₀ n σ3 Q
  else Q .next σ1
noncomputable def Do (C:St->Prop) (Tb:D->TS) (n₀:Nat):List D->TS
 |[],σ,Q=>C σ/\Q .next σ
 |x::r,σ,Q=>C σ/\Tb x σ λf σ1=>match f with
   | .brk=>Q .next σ1
   | .ret d=>Q (.ret d) σ1
   |_=>∃σ2,Ep n₀ σ1 σ2/\Do C Tb n₀ r σ2 Q
section
variable {α β γ δ:Type}{Γ:W}{K:Cw}{A:Around}{env:Env}{G G' G₂:Gh}{ι ι' ι₂:List Addr}{σ σ':St}{s s₂:Shared}
theorem Sh (H:Ev Γ A env){t:Expr}{b:List Stmt}{p:Pos}{Tc:St->(Bool->St->Prop)->Prop}{Tb:TS}(ht:Xf Γ A env t Tc)(hb:Py Γ A env b Tb):
  Oc Γ A env (.While t b [] p) (λσ Q=>∃n,Hp Tc Tb σ.own.length n σ Q):=λK G ι σ s Q F Y=>Af Y λn q=>by
 refine wpAny_While (codeAny_whileLoop (λn s'=>∃G' ι' σ',G.le G'/\A1 ι ι'/\Aa Γ K env G' ι' σ' s'/\Hp Tc Tb σ.own.length n σ' Q) (λn s' h=>?_) n ⟨G,ι,σ,Gh.le.refl _,A1.refl _,F,q⟩)
 refine Ds h λG1 ι1 σ1 l1 p1 F1 q1=>?_
 try clear h
 cases n with
 |zero=>exact q1.elim
 |succ n=>
  refine wpAny_mono (A8 ht F1 q1 (X:=λc s2=>∃G2 ι2 σ2,G1.le G2/\A1 ι1 ι2/\Aa Γ K env G2 ι2 σ2 s2/\(if c=true then Tb σ2 _ else Q .next σ2)) λG2 ι2 c c' σ2 s2 l2 p2 r2 F2 q2=>by cases r2;exact⟨G2,ι2,σ2,l2,p2,F2,q2⟩) (λc s2 h=>?_) λ_ _ x=>x.elim
  refine Ds h λG2 ι2 σ2 l2 p2 F2 q2=>?_
  try clear h
  cases c with
  |true=>
   rw[if_pos rfl]at q2⊢
   refine wpAny_mono (hb K G2 ι2 σ2 s2 _ F2 q2) (λf s3 h=>?_) λ_ _ x=>x.elim
   refine Cs h λG3 ι3 fd σ3 l3 p3 r3 F3 q3=>?_
   try clear h
   have go:(∃σ4,Ep σ.own.length σ3 σ4/\Hp Tc Tb σ.own.length n σ4 Q)->∃m,m<n+1/\∃G' ι' σ',G.le G'/\A1 ι ι'/\Aa Γ K env G' ι' σ' s3/\Hp Tc Tb σ.own.length m σ' Q:=by
    intro Z
    refine Ac Z λσ4 hw q4=>?_
    clear Z
    refine Dt (F3.weak H.ok hw) λG4 ι4 l4 F4 p4 _=>?_
    exact⟨n,lt_succ_self _,G4,ι4,σ4,((l1.trans l2).trans l3).trans l4,p4 ι (le_of_eq F.store.len) ((p1.trans p2).trans p3),F4,q4⟩
   cases fd with
   |next=>cases r3;exact go q3
   |cont=>cases r3;exact go q3
   |brk=>cases r3;exact(As.mk' (R:=FR) (b:=.next) rfl F3 q3).up ((l1.trans l2).trans l3) ((p1.trans p2).trans p3)
   |ret d=>refine Ac r3 λv V rr=>?_;try clear r3;subst V;exact(As.mk' (R:=FR) (b:=.ret d) ⟨v,rfl,rr⟩ F3 q3).up ((l1.trans l2).trans l3) ((p1.trans p2).trans p3)
  |false=>
   rw[if_neg Bool.false_ne_true]at q2⊢
   exact wpAny_execs_nil ((As.mk' (R:=FR) (b:=.next) rfl F2 q2).up (l1.trans l2) (p1.trans p2))
structure I9 (Γ:W)(A:Around)(env:Env)(n₀ gz:Nat)(it:Value)(C:St->Prop)(P:Gh->List Addr->List D->(Addr->Prop)->Shared->Prop):Prop where
 inn:∀{G ι r X s},P G ι r X s->∀a,X a->s.heap.get? a≠none
 keep:∀{G G' ι ι' r X s s'},P G ι r X s->(∀a o,X a->s.heap.get? a=some o->s'.heap.get? a=some o)->A5 s.gens s'.gens->G.le G'->(∀κ:List Addr,κ.length<=n₀->A1 κ ι->A1 κ ι')->P G' ι' r X s'
 item:∀{K G ι σ s x r X},Aa Γ K env G ι σ s->Bw Γ K env G ι X->K.gens.size<=gz->C σ->P G ι (x::r) X s->
  wpAny (model Γ.prog Γ.w) A (pyNext it) (λres s'=>∃v G' X',res=some v/\G.le G'/\Bw Γ K env G' ι X'/\Aa Γ K env G' ι σ s'/\Bb G' ι x v/\P G' ι r X' s') (λ_ _=>False) s
 done:∀{K G ι σ s X},Aa Γ K env G ι σ s->Bw Γ K env G ι X->K.gens.size<=gz->C σ->P G ι [] X s->wpAny (model Γ.prog Γ.w) A (pyNext it) (λres s'=>res=none/\Aa Γ K env G ι σ s') (λ_ _=>False) s
 own:∀{G ι r X s},P G ι r X s->∀(tgt:Expr) (v:Value) (Q:Unit->Shared->Prop),Q () s->wpAny (model Γ.prog Γ.w) A (letOwnedTupleGo tgt it v) Q (λ_ _=>False) s
 self:∀{G ι r X s},P G ι r X s->∀(Q:Value->Shared->Prop),Q it s->wpAny (model Γ.prog Γ.w) A (pyIter it) Q (λ_ _=>False) s
theorem Pe (H:Ev Γ A env){tgt:Expr}{b:List Stmt}{it:Value}{X:Addr->Prop}{C:St->Prop}{P:Gh->List Addr->List D->(Addr->Prop)->Shared->Prop}{n₀ gz:Nat}{Ta:D->St->(St->Prop)->Prop}{Tb:TS}{items:List D}{Q:FD->St->Prop}
  (I:I9 Γ A env n₀ gz it C P)(ha:Sf Γ A env tgt Ta)(hb:Py Γ A env b Tb)(F:Aa Γ K env G ι σ s)(hX:Bw Γ K env G ι X)(hg:K.gens.size<=gz)(hP:P G ι items X s)(hn:ι.length<=n₀)
  (q:Do C (λx σ Q=>Ta x σ λσ1=>Tb σ1 Q) n₀ items σ Q):
  codeAny (model Γ.prog Γ.w) A (.forLoop tgt it b [] env) (λr s'=>match r with| .ok f=>As Γ K env FR G ι Q f s'| .error e=>False) s:=by
 refine codeAny_forLoop_any (λn s'=>∃G' ι' σ' r X,n=r.length/\G.le G'/\A1 ι ι'/\Aa Γ K env G' ι' σ' s'/\Bw Γ K env G' ι' X/\P G' ι' r X s'/\Do C (λx σ Q=>Ta x σ λσ1=>Tb σ1 Q) n₀ r σ' Q)
  (λn s1 h=>?_) _ ⟨G,ι,σ,items,X,rfl,Gh.le.refl _,A1.refl _,F,hX,hP,q⟩
 refine aN h λG1 ι1 σ1 r X Y l1 p1 F1 X1 P1 q1=>?_
 try clear h
 subst Y
 cases r with
 |nil=>
  refine wpAny_mono (I.done F1 X1 hg q1.1 P1) (λres s2 h=>?_) λ_ _ x=>x.elim
  refine Ae h λV F2=>?_
  try clear h
  subst V
  exact wpAny_mono (wpAny_execs_nil (E:=λ_ _=>False) ((As.mk' (R:=FR) (b:=.next) rfl F2 q1.2).up l1 p1)) (λ_ _ h=>h) λ_ _ x=>x.elim
 |cons x r=>
  refine wpAny_mono (I.item F1 X1 hg q1.1 P1) (λres s2 h=>?_) λ_ _ x=>x.elim
  refine Hg h λv G2 X U l2 X2 F2 r2 P2=>?_
  try clear h
  subst U
  refine wpAny_mono (I.own P2 tgt v _ ?_) (λ_ _ h=>h) λ_ _ x=>x.elim
  have F2':=F2.cover X2
  refine wpAny_mono (ha _ G2 ι1 σ1 s2 _ x v F2' r2 q1.2) (λ_ s3 h=>?_) λ_ _ x=>x.elim
  refine Cs h λG3 ι3 _ σ3 l3 p3 _ F3 q3=>?_
  try clear h
  refine wpAny_mono (hb _ G3 ι3 σ3 s3 _ F3 q3) (λf s4 h=>?_) λ_ _ x=>x.elim
  refine Cs h λG4 ι4 fd σ4 l4 p4 r4 F4 q4=>?_
  try clear h
  refine B7 (F2.uncover X2 (I.inn P2) F4 (l3.trans l4)) λF5 X5 k5 g5=>?_
  have go:(∃σ6,Ep n₀ σ4 σ6/\Do C (λx σ Q=>Ta x σ λσ1=>Tb σ1 Q) n₀ r σ6 Q)->∃m,m<(x::r).length/\∃G' ι' σ' r X,m=r.length/\G.le G'/\A1 ι ι'/\Aa Γ K env G' ι' σ' s4/\Bw Γ K env G' ι' X/\P G' ι' r X s4/\
    Do C (λx σ Q=>Ta x σ λσ1=>Tb σ1 Q) n₀ r σ' Q:=by
   intro Z
   refine Ac Z λσ6 hw q6=>?_
   clear Z
   refine Dt (F5.weak H.ok hw) λG6 ι6 l6 F6 p6 x6=>?_
   refine⟨r.length,lt_succ_self _,G6,ι6,σ6,r,X,rfl,((l1.trans l2).trans (l3.trans l4)).trans l6,p6 ι hn ((p1.trans p3).trans p4),F6,λa xa=>?_,?_,q6⟩
   ·refine B7 (X5 a xa) λy1 y2 y3 y4=>?_
    exact⟨(x6 a y1 y2).1,(x6 a y1 y2).2,y3,y4⟩
   ·exact I.keep P2 k5 g5 ((l3.trans l4).trans l6) λκ hk h=>p6 κ hk ((h.trans p3).trans p4)
  have lall:G.le G4:=(l1.trans l2).trans (l3.trans l4)
  have pall:A1 ι ι4:=(p1.trans p3).trans p4
  cases fd with
  |next=>cases r4;exact go q4
  |cont=>cases r4;exact go q4
  |brk=>cases r4;exact(As.mk' (R:=FR) (b:=.next) rfl F5 q4).up lall pall
  |ret d=>refine Ac r4 λv z0 rr=>?_;try clear r4;subst z0;exact(As.mk' (R:=FR) (b:=.ret d) ⟨v,rfl,rr⟩ F5 q4).up lall pall
end
section
variable {α β γ δ:Type}{Γ:W}{K:Cw}{A:Around}{env:Env}{G G' G₂:Gh}{ι ι' ι₂:List Addr}{σ σ':St}{s s₂:Shared}
noncomputable def Zd:List String:=["enumerate","zip","dict_itemiterator","dict_reverseitemiterator","odict_iterator","itertools.zip_longest","itertools.pairwise"]
theorem Ex {a:Addr}{T:String}{vs:Array Value}{o:Obj}{Q:Unit->Shared->Prop}{E:Value->Shared->Prop}(ho:s.heap.get? a=some o)(hc:o.cls=.type T)(hd:o.data=.fields vs)(hT:Zd.contains T=false)(tgt:Expr)(v:Value)(q:Q () s):
  wpAny (model Γ.prog Γ.w) A (letOwnedTupleGo tgt (.ref a) v) Q E s:=by
 have core:wpAny (model Γ.prog Γ.w) A (do
   let(.ref r,.ref a):=(Value.ref a,v)|return
   let o<-load r
   match o.cls,o.data with
   | .type n,.fields vs=>
    if["enumerate","zip","dict_itemiterator","dict_reverseitemiterator","odict_iterator","itertools.zip_longest","itertools.pairwise"].contains n&&vs[0]? ==some (rawInt a)then
     rule "for.unpacks-the-owned-tuple"
     updateField r 0 .none
   |_,_=>pure ():Sem Unit) Q E s:=by
  cases v<;>try exact wpAny_pure q
  refine wpAny_bind (wpAny_load ho ?_)
  rw[hc,hd]
  dsimp only
  rw[if_neg]
  ·exact wpAny_pure q
  ·rw[show(["enumerate","zip","dict_itemiterator","dict_reverseitemiterator","odict_iterator","itertools.zip_longest","itertools.pairwise"].contains T)=false from hT,Bool.false_and];simp
 cases tgt<;>first|exact core|exact wpAny_pure q
theorem B2 (F:Aa Γ K env G ι σ s){X:Addr->Prop}{a:Addr}(hX:Bw Γ K env G ι X)(xa:X a){h':Heap}(he:Heap.ExtBut a s.heap h')(t:Nat)(ht:0<t:=by solve_by_elim [succ_pos,Aa.tk]):Aa Γ K env G ι σ {s with heap:=h',toks:=t}:=
 F.ext (ht:=ht) λb o hh e=>he b o (λz=>by
  subst z
  refine B7 (hX b xa) λy1 y2 y3 y4=>?_
  rcases hh with h|h|h|h|h
  ·rw[y1]at h;cases h
  ·exact y2 h
  ·exact y3 h
  ·exact y4.1 h
  ·rw[y4.2]at h;cases h) e
noncomputable def lZ (a:Addr) (d₀:D) (items:List D) (κ:List Addr):Gh->List Addr->List D->(Addr->Prop)->Shared->Prop:=λG ι r X s=>X=(λb=>b=a)/\
 ∃i l,s.heap.IsListIter a l i/\r=items.drop i/\Bb G κ d₀ (.ref l)/\A1 κ ι
theorem Zy (H:Ev Γ A env){a:Addr}{d₀:D}{items:List D}{κ:List Addr}{n₀ gz:Nat}(hn:κ.length<=n₀):
  I9 Γ A env n₀ gz (.ref a) (λσ=>Al σ.own d₀=some items) (lZ a d₀ items κ) where
 inn:=λh0_ b e=>by refine Ae h0_ λeX Z=>?_;try clear h0_;refine A2 Z λi l Y _=>?_;clear Z;refine Ay Y λo ho hc hd=>?_;clear Y;subst eX e;rw[ho];exact Option.some_ne_none _
 keep:=λh0_ k _ le kp=>by refine Ae h0_ λeX V=>?_;try clear h0_;refine Dt V λi l U e rl p=>?_;clear V;refine Ac U λo ho r=>?_;clear U;exact⟨eX,i,l,⟨o,k a o (by rw[eX]) ho,r⟩,e,rl.mono le (A1.refl _),kp κ hn p⟩
 item:=λ{K G ι σ s x r X} F hX _ hC zp_=>by
  refine Ae zp_ λeX z0=>?_
  try clear zp_
  refine Dt z0 λi l hit e rl p=>?_
  clear z0
  subst eX
  refine Aj (Bh F.store (rl.mono (Gh.le.refl _) p) hC) λl' vs e' hl rls=>?_
  cases e'
  have hi:items[i]? =some x:=by
   have:(items.drop i)[0]? =some x:=by rw[<-e];rfl
   rw[List.getElem?_drop]at this;simpa using this
  refine Ac (rls.getElem? hi) λv hv rv=>?_
  refine wpAny_pyNext_list_item hit hl (by simpa using hv) λh' hit' hs=>⟨v,G,_,rfl,Gh.le.refl _,hX,B2 F hX rfl hs.extBut _,rv,rfl,i+1,l,hit',?_,rl,p⟩
  rw[<-List.tail_drop,<-e];rfl
 done:=λ{K G ι σ s X} F hX _ hC zp_=>by
  refine Ae zp_ λeX z1=>?_
  try clear zp_
  refine Dt z1 λi l hit e rl p=>?_
  clear z1
  subst eX
  refine Aj (Bh F.store (rl.mono (Gh.le.refl _) p) hC) λl' vs e' hl rls=>?_
  cases e'
  have hi:vs.toArray[i]? =none:=by
   have h1:items.length<=i:=by
    have:=congrArg List.length e.symm
    rw[length_drop]at this;simp at this;exact Ah (add_le_add (Bp (items.length) (i)) (le_of_eq this))
   have h2:=rls.length
   simp;exact Ah (add_le_add (le_of_eq h2) h1)
  exact wpAny_pyNext_list_end H.handled hit hl hi λh' he=>⟨rfl,B2 F hX rfl he _⟩
 own:=λh0_ tgt v Q q=>by refine Ae h0_ λ_ z2=>?_;try clear h0_;refine A2 z2 λi l z3 _=>?_;clear z2;refine Ay z3 λo ho hc hd=>?_;clear z3;exact Ex ho hc hd (by decide) tgt v q
 self:=λh0_ Q q=>by refine Ae h0_ λ_ z4=>?_;try clear h0_;refine A2 z4 λi l hit _=>?_;clear z4;exact wpAny_pyIter_listiter hit q
noncomputable def cC (a:Addr) (ty:String) (x:List Nat) (t:Tok):Gh->List Addr->List D->(Addr->Prop)->Shared->Prop:=λG ι r X s=>X=(λb=>b=a)/\
 ∃i,s.heap.IsStrIter a ty ⟨x.toArray⟩ t i/\r=(x.drop i).map λc=>.str [c]
theorem Na {x:List Nat}{i:Nat}{y:D}{r:List D}(e:y::r=(x.drop i).map λc=>D.str [c]):∃c,x[i]? =some c/\y=.str [c]/\r=(x.drop (i+1)).map λc=>.str [c]:=by
 cases q:x.drop i with
 |nil=>rw[q]at e;cases e
 |cons c z=>
  rw[q]at e
  rw[map_cons]at e
  injection e with e1 e2
  refine⟨c,?_,e1,?_⟩
  ·have:(x.drop i)[0]? =some c:=by rw[q];rfl
   rw[List.getElem?_drop]at this;simpa using this
  ·rw[e2,<-List.tail_drop,q];rfl
theorem Qk {x:List Nat}{i:Nat}(e:[]=(x.drop i).map λc=>D.str [c]):x[i]? =none:=by
 have:x.drop i=[]:=by simpa using e.symm
 rw[List.getElem?_eq_none_iff]
 have:=congrArg List.length this
 rw[length_drop]at this;simp at this;exact Ah (add_le_add (Bp (x.length) (i)) (le_of_eq this))
theorem Wv (H:Ev Γ A env){a:Addr}{x:List Nat}{t:Tok}{n₀ gz:Nat}:
  I9 Γ A env n₀ gz (.ref a) (λ_=>True) (cC a "str_ascii_iterator" x t) where
 inn:=λh0_ b e=>by refine Ae h0_ λeX Z=>?_;try clear h0_;refine Ac Z λi Y _=>?_;clear Z;refine Ay Y λo ho hc hd=>?_;clear Y;subst eX e;rw[ho];exact Option.some_ne_none _
 keep:=λh0_ k _ le kp=>by refine Ae h0_ λeX V=>?_;try clear h0_;refine Ac V λi U e=>?_;clear V;refine Ac U λo ho r=>?_;clear U;exact⟨eX,i,⟨o,k a o (by rw[eX]) ho,r⟩,e⟩
 item:=λ{K G ι σ s y r X} F hX _ hC zp_=>by
  refine Ae zp_ λeX z0=>?_
  try clear zp_
  refine Ac z0 λi hit e=>?_
  clear z0
  subst eX
  refine Ay (Na e) λc hc z5 er=>?_
  subst z5
  exact wpAny_pyNext_ascii_item hit (c:=c) (by simpa using hc) λh' hit' hs=>⟨_,G,_,rfl,Gh.le.refl _,hX,B2 F hX rfl hs.extBut _,⟨_,rfl⟩,rfl,i+1,hit',er⟩
 done:=λ{K G ι σ s X} F hX _ hC zp_=>by
  refine Ae zp_ λeX z1=>?_
  try clear zp_
  refine Ac z1 λi hit e=>?_
  clear z1
  subst eX
  exact wpAny_pyNext_ascii_end H.handled hit (by simpa using Qk e) λh' he=>⟨rfl,B2 F hX rfl he _⟩
 own:=λh0_ tgt v Q q=>by refine Ae h0_ λ_ z2=>?_;try clear h0_;refine Ac z2 λi z3 _=>?_;clear z2;refine Ay z3 λo ho hc hd=>?_;clear z3;exact Ex ho hc hd (by decide) tgt v q
 self:=λh0_ Q q=>by refine Ae h0_ λ_ z4=>?_;try clear h0_;refine Ac z4 λi hit _=>?_;clear z4;exact wpAny_pyIter_striter_ascii hit q
theorem Zx (H:Ev Γ A env){a:Addr}{x:List Nat}{t:Tok}{n₀ gz:Nat}:
  I9 Γ A env n₀ gz (.ref a) (λ_=>True) (cC a "str_iterator" x t) where
 inn:=λh0_ b e=>by refine Ae h0_ λeX Z=>?_;try clear h0_;refine Ac Z λi Y _=>?_;clear Z;refine Ay Y λo ho hc hd=>?_;clear Y;subst eX e;rw[ho];exact Option.some_ne_none _
 keep:=λh0_ k _ le kp=>by refine Ae h0_ λeX V=>?_;try clear h0_;refine Ac V λi U e=>?_;clear V;refine Ac U λo ho r=>?_;clear U;exact⟨eX,i,⟨o,k a o (by rw[eX]) ho,r⟩,e⟩
 item:=λ{K G ι σ s y r X} F hX _ hC zp_=>by
  refine Ae zp_ λeX z0=>?_
  try clear zp_
  refine Ac z0 λi hit e=>?_
  clear z0
  subst eX
  refine Ay (Na e) λc hc z5 er=>?_
  subst z5
  exact wpAny_pyNext_wide_item hit (c:=c) (by simpa using hc) λh' hit' hs=>⟨_,G,_,rfl,Gh.le.refl _,hX,B2 F hX rfl hs.extBut _,⟨_,rfl⟩,rfl,i+1,hit',er⟩
 done:=λ{K G ι σ s X} F hX _ hC zp_=>by
  refine Ae zp_ λeX z1=>?_
  try clear zp_
  refine Ac z1 λi hit e=>?_
  clear z1
  subst eX
  exact wpAny_pyNext_wide_end H.handled hit (by simpa using Qk e) λh' he=>⟨rfl,B2 F hX rfl he _⟩
 own:=λh0_ tgt v Q q=>by refine Ae h0_ λ_ z2=>?_;try clear h0_;refine Ac z2 λi z3 _=>?_;clear z2;refine Ay z3 λo ho hc hd=>?_;clear z3;exact Ex ho hc hd (by decide) tgt v q
 self:=λh0_ Q q=>by refine Ae h0_ λ_ z4=>?_;try clear h0_;refine Ac z4 λi hit _=>?_;clear z4;exact wpAny_pyIter_striter_wide hit q
noncomputable def Fd (a c:Int) (n:Nat):List D:=(List.range n).map λ(i:Nat)=>D.int (a+(i:Int)*c)
theorem Ge (a c:Int)(n:Nat):Fd a c (n+1)=.int a::Fd (a+c) c n:=by
 unfold Fd
 rw[List.range_succ_eq_map,map_cons,map_map]
 congr 1
 ·simp
 ·apply map_congr_left
  intro i _
  simp only[Function.comp]
  congr 1
  push_cast
  rw[Int.add_mul];simp +arith only
noncomputable def kZ (a:Addr) (c:Int):Gh->List Addr->List D->(Addr->Prop)->Shared->Prop:=λG ι r X s=>X=(λb=>b=a)/\∃x n,IsRangeIter s.heap a x (n:Nat) c/\r=Fd x c n
theorem Wu (H:Ev Γ A env){a:Addr}{c:Int}{n₀ gz:Nat}:
  I9 Γ A env n₀ gz (.ref a) (λ_=>True) (kZ a c) where
 inn:=λh0_ b e=>by refine Ae h0_ λeX Z=>?_;try clear h0_;refine A2 Z λi n ho _=>?_;clear Z;subst eX e;rw[ho];exact Option.some_ne_none _
 keep:=λh0_ k _ le kp=>by refine Ae h0_ λeX Y=>?_;try clear h0_;refine A2 Y λi n ho e=>?_;clear Y;exact⟨eX,i,n,k a _ (by rw[eX]) ho,e⟩
 item:=λ{K G ι σ s y r X} F hX _ hC zp_=>by
  refine Ae zp_ λeX V=>?_
  try clear zp_
  refine A2 V λi n hit e=>?_
  clear V
  subst eX
  cases n with
  |zero=>cases e
  |succ n=>
   rw[Ge]at e
   injection e with e1 e2
   subst e1
   refine wpAny_pyNext_range_item hit (by exact Int.ofNat_lt.2 (by simp +arith only:0<(n+1))) λh' hit' hs=>⟨_,G,_,rfl,Gh.le.refl _,hX,B2 F hX rfl hs.extBut _,⟨_,rfl⟩,rfl,i+c,n,?_,e2⟩
   rw[show((n:Nat):Int)=((n+1:Nat):Int)-1 by exact(qC _).symm];exact hit'
 done:=λ{K G ι σ s X} F hX _ hC zp_=>by
  refine Ae zp_ λeX U=>?_
  try clear zp_
  refine A2 U λi n hit e=>?_
  clear U
  subst eX
  cases n with
  |succ n=>rw[Ge]at e;cases e
  |zero=>exact wpAny_pyNext_range_end H.handled hit (by simp) λh' he=>⟨rfl,B2 F hX rfl he _⟩
 own:=λh0_ tgt v Q q=>by refine Ae h0_ λ_ z0=>?_;try clear h0_;refine A2 z0 λi n ho _=>?_;clear z0;exact Ex ho rfl rfl (by decide) tgt v q
 self:=λh0_ Q q=>by refine Ae h0_ λ_ z1=>?_;try clear h0_;refine A2 z1 λi n hit _=>?_;clear z1;exact wpAny_pyIter_rangeiter hit q
theorem Ih (F:Aa Γ K env G ι σ s):Bw Γ K env G ι (λb=>b=s.heap.objs.size):=λa e=>by
 subst e
 refine⟨F.store.gfresh,λh=>?_,λh=>?_,λh=>?_,Classical.byContradiction λh=>?_⟩
 ·exact lt_irrefl _ (F.store.lt _ h)
 ·exact lt_irrefl _ (F.lt_own (.inr (.inr (.inl h))))
 ·exact lt_irrefl _ (F.own_lt h)
 ·exact lt_irrefl _ (F.lt_own (.inr (.inr (.inr (.inr h)))))
theorem Jj (a b c:Int):0<=Builtin.Range.rangeSize a b c:=by
 unfold Builtin.Range.rangeSize
 split
 ·split
  ·rename_i h h2;exact Int.add_nonneg (Int.ediv_nonneg (Int.le_sub_one_of_lt (Int.sub_pos_of_lt h2)) (Int.le_of_lt h)) (by decide)
  ·decide
 ·split
  ·rename_i h h2;exact Int.add_nonneg (Int.ediv_nonneg (Int.le_sub_one_of_lt (Int.sub_pos_of_lt h2)) (Int.neg_nonneg_of_nonpos (Int.not_lt.1 h))) (by decide)
  ·decide
noncomputable def Fr (d:D) (σ:St) (k:List D->(St->Prop)->Prop):Prop:=match d with
 | .str l=>k (l.map λc=>.str [c]) (λ_=>True)
 | .rng a b c=>(c≠0/\Builtin.Range.small a b c=true)/\k (Fd a c (Builtin.Range.rangeSize a b c).toNat) (λ_=>True)
 |d=>∃items,Al σ.own d=some items/\k items (λσ'=>Al σ'.own d=some items)
theorem Kr {A':Around}(H:Ev Γ A env){d:D}{v:Value}{k:List D->(St->Prop)->Prop}(F:Aa Γ K env G ι σ s)(r:Bb G ι d v)(q:Fr d σ k):
  wpAny (model Γ.prog Γ.w) A' (pyIter v) (λit s'=>∃X C P items,(∀env' gz,Ev Γ A env'->I9 Γ A env' ι.length gz it C P)/\(∀a,X a->s.heap.get? a=none)/\(∀a o,s.heap.get? a=some o->s'.heap.get? a=some o)/\s'.os=s.os/\s'.gens=s.gens/\Aa Γ K env G ι σ s'/\Bw Γ K env G ι X/\P G ι items X s'/\k items C) (λ_ _=>False) s:=by
 have lst:∀{d:D} {v:Value},Bb G ι d v->(∃items,Al σ.own d=some items/\k items (λσ'=>Al σ'.own d=some items))->
   wpAny (model Γ.prog Γ.w) A' (pyIter v) (λit s'=>∃X C P items,(∀env' gz,Ev Γ A env'->I9 Γ A env' ι.length gz it C P)/\(∀a,X a->s.heap.get? a=none)/\(∀a o,s.heap.get? a=some o->s'.heap.get? a=some o)/\s'.os=s.os/\s'.gens=s.gens/\Aa Γ K env G ι σ s'/\Bw Γ K env G ι X/\P G ι items X s'/\k items C) (λ_ _=>False) s:=by
  intro d v r Z
  refine Ac Z λitems e q=>?_
  clear Z
  refine Aj (Bh F.store r e) λl vs Y hl rl=>?_
  subst Y
  refine wpAny_pyIter_list hl ⟨_,_,lZ s.heap.objs.size d items ι,items,λ_ _ H=>Zy H (le_refl _),λa e=>by subst e;exact Heap.get?_none_of_le (le_refl _),λa o e=>Heap.get?_push_of_some _ e,rfl,rfl,F.push _ _,Ih F,⟨rfl,0,l,⟨_,Heap.get?_push_size _ rfl,rfl,rfl⟩,rfl,r,A1.refl _⟩,q⟩
 cases d with
 |str x=>
  refine Af r λt V=>?_
  try clear r
  subst V
  cases ha:(⟨x.toArray⟩:Str).cps.all (·<128)
  ·refine wpAny_pyIter_wide ha ⟨_,_,cC s.heap.objs.size "str_iterator" x t,_,λ_ _ H=>Zx H,λa e=>by subst e;exact Heap.get?_none_of_le (le_refl _),λa o e=>Heap.get?_push_of_some _ e,rfl,rfl,F.push _ _,Ih F,⟨rfl,0,⟨_,Heap.get?_push_size _ rfl,rfl,rfl⟩,rfl⟩,q⟩
  ·refine wpAny_pyIter_ascii ha ⟨_,_,cC s.heap.objs.size "str_ascii_iterator" x t,_,λ_ _ H=>Wv H,λa e=>by subst e;exact Heap.get?_none_of_le (le_refl _),λa o e=>Heap.get?_push_of_some _ e,rfl,rfl,F.push _ _,Ih F,⟨rfl,0,⟨_,Heap.get?_push_size _ rfl,rfl,rfl⟩,rfl⟩,q⟩
 |none=>exact lst r q
 |bool b=>exact lst r q
 |int i=>exact lst r q
 |tup l=>exact lst r q
 |rng a b c=>
  refine Va r λl t u w U g=>?_
  try clear r
  subst U
  refine wpAny_pyIter_range (F.store.gin _ _ g) q.1.2 ⟨_,_,kZ s.heap.objs.size c,_,λ_ _ H=>Wu H,λa e=>by subst e;exact Heap.get?_none_of_le (le_refl _),λa o e=>Heap.get?_push_of_some _ e,rfl,rfl,F.push _ _,Ih F,⟨rfl,a,(Builtin.Range.rangeSize a b c).toNat,?_,rfl⟩,q.2⟩
  have h0:0<=Builtin.Range.rangeSize a b c:=Jj _ _ _
  rw[show(((Builtin.Range.rangeSize a b c).toNat:Nat):Int)=Builtin.Range.rangeSize a b c from Int.toNat_of_nonneg h0]
  exact Heap.get?_push_size _ rfl
 |lst l=>exact lst r q
 |obj l=>exact lst r q
 |raw l=>exact lst r q
 |app l=>exact lst r q
 |sem l=>exact lst r q
theorem bQ (H:Ev Γ A env){tgt it:Expr}{b:List Stmt}{p:Pos}{T:TT}{Ta:D->St->(St->Prop)->Prop}{Tb:TS}(hi:Bm Γ A env it T)(ha:Sf Γ A env tgt Ta)(hb:Py Γ A env b Tb)
  (hs:∀x,foldedSetIterable it env x=pure x):
  Oc Γ A env (.For tgt it b [] p) (λσ Q=>T σ λd σ1=>Fr d σ1 λitems C=>Do C (λx σ Q=>Ta x σ λσ1=>Tb σ1 Q) σ1.own.length items σ1 Q):=λK G ι σ s Q F q=>
 wpAny_For (A8 hi F q λG1 ι1 d v σ1 s1 l1 p1 r1 F1 q1=>wpAny_mono (Kr H F1 r1 q1) (λit s2 Z=>N3 Z λX C P items I _ _ _ _ F2 X2 P2 q2=>
  codeAny_mono (Pe H (n₀:=σ1.own.length) (by rw[<-F1.store.len];exact I env _ H) ha hb F2 X2 (le_refl _) P2 (le_of_eq F1.store.len) q2) λr s' h=>by
   cases r with
   |ok f=>exact h.up l1 p1
   |error e=>exact h.elim) λ_ _ x=>x) hs
end
noncomputable def Fg {α:Type} (l:List α) (k:Int):Option α:=(seqIndex? k l.length).bind (l[·]?)
noncomputable def C8 {α:Type} (l:List α) (lo hi st:Option Int):List α:=
 (sliceRange (sliceBounds lo hi st l.length).1 (sliceBounds lo hi st l.length).2.1 (sliceBounds lo hi st l.length).2.2).filterMap (l[·]?)
section
variable {α β γ δ:Type}{Γ:W}{K:Cw}{A:Around}{env:Env}{G G':Gh}{ι ι':List Addr}{σ:St}{s:Shared}
abbrev Ky (Γ:W)(A:Around)(env:Env)(pos:Pos)(es:List Expr)(T:St->(List D->St->Prop)->Prop):=Tr Γ A env LR (spliced (backTo pos (starEach es env))) T
theorem Dc {pos:Pos}:Ky Γ A env pos [] (tU []):=λK G ι σ s Q F q=>wpAny_items_nil (As.mk' (R:=LR) (b:=[]) (show RelL G ι [] []from rfl) F q)
theorem B3 {pos:Pos}{e:Expr}{es:List Expr}{T:TT}{T':St->(List D->St->Prop)->Prop}(h:Bm Γ A env e T)(h':Ky Γ A env pos es T')(hs:starEach (e::es) env=(false,eval e env)::starEach es env):
  Ky Γ A env pos (e::es) (λσ Q=>T σ λd σ=>T' σ λds σ=>tU (d::ds) σ Q):=λK G ι σ s Q F q=>
 wpAny_items_cons (A8 h F q λG1 ι1 d v σ1 s1 l1 p1 r1 F1 q1=>A8 h' F1 q1 λG2 ι2 ds vs σ2 s2 l2 p2 r2 F2 q2=>
  (As.mk' (R:=LR) (b:=d::ds) (show RelL G2 ι2 (d::ds) (v::vs)from⟨v,vs,rfl,r1.mono l2 p2,r2⟩) F2 q2).up (l1.trans l2) (p1.trans p2)) hs
theorem He {pos:Pos}{es:List Expr}{T:St->(List D->St->Prop)->Prop}(h:Ky Γ A env pos es T):
  Bm Γ A env (.List es pos) (λσ Q=>T σ λds σ=>ds.length<=sizeLine/\tV (.obj σ.own.length) {σ with own:=σ.own++[ds]} Q):=λK G ι σ s Q F q=>
 wpAny_List (A8 h F q λG1 ι1 ds vs σ1 s1 l1 p1 r1 F1 q1=>⟨by rw[r1.length];exact q1.1,
  (As.mk' (R:=VR) (Ks F1) (F1.newOwn r1 0 s1.toks F1.tk) q1.2).up l1 (p1.trans (A1.append _ _))⟩)
theorem Hw (H:Ev Γ A env){pos:Pos}{k:Nat}{es:List Expr}{T:St->(List D->St->Prop)->Prop}(h:Ky Γ A env pos es T):
  Bm Γ A env (.Tuple es k pos) (λσ Q=>T σ λds σ=>ds.length<=sizeLine/\tV (.tup ds) σ Q):=λK G ι σ s Q F q=>
 wpAny_Tuple (A8 h F q λG1 ι1 ds vs σ1 s1 l1 p1 r1 F1 q1=>⟨by rw[r1.length];exact q1.1,by
  refine Ae (F1.alloc H.ok (o:={cls:=.type "tuple",data:=.seq vs.toArray}) rfl s1.toks F1.tk) λle F2=>?_
  exact(Mu (d:=.tup ds) ⟨_,vs,rfl,⟨_,Gh.put_self _ _ _,rfl,_,rfl⟩,r1.mono le (A1.refl _)⟩ F2 q1.2).up (l1.trans le) p1⟩)
noncomputable def B6 (k:Int):Prop:= -(2^63)<=k/\k<2^63
noncomputable def bB (o:D) (k:Int) (σ:St) (Q:D->Prop):Prop:=match o with
 | .str x=>B6 k/\∃c,Fg x k=some c/\Q (.str [c])
 | .tup l=>B6 k/\∃d,Fg l k=some d/\Q d
 |o=>∃l,Al σ.own o=some l/\B6 k/\∃d,Fg l k=some d/\Q d
noncomputable def Kh (o i:D) (σ:St) (Q:D->Prop):Prop:=match i with
 | .int k=>bB o k σ Q
 |_=>False
theorem W3 {o i:D}{σ:St}{Q:D->Prop}(h:Kh o i σ Q):∃k,i=.int k/\bB o k σ Q:=by
 cases i<;>first|exact⟨_,rfl,h⟩|exact h.elim
theorem Ip {l:List α}{k:Int}{x:α}(h:Fg l k=some x):∃j,seqIndex? k l.length=some j/\l[j]? =some x:=by
 unfold Fg at h
 cases e:seqIndex? k l.length with
 |none=>rw[e]at h;cases h
 |some j=>rw[e]at h;exact⟨j,rfl,h⟩
theorem Fa {k:Int}{n j:Nat}(h:seqIndex? k n=some j):j<n/\((0<=k/\(j:Int)=k)\/(k<0/\(j:Int)=k+n)):=by
 unfold seqIndex? at h
 by_cases hk:k<0
 ·simp only[hk,if_true,Bool.and_eq_true,decide_eq_true_eq,Option.ite_none_right_eq_some,Option.some.injEq]at h
  have e:(j:Int)=k+n:=by rw[<-h.2,Int.toNat_of_nonneg h.1.1]
  exact⟨Int.ofNat_lt.1 (by rw[e];exact h.1.2),.inr ⟨hk,e⟩⟩
 ·simp only[hk,if_false,Bool.and_eq_true,decide_eq_true_eq,Option.ite_none_right_eq_some,Option.some.injEq]at h
  have e:(j:Int)=k:=by rw[<-h.2,Int.toNat_of_nonneg h.1.1]
  exact⟨Int.ofNat_lt.1 (by rw[e];exact h.1.2),.inl ⟨Int.not_lt.1 hk,e⟩⟩
theorem Rm {a:Addr}{vs:List Value}{k:Int}{t:Tok}{v:Value}{Q:Value->Shared->Prop}{E:Value->Shared->Prop}(hl:s.heap.IsList a vs.toArray)(hw:B6 k)(hv:Fg vs k=some v)(q:Q v s):
  wpAny (model Γ.prog Γ.w) A (getItem (.ref a) (.int k t)) Q E s:=by
 refine Ac (Ip hv) λj hj e=>?_
 refine Ae (Fa hj) λhlt h=>?_
 rcases h with⟨h0,hk⟩|⟨h0,hk⟩
 ·exact wpAny_getItem_list hl h0 hw.2 (by rw[show k.toNat=j by rw[<-hk];rfl];simpa using e) q
 ·exact wpAny_getItem_list_neg hl h0 (by simp;exact Int.le_of_sub_nonneg (by rw[Int.sub_neg,<-hk];exact Int.natCast_nonneg j)) hw.1 (by rw[show(k+(vs.toArray.size:Int)).toNat=j by simp;rw[<-hk];rfl];simpa using e) q
theorem RelL.nth {ds:List D}{vs:List Value}(r:RelL G ι ds vs){k:Int}{d:D}(h:Mine.Fg ds k=some d):∃v,Mine.Fg vs k=some v/\Bb G ι d v:=by
 refine Ac (Ip h) λj hj e=>?_
 refine Ac (r.getElem? e) λv hv rv=>?_
 exact⟨v,by unfold Mine.Fg;rw[r.length,hj];exact hv,rv⟩
theorem Tk {o:D}{k:Int}{vo vi:Value}{Q:D->Prop}(F:Aa Γ K env G ι σ s)(ro:Bb G ι o vo)(ri:Bb G ι (.int k) vi)(h:∃l,Al σ.own o=some l/\B6 k/\∃d,Fg l k=some d/\Q d):
  wpAny (model Γ.prog Γ.w) A (getItem vo vi) (λv s'=>∃d,Aa Γ K env G ι σ s'/\Bb G ι d v/\Q d) (λ_ _=>False) s/\∃T id,s.TypeIs vo T/\typeLookup (.type T) "__getitem__"=pure (some (.builtin id)):=by
 refine Ay h λl hl hw Z=>?_
 clear h
 refine Ac Z λd hd q=>?_
 clear Z
 refine Af ri λu Y=>?_
 clear ri
 subst Y
 refine Aj (Bh F.store ro hl) λa vs V hT rl=>?_
 subst V
 refine Ac (rl.nth hd) λv hv rv=>?_
 exact⟨Rm hT hw hv ⟨d,F,rv,q⟩,"list",_,hT.typeIs,slot_list_getitem.lookup⟩
theorem Nx {o i:D}{vo vi:Value}{Q:D->Prop}(F:Aa Γ K env G ι σ s)(ro:Bb G ι o vo)(ri:Bb G ι i vi)(h:Kh o i σ Q):
  wpAny (model Γ.prog Γ.w) A (getItem vo vi) (λv s'=>∃d,Aa Γ K env G ι σ s'/\Bb G ι d v/\Q d) (λ_ _=>False) s/\∃T id,s.TypeIs vo T/\typeLookup (.type T) "__getitem__"=pure (some (.builtin id)):=by
 refine Ac (W3 h) λk zk h=>?_
 subst zk
 cases o with
 |str x=>
  refine Ae h λhw Z=>?_
  try clear h
  refine Ac Z λc hc q=>?_
  clear Z
  refine Af ro λt V=>?_
  try clear ro
  subst V;refine Af ri λu U=>?_;try clear ri;subst U
  refine Ac (Ip hc) λj hj e=>?_
  exact⟨getItem_str (by simp only[Bool.or_eq_false_iff,decide_eq_false_iff_not];exact⟨Int.not_lt.2 hw.1,Int.not_le.2 hw.2⟩) (c:=c) (by rw[Az,hj];simpa using e) ⟨.str [c],F.toks _,⟨_,rfl⟩,q⟩,"str",_,typeIs_str _ _ _,PySem.F.slot_str_getitem.lookup⟩
 |tup l=>
  refine Ae h λhw Y=>?_
  try clear h
  refine Ac Y λd hd q=>?_
  clear Y
  refine Af ri λu z0=>?_
  try clear ri
  subst z0
  refine Aj (Ez F.store ro) λa vs z1 hT rl=>?_
  subst z1
  refine Ac (rl.nth hd) λv hv rv=>?_
  refine Ac (Ip hv) λj hj e=>?_
  exact⟨getItem_tuple hT hw.1 hw.2 (by simpa using hj) (by simpa using e) ⟨d,F,rv,q⟩,"tuple",_,hT.typeIs,slot_tuple_getitem.lookup⟩
 |_=>exact Tk F ro ri h
theorem Ou {value slice:Expr}{pos:Pos}{T1 T2:TT}(h1:Bm Γ A env value T1)(h2:Bm Γ A env slice T2)(hs:∀o i,subscripted slice false o i=operate [o,i] (getItem o i)):
  Bm Γ A env (.Subscript value slice pos) (λσ Q=>T1 σ λo σ=>T2 σ λi σ=>Kh o i σ (ap Q σ)):=λK G ι σ s Q F h=>
 Subscript_ (A8 h1 F h λG1 ι1 a va σ1 s1 l1 p1 r1 F1 q1=>A8 h2 F1 q1 λG2 ι2 b vb σ2 s2 l2 p2 r2 F2 q2=>by
  obtain⟨hg,T,id,hT,hl⟩:=Nx F2 (r1.mono l2 p2) r2 q2
  exact tail_any hT hl (wpAny_mono hg (λv s' h2_=>by obtain⟨d,F',r,q⟩:=h2_;exact(Mu r F' q).up (l1.trans l2) (p1.trans p2)) λ_ _ x=>x) (hs va vb))
noncomputable def PR:Me Value (Option Int):=λ_ _ o v=>∃p:Option (Int×Tok),v=partValue p/\p.map (·.1)=o
abbrev oC (Γ:W)(A:Around)(env:Env)(x:Option Expr)(T:St->(Option Int->St->Prop)->Prop):=Tr Γ A env PR (evalPart x env) T
theorem oI:oC Γ A env none (tU none):=λK G ι σ s Q F q=>by
 rw[evalPart_none];exact wpAny_pure (As.mk' (R:=PR) (b:=none) ⟨none,rfl,rfl⟩ F q)
theorem Uv {e:Expr}{T:TT}(h:Bm Γ A env e T):oC Γ A env (some e) (λσ Q=>T σ λd σ=>∃k,d=.int k/\tU (some k) σ Q):=λK G ι σ s Q F q=>by
 rw[evalPart_some]
 exact A8 h F q λG1 ι1 d v σ1 s1 l1 p1 r1 F1 Z=>Ac Z λk e q1=>by
  subst e;refine Af r1 λt Y=>?_;try clear r1;subst Y
  exact(As.mk' (R:=PR) (b:=some k) ⟨some (k,t),rfl,rfl⟩ F1 q1).up l1 p1
theorem Tl (p:Option (Int×Tok)):IsPart (partValue p) (p.map (·.1)):=by
 cases p with
 |none=>exact .none
 |some q=>exact .int _ _
theorem Rd (xs:List α)(f:α->β)(lo hi st:Option Int):(C8 xs lo hi st).map f=C8 (xs.map f) lo hi st:=by
 unfold C8
 rw[List.map_filterMap,length_map]
 congr 1
 funext i
 simp
theorem RelL.filterMap {ds:List D}{vs:List Value}(r:RelL G ι ds vs):∀(ks:List Nat),RelL G ι (ks.filterMap (ds[·]?)) (ks.filterMap (vs[·]?)):=by
 intro lq
 induction lq with
 |nil=>exact rfl
 |cons k ks ih=>
  rw[filterMap_cons,filterMap_cons]
  cases e:ds[k]? with
  |none=>
   have:vs[k]? =none:=by rw[List.getElem?_eq_none_iff]at e⊢;rw[r.length];exact e
   rw[this];exact ih
  |some d=>
   refine Ac (r.getElem? e) λv hv rv=>?_
   rw[hv];exact⟨v,_,rfl,rv,ih⟩
theorem RelL.pick {ds:List D}{vs:List Value}(r:RelL G ι ds vs)(lo hi st:Option Int):RelL G ι (Mine.C8 ds lo hi st) (Mine.C8 vs lo hi st):=by
 unfold Mine.C8;rw[r.length];exact r.filterMap _
noncomputable def E4 {α:Type} (l:List α) (lo hi:Option Int):List α:=(l.drop (kms_lo lo l.length)).take (kms_hi hi l.length-kms_lo lo l.length)
theorem Nk (xs:List α)(a:Nat):∀k:Nat,((List.range k).map (a+·)).filterMap (xs[·]?)=(xs.drop a).take k:=by
 intro lq
 induction lq with
 |zero=>simp
 |succ k ih=>
  rw[List.range_succ,map_append,List.filterMap_append,ih,take_add_one]
  congr 1
  simp only[map_cons,map_nil,List.getElem?_drop]
  cases h:xs[a+k]? <;>simp[h]
theorem Nl (l:List α)(lo hi:Option Int):C8 l lo hi none=E4 l lo hi:=by
 unfold C8 E4
 rw[kms_bounds]
 simp only
 rw[sliceRange_one,Nk]
theorem Ws (v:Option Int)(n:Nat):kms_hi v n<=n:=by
 cases v with
 |none=>exact le_refl _
 |some v=>
  show(if _ then _ else _)<=_
  by_cases h:v<0
  ·rw[if_pos h];exact sub_le _ _
  ·rw[if_neg h];exact min_le_right _ _
noncomputable def Pi (o:D) (lo hi st:Option Int) (σ:St) (Q:D->St->Prop):Prop:=match o with
 | .str x=>st=none/\x.length<=sizeLine/\Q (.str (E4 x lo hi)) σ
 |o=>st≠some 0/\∃l,Al σ.own o=some l/\l.length<=sizeLine/\Q (.obj σ.own.length) {σ with own:=σ.own++[C8 l lo hi st]}
theorem Om {x:List Nat}{t:Tok}{l u:Option (Int×Tok)}{Q:D->St->Prop}(F:Aa Γ K env G ι σ s)(hx:x.length<=sizeLine)
  (h:Q (.str (E4 x (l.map (·.1)) (u.map (·.1)))) σ):(sliceMade ⟨x.toArray⟩ t l u none).post (As Γ K env VR G ι Q) s:=by
 have e:slicePicked ⟨x.toArray⟩ l u none=(List.range (kms_hi (u.map (·.1)) x.length-kms_lo (l.map (·.1)) x.length)).map (kms_lo (l.map (·.1)) x.length+·):=by
  rw[<-sliceRange_one]
  have:=kms_bounds (l.map (·.1)) (u.map (·.1)) x.length
  show sliceRange (sliceBounds (l.map (·.1)) (u.map (·.1)) none (Str.length ⟨x.toArray⟩)).1 (sliceBounds (l.map (·.1)) (u.map (·.1)) none (Str.length ⟨x.toArray⟩)).2.1 1=_
  rw[Az,this]
 unfold sliceMade
 rw[e,Az]
 refine O8 (λm=>Made.post m _ _) (λhc=>?_) λhc=>?_
 ·have hl:kms_hi (u.map (·.1)) x.length-kms_lo (l.map (·.1)) x.length=x.length:=by simpa using hc
  have h2:=Ws (u.map (·.1)) x.length
  have h3:kms_lo (l.map (·.1)) x.length=0\/x=[]:=by
   cases x with
   |nil=>exact .inr rfl
   |cons a b=>simp only[length_cons]at hl h2⊢;exact .inl (sU λh=>lt_irrefl _ (lt_of_lt_of_le (Nat.sub_lt (succ_pos _) h) (le_trans (le_of_eq hl.symm) (Nat.sub_le_sub_right h2 _))))
  refine Mv F rfl ?_
  have:E4 x (l.map (·.1)) (u.map (·.1))=x:=by
   unfold E4
   rw[hl]
   rcases h3 with h3|h3
   ·rw[h3];simp
   ·subst h3;simp
  rw[this]at h;exact h
 ·have ec:((List.range (kms_hi (u.map (·.1)) x.length-kms_lo (l.map (·.1)) x.length)).map (kms_lo (l.map (·.1)) x.length+·)).filterMap ((⟨x.toArray⟩:Str).cps[·]?)=E4 x (l.map (·.1)) (u.map (·.1)):=by
   rw[show(λ(i:Nat)=>(⟨x.toArray⟩:Str).cps[i]?)=λi=>x[i]? from funext λi=>by simp,Nk];rfl
  rw[ec]
  refine⟨?_,Mv (F.toks _) rfl h⟩
  rw[Az]
  have:(E4 x (l.map (·.1)) (u.map (·.1))).length<=x.length:=by unfold E4;simp;exact le_trans (min_le_right _ _) (sub_le _ _)
  exact le_trans this hx
theorem Qs {o:D}{vo:Value}{a:Addr}{l u st:Option (Int×Tok)}{Q:D->St->Prop}(F:Aa Γ K env G ι σ s)(ro:Bb G ι o vo)
  (hs:s.heap.get? a=some {cls:=.type "slice",data:=.fields #[partValue l,partValue u,partValue st]})(h:st.map (·.1)≠some 0/\∃ds,Al σ.own o=some ds/\ds.length<=sizeLine/\Q (.obj σ.own.length) {σ with own:=σ.own++[C8 ds (l.map (·.1)) (u.map (·.1)) (st.map (·.1))]}):
  wpAny (model Γ.prog Γ.w) A (getItem vo (.ref a)) (As Γ K env VR G ι Q) (λ_ _=>False) s/\∃T id,s.TypeIs vo T/\typeLookup (.type T) "__getitem__"=pure (some (.builtin id)):=by
 refine Ae h λh0 Z=>?_
 clear h
 refine Ay Z λds hl hz q=>?_
 clear Z
 refine Aj (Bh F.store ro hl) λb vs Y hT rl=>?_
 subst Y
 refine⟨wpAny_getItem_list_slice hT ⟨_,hs,rfl,rfl⟩ (Tl l) (Tl u) (Tl st) h0 ?_ (by rw[size_toArray,rl.length];exact hz),"list",_,hT.typeIs,slot_list_getitem.lookup⟩
 have e:slicePick vs.toArray (l.map (·.1)) (u.map (·.1)) (st.map (·.1))=(C8 vs (l.map (·.1)) (u.map (·.1)) (st.map (·.1))).toArray:=by
  unfold slicePick C8;simp
 rw[e]
 exact(As.mk' (R:=VR) (Ks F) (F.newOwn (rl.pick _ _ _) 0 s.toks) q).up (Gh.le.refl _) (A1.append _ _)
theorem Ss {o:D}{vo:Value}{a:Addr}{l u st:Option (Int×Tok)}{Q:D->St->Prop}(F:Aa Γ K env G ι σ s)(ro:Bb G ι o vo)
  (hs:s.heap.get? a=some {cls:=.type "slice",data:=.fields #[partValue l,partValue u,partValue st]})(h:Pi o (l.map (·.1)) (u.map (·.1)) (st.map (·.1)) σ Q):
  wpAny (model Γ.prog Γ.w) A (getItem vo (.ref a)) (As Γ K env VR G ι Q) (λ_ _=>False) s/\∃T id,s.TypeIs vo T/\typeLookup (.type T) "__getitem__"=pure (some (.builtin id)):=by
 cases o with
 |str x=>
  refine A0 h λh0 hz q=>?_
  try clear h
  refine Af ro λt Z=>?_
  try clear ro
  subst Z
  have:st=none:=by simpa using h0
  subst this
  exact⟨wpAny_getItem_str_slice (st:=none) ⟨_,hs,rfl,rfl⟩ rfl (Om F hz q),"str",_,typeIs_str _ _ _,PySem.F.slot_str_getitem.lookup⟩
 |_=>exact Qs F ro hs h
theorem Ov {value:Expr}{lo hi st:Option Expr}{p pos:Pos}{T:TT}{T1 T2 T3:St->(Option Int->St->Prop)->Prop}(h:Bm Γ A env value T)(h1:oC Γ A env lo T1)(h2:oC Γ A env hi T2)(h3:oC Γ A env st T3)
  (hs:∀o i,∃ops,subscripted (.Slice lo hi st p) false o i=operate ops (getItem o i)):
  Bm Γ A env (.Subscript value (.Slice lo hi st p) pos) (λσ Q=>T σ λo σ=>T1 σ λx σ=>T2 σ λy σ=>T3 σ λz σ=>Pi o x y z σ Q):=λK G ι σ s Q F h'=>
 Subscript_ (A8 h F h' λG0 ι0 o vo σ0 s0 l0 p0 r0 F0 q0=>wpAny_Slice (A8 h1 F0 q0 λG1 ι1 x vx σ1 s1 l1 p1 r1 F1 q1=>A8 h2 F1 q1 λG2 ι2 y vy σ2 s2 l2 p2 r2 F2 q2=>A8 h3 F2 q2 λG3 ι3 z vz σ3 s3 l3 p3 r3 F3 q3=>by
  obtain⟨px,rfl,rfl⟩:=r1;obtain⟨py,rfl,rfl⟩:=r2;obtain⟨pz,rfl,rfl⟩:=r3
  obtain⟨ops,hops⟩:=hs vo (.ref s3.heap.objs.size)
  obtain⟨hg,T,id,hT,hl⟩:=Ss (F3.push {cls:=.type "slice",data:=.fields #[partValue px,partValue py,partValue pz]} s3.toks F3.tk) (r0.mono ((l1.trans l2).trans l3) ((p1.trans p2).trans p3)) (Heap.get?_push_size _ rfl) q3
  exact tail_any hT hl (wpAny_mono hg (λv s' p=>p.up (((l0.trans l1).trans l2).trans l3) (((p0.trans p1).trans p2).trans p3)) λ_ _ x=>x) hops))
end
section
variable {α β γ δ:Type}{Γ:W}{K:Cw}{A:Around}{env:Env}{G G':Gh}{ι ι':List Addr}{σ:St}{s:Shared}
theorem Oo {prog:Program}{w:World}{E:Value->Shared->Prop}{l:Addr}{items:Array Value}{k:Int}{t:Tok}{v:Value}{j:Nat}{Q:Unit->Shared->Prop}(hl:s.heap.PlainList l items)
  (hw:B6 k)(hj:seqIndex? k items.size=some j)
  (hQ:∀h',h'.PlainList l (items.setIfInBounds j v)->Heap.SameBut l s.heap h'->Q () {s with heap:=h'}):
  wpAny (model prog w) A (setItem (.ref l) (.int k t) v) Q E s:=by
 refine Af (id hl) λn ho=>?_
 refine Ae (Fa hj) λhlt hcase=>?_
 have fin:∀{R:Option Value->Shared->Prop},(∀h',h'.PlainList l (items.setIfInBounds j v)->Heap.SameBut l s.heap h'->R (some .none) {s with heap:=h'})->
   ∀{E':Value->Shared->Prop},wpAny (model prog w) A.in1 (setSeqItemAt l j v) (λ_ s'=>R (some .none) s') E' s:=by
  intro R hR E'
  refine wpAny_setSeqItemAt ho rfl (hR _ ⟨n+0,?_⟩ (Heap.SameBut.update ..))
  rw[Heap.get?_update_self _ ho (by simp[Obj.mapSeq,Obj.isFreed])]
  simp[Obj.mapSeq]
 unfold setItem
 try with_reducible refine wpAny_holding ?_
 first|refine wpAny_bind (wpAny_pure ?_)|skip
 refine wpAny_bind (wpAny_sequenceKey hl.isList.typeIs (by decide) ?_)
 refine wpAny_bind (wpAny_callSpecial?_slot (name:=ofString "__setitem__") hl.isList.typeIs slot_list_setitem
  (wpAny_call_entry slot_list_setitem hl.isList.typeIs entry_list_setitem ?_ (args_list_setitem _ _ _)))
 show wpAny _ _ (Builtin.List.listSubscript? (.int k t)>>=_) _ _ s
 have hx':items[j]? =some items[j]:=Array.getElem?_eq_getElem hlt
 rcases hcase with⟨h0,hk⟩|⟨h0,hk⟩
 ·refine wpAny_bind (wpAny_listSubscript_int (fitsIndex_of h0 hw.2) ?_)
  subst hk
  show wpAny _ _ ((seqItemAt l j>>=λr=>pure (r.map (j,·)))>>=_) _ _ s
  refine wpAny_bind (wpAny_bind (wpAny_seqItemAt ho rfl (wpAny_pure ?_)))
  rw[hx']
  show wpAny _ _ (setSeqItemAt l j v>>=_) _ _ s
  refine wpAny_bind (wpAny_mono (fin (R:=λo s'=>o=some .none/\Q () s') (λh' p b=>⟨rfl,hQ h' p b⟩)) (λ_ s' h=>?_) λ_ _ x=>x)
  first
   |exact wpAny_bind (wpAny_pure (wpAny_pure ⟨.none,rfl,wpAny_pure h.2⟩))
   |exact wpAny_pure ⟨.none,rfl,wpAny_pure h.2⟩
 ·refine wpAny_bind (wpAny_listSubscript_int (fitsIndex_neg h0 hw.1) ?_)
  refine Af (show∃i:Nat,k=Int.negSucc i from by
   cases k with
   |ofNat n=>exact absurd h0 (Int.not_lt.mpr (Int.natCast_nonneg n))
   |negSucc n=>exact⟨n,rfl⟩) λi Z=>?_
  subst Z
  show wpAny _ _ ((Builtin.List.listItems (.ref l)>>=λxs=>pure ((seqIndex? (Int.negSucc i) xs.size).bind λi=>xs[i]?.map (i,·)))>>=_) _ _ s
  refine wpAny_bind (wpAny_bind ?_)
  show wpAny _ _ (seqItems? (.ref l)>>=_) _ _ s
  refine wpAny_bind (wpAny_seqItems ho rfl (wpAny_pure (wpAny_pure ?_)))
  rw[hj]
  simp only[Option.bind_some,hx',Option.map_some]
  show wpAny _ _ (setSeqItemAt l j v>>=_) _ _ s
  refine wpAny_bind (wpAny_mono (fin (R:=λo s'=>o=some .none/\Q () s') (λh' p b=>⟨rfl,hQ h' p b⟩)) (λ_ s' h=>?_) λ_ _ x=>x)
  first
   |exact wpAny_bind (wpAny_pure (wpAny_pure ⟨.none,rfl,wpAny_pure h.2⟩))
   |exact wpAny_pure ⟨.none,rfl,wpAny_pure h.2⟩
theorem Ww {prog:Program}{w:World}{E:Value->Shared->Prop}{l b:Addr}{items items2:Array Value}{Q:Value->Shared->Prop}(hl:s.heap.PlainList l items)(hb:s.heap.PlainList b items2)
  (hz:items.size+items2.size<=sizeLine)(hQ:∀h',h'.PlainList l (items++items2)->Heap.SameBut l s.heap h'->Q (.ref l) {s with heap:=h'}):
  wpAny (model prog w) A (inplaceOp .Add (.ref l) (.ref b)) Q E s:=by
 refine Af (id hl) λn ho=>?_
 refine Af (id hb) λn2 ho2=>?_
 unfold inplaceOp
 refine wpAny_holding ?_
 have hs:isSeqSlot (some (.builtin "list.__iadd__"))=true:=by decide
 have hfi:fillsInplaceSlot (.type "list") "add" (Operator.Add== .Add)=pure false:=by
  unfold fillsInplaceSlot
  show(typeLookup (.type "list") (dunderI "add")>>=λfi=>pure (fi.isSome&& !isSeqSlot fi))=pure false
  rw[PySem.F.slot_list_iadd.lookup]
  show(pure ((some (Value.builtin "list.__iadd__")).isSome&& !isSeqSlot (some (.builtin "list.__iadd__"))):Sem Bool)=_
  rw[hs];rfl
 refine wpAny_bind (wpAny_typeOf hl.isList.typeIs (wpAny_bind (wpAny_of_eq hfi ?_)))
 show wpAny _ A (if false=true then _ else _) Q E s
 rw[if_neg Bool.false_ne_true]
 refine wpAny_bind (wpAny_binaryOp1_none (nm:="add") hl.isList.typeIs hb.isList.typeIs noFill_list_add ?_)
 refine wpAny_bind (wpAny_of_eq (PySem.seqSlot_of PySem.F.slot_list_iadd.lookup hs) ?_)
 refine wpAny_bind (wpAny_rule ?_)
 have hz1:¬(!items.isEmpty&&Builtin.List.listTooLong (items.size+items2.size))=true:=extend_door hz
 refine call_meets PySem.F.slot_list_iadd hl.isList.typeIs PySem.F.entry_list_iadd (PySem.F.args_list_iadd_2 _ _) (PySem.AutoSeq1.list___iadd___list_list_0 l items n b items2 n2 hz1 (by exact Ah hz) (by exact Ah hz)) ⟨ho,ho2,?_⟩
 refine hQ _ ?_ (Heap.SameBut.update ..)
 unfold Heap.PlainList
 rw[Heap.get?_update_self _ ho (by simp[Obj.mapSeq,Obj.isFreed])]
 exact⟨_,rfl⟩
theorem X9 {k:Nat}{v x:Value}{i:Int}{t:Tok}{ds:List D}{d:D}{j:Nat}{Q:Unit->Shared->Prop}(F:Aa Γ K env G ι σ s)(r:Bb G ι (.obj k) v)(hds:σ.own[k]? =some ds)(rx:Bb G ι d x)(hw:B6 i)(hj:seqIndex? i ds.length=some j)
  (hQ:∀s',Aa Γ K env G ι {σ with own:=σ.own.set k (ds.set j d)} s'->Q () s'):wpAny (model Γ.prog Γ.w) A (setItem v (.int i t) x) Q (λ_ _=>False) s:=by
 refine Ac r λa ha Z=>?_
 try clear r
 subst Z
 refine Ac (F.store.at_ k a ds ha hds) λvs hl rl=>?_
 refine Oo hl hw (by rw[size_toArray,rl.length];exact hj) λh' hp hb=>?_
 have e:vs.toArray.setIfInBounds j x=(vs.set j x).toArray:=by simp
 rw[e]at hp
 exact hQ _ (F.setOwn ha (rl.set j rx) hp hb _)
theorem aY {k:Nat}{v:Value}{i:Int}{t:Tok}{ds:List D}{j:Nat}{Q:Unit->Shared->Prop}(F:Aa Γ K env G ι σ s)(r:Bb G ι (.obj k) v)(hds:σ.own[k]? =some ds)(hw:B6 i)(hz:ds.length<=sizeLine)(hj:seqIndex? i ds.length=some j)
  (hQ:∀s',Aa Γ K env G ι {σ with own:=σ.own.set k (ds.eraseIdx j)} s'->Q () s'):wpAny (model Γ.prog Γ.w) A (delItem v (.int i t)) Q (λ_ _=>False) s:=by
 refine Ac r λa ha Z=>?_
 try clear r
 subst Z
 refine Ac (F.store.at_ k a ds ha hds) λvs hl rl=>?_
 refine Ae (Fa hj) λhlt hcase=>?_
 have hlt':j<vs.length:=by rw[rl.length];exact hlt
 refine wpAny_delItem_plain hl (by
  rcases hcase with⟨h0,_⟩|⟨h0,_⟩
  ·exact fitsIndex_of h0 hw.2
  ·exact fitsIndex_neg h0 hw.1) (by rw[size_toArray,rl.length];exact hj) (λh' hp hb=>?_) (by rw[size_toArray,rl.length];exact hz)
 have e:vs.toArray.eraseIdxIfInBounds j=(vs.eraseIdx j).toArray:=by
  simp[Array.eraseIdxIfInBounds,hlt']
 rw[e]at hp
 refine hQ _ (F.setOwn ha ?_ hp hb _)
 rw[List.eraseIdx_eq_take_drop_succ,List.eraseIdx_eq_take_drop_succ]
 exact RelL.append (rl.take j) (rl.drop (j+1))
theorem Ki {k:Nat}{a:Addr}{x:Value}{ds:List D}{d:D}{Q:D->St->Prop}(F:Aa Γ K env G ι σ s)(ha:ι[k]? =some a)(hds:σ.own[k]? =some ds)(rx:Bb G ι d x)(hz:ds.length<=sizeLine)
  (q:Q .none {σ with own:=σ.own.set k (ds++[d])}):wpAny (model Γ.prog Γ.w) A (call (.builtin "list.append") [.ref a,x]) (As Γ K env VR G ι Q) (λ_ _=>False) s:=by
 refine Ac (F.store.at_ k a ds ha hds) λvs hl rl=>?_
 refine wpAny_list_append_plain hl (λh' hp hb=>?_) (by rw[size_toArray,rl.length];exact hz)
 have e:vs.toArray.push x=(vs++[x]).toArray:=by simp
 rw[e]at hp
 exact Zc (F.setOwn ha (rl.snoc rx) hp hb _) q
noncomputable def N6 (op:Operator) (a b:D) (σ:St) (Q:D->St->Prop):Prop:=match a with
 | .int i=>(match b with| .int j=>(op=.Add/\Q (.int (i+j)) σ)\/(op=.Sub/\Q (.int (i-j)) σ)|_=>False)
 | .str x=>(match b with| .str y=>op=.Add/\x.length+y.length<=sizeLine/\Q (.str (x++y)) σ|_=>False)
 | .obj i=>(match b with| .obj j=>op=.Add/\∃la lb,σ.own[i]? =some la/\σ.own[j]? =some lb/\la.length+lb.length<=sizeLine/\Q (.obj i) {σ with own:=σ.own.set i (la++lb)}|_=>False)
 |_=>False
theorem Nz {op:Operator}{a b:D}{va vb:Value}{Q:D->St->Prop}(F:Aa Γ K env G ι σ s)(ra:Bb G ι a va)(rb:Bb G ι b vb)(h:N6 op a b σ Q):
  wpAny (model Γ.prog Γ.w) A (inplaceOp op va vb) (As Γ K env VR G ι Q) (λ_ _=>False) s:=by
 cases a with
 |int i=>
  cases b with
  |int j=>
   refine Af ra λt Y=>?_
   try clear ra
   subst Y;refine Af rb λu V=>?_;try clear rb;subst V
   rcases h with⟨rfl,h⟩|⟨rfl,h⟩
   ·exact P.iadd_int (Jo (F.toks _) h)
   ·exact P.isub_int (Jo (F.toks _) h)
  |_=>exact h.elim
 |str x=>
  cases b with
  |str y=>
   refine A0 h λU h1 z0=>?_
   try clear h
   revert z0
   intro h
   subst U
   refine Af ra λt z1=>?_
   try clear ra
   subst z1;refine Af rb λu z2=>?_;try clear rb;subst z2
   refine wpAny_mono (A4 (PyProof.Rows.iadd_str (E:=λ_ _=>False) (Q:=λv s'=>∃t' tk,v=.str (⟨x.toArray⟩++⟨y.toArray⟩) t'/\s'={s with toks:=tk}) (λt' tk=>⟨t',tk,rfl,rfl⟩) (by rw[Az,Az];exact h1))) (λv s' z3=>Ae z3 λz4 hle=>A2 z4 λt' tk e1 e2=>?_) λ_ _ x=>x
   subst e1 e2
   exact Mv (F.toks _ (lt_of_lt_of_le F.tk hle)) (Gs _ _) h
  |_=>exact h.elim
 |obj i=>
  cases b with
  |obj j=>
   refine Ae h λz5 Z=>?_
   try clear h
   subst z5
   refine Dt Z λla lb h1 h2 hz q=>?_
   clear Z
   refine Ac ra λa ha z6=>?_
   try clear ra
   subst z6;refine Ac rb λb hb z7=>?_;try clear rb;subst z7
   refine Ac (F.store.at_ _ a la ha h1) λvs hl rl=>?_
   refine Ac (F.store.at_ _ b lb hb h2) λws hl' rl'=>?_
   refine Ww hl hl' (by rw[size_toArray,size_toArray,rl.length,rl'.length];exact hz) λh' hp hs=>?_
   have e:vs.toArray++ws.toArray=(vs++ws).toArray:=by simp
   rw[e]at hp
   exact Mu (d:=.obj _) ⟨a,ha,rfl⟩ (F.setOwn ha (RelL.append rl rl') hp hs _) q
  |_=>exact h.elim
 |_=>exact h.elim
theorem H7 (H:Ev Γ A env){x:String}{op:Operator}{e:Expr}{p p':Pos}{T:TT}{c:Bool}(hk:Kd env x c)(hc:(ofString x==("__classdict__":Str))=false)(h:Bm Γ A env e T):
  Oc Γ A env (.AugAssign (.Name (ofString x) p') op e p) (λσ Q=>∃d,σ.get x=some d/\T σ λd' σ=>N6 op d d' σ λr σ=>eQ c x r σ (Q .next)):=λK G ι σ s Q F Z=>Ac Z λd hx q=>
 wpAny_AugAssign_Name (D5 H F hx hc λv r=>A8 h F q λG1 ι1 d1 v1 σ1 s1 l1 p1 r1 F1 q1=>
  wpAny_mono (Nz F1 (r.mono l1 p1) r1 q1) (λv2 s2 Y=>Cs Y λG2 ι2 d2 σ2 l2 p2 r2 F2 q2=>
   Jh H (hk.sto q2.1) F2 r2 λs' F'=>(As.mk' (R:=FR) (b:=.next) rfl F' q2.2).up (l1.trans l2) (p1.trans p2)) λ_ _ x=>x)
noncomputable def bA (o i d:D) (σ:St) (Q:St->Prop):Prop:=match o with
 | .obj k=>(match i with| .int n=>∃ds j,σ.own[k]? =some ds/\B6 n/\seqIndex? n ds.length=some j/\Q {σ with own:=σ.own.set k (ds.set j d)}|_=>False)
 |_=>False
theorem N5 {o i d:D}{vo vi v:Value}{Q:St->Prop}{X:Unit->Shared->Prop}(F:Aa Γ K env G ι σ s)(ro:Bb G ι o vo)(ri:Bb G ι i vi)(r:Bb G ι d v)(h:bA o i d σ Q)
  (k:∀σ' s',Aa Γ K env G ι σ' s'->Q σ'->X () s'):wpAny (model Γ.prog Γ.w) A (setItem vo vi v) X (λ_ _=>False) s:=by
 cases o with
 |obj kk=>
  cases i with
  |int n=>
   refine Dt h λds j h1 h2 h3 q=>?_
   clear h
   refine Af ri λt Z=>?_
   clear ri
   subst Z
   exact X9 F ro h1 r h2 h3 λs' F'=>k _ s' F' q
  |_=>exact h.elim
 |_=>exact h.elim
theorem kI {o i e:Expr}{p p':Pos}{T T1 T2:TT}(h:Bm Γ A env e T)(h1:Bm Γ A env o T1)(h2:Bm Γ A env i T2)(hs:swapsWith e (some (.Subscript o i p')) p.line env=pure false):
  Oc Γ A env (.Assign [.Subscript o i p'] e p) (λσ Q=>T σ λd σ=>T1 σ λx σ=>T2 σ λy σ=>bA x y d σ (Q .next)):=λK G ι σ s Q F q=>
 wpAny_Assign_Subscript (A8 h F q λG0 ι0 d v σ0 s0 l0 p0 r0 F0 q0=>A8 h1 F0 q0 λG1 ι1 x vx σ1 s1 l1 p1 r1 F1 q1=>A8 h2 F1 q1 λG2 ι2 y vy σ2 s2 l2 p2 r2 F2 q2=>
  N5 F2 (r1.mono l2 p2) r2 (r0.mono (l1.trans l2) (p1.trans p2)) q2 λσ' s' F' q'=>(As.mk' (R:=FR) (b:=.next) rfl F' q').up ((l0.trans l1).trans l2) ((p0.trans p1).trans p2)) hs
theorem bS {o i e:Expr}{op:Operator}{p p':Pos}{T T1 T2:TT}(h:Bm Γ A env e T)(h1:Bm Γ A env o T1)(h2:Bm Γ A env i T2)
  (hi:∀ov iv new,augStore i ov iv new=(do holding [new,ov,iv] (setItem ov iv new);release [new,ov,iv] [];pure .next)):
  Oc Γ A env (.AugAssign (.Subscript o i p') op e p) (λσ Q=>T1 σ λx σ=>T2 σ λy σ=>Kh x y σ λd=>T σ λd' σ=>N6 op d d' σ λr σ=>bA x y r σ (Q .next)):=λK G ι σ s Q F q=>
 wpAny_AugAssign_SubscriptAny (A8 h1 F q λG1 ι1 x vx σ1 s1 l1 p1 r1 F1 q1=>A8 h2 F1 q1 λG2 ι2 y vy σ2 s2 l2 p2 r2 F2 q2=>
  wpAny_mono (Nx F2 (r1.mono l2 p2) r2 q2).1 (λold s3 Z=>Ay Z λd F3 r3 q3=>A8 h F3 q3 λG4 ι4 d4 v4 σ4 s4 l4 p4 r4 F4 q4=>
   wpAny_mono (Nz F4 (r3.mono l4 p4) r4 q4) (λv5 s5 Y=>Cs Y λG5 ι5 d5 σ5 l5 p5 r5 F5 q5=>
    N5 F5 (r1.mono (l2.trans (l4.trans l5)) (p2.trans (p4.trans p5))) (r2.mono (l4.trans l5) (p4.trans p5)) r5 q5 λσ' s' F' q'=>
     (As.mk' (R:=FR) (b:=.next) rfl F' q').up (((l1.trans l2).trans l4).trans l5) (((p1.trans p2).trans p4).trans p5)) λ_ _ x=>x) λ_ _ x=>x) hi
theorem pE {o i:Expr}{p p':Pos}{T1 T2:TT}(h1:Bm Γ A env o T1)(h2:Bm Γ A env i T2):
  Oc Γ A env (.Delete [.Subscript o i p'] p) (λσ Q=>T1 σ λx σ=>T2 σ λy σ=>∃k n ds j,x=.obj k/\y=.int n/\σ.own[k]? =some ds/\B6 n/\ds.length<=sizeLine/\seqIndex? n ds.length=some j/\Q .next {σ with own:=σ.own.set k (ds.eraseIdx j)}):=λK G ι σ s Q F q=>
 wpAny_Delete (wpAny_deleteEach_cons (wpAny_delete_Subscript (A8 h1 F q λG1 ι1 x vx σ1 s1 l1 p1 r1 F1 q1=>A8 h2 F1 q1 λG2 ι2 y vy σ2 s2 l2 p2 r2 F2 Z=>U9 Z λk n ds j e1 e2 e3 e4 e5 e6 q2=>by
  subst e1 e2
  refine Af r2 λt Y=>?_
  try clear r2
  subst Y
  exact aY F2 (r1.mono l2 p2) e3 e4 e5 e6 λs' F'=>wpAny_deleteEach_nil ((As.mk' (R:=FR) (b:=.next) rfl F' q2).up (l1.trans l2) (p1.trans p2)))))
end
structure gI (Γ:W)(G:Gh)(ι:List Addr)(s:Shared)(G':Gh)(ι':List Addr)(own':List (List D))(s':Shared):Prop where
 le:G.le G'
 pr:A1 ι ι'
 store:Ch Γ G' ι' own' s'.heap
 kept:∀a o,s.heap.get? a=some o->G a=none->a∉ι->a∉Γ.tabs.map (·.2)->s'.heap.get? a=some o/\G' a=none/\a∉ι'
 os:s'.os=s.os
 gens:A5 s.gens s'.gens
abbrev Cf:=List D->List (List D)->(D->List (List D)->Prop)->Prop
noncomputable def Ar (Γ:W) (A:Around) (f:Value) (S:Mine.Cf):Prop:=
 ∀G ι own s ds vs Q,Ch Γ G ι own s.heap->RelL G ι ds vs->0<s.toks->S ds own Q->
  codeAny (model Γ.prog Γ.w) A (.call f ⟨vs,[]⟩) (λr s'=>∃v d G' ι' own',r=.ok (.ret v)/\gI Γ G ι s G' ι' own' s'/\Bb G' ι' d v/\Q d own') s
structure Bi (n:Nat)(A:Around):Prop where
 handled:A.handled=none
 depth:A.depth+150+4*n<recursionLimit
 units:A.units+500+16*n<cLine
section
variable {α β γ δ:Type}{Γ:W}{K:Cw}{A:Around}{env:Env}{G G':Gh}{ι ι':List Addr}{σ:St}{s s':Shared}
theorem Aa.after (F:Aa Γ K env G ι σ s){own':List (List D)}(R:gI Γ G ι s G' ι' own' s')(ht:0<s'.toks):Aa Γ K env G' ι' {σ with own:=own'} s':=by
 have keepG:∀a o,s.heap.get? a=some o->a∉ι->a∉Γ.tabs.map (·.2)->s'.heap.get? a=some o:=λa o e h1 h2=>by
  cases g:G a with
  |none=>exact(R.kept a o e g h1 h2).1
  |some o'=>
   have e':=F.store.gin a o' g
   rw[e]at e';cases e'
   exact R.store.gin _ _ (R.le _ _ g)
 have keepOwn:∀a o,Jz env a->s.heap.get? a=some o->s'.heap.get? a=some o:=λa o ha e=>keepG a o e (F.away a ha).1 (F.away a ha).2
 have ex:∀a,Jz env a->∃o,s.heap.get? a=some o:=λa ha=>by
  rcases ha with rfl|⟨x,hk,hl⟩
  ·refine Ac F.ns λm Z q=>?_
   refine B9 Z λo es ep ho r=>?_
   clear Z;exact⟨o,ho⟩
  ·refine A0 (F.cell x a hk hl) λ_ Y _=>?_
   refine A2 Y λv o ho hd=>?_
   clear Y;exact⟨o,ho⟩
 have noG:∀a,Jz env a->G a=none->G' a=none/\a∉ι':=λa ha g=>by
  refine Af (ex a ha) λo ho=>?_
  exact(R.kept a o ho g (F.away a ha).1 (F.away a ha).2).2
 refine⟨R.store,?_,(noG _ (.inl rfl) F.loc).1,λa ha=>⟨λhm=>?_,(F.away a ha).2⟩,λx c hk hl=>?_,λx c hk hl=>(by refine Af (F.freeIn x c hk hl) λo e=>?_;exact⟨o,Ff R.le e⟩),λa o e=>?_,R.os.trans F.os,F.gens.trans R.gens,ht⟩
 ·refine Ac F.ns λm V q=>?_
  refine B9 V λo es ep ho r'=>?_
  clear V
  refine⟨m,⟨o,es,ep,keepOwn _ _ (.inl rfl) ho,r'⟩,λx d e=>(q x d e).mono (λ_ r=>r.mono R.le R.pr) ?_ (λ_ _=>Ff R.le)⟩
  intro c v hk' hl U
  refine Ac U λo ho hd=>?_
  clear U
  exact⟨o,keepOwn _ _ (.inr ⟨_,hk',hl⟩) ho,hd⟩
 ·cases g:G a with
  |none=>exact(noG a ha g).2 hm
  |some o=>have:=R.store.fresh a hm;rw[R.le _ _ g]at this;cases this
 ·refine B7 (F.cell x c hk hl) λc1 z0 c3 c4=>?_
  refine A2 z0 λv o ho hd=>?_
  clear z0
  exact⟨c1,⟨v,o,keepOwn _ _ (.inr ⟨x,hk,hl⟩) ho,hd⟩,c3,λz hz hr=>⟨(noG c (.inr ⟨x,hk,hl⟩) (c4 z hz hr).1).1,(c4 z hz hr).2⟩⟩
 ·refine Hi (F.far a o e) λf1 f2 f3 f4 f5=>?_
  refine A0 (R.kept a o f1 f2 f3 f4) λk1 k2 k3=>?_
  exact⟨k1,k2,k3,f4,f5⟩
theorem N7 {f:Value}{S:Mine.Cf}{ds:List D}{vs:List Value}{Q:D->St->Prop}(h:Ar Γ A f S)(F:Aa Γ K env G ι σ s)(r:RelL G ι ds vs)(q:S ds σ.own λd own'=>Q d {σ with own:=own'}):
  wpAny (model Γ.prog Γ.w) A (call f vs) (As Γ K env VR G ι Q) (λ_ _=>False) s:=
 wpAny_mono (A4 (wpAny_call (E:=λ_ _=>False) (Q:=λv s'=>∃d G' ι' own',gI Γ G ι s G' ι' own' s'/\Bb G' ι' d v/\Q d {σ with own:=own'}) (codeAny_mono (h G ι σ.own s ds vs _ F.store r F.tk q) λr s' Y=>aO Y λv d G' ι' own' e R rv hq=>by
  subst e;exact⟨d,G',ι',own',R,rv,hq⟩))) (λv s' h2_=>by refine Ae h2_ λZ hle=>?_;try clear h2_;refine Go Z λd G' ι' own' R rv hq=>?_;clear Z;exact(As.mk' (R:=VR) rv (F.after R (lt_of_lt_of_le F.tk hle)) hq).up R.le R.pr) λ_ _ x=>x
theorem L6 {kindOf:Str->Option NameKind}{x:Str}:∀(ps:List String) (vs:List Value) (m:Str->Option Value),x∉ps.map ofString->bindL kindOf ((ps.map ofString).zip vs) m x=m x
 |[],_,_,_=>rfl
 |_::_,[],_,_=>rfl
 |p::ps,v::vs,m,h=>by
  simp only[map_cons,mem_cons,not_or]at h
  simp only[map_cons,zip_cons_cons]
  unfold bindL
  rw[L6 ps vs _ h.2]
  split
  ·simp only;rw[if_neg h.1]
  ·rfl
theorem L7 {kindOf:Str->Option NameKind}{x:Str}:∀(ps:List String) (vs:List Value) (m:Str->Option Value),x∉ps.map ofString->bindC kindOf ((ps.map ofString).zip vs) m x=m x
 |[],_,_,_=>rfl
 |_::_,[],_,_=>rfl
 |p::ps,v::vs,m,h=>by
  simp only[map_cons,mem_cons,not_or]at h
  simp only[map_cons,zip_cons_cons]
  unfold bindC
  rw[L7 ps vs _ h.2]
  split
  ·rfl
  ·simp only;rw[if_neg h.1]
theorem Jq {x:String}{ps:List String}(h:x∉ps):ofString x∉ps.map ofString:=λhm=>by
 refine Ac (mem_map.mp hm) λy hy e=>?_
 exact h (Ba e▸hy)
theorem Jy {kindOf:Str->Option NameKind}{x:String}{v:Value}(hk:kindOf (ofString x)=some .local):∀(ps:List String) (vs:List Value) (m:Str->Option Value),ps.Nodup->(ps.zip vs).lookup x=some v->bindL kindOf ((ps.map ofString).zip vs) m (ofString x)=some v
 |[],_,_,_,e=>by simp at e
 |_::_,[],_,_,e=>by simp at e
 |p::ps,w::vs,m,nd,e=>by
  refine Ae (nodup_cons.mp nd) λn1 n2=>?_
  simp only[map_cons,zip_cons_cons]
  unfold bindL
  by_cases hx:x=p
  ·subst hx
   rw[zip_cons_cons,lookup_cons,beq_self_eq_true]at e;cases e
   rw[L6 ps vs _ (Jq n1),if_pos hk];simp
  ·rw[zip_cons_cons,lookup_cons,show(x==p)=false by simp[hx]]at e
   exact Jy hk ps vs _ n2 e
theorem N9 {kindOf:Str->Option NameKind}{x:String}{v:Value}(hk:kindOf (ofString x)≠some .local):∀(ps:List String) (vs:List Value) (m:Str->Option Value),ps.Nodup->(ps.zip vs).lookup x=some v->bindC kindOf ((ps.map ofString).zip vs) m (ofString x)=some v
 |[],_,_,_,e=>by simp at e
 |_::_,[],_,_,e=>by simp at e
 |p::ps,w::vs,m,nd,e=>by
  refine Ae (nodup_cons.mp nd) λn1 n2=>?_
  simp only[map_cons,zip_cons_cons]
  unfold bindC
  by_cases hx:x=p
  ·subst hx
   rw[zip_cons_cons,lookup_cons,beq_self_eq_true]at e;cases e
   rw[L7 ps vs _ (Jq n1),if_neg hk];simp
  ·rw[zip_cons_cons,lookup_cons,show(x==p)=false by simp[hx]]at e
   exact N9 hk ps vs _ n2 e
theorem RelL.zip {ps:List String}{x:String}{d:D}:∀{ds:List D} {vs:List Value},RelL G ι ds vs->(ps.zip ds).lookup x=some d->∃v,(ps.zip vs).lookup x=some v/\Bb G ι d v:=by
 induction ps with
 |nil=>exact λ_ e=>Sg e
 |cons p ps ih=>
  intro ds vs h e
  cases ds with
  |nil=>exact Sg e
  |cons d' ds=>
   refine Aj h λv w ev r t=>?_
   subst ev
   rw[zip_cons_cons,lookup_cons]at e⊢
   cases hx:x==p with
   |true=>
    rw[hx]at e
    cases (show some d'=some d from e)
    exact⟨v,rfl,r⟩
   |false=>
    rw[hx]at e
    exact ih t e
structure Fn (Γ:W)(a:Addr)(fd:FuncData)(ps:List String)(body:List Stmt):Prop where
 obj:∃o,Γ.B.get? a=some o/\o.data=.func fd
 code:Γ.B.CodeRec fd.code fd.qualname
 body:fd.body=.stmts body
 clo:fd.closure=[]
 glob:fd.globals=mainGlobals
 bui:fd.builtins=builtinsNs
 bind:∀vs:List Value,vs.length=ps.length->∀(M:Model) (A:Around) (Q:List (Str×Value)->Shared->Prop) (E:Value->Shared->Prop) (s:Shared),(∀b o,Γ.B.get? b=some o->s.heap.get? b=some o)->
  Q ((ps.map ofString).zip vs) s->wpAny M A (bindArgs fd ⟨vs,[]⟩) Q E s
 kinds:∀p∈ps,fd.scope.names.lookup (ofString p)=some .local\/(fd.scope.names.lookup (ofString p)=some .cell/\∀n,((cellsFrom n fd.scope.names []).lookup (ofString p)).isSome=true)
 nodup:ps.Nodup
 nofree:∀x,fd.scope.names.lookup x≠some .free
 kind:fd.scope.kind=.function
 co:fd.scope.isCoroutine=false
theorem dQ (ok:Γ.Ok){a:Addr}{fd:FuncData}{ps:List String}{body:List Stmt}(N:Fn Γ a fd ps body){own:List (List D)}{ds:List D}{vs:List Value}{s₁:Shared}(S:Ch Γ G ι own s.heap)(r:RelL G ι ds vs)(ht:0<s₁.toks)
  (x:InCallC s (callEnvC fd s.heap.objs.size a).locals (bindL (callEnvC fd s.heap.objs.size a).kindOf ((ps.map ofString).zip vs) λ_=>none) (callEnvC fd s.heap.objs.size a).cells
    (bindC (callEnvC fd s.heap.objs.size a).kindOf ((ps.map ofString).zip vs) λ_=>none) s₁):
  ∃K:Cw,K.os=s.os/\K.gens=s.gens/\(∀b o,s.heap.get? b=some o->G b=none->b∉ι->b∉Γ.tabs.map (·.2)->K.old b=some o)/\Aa Γ K (callEnvC fd s.heap.objs.size a) G ι ⟨ps.zip ds,own,[]⟩ s₁:=by
 classical
 refine⟨⟨s.os,s.gens,λb=>if G b=none/\b∉ι/\b∉Γ.tabs.map (·.2)then s.heap.get? b else none⟩,rfl,rfl,λb o e h1 h2 h3=>by dsimp only;rw[if_pos ⟨h1,h2,h3⟩];exact e,?_⟩
 refine Gp x.toInCall.same λh tk V=>?_
 subst V
 have keep:=x.toInCall.keep
 have big:∀b,Jz (callEnvC fd s.heap.objs.size a) b->s.heap.objs.size<=b:=λb hb=>by
  rcases hb with rfl|⟨y,hk,hl⟩
  ·exact le_refl _
  ·exact le_of_lt (x.above _ _ (mem_of_lookup hl))
 have ltG:∀b o,G b=some o->b<s.heap.objs.size:=λb o e=>Heap.lt_size (S.gin _ _ e)
 have noG:∀b,Jz (callEnvC fd s.heap.objs.size a) b->G b=none:=λb hb=>by
  cases e:G b with
  |none=>rfl
  |some o=>exact absurd (ltG b o e) (not_lt.mpr (big b hb))
 have ltT:∀b∈Γ.tabs.map (·.2),b<s.heap.objs.size:=λb hb=>by
  refine Ac (mem_map.mp hb) λp hp U=>?_
  subst U
  refine A0 (S.tabs p hp) λ_ _ Z=>?_
  refine Ac Z λps Y _=>?_
  clear Z
  refine Ae Y λ_ t=>?_
  clear Y
  exact Heap.lt_size t
 refine⟨S.ext λb o _ e=>keep b o e,⟨_,x.toInCall.ns,λy d e=>?_⟩,noG _ (.inl rfl),λb hb=>⟨λhm=>?_,λhm=>?_⟩,λy c hk hl=>?_,λy c hk hl=>?_,λb o e=>?_,rfl,A5.refl _,ht⟩
 ·refine Ac (r.zip e) λv hv rv=>?_
  have hy:y∈ps:=by
   have:∀(l:List String) (m:List Value),(l.zip m).lookup y=some v->y∈l:=by
    intro l
    induction l with
    |nil=>intro m h;simp at h
    |cons p l ih=>
     intro m h
     cases m with
     |nil=>simp at h
     |cons w m=>
      rw[zip_cons_cons,lookup_cons]at h
      by_cases hp:y=p
      ·exact hp▸mem_cons_self
      ·rw[show(y==p)=false by simp[hp]]at h
       exact mem_cons_of_mem _ (ih m h)
   exact this ps vs hv
  rcases N.kinds y hy with hk|⟨hk,hc⟩
  ·exact .inl ⟨hk,v,Jy hk ps vs _ N.nodup hv,rv⟩
  ·refine Af (Option.isSome_iff_exists.mp (hc (s.heap.objs.size+1))) λc hc=>?_
   refine .inr (.inl ⟨hk,c,v,hc,?_,rv⟩)
   have:=x.cell _ c hc
   rw[N9 (show(callEnvC fd s.heap.objs.size a).kindOf (ofString y)≠some .local by rw[show(callEnvC fd s.heap.objs.size a).kindOf (ofString y)=some .cell from hk];decide) ps vs _ N.nodup hv]at this
   exact this
 ·exact absurd (S.lt b hm) (not_lt.mpr (big b hb))
 ·exact absurd (ltT b hm) (not_lt.mpr (big b hb))
 ·refine⟨ne_of_gt (x.above _ _ (mem_of_lookup hl)),⟨_,x.cell _ _ hl⟩,λz hk' hl'=>name_of_addr x.apart (mem_of_lookup hl') (mem_of_lookup hl),λ_ _ _=>⟨noG c (.inr ⟨y,hk,hl⟩),by
   dsimp only;split
   ·exact Heap.get?_none_of_le (big c (.inr ⟨y,hk,hl⟩))
   ·rfl⟩⟩
 ·exact absurd hk (N.nofree y)
 ·dsimp only at e
  split at e
  ·rename_i hh
   exact⟨keep b o e,hh.1,hh.2.1,hh.2.2,λhb=>absurd (Heap.lt_size e) (not_lt.mpr (big b (.inl hb)))⟩
  ·cases e
theorem Dr (ok:Γ.Ok){a:Addr}{fd:FuncData}{ps:List String}{body:List Stmt}{T:TS}(N:Fn Γ a fd ps body)(hgen:fd.scope.isGenerator=false)(hr:A.depth<recursionLimit)
  (hT:∀L,Py Γ (A.deeper (callEnvC fd L a)) (callEnvC fd L a) body T):
  Ar Γ A (.ref a) (λds own Q=>ds.length=ps.length/\T ⟨ps.zip ds,own,[]⟩ λf σ=>match f with| .ret d=>Q d σ.own| .next=>Q .none σ.own|_=>False):=λG ι own s ds vs Q S r htk Z=>Ae Z λhl q=>by
 refine Ac N.obj λo ho hd=>?_
 have hB:∀b o,Γ.B.get? b=some o->s.heap.get? b=some o:=λb o e=>S.gin _ _ (S.base _ _ e)
 refine codeAny_call_function hr (hB _ _ ho) hd N.co hgen N.body (N.code.keeps hB) ?_
 rw[N.clo]
 refine N.bind vs (by rw[r.length,hl]) _ _ _ _ _ hB (wpAny_mono (A4 (E:=λ_ _=>False) (wpAny_newFunctionEnv_cells (Q:=λenv s'=>env=callEnvC fd s.heap.objs.size a/\InCallC s env.locals (bindL env.kindOf ((ps.map ofString).zip vs) λ_=>none) env.cells (bindC env.kindOf ((ps.map ofString).zip vs) λ_=>none) s') N.kind (λx hx=>?_) λenv he s' x=>⟨he,x⟩)) (λenv s₁ Y=>Ae Y λV hle=>Ae V λhe x=>?_) λ_ _ x=>x.elim)
 ·refine Ac (mem_map.mp (of_mem_zip (show(x.1,x.2)∈_ from hx)).1) λy hy e=>?_
  rcases N.kinds y hy with h|⟨h,h'⟩
  ·exact .inl (e▸h)
  ·exact .inr ⟨e▸h,e▸h' _⟩
 subst he
 refine⟨(ok.nolimit.keeps hB).keeps x.toInCall.keep,codeAny_func ?_⟩
 ·refine Ck (dQ ok N S r (lt_of_lt_of_le htk hle) x) λK k1 k2 k3 F=>?_
  refine wpAny_mono (hT _ K G ι _ s₁ _ F q) (λf s' h=>?_) λ_ _ h=>h.elim
  refine Cs h λG' ι' fd' σ' le pr rf F' hq=>?_
  try clear h
  have R:gI Γ G ι s G' ι' σ'.own s':=⟨le,pr,F'.store,λb o e h1 h2 h3=>(by refine B7 (F'.far b o (k3 b o e h1 h2 h3)) λf1 f2 f3 _=>?_;exact⟨f1,f2,f3⟩),F'.os.trans k1,k2▸F'.gens⟩
  cases fd' with
  |next=>cases rf;exact⟨_,.none,G',ι',_,rfl,R,rfl,hq⟩
  |brk=>exact hq.elim
  |cont=>exact hq.elim
  |ret d=>refine Ac rf λv U rv=>?_;try clear rf;subst U;exact⟨_,d,G',ι',_,rfl,R,rv,hq⟩
end
theorem Bi.deeper {n:Nat}{A:Around}(h:Bi (n+1) A)(env:Env):Bi n (A.deeper env):=by
 have h1:=h.depth
 have h2:=h.units
 refine⟨h.handled,?_,?_⟩
 ·rw[depth_deeper];exact Ah h1
 ·show A.units+3+500+16*n<cLine;exact Ah h2
theorem H3 {Γ:W}{A:Around}{n:Nat}(ok:Γ.Ok){a:Addr}{fd:FuncData}{ps:List String}{body:List Stmt}(N:Fn Γ a fd ps body)(h:Bi n A)(L:Addr):Ev Γ A (callEnvC fd L a) where
 ok:=ok
 kind:=N.kind
 glob:=N.glob
 bui:=N.bui
 handled:=h.handled
 depth:=by have:=h.depth;exact Ah this
 units:=by have:=h.units;exact Ah this
noncomputable def Kq:List (String×D)->St->St
 |[],σ=>σ
 |p::r,σ=>Kq r (σ.set p.1 p.2)
section
variable {α β γ δ:Type}{Γ:W}{K:Cw}{A:Around}{env:Env}{G G':Gh}{ι ι':List Addr}{σ:St}{s s':Shared}
theorem RelL.reverse:∀{ds:List D} {vs:List Value},RelL G ι ds vs->RelL G ι ds.reverse vs.reverse
 |[],_,h=>by obtain rfl:=Bs h;rfl
 |d::ds,_,⟨v,w,e,rv,t⟩=>by
  subst e
  rw[List.reverse_cons,List.reverse_cons]
  exact(RelL.reverse t).snoc rv
theorem Wn (H:Ev Γ A env)(names:List String):∀(ds:List D) (vs:List Value) {G:Gh} {ι:List Addr} {σ:St} {s:Shared} {Q:Unit->Shared->Prop},(∀n∈names,env.kindOf (ofString n)=some .local)->Aa Γ K env G ι σ s->RelL G ι ds vs->
  (∀s',Aa Γ K env G ι (Kq (names.zip ds) σ) s'->Q () s')->
  wpAny (model Γ.prog Γ.w) A (assignInOrder (names.map λn=>bindName env (ofString n)) vs) Q (λ_ _=>False) s:=by
 induction names with
 |nil=>
  intro ds vs G ι σ s Q hk F r q
  show wpAny _ _ (assignInOrder [] vs) _ _ _
  cases vs<;>exact wpAny_pure (q _ F)
 |cons n ns ih=>
  intro ds vs G ι σ s Q hk F r q
  cases ds with
  |nil=>
   obtain rfl:=Bs r
   exact wpAny_pure (q _ F)
  |cons d ds=>
   refine Aj r λv w ev rv t=>?_
   subst ev
   refine wpAny_bind (wpAny_holding (wpAny_bindName (Jh H (.inl (hk n mem_cons_self)) F rv λs' F'=>?_)))
   exact ih ds w (λm hm=>hk m (mem_cons_of_mem _ hm)) F' t q
theorem pC (H:Ev Γ A env){elts:List Expr}{k:Nat}{tpos pos:Pos}{value:Expr}{names:List String}{T:TT}(h:Bm Γ A env value T)
  (hs:swapsWithSole [.Tuple elts k tpos] value pos.line env=pure false)(hw:swappedStores [.Tuple elts k tpos] value env=pure (some (names.map ofString)))(hk:∀n∈names,env.kindOf (ofString n)=some .local):
  Oc Γ A env (.Assign [.Tuple elts k tpos] value pos) (λσ Q=>T σ λd σ=>∃ds,d=.tup ds/\ds.length=names.length/\Q .next (Kq (names.reverse.zip ds.reverse) σ)):=λK G ι σ s Q F q=>
 Assign_Tuple_swapped (names:=names.map ofString) (A8 h F q λG1 ι1 d v σ1 s1 l1 p1 r1 F1 Z=>Ay Z λds e hl q1=>by
  subst e
  refine Aj (Ez F1.store r1) λa vs Y hT rl=>?_
  subst Y
  rw[show(names.map ofString).length=vs.toArray.size by rw[length_map,size_toArray,rl.length,hl]]
  refine unpackItems_tuple H.handled hT λh' he=>?_
  have F2:Aa Γ K env G1 ι1 σ1 {s1 with heap:=h'}:=F1.ext (ht:=F1.tk) λa o hh e=>he a o (ne_of_lt (Heap.lt_size e)) e
  have rr:RelL G1 ι1 ds.reverse vs.reverse:=rl.reverse
  rw[show(names.map ofString).reverse.map (λn=>bindName env n)=names.reverse.map λn=>bindName env (ofString n)by rw[<-List.map_reverse,map_map];rfl]
  exact Wn H names.reverse ds.reverse vs.reverse (λn hn=>hk n (mem_reverse.mp hn)) F2 rr λs' F'=>(As.mk' (R:=FR) (b:=.next) rfl F' q1).up l1 p1) hs hw
theorem Ue (H:Ev Γ A env){x y:String}{px py tpos pos:Pos}{k:Nat}{value:Expr}{T:TT}(h:Bm Γ A env value T)
  (hs:swapsWithSole [.Tuple [.Name (ofString x) px,.Name (ofString y) py] k tpos] value pos.line env=pure false)(hw:swappedStores [.Tuple [.Name (ofString x) px,.Name (ofString y) py] k tpos] value env=pure (some [ofString x,ofString y]))
  (h1:env.kindOf (ofString x)=some .local)(h2:env.kindOf (ofString y)=some .local):
  Oc Γ A env (.Assign [.Tuple [.Name (ofString x) px,.Name (ofString y) py] k tpos] value pos) (λσ Q=>T σ λd σ=>∃ds,d=.tup ds/\ds.length=[x,y].length/\Q .next (Kq ([x,y].reverse.zip ds.reverse) σ)):=
 pC H (names:=[x,y]) h hs hw λn hn=>by
  rcases mem_cons.mp hn with rfl|hn
  ·exact h1
  ·rcases mem_cons.mp hn with rfl|hn
   ·exact h2
   ·cases hn
theorem Ho {f:Value}{e:Expr}{es:List Expr}{pos:Pos}{Q:Args->Shared->Prop}{E:Value->Shared->Prop}(hs:starEach (e::es) env=(false,eval e env)::starEach es env)
  (h:wpAny (model Γ.prog Γ.w) A (spliced (backTo pos (starEach (e::es) env))) (λvs s'=>Q ⟨vs,[]⟩ s') E s):wpAny (model Γ.prog Γ.w) A (evalArgs f true (backTo pos (starEach (e::es) env)) []) Q E s:=by
 rw[hs]at h⊢
 exact Calls.evalArgs_plain h
theorem Jn {e:Expr}{es:List Expr}{pos:Pos}(hs:starEach (e::es) env=(false,eval e env)::starEach es env)(hp:(backTo pos (starEach es env)).any (·.1)=false):(backTo pos (starEach (e::es) env)).any (·.1)=false:=by
 rw[hs];show(false||(backTo pos (starEach es env)).any (·.1))=false;rw[hp];rfl
theorem Q8 (H:Ev Γ A env){f:String}{a:Addr}{fd:FuncData}{e:Expr}{es:List Expr}{p pos:Pos}{T:St->(List D->St->Prop)->Prop}{S:Mine.Cf}(hk:env.kindOf (ofString f)=some .globalImplicit)(hv:Γ.mg (ofString f)=some (.ref a))
  (hd:(ofString f==("__debug__":Str))=false)(ho:∃o,Γ.B.get? a=some o/\o.data=.func fd)(hf:Ar Γ A (.ref a) S)(h:Ky Γ A env pos (e::es) T)(hs:starEach (e::es) env=(false,eval e env)::starEach es env):
  Bm Γ A env (.Call (.Name (ofString f) p) (e::es) [] pos) (λσ Q=>T σ λds σ=>S ds σ.own λd own'=>Q d {σ with own:=own'}):=λK G ι σ s Q F q=>
 wpAny_Call_NameR (wpAny_mono (Ni H hk hv hd K G ι σ s (λd σ'=>d=.raw (.ref a)/\T σ' λds σ=>S ds σ.own λd own'=>Q d {σ with own:=own'}) F ⟨rfl,q⟩) (λv s0 Z=>Eh Z λG0 ι0 d0 σ0 l0 p0 r0 F0 e0 q0=>by
  subst e0;cases r0
  refine Ac ho λo Y hd=>?_
  try clear ho
  revert Y
  intro ho
  exact Calls.callWith_function (o:=o) (fd:=fd) (Ho hs (A8 h F0 q0 λG1 ι1 ds vs σ1 s1 l1 p1 r1 F1 q1=>
   ⟨⟨F1.store.gin _ _ (F1.store.base _ _ ho),hd⟩,wpAny_mono (N7 hf F1 r1 q1) (λ_ _ p=>p.up (l0.trans l1) (p0.trans p1)) λ_ _ x=>x⟩))) λ_ _ x=>x)
theorem Yy (H:Ev Γ A env){f id:String}{e:Expr}{es:List Expr}{p pos:Pos}{T:St->(List D->St->Prop)->Prop}{S:List D->St->(D->St->Prop)->Prop}(hk:env.kindOf (ofString f)=some .globalImplicit)(hn:Γ.mg (ofString f)=none)(hv:Γ.mb (ofString f)=some (.builtin id))
  (hd:(ofString f==("__debug__":Str))=false)(hf:∀{K G ι σ s ds vs Q},Aa Γ K env G ι σ s->RelL G ι ds vs->S ds σ Q->wpAny (model Γ.prog Γ.w) A (call (.builtin id) vs) (As Γ K env VR G ι Q) (λ_ _=>False) s)
  (h:Ky Γ A env pos (e::es) T)(hs:starEach (e::es) env=(false,eval e env)::starEach es env)(hp:(backTo pos (starEach es env)).any (·.1)=false):
  Bm Γ A env (.Call (.Name (ofString f) p) (e::es) [] pos) (λσ Q=>T σ λds σ=>S ds σ Q):=λK G ι σ s Q F q=>
 wpAny_Call_NameR (wpAny_mono (Hz H hk hn hv hd K G ι σ s (λd σ'=>d=.raw (.builtin id)/\T σ' λds σ=>S ds σ Q) F ⟨rfl,q⟩) (λv s0 Z=>Eh Z λG0 ι0 d0 σ0 l0 p0 r0 F0 e0 q0=>by
  subst e0;cases r0
  exact Calls.callWith_builtin (Jn hs hp) (Ho hs (A8 h F0 q0 λG1 ι1 ds vs σ1 s1 l1 p1 r1 F1 q1=>wpAny_mono (hf F1 r1 q1) (λ_ _ p=>p.up (l0.trans l1) (p0.trans p1)) λ_ _ x=>x))) λ_ _ x=>x)
theorem lA (H:Ev Γ A env){f ty:String}{e:Expr}{es:List Expr}{p pos:Pos}{T:St->(List D->St->Prop)->Prop}{S:List D->St->(D->St->Prop)->Prop}(hk:env.kindOf (ofString f)=some .globalImplicit)(hn:Γ.mg (ofString f)=none)(hv:Γ.mb (ofString f)=some (.type ty))
  (hd:(ofString f==("__debug__":Str))=false)(hf:∀{K G ι σ s ds vs Q},Aa Γ K env G ι σ s->RelL G ι ds vs->S ds σ Q->wpAny (model Γ.prog Γ.w) A (call (.type ty) vs) (As Γ K env VR G ι Q) (λ_ _=>False) s)
  (h:Ky Γ A env pos (e::es) T)(hs:starEach (e::es) env=(false,eval e env)::starEach es env)(hp:(backTo pos (starEach es env)).any (·.1)=false):
  Bm Γ A env (.Call (.Name (ofString f) p) (e::es) [] pos) (λσ Q=>T σ λds σ=>S ds σ Q):=λK G ι σ s Q F q=>
 wpAny_Call_NameR (wpAny_mono (Hz H hk hn hv hd K G ι σ s (λd σ'=>d=.raw (.type ty)/\T σ' λds σ=>S ds σ Q) F ⟨rfl,q⟩) (λv s0 Z=>Eh Z λG0 ι0 d0 σ0 l0 p0 r0 F0 e0 q0=>by
  subst e0;cases r0
  exact PyProof.Rows.callWith_type (Jn hs hp) (Ho hs (A8 h F0 q0 λG1 ι1 ds vs σ1 s1 l1 p1 r1 F1 q1=>wpAny_mono (hf F1 r1 q1) (λ_ _ p=>p.up (l0.trans l1) (p0.trans p1)) λ_ _ x=>x))) λ_ _ x=>x)
noncomputable def Tv (d:D) (σ:St) (Q:D->St->Prop):Prop:=match d with
 | .str x=>x.length<2^62/\Q (.int x.length) σ
 |d=>∃l,Al σ.own d=some l/\l.length<2^62/\Q (.int l.length) σ
theorem Wq {d:D}{v:Value}{Q:D->St->Prop}(F:Aa Γ K env G ι σ s)(rv:Bb G ι d v)(h:∃l,Al σ.own d=some l/\l.length<2^62/\Q (.int l.length) σ):
  wpAny (model Γ.prog Γ.w) A (call (.builtin "len") [v]) (As Γ K env VR G ι Q) (λ_ _=>False) s:=by
 refine Ay h λl hl hz q=>?_
 clear h
 refine Aj (Bh F.store rv hl) λa vs Z hT rl=>?_
 subst Z
 exact len_list hT (by rw[size_toArray,rl.length];exact Z3 (n:=l.length) rfl (Ah hz)) (by rw[size_toArray,rl.length];exact Jo (F.toks _) q)
theorem Zq {ds:List D}{vs:List Value}{Q:D->St->Prop}(F:Aa Γ K env G ι σ s)(r:RelL G ι ds vs)(h:∃d,ds=[d]/\Tv d σ Q):
  wpAny (model Γ.prog Γ.w) A (call (.builtin "len") vs) (As Γ K env VR G ι Q) (λ_ _=>False) s:=by
 refine Ac h λd Z Y=>?_
 try clear h
 revert Y
 intro h
 subst Z
 refine Aj r λv w V rv e=>?_
 try clear r
 subst V
 cases (show w=[]from e)
 cases d with
 |str x=>
  refine Af rv λt U=>?_
  clear rv
  subst U
  refine len_str (by rw[Az];have:=h.1;exact Int.not_le.2 (Z3 (n:=x.length) rfl (Ah this))) (by rw[Az];exact Jo (F.toks _) h.2)
 |_=>exact Wq F rv h
theorem S0 (H:Ev Γ A env){e:Expr}{p pos:Pos}{T:St->(List D->St->Prop)->Prop}(hk:env.kindOf (ofString "len")=some .globalImplicit)(hn:Γ.mg (ofString "len")=none)(hv:Γ.mb (ofString "len")=some (.builtin "len"))
  (h:Ky Γ A env pos [e] T)(hs:starEach [e] env=(false,eval e env)::starEach [] env):
  Bm Γ A env (.Call (.Name (ofString "len") p) [e] [] pos) (λσ Q=>T σ λds σ=>∃d,ds=[d]/\Tv d σ Q):=
 Yy H hk hn hv (by decide) (λF r q=>Zq F r q) h hs rfl
theorem Q3 {ds:List D}{vs:List Value}{Q:D->St->Prop}(H:Ev Γ A env)(F:Aa Γ K env G ι σ s)(r:RelL G ι ds vs)(h:∃a b c,ds=[.int a,.int b,.int c]/\(-1073741824<c/\c<1073741824/\c≠0)/\Q (.rng a b c) σ):
  wpAny (model Γ.prog Γ.w) A (call (.type "range") vs) (As Γ K env VR G ι Q) (λ_ _=>False) s:=by
 refine Fq h λa b c z1 hc q=>?_
 try clear h
 subst z1
 refine Aj r λ_ _ z2 Z Y=>?_
 try clear r
 subst z2
 refine Af Z λt z3=>?_
 clear Z
 subst z3
 refine Aj Y λ_ _ z4 V U=>?_
 clear Y
 subst z4
 refine Af V λu z5=>?_
 clear V
 subst z5
 refine Aj U λ_ _ z6 z0 e=>?_
 clear U
 subst z6
 refine Af z0 λw z7=>?_
 clear z0
 subst z7
 obtain rfl:=Bs e
 refine call_range_3 hc.2.2 ?_ (.inl (PyProof.noPylong_small (rE hc.1 hc.2.1)))
 refine Ae (F.alloc H.ok (o:={cls:=.type "range",data:=.fields #[.int a t,.int b u,.int c w]}) rfl s.toks F.tk) λle F'=>?_
 exact(Mu (d:=.rng a b c) ⟨_,t,u,w,rfl,Gh.put_self _ _ _⟩ F' q).up le (A1.refl _)
theorem Ur (H:Ev Γ A env){e:Expr}{es:List Expr}{p pos:Pos}{T:St->(List D->St->Prop)->Prop}(hk:env.kindOf (ofString "range")=some .globalImplicit)(hn:Γ.mg (ofString "range")=none)(hv:Γ.mb (ofString "range")=some (.type "range"))
  (h:Ky Γ A env pos (e::es) T)(hs:starEach (e::es) env=(false,eval e env)::starEach es env)(hp:(backTo pos (starEach es env)).any (·.1)=false):
  Bm Γ A env (.Call (.Name (ofString "range") p) (e::es) [] pos) (λσ Q=>T σ λds σ=>∃a b c,ds=[.int a,.int b,.int c]/\(-1073741824<c/\c<1073741824/\c≠0)/\tV (.rng a b c) σ Q):=
 lA H hk hn hv (by decide) (λF r q=>Q3 H F r q) h hs hp
end
noncomputable def Eg (sep:List Nat):List (List Nat)->List Nat
 |[]=>[]
 |x::r=>r.foldl (λacc p=>acc++sep++p) x
theorem Rj (sep:List Nat)(xs:List (List Nat)):Txt.join ⟨sep.toArray⟩ (xs.map λx=>⟨x.toArray⟩)=⟨(Eg sep xs).toArray⟩:=by
 unfold Txt.join Builtin.Str.glued
 cases xs with
 |nil=>rfl
 |cons x r=>
  show(⟨((r.map λx=>(⟨x.toArray⟩:Str)).foldl (λacc p=>acc++sep.toArray++p.cps) x.toArray)⟩:Str)=⟨(r.foldl (λacc p=>acc++sep++p) x).toArray⟩
  congr 1
  induction r generalizing x with
  |nil=>rfl
  |cons y r ih=>
   rw[map_cons,foldl_cons,foldl_cons,<-ih]
   simp
theorem Ui {G:Gh}{ι:List Addr}:∀{ys:List (List Nat)} {vs:List Value},RelL G ι (ys.map D.str) vs->∃l:List (Str×Tok),vs=strValues l/\l.map (·.1)=ys.map λy=>⟨y.toArray⟩
 |[],_,h=>by obtain rfl:=Bs h;exact⟨[],rfl,rfl⟩
 |y::ys,_,⟨v,r,e,⟨t,ev⟩,x⟩=>by
  subst e ev
  refine Ac (Ui x) λl e1 e2=>?_
  subst e1
  exact⟨(⟨y.toArray⟩,t)::l,rfl,by simp[e2]⟩
section
variable {α β γ δ:Type}{Γ:W}{K:Cw}{A:Around}{env:Env}{G G':Gh}{ι ι':List Addr}{σ:St}{s s':Shared}
theorem Nh {o:Expr}{name ty id:String}{apos pos:Pos}{e:Expr}{es:List Expr}{T0:TT}{T:St->(List D->St->Prop)->Prop}{ok:D->St->Prop}{S:D->List D->St->(D->St->Prop)->Prop}
  (pa:PlainAttrs ty)(slot:Slot ty (ofString name) id)(hty:typeOf (.builtin id)=pure (.type "method_descriptor"))
  (hok:∀{K G ι σ s d v},Aa Γ K env G ι σ s->Bb G ι d v->ok d σ->s.TypeIs v ty/\∀a,v=.ref a->∃ob,s.heap.get? a=some ob/\ob.dict=none)
  (hS:∀{K G ι σ s d v ds vs Q},Aa Γ K env G ι σ s->Bb G ι d v->RelL G ι ds vs->S d ds σ Q->wpAny (model Γ.prog Γ.w) A (call (.builtin id) (v::vs)) (As Γ K env VR G ι Q) (λ_ _=>False) s)
  (h0:Bm Γ A env o T0)(h:Ky Γ A env pos (e::es) T)(hs:starEach (e::es) env=(false,eval e env)::starEach es env)(hp:(backTo pos (starEach es env)).any (·.1)=false)
  (hbase:attributeBase o (ofString name) env (eval o env)=eval o env)
  (hfew:((backTo pos (starEach (e::es) env)).all (λx=> !x.1)&&(backToKw pos (keywordEach [] env)).all (λx=>x.1.isSome)&&decide ((e::es).length+([]:List Keyword).length+(if([]:List Keyword).isEmpty then 0 else 1)<30))=true)
  (hline:(apos.endLine==pos.line)=true):
  Bm Γ A env (.Call (.Attribute o (ofString name) apos) (e::es) [] pos) (λσ Q=>T0 σ λd σ=>ok d σ/\T σ λds σ=>S d ds σ Q):=λK G ι σ s Q F q=>
 wpAny_Call_method_late hbase hfew hline rfl (A8 h0 F q λG0 ι0 d v σ0 s0 l0 p0 r0 F0 q0=>by
  refine Ae (hok F0 r0 q0.1) λht hd=>?_
  refine⟨ty,id,pa,slot,hty,ht,hd,?_⟩
  refine callWith_method1 (A8 h F0 q0.2 λG1 ι1 ds vs σ1 s1 l1 p1 r1 F1 q1=>wpAny_mono (hS F1 (r0.mono l1 p1) r1 q1) (λ_ _ p=>p.up (l0.trans l1) (p0.trans p1)) λ_ _ x=>x) hs hp)
noncomputable def Z0 (d:D) (σ:St):Prop:=∃k ds,d=.obj k/\σ.own[k]? =some ds
theorem lJ {d:D}{v:Value}(F:Aa Γ K env G ι σ s)(r:Bb G ι d v)(h:Z0 d σ):s.TypeIs v "list"/\∀a,v=.ref a->∃ob,s.heap.get? a=some ob/\ob.dict=none:=by
 refine A2 h λk ds Y e=>?_
 try clear h
 subst Y
 refine Ac r λa ha V=>?_
 try clear r
 subst V
 refine Ac (F.store.at_ k a ds ha e) λvs Z _=>?_
 refine Af Z λn ho=>?_
 clear Z
 exact⟨⟨_,ho,rfl⟩,λb hb=>by cases hb;exact⟨_,ho,rfl⟩⟩
noncomputable def O9 (d:D) (_σ:St):Prop:=∃x,d=.str x
theorem Oj {d:D}{v:Value}(F:Aa Γ K env G ι σ s)(r:Bb G ι d v)(h:O9 d σ):s.TypeIs v "str"/\∀a,v=.ref a->∃ob,s.heap.get? a=some ob/\ob.dict=none:=by
 refine Af h λx Z=>?_
 try clear h
 subst Z
 refine Af r λt Y=>?_
 try clear r
 subst Y
 exact⟨typeIs_str _ _ _,λb hb=>nomatch hb⟩
noncomputable def U0 (d:D) (ds:List D) (σ:St) (Q:D->St->Prop):Prop:=∃k x l,d=.obj k/\ds=[x]/\σ.own[k]? =some l/\l.length<=sizeLine/\Q .none {σ with own:=σ.own.set k (l++[x])}
theorem Fe {o:Expr}{apos pos:Pos}{e:Expr}{T0:TT}{T:St->(List D->St->Prop)->Prop}(h0:Bm Γ A env o T0)(h:Ky Γ A env pos [e] T)(hs:starEach [e] env=(false,eval e env)::starEach [] env)
  (hbase:attributeBase o (ofString "append") env (eval o env)=eval o env)
  (hfew:((backTo pos (starEach [e] env)).all (λx=> !x.1)&&(backToKw pos (keywordEach [] env)).all (λx=>x.1.isSome)&&decide ([e].length+([]:List Keyword).length+(if([]:List Keyword).isEmpty then 0 else 1)<30))=true)
  (hline:(apos.endLine==pos.line)=true):
  Bm Γ A env (.Call (.Attribute o (ofString "append") apos) [e] [] pos) (λσ Q=>T0 σ λd σ=>Z0 d σ/\T σ λds σ=>U0 d ds σ Q):=
 Nh PySem.F.plainAttrs_list slot_list_append PySem.F.type_list_append (λF r h=>lJ F r h) (λF r rl h=>by
  refine Iw h λk x l Z Y h1 h2 q=>?_
  try clear h
  subst Z
  subst Y
  refine Ac r λa ha V=>?_
  try clear r
  subst V
  refine Aj rl λv w U rv e=>?_
  try clear rl
  subst U
  obtain rfl:=Bs e
  exact Ki F ha h1 rv h2 q) h0 h hs rfl hbase hfew hline
noncomputable def Uz (d:D) (ds:List D) (σ:St) (Q:D->St->Prop):Prop:=∃sep l xs,d=.str sep/\ds=[l]/\Al σ.own l=some (xs.map D.str)/\(xs.map λx=>x.length+sep.length).sum<=sizeLine/\Q (.str (Eg sep xs)) σ
theorem Zw {sep:List Nat}{xs:List (List Nat)}(h:(xs.map λx=>x.length+sep.length).sum<=sizeLine):JoinOk ⟨sep.toArray⟩ (xs.map λx=>⟨x.toArray⟩)=true:=by
 unfold JoinOk Builtin.Str.tooLong
 have:∀(l:List (List Nat)) (n:Nat),((l.map λx=>(⟨x.toArray⟩:Str)).toArray.foldl (·+·.length+(⟨sep.toArray⟩:Str).length) n)=n+(l.map λx=>x.length+sep.length).sum:=by
  intro l
  induction l with
  |nil=>intro n;simp
  |cons x l ih=>
   intro n
   have:=ih (n+x.length+sep.length)
   simp only[size_toArray,List.foldl_toArray',map_cons,foldl_cons,Az,sum_cons]at this⊢
   rw[this];simp +arith only
 rw[this]
 simpa using h
theorem Nv {d:D}{v:Value}{ds:List D}{vs:List Value}{Q:D->St->Prop}(F:Aa Γ K env G ι σ s)(r:Bb G ι d v)(rl:RelL G ι ds vs)(h:Uz d ds σ Q):
  wpAny (model Γ.prog Γ.w) A (call (.builtin "str.join") (v::vs)) (As Γ K env VR G ι Q) (λ_ _=>False) s:=by
 refine Iw h λsep l xs Z Y h1 h2 q=>?_
 try clear h
 subst Z
 subst Y
 refine Af r λt V=>?_
 try clear r
 subst V
 refine Aj rl λv w U rv e=>?_
 try clear rl
 subst U
 obtain rfl:=Bs e
 refine Aj (Bh F.store rv h1) λa ws z0 hl rl=>?_
 subst z0
 refine Ac (Ui rl) λps z1 e=>?_
 subst z1
 refine wpAny_mono (A4 (SC.join (E:=λ_ _=>False) (Q:=λv s'=>∃t' tk,v=.str (Txt.join ⟨sep.toArray⟩ (xs.map λx=>⟨x.toArray⟩)) t'/\s'={s with toks:=tk}) hl e (Zw h2) λt' k=>⟨t',k,rfl,rfl⟩)) (λv s' z2=>Ae z2 λz3 hle=>A2 z3 λt' tk e1 e2=>?_) λ_ _ x=>x
 subst e1 e2
 exact Mv (F.toks _ (lt_of_lt_of_le F.tk hle)) (Rj _ _) q
theorem Q5 {o:Expr}{apos pos:Pos}{e:Expr}{T0:TT}{T:St->(List D->St->Prop)->Prop}(h0:Bm Γ A env o T0)(h:Ky Γ A env pos [e] T)(hs:starEach [e] env=(false,eval e env)::starEach [] env)
  (hbase:attributeBase o (ofString "join") env (eval o env)=eval o env)
  (hfew:((backTo pos (starEach [e] env)).all (λx=> !x.1)&&(backToKw pos (keywordEach [] env)).all (λx=>x.1.isSome)&&decide ([e].length+([]:List Keyword).length+(if([]:List Keyword).isEmpty then 0 else 1)<30))=true)
  (hline:(apos.endLine==pos.line)=true):
  Bm Γ A env (.Call (.Attribute o (ofString "join") apos) [e] [] pos) (λσ Q=>T0 σ λd σ=>O9 d σ/\T σ λds σ=>Uz d ds σ Q):=
 Nh PySem.F.plainAttrs_str PySem.F.slot_str_join PySem.F.type_str_join (λF r h=>Oj F r h) (λF r rl h=>Nv F r rl h) h0 h hs rfl hbase hfew hline
noncomputable def Bj (x y:List Nat):List (List Nat):=(Txt.split ⟨x.toArray⟩ ⟨y.toArray⟩).map λp=>p.cps.toList
theorem Q0:∀(ps:List (Str×Tok)),RelL G ι (ps.map λp=>D.str p.1.cps.toList) (strValues ps):=by
 intro lq
 induction lq with
 |nil=>exact rfl
 |cons p ps ih=>exact⟨.str p.1 p.2,strValues ps,rfl,⟨p.2,by simp⟩,ih⟩
noncomputable def S6 (d:D) (ds:List D) (σ:St) (Q:D->St->Prop):Prop:=∃x y,d=.str x/\ds=[.str y]/\y≠[]/\x.length+2<=sizeLine/\Q (.obj σ.own.length) {σ with own:=σ.own++[(Bj x y).map D.str]}
theorem Sn {d:D}{v:Value}{ds:List D}{vs:List Value}{Q:D->St->Prop}(F:Aa Γ K env G ι σ s)(r:Bb G ι d v)(rl:RelL G ι ds vs)(h:S6 d ds σ Q):
  wpAny (model Γ.prog Γ.w) A (call (.builtin "str.split") (v::vs)) (As Γ K env VR G ι Q) (λ_ _=>False) s:=by
 refine Lu h λx y Y V hy hz q=>?_
 try clear h
 subst Y
 subst V
 refine Af r λt U=>?_
 try clear r
 subst U
 refine Aj rl λv w z0 Z e=>?_
 try clear rl
 subst z0
 refine Af Z λu z1=>?_
 clear Z
 subst z1
 obtain rfl:=Bs e
 have hy':((⟨y.toArray⟩:Str).length==0)=false:=by rw[Az];cases y<;>simp_all
 have hx:(⟨x.toArray⟩:Str).length<=sizeLine:=by rw[Az];exact Ah hz
 have fin:∀(l:List (Str×Tok)) (tk:Nat),l.map (·.1)=Txt.split ⟨x.toArray⟩ ⟨y.toArray⟩->0<tk->As Γ K env VR G ι Q (.ref s.heap.objs.size) {s with heap:=s.heap.push {cls:=.type "list",data:=.seq (strValues l).toArray},toks:=tk}:=by
  intro l tk e ht
  have rr:RelL G ι ((Bj x y).map D.str) (strValues l):=by
   have:=Q0 (G:=G) (ι:=ι) l
   unfold Bj
   rw[<-e,map_map,map_map];exact this
  exact(As.mk' (R:=VR) (Ks F) (F.newOwn rr 0 tk ht) q).up (Gh.le.refl _) (A1.append _ _)
 cases h1:(decide ((⟨x.toArray⟩:Str).length<(⟨y.toArray⟩:Str).length)||decide (Builtin.Str.strKind ⟨x.toArray⟩<Builtin.Str.strKind ⟨y.toArray⟩))
 ·cases hf:(Builtin.Str.occurrences ⟨x.toArray⟩ ⟨y.toArray⟩ 0 (⟨x.toArray⟩:Str).length ((⟨x.toArray⟩:Str).length+1)).isEmpty
  ·refine call_meets PySem.F.slot_str_split (typeIs_str _ _ _) PySem.F.entry_str_split (PySem.F.args_str_split_2 _ _) (meets_str_split_sep ⟨x.toArray⟩ ⟨y.toArray⟩ t u h1 hy' hf hx ?_) ?_
   ·have h2:=StrLaws.occ_length_le ⟨x.toArray⟩ ⟨y.toArray⟩ 0 (⟨x.toArray⟩:Str).length ((⟨x.toArray⟩:Str).length+1)
    rw[Az]at h2
    unfold Builtin.Str.partsBetween
    simp only[length_map,List.length_zip,length_cons,length_append,length_nil,Az]
    exact Ah (add_le_add (add_le_add (min_le_left ((Builtin.Str.occurrences {cps:=x.toArray} {cps:=y.toArray} 0 x.length (x.length+1)).length+1) ((Builtin.Str.occurrences {cps:=x.toArray} {cps:=y.toArray} 0 x.length (x.length+1)).length+(0+1))) h2) hz)
   ·show wants _ _ _ {s with toks:=_,heap:=s.heap.push {cls:=.type "list",data:=.seq (strsFrom s.toks (Builtin.Str.partsBetween ⟨x.toArray⟩ (Builtin.Str.occurrences ⟨x.toArray⟩ ⟨y.toArray⟩ 0 (⟨x.toArray⟩:Str).length ((⟨x.toArray⟩:Str).length+1)) (⟨y.toArray⟩:Str).length)).toArray}}
    rw[strsFrom_eq]
    exact fin _ _ ((numbered_texts _ _).trans ((if_neg (ne_true_of_eq_false h1)).trans (if_neg (ne_true_of_eq_false hf))).symm) (by have:=F.tk;exact Ah this)
  ·exact call_meets PySem.F.slot_str_split (typeIs_str _ _ _) PySem.F.entry_str_split (PySem.F.args_str_split_2 _ _) (meets_str_split_not_found ⟨x.toArray⟩ ⟨y.toArray⟩ t u h1 hy' hf)
    (fin [(⟨x.toArray⟩,t)] s.toks ((if_neg (ne_true_of_eq_false h1)).trans (if_pos hf)).symm F.tk)
 ·exact call_meets PySem.F.slot_str_split (typeIs_str _ _ _) PySem.F.entry_str_split (PySem.F.args_str_split_2 _ _) (meets_str_split_cannot_occur ⟨x.toArray⟩ ⟨y.toArray⟩ t u h1)
   (fin [(⟨x.toArray⟩,t)] s.toks (if_pos h1).symm F.tk)
end
theorem Ar.imp {Γ:W}{A:Around}{f:Value}{S S':Mine.Cf}(h:Ar Γ A f S)(k:∀ds own Q,S' ds own Q->S ds own Q):Ar Γ A f S':=
 λG ι own s ds vs Q st r ht q=>h G ι own s ds vs Q st r ht (k _ _ _ q)
theorem E0 {C:St->Prop}{Tb:D->TS}{n₀:Nat}{Q:FD->St->Prop}(I:List D->St->Prop)
  (h:∀x r σ (next:St->Prop),I (x::r) σ->(∀σ',I r σ'->next σ')->C σ/\Tb x σ λf σ1=>match f with| .brk=>Q .next σ1| .ret d=>Q (.ret d) σ1|_=>∃σ2,Ep n₀ σ1 σ2/\next σ2)
  (h0:∀σ,I [] σ->C σ/\Q .next σ):∀items σ,I items σ->Do C Tb n₀ items σ Q
 |[],σ,i=>h0 σ i
 |x::r,σ,i=>h x r σ _ i λσ' i'=>E0 I h h0 r σ' i'
theorem Au {own:List (List D)}{d:D}{l:List D}(h:Al own d=some l)(x:List (List D)):Al (own++x) d=some l:=by
 cases d<;>try exact h
 show(own++x)[_]? =some l
 rw[List.getElem?_append_left (List.getElem?_eq_some_iff.mp h).1];exact h
theorem Cl {d:D}{σ:St}{items:List D}{k:List D->(St->Prop)->Prop}(h:Al σ.own d=some items)(q:k items (λσ'=>Al σ'.own d=some items)):Fr d σ k:=by
 cases d<;>first|exact⟨_,h,q⟩|exact Sg h
theorem B4 (own:List (List D))(x y:List D):(own++[x]).set own.length y=own++[y]:=by
 rw[List.set_append_right _ _ (le_refl _),sub_self];rfl
theorem Ai (own:List (List D))(x:List D):(own++[x])[own.length]? =some x:=by simp
theorem kM {n₀:Nat}{l l':List (String×D)}{own:List (List D)}{ro:List String}(h:∀x d,l'.lookup x=some d->l.lookup x=some d):Ep n₀ ⟨l,own,ro⟩ ⟨l',own,ro⟩:=.inl ⟨rfl,rfl,h⟩
theorem H8 {n₀:Nat}(l m:List (String×D)){own:List (List D)}{ro:List String}:Ep n₀ ⟨l++m,own,ro⟩ ⟨l,own,ro⟩:=kM λx d h=>by
 rw[List.lookup_append,h];rfl
section
variable {σ:St}{Q:D->St->Prop}{R:Bool->Prop}{P:D->Prop}{B:Bool->Prop}{i j:Int}{x y:List Nat}{a b:Bool}{l:List D}{k m:Nat}{nm:String}{d:D}
theorem qU {a b:Prop}(h:a):(a/\b)=b:=propext ⟨And.right,And.intro h⟩
theorem mH:N6 .Add (.obj k) (.obj m) σ Q=(∃la lb,σ.own[k]? =some la/\σ.own[m]? =some lb/\la.length+lb.length<=sizeLine/\Q (.obj k) {σ with own:=σ.own.set k (la++lb)}):=qU rfl
theorem gF:Em .NotIn (.str y) (.str x) σ R=R (!By y x):=rfl
theorem qP {ys:List (List Nat)}(h:R (ys.any (·==x))):Em .In (.str x) (.tup (ys.map D.str)) σ R:=⟨x,ys,rfl,.inl rfl,h⟩
theorem qQ {ys:List (List Nat)}(e:σ.own[k]? =some (ys.map D.str))(h:R (ys.any (·==x))):Em .In (.str x) (.obj k) σ R:=⟨x,ys,rfl,.inr e,h⟩
theorem sW:Tv (.obj k) σ Q=(∃l,σ.own[k]? =some l/\l.length<2^62/\Q (.int l.length) σ):=rfl
end
noncomputable def Ad (scope:Scope) (cs:List (Str×Addr)) (env:Env) (C:Addr):Env:=
 {newEnv scope C env.globals (cellsFrom (C+1) scope.names cs) env.qual none .none (some env) builtinsNs with
  scope:={scope with names:=scope.names.map λx=>if(x.2== .free&&env.scope.kind== .function&&env.kindOf x.1==some .cell)then(x.1,.cell)else(x.1,x.2)}}
structure CE (env:Env)(scope:Scope)(cap:List String)(cs:List (Str×Addr)):Prop where
 clos:closureFor scope env=pure cs
 names:cs.map (·.1)=cap.map ofString
 at_:∀p∈cs,env.cells.lookup p.1=some p.2
 kinds:∀C,∀x∈cap,(env.kindOf (ofString x)=some .cell/\(Ad scope cs env C).kindOf (ofString x)=some .cell)\/(env.kindOf (ofString x)=some .free/\(Ad scope cs env C).kindOf (ofString x)=some .free)
 newk:∀C,∀p∈scope.names,p.2=NameKind.cell->(Ad scope cs env C).kindOf p.1=some .cell
 newn:∀x∈cap,(ofString x,NameKind.cell)∉scope.names
 loc:∀C,∀p∈scope.names,p.2=NameKind.local->(Ad scope cs env C).kindOf p.1=some .local
 kind:scope.kind=.function
theorem Bz:∀(names:List (Str×NameKind)) (n:Nat) (acc:List (Str×Addr)),cellsFrom n names acc=cellsFrom n names []++acc
 |[],_,_=>rfl
 |(x,k)::r,n,acc=>by
  unfold cellsFrom
  split
  ·rw[Bz r (n+1) ((x,n)::acc),Bz r (n+1) [(x,n)],append_assoc];rfl
  ·exact Bz r n acc
theorem Cx:∀(names:List (Str×NameKind)) (n:Nat) (p:Str×Addr),p∈cellsFrom n names []->(p.1,NameKind.cell)∈names
 |[],_,_,h=>nomatch h
 |(x,k)::r,n,p,h=>by
  unfold cellsFrom at h
  split at h
  ·rename_i hk
   rw[Bz]at h
   rcases mem_append.mp h with h|h
   ·exact mem_cons_of_mem _ (Cx r _ p h)
   ·rw[mem_singleton]at h;subst h
    have:k=.cell:=by simpa using hk
    subst this;exact mem_cons_self
  ·exact mem_cons_of_mem _ (Cx r _ p h)
theorem D7 {α:Type}:∀{l:List (Str×α)} {x:Str},(∀c,(x,c)∉l)->l.lookup x=none
 |[],_,_=>rfl
 |(y,c)::l,x,h=>by
  rw[lookup_cons]
  by_cases e:x=y
  ·subst e;exact absurd mem_cons_self (h c)
  ·rw[show(x==y)=false by simpa using e]
   exact D7 λc' hc=>h c' (mem_cons_of_mem _ hc)
theorem Gl {α:Type}:∀{l:List (Str×α)} {x:Str},x∈l.map (·.1)->∃c,l.lookup x=some c
 |(y,c)::l,x,h=>by
  rw[lookup_cons]
  by_cases e:x=y
  ·subst e;exact⟨c,by simp⟩
  ·rw[show(x==y)=false by simpa using e]
   rw[map_cons]at h
   rcases mem_cons.mp h with h|h
   ·exact absurd h e
   ·exact Gl h
section
variable {α β γ δ:Type}{Γ:W}{K:Cw}{A:Around}{env:Env}{G G':Gh}{ι ι':List Addr}{σ:St}{s s':Shared}{scope:Scope}{cap:List String}{cs:List (Str×Addr)}
theorem CE.lookup (X:CE env scope cap cs)(C:Addr){x:String}(hx:x∈cap):(Ad scope cs env C).cells.lookup (ofString x)=env.cells.lookup (ofString x):=by
 show(cellsFrom (C+1) scope.names cs).lookup _=_
 rw[Bz,List.lookup_append,D7 (l:=cellsFrom (C+1) scope.names []) (x:=ofString x) λc hc=>X.newn x hx (Cx _ _ (ofString x,c) hc)]
 refine Af (Gl (l:=cs) (x:=ofString x) (by rw[X.names];exact mem_map_of_mem hx)) λc hc=>?_
 rw[hc,X.at_ _ (mem_of_lookup hc)];rfl
theorem CE.mem (X:CE env scope cap cs){C:Addr}{y:Str}{c:Addr}(h:(Ad scope cs env C).cells.lookup y=some c):
  ((y,c)∈cellsFrom (C+1) scope.names []/\(y,NameKind.cell)∈scope.names)\/∃x,y=ofString x/\x∈cap/\env.cells.lookup y=some c:=by
 have:=mem_of_lookup (show(cellsFrom (C+1) scope.names cs).lookup y=some c from h)
 rw[Bz]at this
 rcases mem_append.mp this with h|h
 ·exact .inl ⟨h,Cx _ _ _ h⟩
 ·have hy:y∈cs.map (·.1):=mem_map_of_mem h
  rw[X.names]at hy
  refine Ac (mem_map.mp hy) λx hx e=>?_
  exact .inr ⟨x,e.symm,hx,X.at_ _ h⟩
theorem Jc {M:Model}{E:Value->Shared->Prop}{globals:Addr}{qual:Str}{outer:Env}{Q:Env->Shared->Prop}
  (hQ:Q (newEnv scope s.heap.objs.size globals (cellsFrom (s.heap.objs.size+1) scope.names cs) qual none .none (some outer) builtinsNs) {s with heap:=pushCells (s.heap.push {cls:=.type "dict",data:=.dict #[]}) scope.names}):
  wpAny M A (newFunctionEnv scope globals cs [] qual none .none (some outer)) Q E s:=by
 simp only[newFunctionEnv,Option.isSome_some,if_true]
 refine wpAny_bind (wpAny_alloc ?_)
 refine wpAny_bind (wpAny_layCells _ (λname kind cells=>by cases hkc:kind==NameKind.cell<;>simp[hkc]) _ _ _ _ ?_)
 rw[show({s with heap:=s.heap.push {cls:=.type "dict",data:=.dict #[]}}:Shared).heap.objs.size=s.heap.objs.size+1 from Heap.size_push ..]
 exact wpAny_bind (wpAny_pure (wpAny_pure hQ))
noncomputable def seen (cap:List String) (σ:St):List (String×D):=cap.filterMap λx=>(σ.get x).map (x,·)
theorem K7:∀{cap:List String} {y:String} {d:D},(seen cap σ).lookup y=some d->y∈cap/\σ.get y=some d
 |[],_,_,h=>by simp[seen]at h
 |x::cap,y,d,h=>by
  unfold seen at h
  rw[filterMap_cons]at h
  cases e:σ.get x with
  |none=>
   rw[e]at h
   refine Ae (K7 (cap:=cap) h) λh1 h2=>?_
   exact⟨mem_cons_of_mem _ h1,h2⟩
  |some d'=>
   rw[e]at h
   simp only[Option.map_some,lookup_cons]at h
   by_cases q:y=x
   ·subst q;simp at h;subst h;exact⟨mem_cons_self,e⟩
   ·rw[show(y==x)=false by simpa using q]at h
    refine Ae (K7 (cap:=cap) h) λh1 h2=>?_
    exact⟨mem_cons_of_mem _ h1,h2⟩
theorem W9 (X:CE env scope cap cs)(F:Aa Γ K env G ι σ s){Y:Addr->Prop}(hY:Bw Γ K env G ι Y)(hin:∀a,Y a->s.heap.get? a≠none):
  ∃K':Cw,K'.os=s.os/\K'.gens=s.gens/\(∀b o,s.heap.get? b=some o->G b=none->b∉ι->b∉Γ.tabs.map (·.2)->¬Y b->K'.old b=some o)/\Bw Γ K' (Ad scope cs env s.heap.objs.size) G ι Y/\
   Aa Γ K' (Ad scope cs env s.heap.objs.size) G ι ⟨seen cap σ,σ.own,cap⟩ {s with heap:=pushCells (s.heap.push {cls:=.type "dict",data:=.dict #[]}) scope.names}:=by
 classical
 have S:=F.store
 refine⟨⟨s.os,s.gens,λb=>if G b=none/\b∉ι/\b∉Γ.tabs.map (·.2)/\¬Y b then s.heap.get? b else none⟩,rfl,rfl,λb o e h1 h2 h3 h4=>by dsimp only;rw[if_pos ⟨h1,h2,h3,h4⟩];exact e,?_⟩
 have ny:∀c o,K.old c=some o->¬Y c:=λc o e y=>by rw[(hY c y).2.2.2.2]at e;cases e
 have keep:∀b o,s.heap.get? b=some o->(pushCells (s.heap.push {cls:=.type "dict",data:=.dict #[]}) scope.names).get? b=some o:=λb o e=>pushCells_keeps _ _ b o (Heap.get?_push_of_some _ e)
 have ok:=cellsFrom_ok scope.names (s.heap.push {cls:=.type "dict",data:=.dict #[]}) (s.heap.objs.size+1) [] ⟨λ_ _ hm=>(nomatch hm),List.Pairwise.nil⟩ (by rw[Heap.size_push];exact le_refl _)
 rw[Heap.size_push]at ok
 have ltG:∀b o,G b=some o->b<s.heap.objs.size:=λb o e=>Heap.lt_size (S.gin _ _ e)
 have noG:∀b,s.heap.objs.size<=b->G b=none:=λb hb=>by
  cases e:G b with
  |none=>rfl
  |some o=>exact absurd (ltG b o e) (not_lt.mpr hb)
 have ltT:∀b∈Γ.tabs.map (·.2),b<s.heap.objs.size:=λb hb=>F.lt_own (.inr (.inr (.inl hb)))
 have ownCase:∀{y:Str} {c:Addr},(Ad scope cs env s.heap.objs.size).kindOf y=some .cell->(Ad scope cs env s.heap.objs.size).cells.lookup y=some c->
   ((y,c)∈cellsFrom (s.heap.objs.size+1) scope.names []/\s.heap.objs.size+1<=c)\/(env.kindOf y=some .cell/\env.cells.lookup y=some c/\∃x,y=ofString x/\x∈cap):=λ{y c} hk hl=>by
  rcases X.mem hl with⟨h,_⟩|⟨x,rfl,hx,hl'⟩
  ·exact .inl ⟨h,(ok.empty _ _ h).2⟩
  ·rcases X.kinds s.heap.objs.size x hx with⟨h,_⟩|⟨_,h⟩
   ·exact .inr ⟨h,hl',x,rfl,hx⟩
   ·rw[hk]at h;cases h
 have big:∀c,Jz (Ad scope cs env s.heap.objs.size) c->s.heap.objs.size<=c\/Jz env c:=λc hc=>by
  rcases hc with rfl|⟨y,hk,hl⟩
  ·exact .inl (le_refl _)
  ·rcases ownCase hk hl with⟨_,h⟩|⟨h1,h2,_⟩
   ·exact .inl (Nat.le_of_succ_le h)
   ·exact .inr (.inr ⟨y,h1,h2⟩)
 refine⟨λa ya=>?_,?_⟩
 ·refine Hi (hY a ya) λy1 y2 y3 y4 _=>?_
  refine⟨y1,y2,y3,λho=>?_,by dsimp only;rw[if_neg λh=>h.2.2.2 ya]⟩
  rcases big a ho with h|h
  ·cases e:s.heap.get? a with
   |none=>exact hin a ya e
   |some o=>exact absurd (Heap.lt_size e) (not_lt.mpr h)
  ·exact y4 h
 refine⟨S.ext λb o _ e=>keep b o e,⟨_,((Heap.Ns.new s.heap (.type "dict")).keeps (pushCells_keeps _ _)),λy d e=>?_⟩,noG _ (le_refl _),λb hb=>⟨λhm=>?_,λhm=>?_⟩,λy c hk hl=>?_,λy c hk hl=>?_,λb o e=>?_,rfl,A5.refl _,F.tk⟩
 ·refine Ae (K7 (show(seen cap σ).lookup y=some d from e)) λhy hd=>?_
  have hlk:=X.lookup s.heap.objs.size hy
  refine Ac F.ns λm _ q=>?_
  rcases q y d hd with⟨k,_⟩|⟨k,c,v,e',i,r⟩|⟨k,c,o,v,e',i,od,r⟩
  ·rcases X.kinds 0 y hy with⟨h,_⟩|⟨h,_⟩<;>(rw[k]at h;cases h)
  ·rcases X.kinds s.heap.objs.size y hy with⟨_,h⟩|⟨h,_⟩
   ·exact .inr (.inl ⟨h,c,v,hlk.trans e',i.keeps keep,r⟩)
   ·rw[k]at h;cases h
  ·rcases X.kinds s.heap.objs.size y hy with⟨h,_⟩|⟨_,h⟩
   ·rw[k]at h;cases h
   ·refine .inr (.inr ⟨h,c,o,v,hlk.trans e',?_,od,r⟩)
    rcases i with i|i
    ·exact .inl i
    ·refine Hi (F.far c o i) λf1 f2 f3 f4 _=>?_
     refine .inr ?_
     dsimp only
     rw[if_pos ⟨f2,f3,f4,ny _ _ (by assumption)⟩];exact f1
 ·rcases big b hb with h|h
  ·exact absurd (S.lt b hm) (not_lt.mpr h)
  ·exact(F.away b h).1 hm
 ·rcases big b hb with h|h
  ·exact absurd (ltT b hm) (not_lt.mpr h)
  ·exact(F.away b h).2 hm
 ·rcases ownCase hk hl with⟨hm,hge⟩|⟨h1,h2,x,rfl,hx⟩
  ·refine⟨ne_of_gt (Nat.lt_of_succ_le hge),⟨_,(ok.empty _ _ hm).1⟩,λz hk' hl'=>?_,λ_ _ _=>⟨noG c (Nat.le_of_succ_le hge),?_⟩⟩
   ·rcases ownCase hk' hl' with⟨hm',_⟩|⟨h1,h2,_⟩
    ·exact name_of_addr ok.apart hm' hm
    ·exact absurd (F.own_lt (.inr ⟨z,h1,h2⟩)) (not_lt.mpr (Nat.le_of_succ_le hge))
   ·dsimp only;split
    ·exact Heap.get?_none_of_le (Nat.le_of_succ_le hge)
    ·rfl
  ·refine B7 (F.cell _ c h1 h2) λc1 Z c3 _=>?_
   refine Af Z λv hc=>?_
   clear Z
   have hlt:=F.own_lt (.inr ⟨_,h1,h2⟩)
   refine⟨ne_of_lt hlt,⟨v,hc.keeps keep⟩,λz hk' hl'=>?_,λz hz hr=>absurd (Ba hz▸hx) hr⟩
   rcases ownCase hk' hl' with⟨_,hge⟩|⟨h1',h2',_⟩
   ·exact absurd hlt (not_lt.mpr (Nat.le_of_succ_le hge))
   ·exact c3 z h1' h2'
 ·rcases X.mem hl with⟨h,hn⟩|⟨x,rfl,hx,hl'⟩
  ·have:=X.newk s.heap.objs.size _ hn rfl
   rw[hk]at this;cases this
  ·rcases X.kinds s.heap.objs.size x hx with⟨_,h⟩|⟨h,_⟩
   ·rw[hk]at h;cases h
   ·refine Af (F.freeIn _ c h hl') λo e=>?_
    refine⟨o,e.imp id λe=>?_⟩
    refine Hi (F.far c o e) λf1 f2 f3 f4 _=>?_
    dsimp only
    rw[if_pos ⟨f2,f3,f4,ny _ _ (by assumption)⟩];exact f1
 ·dsimp only at e
  split at e
  ·rename_i hh
   exact⟨keep b o e,hh.1,hh.2.1,hh.2.2.1,ne_of_lt (Heap.lt_size e)⟩
  ·cases e
end
section
variable {α β γ δ:Type}{Γ:W}{K:Cw}{A:Around}{env:Env}{G G':Gh}{ι ι':List Addr}{σ:St}{s s':Shared}{scope:Scope}{cap:List String}{cs:List (Str×Addr)}
noncomputable def Iz (Q:St->Prop):FD->St->Prop:=λf σ=>match f with| .next=>Q σ|_=>True
noncomputable def jX (Γ:W) (A:Around) (env:Env) (J:List Addr->Prop) (t:Sem Unit) (T:St->(St->Prop)->Prop):Prop:=
 ∀K G ι σ s Q,Aa Γ K env G ι σ s->J ι->T σ Q->wpAny (model Γ.prog Γ.w) A t (As Γ K env UR G ι λ_ σ=>Q σ) (λ_ _=>False) s
noncomputable def I8 (k:Nat) (D:Addr):List Addr->Prop:=λι=>ι[k]? =some D
theorem I8.up {k:Nat}{D:Addr}(h:I8 k D ι)(p:A1 ι ι'):I8 k D ι':=p _ _ h
noncomputable def Cd (ifs:List Expr) (env:Env):Sem Bool:=forIn ifs true λc r=>if r=true then do let ok<-isTrue c env (eval c env);pure (ForInStep.yield ok)else pure (ForInStep.yield r)
abbrev kG (Γ:W)(A:Around)(env:Env)(ifs:List Expr)(T:St->(Bool->St->Prop)->Prop):=Tr Γ A env BR (Cd ifs env) T
theorem iT:kG Γ A env [] (tU true):=λK G ι σ s Q F q=>wpAny_pure (As.mk' (R:=BR) rfl F q)
theorem mI {c:Expr}{T:St->(Bool->St->Prop)->Prop}(h:Xf Γ A env c T):kG Γ A env [c] T:=λK G ι σ s Q F q=>by
 unfold Cd
 rw[List.forIn_cons]
 simp only[if_true]
 refine wpAny_bind (wpAny_bind (wpAny_mono (h K G ι σ s Q F q) (λb s' p=>wpAny_pure ?_) λ_ _ x=>x))
 simp only[List.forIn_nil]
 exact wpAny_pure p
theorem I4 (H:Ev Γ A env){elt tgt:Expr}{gens:List Comprehension}{cpos:Pos}{depth:Nat}{it acc:Value}{p:Pos}{inner:Sem Unit}{tests:Sem Bool}{J:List Addr->Prop}{X:Addr->Prop}{C:St->Prop}{P:Gh->List Addr->List D->(Addr->Prop)->Shared->Prop}{n₀ gz:Nat}{Ta:D->St->(St->Prop)->Prop}{Tt:St->(Bool->St->Prop)->Prop}{Tin:St->(St->Prop)->Prop}{items:List D}{Q:St->Prop}
  (heq:compTurn (.ListComp elt gens scope cpos) depth it acc env=(standAt p>>=λ_=>pyNext it>>=λr=>match r with|none=>pure (.done .next)|some v=>letOwnedTupleGo tgt it v>>=λ_=>assign tgt env v>>=λ_=>tests>>=λok=>if ok=true then(inner>>=λ_=>again (.compLoop (.ListComp elt gens scope cpos) depth it acc env))else again (.compLoop (.ListComp elt gens scope cpos) depth it acc env)))
  (I:I9 Γ A env n₀ gz it C P)(ha:Sf Γ A env tgt Ta)(ht:Tr Γ A env BR tests Tt)(hin:jX Γ A env J inner Tin)(hJ:∀{ι ι'},J ι->A1 ι ι'->J ι')(hj:J ι)(F:Aa Γ K env G ι σ s)(hX:Bw Γ K env G ι X)(hg:K.gens.size<=gz)(hP:P G ι items X s)(hn:ι.length<=n₀)
  (q:Do C (λx σ Q=>Ta x σ λσ1=>Tt σ1 λok σ1=>if ok=true then Tin σ1 (Q .next)else Q .next σ1) n₀ items σ (Iz Q)):
  codeAny (model Γ.prog Γ.w) A (.compLoop (.ListComp elt gens scope cpos) depth it acc env) (λr s'=>r=.ok .next/\∃G' ι' σ',G.le G'/\A1 ι ι'/\Aa Γ K env G' ι' σ' s'/\Q σ') s:=by
 refine codeAny_loop rfl (λn s'=>∃G' ι' σ' r X,n=r.length/\G.le G'/\A1 ι ι'/\Aa Γ K env G' ι' σ' s'/\Bw Γ K env G' ι' X/\P G' ι' r X s'/\Do C (λx σ Q=>Ta x σ λσ1=>Tt σ1 λok σ1=>if ok=true then Tin σ1 (Q .next)else Q .next σ1) n₀ r σ' (Iz Q))
  (λn s1 h=>?_) _ ⟨G,ι,σ,items,X,rfl,Gh.le.refl _,A1.refl _,F,hX,hP,q⟩
 refine aN h λG1 ι1 σ1 r X Y l1 p1 F1 X1 P1 q1=>?_
 try clear h
 subst Y
 show wpAny _ _ ((compTurn (.ListComp elt gens scope cpos) depth it acc env).onRaise (λx=>do noteFrame x env;theTreesLotGoes x)) _ _ s1
 refine wpAny_noted ?_
 rw[heq]
 refine wpAny_bind (wpAny_standAt (wpAny_bind ?_))
 cases r with
 |nil=>
  refine wpAny_mono (I.done F1 X1 hg q1.1 P1) (λres s2 h=>?_) λ_ _ x=>x.elim
  refine Ae h λV F2=>?_
  try clear h
  subst V
  exact wpAny_pure ⟨rfl,G1,ι1,σ1,l1,p1,F2,q1.2⟩
 |cons x r=>
  refine wpAny_mono (I.item F1 X1 hg q1.1 P1) (λres s2 h=>?_) λ_ _ x=>x.elim
  refine Hg h λv G2 X U l2 X2 F2 r2 P2=>?_
  try clear h
  subst U
  refine wpAny_bind (wpAny_mono (I.own P2 tgt v (λ_ s'=>s'=s2) rfl) (λ_ s' h=>?_) λ_ _ x=>x.elim)
  subst h
  have F2':=F2.cover X2
  refine wpAny_bind (wpAny_mono (ha _ G2 ι1 σ1 _ _ x v F2' r2 q1.2) (λ_ s3 h=>?_) λ_ _ x=>x.elim)
  refine Cs h λG3 ι3 _ σ3 l3 p3 _ F3 q3=>?_
  try clear h
  refine wpAny_bind (wpAny_mono (ht _ G3 ι3 σ3 s3 _ F3 q3) (λok s3' h=>?_) λ_ _ x=>x.elim)
  refine Cs h λG3' ι3' ok' σ3' l3' p3' r3' F3' q3'=>?_
  try clear h
  cases r3'
  have fin:∀G4 ι4 σ4 s4,G3'.le G4->A1 ι3' ι4->Aa Γ (K.plus X s') env G4 ι4 σ4 s4->(∃σ6,Ep n₀ σ4 σ6/\Do C (λx σ Q=>Ta x σ λσ1=>Tt σ1 λok σ1=>if ok=true then Tin σ1 (Q .next)else Q .next σ1) n₀ r σ6 (Iz Q))->
    ∃m,m<(x::r).length/\∃G' ι' σ' r X,m=r.length/\G.le G'/\A1 ι ι'/\Aa Γ K env G' ι' σ' s4/\Bw Γ K env G' ι' X/\P G' ι' r X s4/\Do C (λx σ Q=>Ta x σ λσ1=>Tt σ1 λok σ1=>if ok=true then Tin σ1 (Q .next)else Q .next σ1) n₀ r σ' (Iz Q):=by
   intro G4 ι4 σ4 s4 l4 p4 F4 Z
   refine Ac Z λσ6 hw q6=>?_
   clear Z
   refine B7 (F2.uncover X2 (I.inn P2) F4 ((l3.trans l3').trans l4)) λF5 X5 k5 g5=>?_
   refine Dt (F5.weak H.ok hw) λG6 ι6 l6 F6 p6 x6=>?_
   refine⟨r.length,lt_succ_self _,G6,ι6,σ6,r,X,rfl,(((l1.trans l2).trans (l3.trans l3')).trans l4).trans l6,p6 ι hn (((p1.trans p3).trans p3').trans p4),F6,λa xa=>?_,?_,q6⟩
   ·refine B7 (X5 a xa) λy1 y2 y3 y4=>?_
    exact⟨(x6 a y1 y2).1,(x6 a y1 y2).2,y3,y4⟩
   ·exact I.keep P2 k5 g5 (((l3.trans l3').trans l4).trans l6) λκ hk h=>p6 κ hk (((h.trans p3).trans p3').trans p4)
  cases ok with
  |true=>
   rw[if_pos rfl]at q3'⊢
   refine wpAny_bind (wpAny_mono (hin _ G3' ι3' σ3' s3' (λσ2=>∃σ6,Ep n₀ σ2 σ6/\Do C (λx σ Q=>Ta x σ λσ1=>Tt σ1 λok σ1=>if ok=true then Tin σ1 (Q .next)else Q .next σ1) n₀ r σ6 (Iz Q)) F3' (hJ hj ((p1.trans p3).trans p3')) q3') (λf s4 h=>?_) λ_ _ x=>x.elim)
   refine Cs h λG4 ι4 fd σ4 l4 p4 r4 F4 q4=>?_
   try clear h
   exact wpAny_pure ⟨rfl,fin G4 ι4 σ4 s4 l4 p4 F4 q4⟩
  |false=>
   rw[if_neg Bool.false_ne_true]at q3'⊢
   exact wpAny_pure ⟨rfl,fin G3' ι3' σ3' s3' (Gh.le.refl _) (A1.refl _) F3' q3'⟩
theorem Hl {elt:Expr}{gens:List Comprehension}{cpos:Pos}{depth:Nat}{it acc:Value}{g:Comprehension}{R:Result->Shared->Prop}(hcl:(clausesOf (.ListComp elt gens scope cpos))[depth]? =some g)(hasy:g.is_async=0)
  (hself:∀(Q:Value->Shared->Prop),Q it s->wpAny (model Γ.prog Γ.w) A (pyIter it) Q (λ_ _=>False) s)(h:codeAny (model Γ.prog Γ.w) A (.compLoop (.ListComp elt gens scope cpos) depth it acc env) R s):
  codeAny (model Γ.prog Γ.w) A (.compStart (.ListComp elt gens scope cpos) depth it acc env) R s:=by
 refine codeAny_of_tree ?_
 show wpAny _ _ ((compStart (.ListComp elt gens scope cpos) depth it acc env).onRaise (λx=>do noteFrame x env;standAt theWindowsPlace)) _ _ s
 refine wpAny_notedAt ?_
 unfold compStart
 rw[hcl]
 have e0:((some g).elim false λx=>x.is_async != 0)=false:=by simp[hasy]
 rw[e0]
 show wpAny _ _ (ask>>=_) _ _ s
 refine wpAny_bind (wpAny_askSetting (wpAny_ite ?_))
 split
 ·first
   |exact wpAny_bind (wpAny_pure (wpAny_pure (And.intro rfl h)))
   |exact wpAny_pure (And.intro rfl h)
 ·have h2:=wpAny_mono (hself (λit' s'=>it'=it/\s'=s) ⟨rfl,rfl⟩) (λit' s' h'=>h') (E':=notedBy (model Γ.prog Γ.w) A env λx s'=>R (.error x) s') λ_ _ x=>x.elim
  first
   |exact wpAny_bind (wpAny_rule (wpAny_bind (wpAny_standAt (wpAny_bind (wpAny_mono h2 (λit' s' h'=>by refine Ae h' λZ Y=>?_;try clear h';subst Z;subst Y;exact wpAny_pure (And.intro rfl h)) λ_ _ x=>x)))))
   |(refine wpAny_bind (wpAny_rule ?_);show wpAny _ _ (standAt g.iter.pos>>=_) _ _ s;exact wpAny_bind (wpAny_standAt (wpAny_bind (wpAny_mono h2 (λit' s' h'=>by obtain⟨rfl,rfl⟩:=h';exact wpAny_pure (And.intro rfl h)) λ_ _ x=>x))))
noncomputable def Ea (elt:Expr) (acc:Value) (env:Env):Sem Unit:=do let _<-call (.builtin "list.append") [acc,<-eval elt env]
noncomputable def Ru (T:TT) (k:Nat):St->(St->Prop)->Prop:=λσ Q=>T σ λd σ=>∃l,σ.own[k]? =some l/\l.length<=sizeLine/\Q {σ with own:=σ.own.set k (l++[d])}
theorem bG {elt:Expr}{T:TT}(h:Bm Γ A env elt T)(k:Nat)(D:Addr):jX Γ A env (I8 k D) (Ea elt (.ref D) env) (Ru T k):=λK G ι σ s Q F hj q=>
 wpAny_bind (A8 h F q λG1 ι1 d v σ1 s1 l1 p1 r1 F1 Z=>Ay Z λl h1 h2 q1=>
  wpAny_bind (wpAny_mono (Ki (Q:=λ_ σ=>Q σ) F1 (hj.up p1) h1 r1 h2 q1) (λ_ s' h2_=>by refine Cs h2_ λG' ι' b σ' a1 a2 a3 a4 a5=>?_;try clear h2_;exact wpAny_pure ⟨G',ι',(),σ',l1.trans a1,p1.trans a2,trivial,a4,a5⟩) λ_ _ x=>x))
noncomputable def I3 (e:Expr) (iter:Expr) (depth:Nat) (acc:Value) (env:Env):Sem Unit:=do
 let x<-eval iter env
 standAt iter.pos
 let x<-foldedSetIterable iter env x
 let _<-runOwn (.compStart e (depth+1) (<-holding [x] (pyIter x)) acc env) env
noncomputable def Zj (Ti:TT) (Ta:D->St->(St->Prop)->Prop) (Tt:St->(Bool->St->Prop)->Prop) (Tin:Nat->St->(St->Prop)->Prop) (k:Nat):St->(St->Prop)->Prop:=λσ Q=>
 Ti σ λd σ1=>Fr d σ1 λitems C=>Do C (λx σ Q=>Ta x σ λσ1=>Tt σ1 λok σ1=>if ok=true then Tin k σ1 (Q .next)else Q .next σ1) σ1.own.length items σ1 (Iz Q)
theorem nV (H:Ev Γ A env){elt tgt iter:Expr}{gens:List Comprehension}{g:Comprehension}{cpos p:Pos}{depth:Nat}{inner:Value->Sem Unit}{tests:Sem Bool}{Ti:TT}{Ta:D->St->(St->Prop)->Prop}{Tt:St->(Bool->St->Prop)->Prop}{Tin:Nat->St->(St->Prop)->Prop}
  (hi:Bm Γ A env iter Ti)(ha:Sf Γ A env tgt Ta)(ht:Tr Γ A env BR tests Tt)(hin:∀k D,jX Γ A env (I8 k D) (inner (.ref D)) (Tin k))(hs:∀x,foldedSetIterable iter env x=pure x)
  (hcl:(clausesOf (.ListComp elt gens scope cpos))[depth+1]? =some g)(hasy:g.is_async=0)
  (heq:∀it acc,compTurn (.ListComp elt gens scope cpos) (depth+1) it acc env=(standAt p>>=λ_=>pyNext it>>=λr=>match r with|none=>pure (.done .next)|some v=>letOwnedTupleGo tgt it v>>=λ_=>assign tgt env v>>=λ_=>tests>>=λok=>if ok=true then(inner acc>>=λ_=>again (.compLoop (.ListComp elt gens scope cpos) (depth+1) it acc env))else again (.compLoop (.ListComp elt gens scope cpos) (depth+1) it acc env)))
  (k:Nat)(D:Addr):jX Γ A env (I8 k D) (I3 (.ListComp elt gens scope cpos) iter depth (.ref D) env) (Zj Ti Ta Tt Tin k):=λK G ι σ s Q F hj q=>by
 refine wpAny_bind (A8 hi F q λG1 ι1 d v σ1 s1 l1 p1 r1 F1 q1=>wpAny_bind (wpAny_standAt (wpAny_bind (wpAny_of_eq (hs v) (wpAny_bind (wpAny_holding (wpAny_mono (Kr H F1 r1 q1) (λit s2 h=>?_) λ_ _ x=>x)))))))
 refine N3 h λX C P items I _ _ _ _ F2 X2 P2 q2=>?_
 try clear h
 refine wpAny_bind ?_
 unfold runOwn
 refine wpAny_onRaise (wpAny_run (codeAny_mono (Hl hcl hasy (λQ q=>(I env K.gens.size H).self P2 Q q) (I4 H (heq it _) (I env K.gens.size H) ha ht (hin k D) (λh p=>h.up p) (hj.up p1) F2 X2 (le_refl _) P2 (le_refl _) (by rw[F1.store.len];exact q2))) λr s' h=>?_))
 refine Ae h λY Z=>?_
 try clear h
 subst Y
 refine Ds Z λG' ι' σ' a1 a2 a3 a4=>?_
 clear Z
 exact wpAny_pure ⟨G',ι',(),σ',l1.trans a1,p1.trans a2,trivial,a3,a4⟩
end
section
variable {α β γ δ:Type}{Γ:W}{K:Cw}{A:Around}{env:Env}{G G':Gh}{ι ι':List Addr}{σ:St}{s s':Shared}{scope:Scope}{cap:List String}{cs:List (Str×Addr)}
theorem I9.mono {n n' gz:Nat}{it:Value}{C:St->Prop}{P:Gh->List Addr->List D->(Addr->Prop)->Shared->Prop}(h:n<=n')(I:I9 Γ A env n gz it C P):I9 Γ A env n' gz it C P where
 inn:=I.inn
 keep:=λp k g l q=>I.keep p k g l λκ hk=>q κ (le_trans hk h)
 item:=I.item
 done:=I.done
 own:=I.own
 self:=I.self
noncomputable def A7 (env:Env) (cap:List String):List (Str×Addr):=cap.map λx=>(ofString x,(env.cells.lookup (ofString x)).getD 0)
theorem Tx:(A7 env cap).map (·.1)=cap.map ofString:=by unfold A7;rw[map_map];rfl
theorem eA (h:∀x∈cap,(env.cells.lookup (ofString x)).isSome=true):∀p∈A7 env cap,env.cells.lookup p.1=some p.2:=λp hp=>by
 refine Ac (mem_map.mp hp) λx hx Z=>?_
 subst Z
 refine Af (Option.isSome_iff_exists.mp (h x hx)) λc hc=>?_
 show env.cells.lookup (ofString x)=some ((env.cells.lookup (ofString x)).getD 0)
 rw[hc];rfl
theorem dC (h:((scope.names.filter λp=>p.2== .cell).all λp=> !(cap.map ofString).contains p.1)=true):∀x∈cap,(ofString x,NameKind.cell)∉scope.names:=λx hx hm=>by
 have:=all_eq_true.mp h (ofString x,.cell) (mem_filter.mpr ⟨hm,rfl⟩)
 simp at this
 exact this x hx rfl
noncomputable def L4 (Ti:TT) (Ta:D->St->(St->Prop)->Prop) (Tt:St->(Bool->St->Prop)->Prop) (Tin:Nat->St->(St->Prop)->Prop) (cap:List String):TT:=λσ Q=>
 Ti σ λd σ1=>Fr d σ1 λitems C=>Do C (λx σ Q=>Ta x σ λσ'=>Tt σ' λok σ'=>if ok=true then Tin σ1.own.length σ' (Q .next)else Q .next σ') (σ1.own.length+1) items
  ⟨seen cap σ1,σ1.own++[[]],cap⟩ (Iz λσe=>Q (.obj σ1.own.length) {σ1 with own:=σe.own})
noncomputable def oB (Γ:W) (A:Around) (use:Option (Value->Sem Unit)) (X':Value->Shared->Prop) (D C:Addr) (s':Shared):Prop:=match use with
 |none=>∀h',Heap.SameBut C s'.heap h'->X' (.ref D) {s' with heap:=h'}
 |some u=>wpAny (model Γ.prog Γ.w) A (u (.ref D)) (λ_ s''=>∃m,s''.heap.Ns C m/\∀h',Heap.SameBut C s''.heap h'->X' .none {s'' with heap:=h'}) (λ_ _=>False) s'
theorem Vh (H:Ev Γ A env){elt tgt iter:Expr}{ifs:List Expr}{rest:List Comprehension}{pos p:Pos}{use:Option (Value->Sem Unit)}{inner:Addr->Value->Sem Unit}{tests:Addr->Sem Bool}{Ti:TT}{Ta:D->St->(St->Prop)->Prop}{Tt:St->(Bool->St->Prop)->Prop}{Tin:Nat->St->(St->Prop)->Prop}{Q:D->St->Prop}{X':Value->Shared->Prop}
  (X:CE env scope cap cs)(hi:Bm Γ A env iter Ti)(ha:∀C,Sf Γ A (Ad scope cs env C) tgt Ta)(ht:∀C,Tr Γ A (Ad scope cs env C) BR (tests C) Tt)
  (hin:∀C k D,jX Γ A (Ad scope cs env C) (I8 k D) (inner C (.ref D)) (Tin k))(hs:∀x,foldedSetIterable iter env x=pure x)
  (heq:∀C it acc,compTurn (.ListComp elt (⟨tgt,iter,ifs,0⟩::rest) scope pos) 0 it acc (Ad scope cs env C)=(standAt p>>=λ_=>pyNext it>>=λr=>match r with|none=>pure (.done .next)|some v=>letOwnedTupleGo tgt it v>>=λ_=>assign tgt (Ad scope cs env C) v>>=λ_=>tests C>>=λok=>if ok=true then(inner C acc>>=λ_=>again (.compLoop (.ListComp elt (⟨tgt,iter,ifs,0⟩::rest) scope pos) 0 it acc (Ad scope cs env C)))else again (.compLoop (.ListComp elt (⟨tgt,iter,ifs,0⟩::rest) scope pos) 0 it acc (Ad scope cs env C))))
  (F:Aa Γ K env G ι σ s)(q:L4 Ti Ta Tt Tin cap σ Q)
  (fin:∀G' ι' σ' D C s',G.le G'->A1 ι ι'->(∃d,Bb G' ι' d (.ref D)/\Q d σ')->C∉ι'->G' C=none->(∀a,Jz env a->a≠C)->C∉Γ.tabs.map (·.2)->K.old C=none->(∃m,s'.heap.Ns C m)->Aa Γ K env G' ι' σ' s'->
   oB Γ A use X' D C s'):
  wpAny (model Γ.prog Γ.w) A (comprehension (.ListComp elt (⟨tgt,iter,ifs,0⟩::rest) scope pos) scope env (firstIterPos (⟨tgt,iter,ifs,0⟩::rest) pos) (newList []) false (eval iter env) use) X' (λ_ _=>False) s:=by
 unfold comprehension
 rw[X.clos]
 have key:∀(E:Value->Shared->Prop),wpAny (model Γ.prog Γ.w) A (eval iter env) (λx s₁=>wpAny (model Γ.prog Γ.w) A (pyIter x) (λit s₂=>wpAny (model Γ.prog Γ.w) A (newList []) (λacc s₃=>
   wpAny (model Γ.prog Γ.w) A (newFunctionEnv scope env.globals cs [] env.qual none .none (some env)) (λcenv s₄=>∃C,cenv=newEnv scope C env.globals (cellsFrom (C+1) scope.names cs) env.qual none .none (some env) builtinsNs/\
    codeAny (model Γ.prog Γ.w) A (.compStart (.ListComp elt (⟨tgt,iter,ifs,0⟩::rest) scope pos) 0 it acc (Ad scope cs env C)) (λr s'=>r=.ok .next/\∃D,acc=.ref D/\(∃m,s'.heap.Ns C m)/\oB Γ A use X' D C s') s₄) E s₃) E s₂) E s₁) E s:=by
  intro E
  refine wpAny_mono (A8 (X:=λx s₁=>_) hi F q λG1 ι1 d v σ1 s1 l1 p1 r1 F1 q1=>?_) (λ_ _ h=>h) λ_ _ x=>x.elim
  refine wpAny_mono (Kr H F1 r1 q1) (λit s2 h=>?_) λ_ _ x=>x.elim
  refine N3 h λY C0 P items I yf kp eos egens F2 Y2 P2 q2=>?_
  try clear h
  refine wpAny_newObj_type (hd:=by size_fits) ?_
  have F3:=F2.newOwn (ds:=[]) (vs:=[]) rfl 0 s2.toks F2.tk
  have ylt:∀a,Y a->a<s2.heap.objs.size:=λa ya=>by
   cases e:s2.heap.get? a with
   |none=>exact absurd e ((I env 0 H).inn P2 a ya)
   |some o=>exact Heap.lt_size e
  have Y3:Bw Γ K env G1 (ι1++[s2.heap.objs.size]) Y:=λa ya=>by
   refine A0 (Y2 a ya) λy1 y2 y3=>?_
   refine⟨y1,λhm=>?_,y3⟩
   rcases mem_append.mp hm with h|h
   ·exact y2 h
   ·rw[mem_singleton]at h;exact ne_of_lt (ylt a ya) h
  have P3:=(I env 0 H).keep (s':={s2 with heap:=s2.heap.push {cls:=.type "list",data:=.seq ([]:List Value).toArray}}) P2 (λa o _ e=>Heap.get?_push_of_some _ e) (A5.refl _) (Gh.le.refl G1) (λκ hk h=>h.trans (A1.append ι1 [s2.heap.objs.size]))
  refine Lv (W9 X F3 Y3 ((I env 0 H).inn P3)) λK' k1 k2 k3 Y4 F4=>?_
  refine Jc ⟨_,rfl,?_⟩
  have hlen:ι1.length=σ1.own.length:=F1.store.len
  have H':Ev Γ A (Ad scope cs env (s2.heap.push {cls:=.type "list",data:=.seq ([]:List Value).toArray}).objs.size):=⟨H.ok,X.kind,H.glob,H.bui,H.handled,H.depth,H.units⟩
  have I':=I _ K'.gens.size H'
  have P4:=I'.keep (s':={s2 with heap:=pushCells ((s2.heap.push {cls:=.type "list",data:=.seq ([]:List Value).toArray}).push {cls:=.type "dict",data:=.dict #[]}) scope.names}) P3 (λa o _ e=>pushCells_keeps _ _ _ _ (Heap.get?_push_of_some _ e)) (A5.refl _) (Gh.le.refl G1) (λκ hk h=>h)
  refine Hl (g:=⟨tgt,iter,ifs,0⟩) rfl rfl (λQ q=>I'.self P4 Q q) (codeAny_mono (I4 H' (heq _ it _) (I'.mono (le_succ _)) (ha _) (ht _) (hin _ ι1.length s2.heap.objs.size) (λh p=>h.up p)
   (by show(ι1++[s2.heap.objs.size])[ι1.length]? =some _;rw[List.getElem?_append_right (le_refl _),sub_self];rfl) F4 Y4 (le_refl _) P4 (by rw[length_append];exact le_refl _) (by rw[hlen];exact q2)) λr s' h=>?_)
  refine Ae h λz0 Z=>?_
  try clear h
  subst z0
  refine Ds Z λG' ι' σe l2 p2 F' q'=>?_
  clear Z
  refine⟨rfl,s2.heap.objs.size,rfl,?_,?_⟩
  ·refine Ac F'.ns λm hm _=>?_;exact⟨m,hm⟩
  have pp:A1 ι1 ι':=(A1.append ι1 [s2.heap.objs.size]).trans p2
  have R:gI Γ G1 ι1 s1 G' ι' σe.own s':=⟨l2,pp,F'.store,λb o e h1 h2 h3=>by
   have e2:=kp b o e
   have ny:¬Y b:=λy=>by rw[yf b y]at e;cases e
   have hn:b∉ι1++[s2.heap.objs.size]:=λhm=>by
    rcases mem_append.mp hm with h|h
    ·exact h2 h
    ·rw[mem_singleton]at h;exact ne_of_lt (Heap.lt_size e2) h
   refine B7 (F'.far b o (k3 b o (Heap.get?_push_of_some _ e2) h1 hn h3 ny)) λf1 f2 f3 _=>?_
   exact⟨f1,f2,f3⟩,F'.os.trans (k1.trans eos),by have:=F'.gens;rw[k2]at this;rw[<-egens];exact this⟩
  have Fo:=F1.after R F'.tk
  refine fin G' ι' _ _ _ s' (l1.trans l2) (p1.trans pp) ⟨.obj σ1.own.length,⟨s2.heap.objs.size,p2 _ _ (by rw[<-hlen,List.getElem?_append_right (le_refl _),sub_self];rfl),rfl⟩,q'⟩ (F'.away _ (.inl rfl)).1 F'.loc (λa ha=>?_) (F'.away _ (.inl rfl)).2 ?_ ?_ Fo
  ·exact ne_of_lt (F3.own_lt ha)
  ·cases e:K.old (s2.heap.push {cls:=.type "list",data:=.seq ([]:List Value).toArray}).objs.size with
   |none=>rfl
   |some o=>exact absurd (Heap.lt_size (F3.far _ _ e).1) (lt_irrefl _)
  ·refine Ac F'.ns λm hm _=>?_;exact⟨m,hm⟩
 rw[show clausesOf (.ListComp elt (⟨tgt,iter,ifs,0⟩::rest) scope pos)=⟨tgt,iter,ifs,0⟩::rest from rfl]
 refine wpAny_bind (wpAny_mono (key _) (λx s₁ h₁=>wpAny_bind (wpAny_standAt (wpAny_bind (wpAny_of_eq (hs x) (wpAny_bind (wpAny_holding (wpAny_mono h₁ (λit s₂ h₂=>
  wpAny_standIf (wpAny_bind (wpAny_mono h₂ (λacc s₃ h₃=>wpAny_bind (wpAny_pure (wpAny_bind (wpAny_mono h₃ (λcenv s₄ h₄=>?_) λ_ _ h'=>h')))) λ_ _ h'=>h')))
   λ_ _ h'=>h'))))))) λ_ _ h'=>h')
 refine Ac h₄ λC z1 hc=>?_
 try clear h₄
 subst z1
 dsimp only
 have hv:∀x∈(scope.names.filter λx=>(x.2== .local||x.2== .cell)&&x.1 != (".0":Str)),x.2=.local->
   (Ad scope cs env C).kindOf x.1=some .local:=λx hx hl=>X.loc C x (mem_filter.mp hx).1 hl
 refine wpAny_holding (wpAny_bind (wpAny_attempt (wpAny_holding (wpAny_run (codeAny_mono hc λr s' hr=>?_)))))
 refine Ae hr λz2 V=>?_
 try clear hr
 subst z2
 refine Ay V λD z3 U hu=>?_
 clear V
 subst z3
 refine Af U λm hn=>?_
 clear U
 cases use with
 |none=>
  exact wpAny_bind (wpAny_holding (wpAny_comp_letGo (cenv:=Ad scope cs env C) X.kind _ s' m (λx hx hl=>hv x (mem_reverse.mp hx) hl) hn λh' m' _ hs'=>wpAny_pure (hu h' hs')))
 |some u=>
  refine wpAny_bind (wpAny_rule (wpAny_bind (wpAny_holding (wpAny_mono hu (λ_ s'' hr'=>?_) λ_ _ h'=>h'.elim))))
  refine Ac hr' λm hn z4=>?_
  try clear hr'
  revert z4
  intro hr'
  refine wpAny_bind (wpAny_comp_letGo (cenv:=Ad scope cs env C) X.kind _ s'' m (λx hx hl=>?_) hn λh' m' _ hs'=>wpAny_pure (hr' h' hs'))
  rcases mem_append.mp hx with h1|h1
  ·exact hv x (mem_reverse.mp (mem_of_mem_drop h1)) hl
  ·exact hv x (mem_reverse.mp (List.mem_of_mem_take h1)) hl
theorem cI (H:Ev Γ A env){x:String}{d:D}{v:Value}{Q:Unit->Shared->Prop}{E:Value->Shared->Prop}(hk:qW env σ.ro x)(F:Aa Γ K env G ι σ s)(r:Bb G ι d v)
  (k:∀s',Aa Γ K env G ι (σ.set x d) s'->(∀b o,¬Jz env b->s.heap.get? b=some o->s'.heap.get? b=some o)->Q () s'):wpAny (model Γ.prog Γ.w) A (storeName env (ofString x) v) Q E s:=by
 rcases hk with hk|⟨hk,⟨c,hc⟩,hro⟩
 ·refine Ac F.ns λm hm q=>?_
  exact wpAny_storeName_local hk hm (λh' hn hs=>k _ (F.setLocal hk r ⟨m,hm,q,rfl⟩ hn hs _) λb o hb e=>(hs.2 b λz=>hb (.inl z)).trans e) (by rw[H.kind];rfl)
 ·refine A0 (F.cell _ c hk hc) λc1 Z c3=>?_
  refine Af Z λv₀ hv=>?_
  clear Z
  exact wpAny_storeName_cell H.kind hk hc hv (λh' hn hs=>k _ (F.setCell hk hc hro r hn hs) λb o hb e=>(hs.2 b λz=>hb (.inr ⟨_,hk,z▸hc⟩)).trans e)
theorem lM {G':Gh}{ι':List Addr}{σ':St}{C:Addr}(F:Aa Γ K env G' ι' σ' s')(h1:C∉ι')(h2:G' C=none)(h3:∀a,Jz env a->a≠C)(h4:C∉Γ.tabs.map (·.2))(h5:K.old C=none){h':Heap}(hs:Heap.SameBut C s'.heap h'):
  Aa Γ K env G' ι' σ' {s' with heap:=h'}:=F.ext (ht:=F.tk) λa o hh e=>(hs.2 a λz=>by
   subst z
   rcases hh with h|h|h|h|h
   ·rw[h2]at h;cases h
   ·exact h1 h
   ·exact h4 h
   ·exact h3 _ h rfl
   ·rw[h5]at h;cases h).trans e
theorem fC (H:Ev Γ A env){elt tgt iter:Expr}{ifs:List Expr}{rest:List Comprehension}{pos p:Pos}{inner:Addr->Value->Sem Unit}{tests:Addr->Sem Bool}{Ti:TT}{Ta:D->St->(St->Prop)->Prop}{Tt:St->(Bool->St->Prop)->Prop}{Tin:Nat->St->(St->Prop)->Prop}
  (X:CE env scope cap cs)(hi:Bm Γ A env iter Ti)(ha:∀C,Sf Γ A (Ad scope cs env C) tgt Ta)(ht:∀C,Tr Γ A (Ad scope cs env C) BR (tests C) Tt)
  (hin:∀C k D,jX Γ A (Ad scope cs env C) (I8 k D) (inner C (.ref D)) (Tin k))(hs:∀x,foldedSetIterable iter env x=pure x)
  (heq:∀C it acc,compTurn (.ListComp elt (⟨tgt,iter,ifs,0⟩::rest) scope pos) 0 it acc (Ad scope cs env C)=(standAt p>>=λ_=>pyNext it>>=λr=>match r with|none=>pure (.done .next)|some v=>letOwnedTupleGo tgt it v>>=λ_=>assign tgt (Ad scope cs env C) v>>=λ_=>tests C>>=λok=>if ok=true then(inner C acc>>=λ_=>again (.compLoop (.ListComp elt (⟨tgt,iter,ifs,0⟩::rest) scope pos) 0 it acc (Ad scope cs env C)))else again (.compLoop (.ListComp elt (⟨tgt,iter,ifs,0⟩::rest) scope pos) 0 it acc (Ad scope cs env C)))):
  Bm Γ A env (.ListComp elt (⟨tgt,iter,ifs,0⟩::rest) scope pos) (L4 Ti Ta Tt Tin cap):=λK G ι σ s Q F q=>by
 rw[eval_ListComp]
 exact Vh (use:=none) H X hi ha ht hin hs heq F q λG' ι' σ' D C s' le pr h8_ h1 h2 h3 h4 h5 _ F' h' hb=>by refine Ac h8_ λd rd hq=>?_;try clear h8_;exact⟨G',ι',d,σ',le,pr,rd,lM F' h1 h2 h3 h4 h5 hb,hq⟩
theorem kL (H:Ev Γ A env){x:String}{elt tgt iter:Expr}{ifs:List Expr}{rest:List Comprehension}{pos p p1 p2:Pos}{inner:Addr->Value->Sem Unit}{tests:Addr->Sem Bool}{Ti:TT}{Ta:D->St->(St->Prop)->Prop}{Tt:St->(Bool->St->Prop)->Prop}{Tin:Nat->St->(St->Prop)->Prop}{c:Bool}(hk:Kd env x c)
  (hsw:swapsWith (.ListComp elt (⟨tgt,iter,ifs,0⟩::rest) scope pos) (some (.Name (ofString x) p1)) p2.line env=pure true)
  (X:CE env scope cap cs)(hi:Bm Γ A env iter Ti)(ha:∀C,Sf Γ A (Ad scope cs env C) tgt Ta)(ht:∀C,Tr Γ A (Ad scope cs env C) BR (tests C) Tt)
  (hin:∀C k D,jX Γ A (Ad scope cs env C) (I8 k D) (inner C (.ref D)) (Tin k))(hs:∀x,foldedSetIterable iter env x=pure x)
  (heq:∀C it acc,compTurn (.ListComp elt (⟨tgt,iter,ifs,0⟩::rest) scope pos) 0 it acc (Ad scope cs env C)=(standAt p>>=λ_=>pyNext it>>=λr=>match r with|none=>pure (.done .next)|some v=>letOwnedTupleGo tgt it v>>=λ_=>assign tgt (Ad scope cs env C) v>>=λ_=>tests C>>=λok=>if ok=true then(inner C acc>>=λ_=>again (.compLoop (.ListComp elt (⟨tgt,iter,ifs,0⟩::rest) scope pos) 0 it acc (Ad scope cs env C)))else again (.compLoop (.ListComp elt (⟨tgt,iter,ifs,0⟩::rest) scope pos) 0 it acc (Ad scope cs env C)))):
  Oc Γ A env (.Assign [.Name (ofString x) p1] (.ListComp elt (⟨tgt,iter,ifs,0⟩::rest) scope pos) p2) (λσ Q=>L4 Ti Ta Tt Tin cap σ λd σ=>eQ c x d σ (Q .next)):=λK G ι σ s Q F q=>by
 rw[exec_Assign_Name_used _ _ _ _ hsw]
 refine wpAny_bind (wpAny_standAt (wpAny_bind ?_))
 show wpAny _ _ (comprehension (.ListComp elt (⟨tgt,iter,ifs,0⟩::rest) scope pos) scope env (firstIterPos (⟨tgt,iter,ifs,0⟩::rest) pos) (newList []) false (eval iter env) (some (assign (.Name (ofString x) p1) env))>>=λ_=>pure ()) _ _ s
 refine wpAny_bind ?_
 refine Vh (use:=some (assign (.Name (ofString x) p1) env)) (X':=λ_ s'=>wpAny (model Γ.prog Γ.w) A (pure ()) (λ_ s'=>wpAny (model Γ.prog Γ.w) A (pure Flow.next) (As Γ K env FR G ι Q) (λ_ _=>False) s') (λ_ _=>False) s') H X hi ha ht hin hs heq F q λG' ι' σ' D C s' le pr Z h1 h2 h3 h4 h5 hns F'=>Ac Z λd rd hq=>?_
 refine Va hns λm o es ep ho hr=>?_
 try clear hns
 refine wpAny_assign_Name (cI H (hk.sto hq.1) F' rd λs'' F'' kp=>⟨m,⟨o,es,ep,kp C o (λhc=>h3 C hc rfl) ho,hr⟩,λh' hb=>?_⟩)
 exact wpAny_pure (wpAny_pure ⟨G',ι',.next,_,le,pr,rfl,lM F'' h1 h2 h3 h4 h5 hb,hq.2⟩)
theorem Dh (H:Ev Γ A env)(hk:scope.kind=.function)(C:Addr):Ev Γ A (Ad scope cs env C):=⟨H.ok,hk,H.glob,H.bui,H.handled,H.depth,H.units⟩
theorem Cv (H:Ev Γ A env){elt tgt iter:Expr}{ifs:List Expr}{pos:Pos}{Ti Te:TT}{Ta:D->St->(St->Prop)->Prop}{Tt:St->(Bool->St->Prop)->Prop}
  (X:CE env scope cap (A7 env cap))(hi:Bm Γ A env iter Ti)(ha:∀C,Ev Γ A (Ad scope (A7 env cap) env C)->Sf Γ A (Ad scope (A7 env cap) env C) tgt Ta)(ht:∀C,Ev Γ A (Ad scope (A7 env cap) env C)->kG Γ A (Ad scope (A7 env cap) env C) ifs Tt)
  (he:∀C,Ev Γ A (Ad scope (A7 env cap) env C)->Bm Γ A (Ad scope (A7 env cap) env C) elt Te)(hs:∀x,foldedSetIterable iter env x=pure x)
  (heq:∀C it acc,compTurn (.ListComp elt (⟨tgt,iter,ifs,0⟩::[]) scope pos) 0 it acc (Ad scope (A7 env cap) env C)=(standAt iter.pos>>=λ_=>pyNext it>>=λr=>match r with|none=>pure (.done .next)|some v=>letOwnedTupleGo tgt it v>>=λ_=>assign tgt (Ad scope (A7 env cap) env C) v>>=λ_=>Cd ifs (Ad scope (A7 env cap) env C)>>=λok=>if ok=true then(Ea elt acc (Ad scope (A7 env cap) env C)>>=λ_=>again (.compLoop (.ListComp elt (⟨tgt,iter,ifs,0⟩::[]) scope pos) 0 it acc (Ad scope (A7 env cap) env C)))else again (.compLoop (.ListComp elt (⟨tgt,iter,ifs,0⟩::[]) scope pos) 0 it acc (Ad scope (A7 env cap) env C)))):
  Bm Γ A env (.ListComp elt [⟨tgt,iter,ifs,0⟩] scope pos) (L4 Ti Ta Tt (Ru Te) cap):=
 fC (inner:=λC acc=>Ea elt acc (Ad scope (A7 env cap) env C)) (tests:=λC=>Cd ifs (Ad scope (A7 env cap) env C)) H X hi (λC=>ha C (Dh H X.kind C)) (λC=>ht C (Dh H X.kind C)) (λC k D=>bG (he C (Dh H X.kind C)) k D) hs heq
theorem Dn (H:Ev Γ A env){elt tgt iter:Expr}{ifs:List Expr}{pos:Pos}{Ti Te:TT}{Ta:D->St->(St->Prop)->Prop}{Tt:St->(Bool->St->Prop)->Prop}{x:String}{p1 p2:Pos}{c:Bool}(hk:Kd env x c)(hsw:swapsWith (.ListComp elt (⟨tgt,iter,ifs,0⟩::[]) scope pos) (some (.Name (ofString x) p1)) p2.line env=pure true)
  (X:CE env scope cap (A7 env cap))(hi:Bm Γ A env iter Ti)(ha:∀C,Ev Γ A (Ad scope (A7 env cap) env C)->Sf Γ A (Ad scope (A7 env cap) env C) tgt Ta)(ht:∀C,Ev Γ A (Ad scope (A7 env cap) env C)->kG Γ A (Ad scope (A7 env cap) env C) ifs Tt)
  (he:∀C,Ev Γ A (Ad scope (A7 env cap) env C)->Bm Γ A (Ad scope (A7 env cap) env C) elt Te)(hs:∀x,foldedSetIterable iter env x=pure x)
  (heq:∀C it acc,compTurn (.ListComp elt (⟨tgt,iter,ifs,0⟩::[]) scope pos) 0 it acc (Ad scope (A7 env cap) env C)=(standAt iter.pos>>=λ_=>pyNext it>>=λr=>match r with|none=>pure (.done .next)|some v=>letOwnedTupleGo tgt it v>>=λ_=>assign tgt (Ad scope (A7 env cap) env C) v>>=λ_=>Cd ifs (Ad scope (A7 env cap) env C)>>=λok=>if ok=true then(Ea elt acc (Ad scope (A7 env cap) env C)>>=λ_=>again (.compLoop (.ListComp elt (⟨tgt,iter,ifs,0⟩::[]) scope pos) 0 it acc (Ad scope (A7 env cap) env C)))else again (.compLoop (.ListComp elt (⟨tgt,iter,ifs,0⟩::[]) scope pos) 0 it acc (Ad scope (A7 env cap) env C)))):
  Oc Γ A env (.Assign [.Name (ofString x) p1] (.ListComp elt [⟨tgt,iter,ifs,0⟩] scope pos) p2) (λσ Q=>L4 Ti Ta Tt (Ru Te) cap σ λd σ=>eQ c x d σ (Q .next)):=
 kL (inner:=λC acc=>Ea elt acc (Ad scope (A7 env cap) env C)) (tests:=λC=>Cd ifs (Ad scope (A7 env cap) env C)) H hk hsw X hi (λC=>ha C (Dh H X.kind C)) (λC=>ht C (Dh H X.kind C)) (λC k D=>bG (he C (Dh H X.kind C)) k D) hs heq
theorem iI {e iter:Expr}{acc:Value}{k:Sem Fin}:(eval iter env>>=λx=>standAt iter.pos>>=λ_=>foldedSetIterable iter env x>>=λx=>holding [x] (pyIter x)>>=λl=>runOwn (.compStart e 1 l acc env) env>>=λ_=>k)=I3 e iter 0 acc env>>=λ_=>k:=by
 unfold I3;simp only[bind_assoc,pure_bind,zero_add]
theorem Jk (H:Ev Γ A env){elt tgt iter:Expr}{ifs:List Expr}{pos:Pos}{Ti Te:TT}{Ta:D->St->(St->Prop)->Prop}{Tt:St->(Bool->St->Prop)->Prop}{tgt2 iter2:Expr}{ifs2:List Expr}{Ti2:TT}{Ta2:D->St->(St->Prop)->Prop}{Tt2:St->(Bool->St->Prop)->Prop}
  (X:CE env scope cap (A7 env cap))(hi:Bm Γ A env iter Ti)(ha:∀C,Ev Γ A (Ad scope (A7 env cap) env C)->Sf Γ A (Ad scope (A7 env cap) env C) tgt Ta)(ht:∀C,Ev Γ A (Ad scope (A7 env cap) env C)->kG Γ A (Ad scope (A7 env cap) env C) ifs Tt)
  (he:∀C,Ev Γ A (Ad scope (A7 env cap) env C)->Bm Γ A (Ad scope (A7 env cap) env C) elt Te)(hs:∀x,foldedSetIterable iter env x=pure x)
  (hi2:∀C,Ev Γ A (Ad scope (A7 env cap) env C)->Bm Γ A (Ad scope (A7 env cap) env C) iter2 Ti2)(ha2:∀C,Ev Γ A (Ad scope (A7 env cap) env C)->Sf Γ A (Ad scope (A7 env cap) env C) tgt2 Ta2)(ht2:∀C,Ev Γ A (Ad scope (A7 env cap) env C)->kG Γ A (Ad scope (A7 env cap) env C) ifs2 Tt2)
  (hs2:∀C x,foldedSetIterable iter2 (Ad scope (A7 env cap) env C) x=pure x)
  (heq:∀C it acc,compTurn (.ListComp elt (⟨tgt,iter,ifs,0⟩::[⟨tgt2,iter2,ifs2,0⟩]) scope pos) 0 it acc (Ad scope (A7 env cap) env C)=(standAt iter.pos>>=λ_=>pyNext it>>=λr=>match r with|none=>pure (.done .next)|some v=>letOwnedTupleGo tgt it v>>=λ_=>assign tgt (Ad scope (A7 env cap) env C) v>>=λ_=>Cd ifs (Ad scope (A7 env cap) env C)>>=λok=>if ok=true then(eval iter2 (Ad scope (A7 env cap) env C)>>=λx=>standAt iter2.pos>>=λ_=>foldedSetIterable iter2 (Ad scope (A7 env cap) env C) x>>=λx=>holding [x] (pyIter x)>>=λl=>runOwn (.compStart (.ListComp elt (⟨tgt,iter,ifs,0⟩::[⟨tgt2,iter2,ifs2,0⟩]) scope pos) 1 l acc (Ad scope (A7 env cap) env C)) (Ad scope (A7 env cap) env C)>>=λ_=>again (.compLoop (.ListComp elt (⟨tgt,iter,ifs,0⟩::[⟨tgt2,iter2,ifs2,0⟩]) scope pos) 0 it acc (Ad scope (A7 env cap) env C)))else again (.compLoop (.ListComp elt (⟨tgt,iter,ifs,0⟩::[⟨tgt2,iter2,ifs2,0⟩]) scope pos) 0 it acc (Ad scope (A7 env cap) env C))))
  (heq2:∀C it acc,compTurn (.ListComp elt [⟨tgt,iter,ifs,0⟩,⟨tgt2,iter2,ifs2,0⟩] scope pos) 1 it acc (Ad scope (A7 env cap) env C)=(standAt iter2.pos>>=λ_=>pyNext it>>=λr=>match r with|none=>pure (.done .next)|some v=>letOwnedTupleGo tgt2 it v>>=λ_=>assign tgt2 (Ad scope (A7 env cap) env C) v>>=λ_=>Cd ifs2 (Ad scope (A7 env cap) env C)>>=λok=>if ok=true then(Ea elt acc (Ad scope (A7 env cap) env C)>>=λ_=>again (.compLoop (.ListComp elt [⟨tgt,iter,ifs,0⟩,⟨tgt2,iter2,ifs2,0⟩] scope pos) 1 it acc (Ad scope (A7 env cap) env C)))else again (.compLoop (.ListComp elt [⟨tgt,iter,ifs,0⟩,⟨tgt2,iter2,ifs2,0⟩] scope pos) 1 it acc (Ad scope (A7 env cap) env C)))):
  Bm Γ A env (.ListComp elt [⟨tgt,iter,ifs,0⟩,⟨tgt2,iter2,ifs2,0⟩] scope pos) (L4 Ti Ta Tt (Zj Ti2 Ta2 Tt2 (Ru Te)) cap):=
 fC (p:=iter.pos) (inner:=λC acc=>I3 (.ListComp elt [⟨tgt,iter,ifs,0⟩,⟨tgt2,iter2,ifs2,0⟩] scope pos) iter2 0 acc (Ad scope (A7 env cap) env C)) (tests:=λC=>Cd ifs (Ad scope (A7 env cap) env C)) H X hi (λC=>ha C (Dh H X.kind C)) (λC=>ht C (Dh H X.kind C))
  (λC k D=>nV (g:=⟨tgt2,iter2,ifs2,0⟩) (inner:=λacc=>Ea elt acc (Ad scope (A7 env cap) env C)) (tests:=Cd ifs2 (Ad scope (A7 env cap) env C)) (Dh H X.kind C) (hi2 C (Dh H X.kind C)) (ha2 C (Dh H X.kind C)) (ht2 C (Dh H X.kind C)) (λk D=>bG (he C (Dh H X.kind C)) k D) (hs2 C) rfl rfl (heq2 C) k D) hs λC it acc=>(heq C it acc).trans (by simp only[iI])
end
section
variable {α β γ δ:Type}{Γ:W}{K:Cw}{A:Around}{env:Env}{G G':Gh}{ι ι':List Addr}{σ:St}{s s':Shared}
theorem gY {o:Expr}{apos pos:Pos}{e:Expr}{T0:TT}{T:St->(List D->St->Prop)->Prop}(h0:Bm Γ A env o T0)(h:Ky Γ A env pos [e] T)(hs:starEach [e] env=(false,eval e env)::starEach [] env)
  (hbase:attributeBase o (ofString "split") env (eval o env)=eval o env)
  (hfew:((backTo pos (starEach [e] env)).all (λx=> !x.1)&&(backToKw pos (keywordEach [] env)).all (λx=>x.1.isSome)&&decide ([e].length+([]:List Keyword).length+(if([]:List Keyword).isEmpty then 0 else 1)<30))=true)
  (hline:(apos.endLine==pos.line)=true):
  Bm Γ A env (.Call (.Attribute o (ofString "split") apos) [e] [] pos) (λσ Q=>T0 σ λd σ=>O9 d σ/\T σ λds σ=>S6 d ds σ Q):=
 Nh PySem.F.plainAttrs_str PySem.F.slot_str_split PySem.F.type_str_split (λF r h=>Oj F r h) (λF r rl h=>Sn F r rl h) h0 h hs rfl hbase hfew hline
noncomputable def Bq (x y z:List Nat):List Nat:=(Txt.replace ⟨x.toArray⟩ ⟨y.toArray⟩ ⟨z.toArray⟩).cps.toList
theorem Q4 {o:Expr}{y z:String}{k1 k2:Nat}{apos pos p1 p2:Pos}{T0:TT}(h0:Bm Γ A env o T0)
  (hs:starEach [.Constant (.str (ofString y)) k1 p1,.Constant (.str (ofString z)) k2 p2] env=(false,eval (.Constant (.str (ofString y)) k1 p1) env)::starEach [.Constant (.str (ofString z)) k2 p2] env)
  (hbase:attributeBase o (ofString "replace") env (eval o env)=eval o env)
  (hfew:((backTo pos (starEach [.Constant (.str (ofString y)) k1 p1,.Constant (.str (ofString z)) k2 p2] env)).all (λx=> !x.1)&&(backToKw pos (keywordEach [] env)).all (λx=>x.1.isSome)&&decide ([Expr.Constant (.str (ofString y)) k1 p1,.Constant (.str (ofString z)) k2 p2].length+([]:List Keyword).length+(if([]:List Keyword).isEmpty then 0 else 1)<30))=true)
  (hline:(apos.endLine==pos.line)=true)(hp:(backTo pos (starEach [.Constant (.str (ofString z)) k2 p2] env)).any (·.1)=false)(hne:(ofString y==ofString z)=false):
  Bm Γ A env (.Call (.Attribute o (ofString "replace") apos) [.Constant (.str (ofString y)) k1 p1,.Constant (.str (ofString z)) k2 p2] [] pos)
   (λσ Q=>T0 σ λd σ=>∃x,d=.str x/\x.length+(x.length+1)*(cs z).length<=16777216/\Q (.str (Bq x (cs y) (cs z))) σ):=λK G ι σ s Q F q=>
 wpAny_Call_method_late hbase hfew hline rfl (A8 h0 F q λG0 ι0 d v σ0 s0 l0 p0 r0 F0 q0=>by
  refine Ay q0 λx Z hb q=>?_
  try clear q0
  subst Z
  refine Ae (Oj F0 r0 ⟨x,rfl⟩) λht hd=>?_
  refine Af r0 λt Y=>?_
  try clear r0
  subst Y
  refine⟨"str",_,PySem.F.plainAttrs_str,PySem.F.slot_str_replace,PySem.F.type_str_replace,ht,hd,?_⟩
  refine callWith_method1 (wpAny_items_cons (wpAny_Constant_str (wpAny_items_cons (wpAny_Constant_str (wpAny_items_nil ?_))))) hs hp
  have tk:=F0.tk
  refine wpAny_mono (A4 (SC.replace (E:=λ_ _=>False) (Q:=λv s'=>∃t' tk,v=.str (Txt.replace ⟨x.toArray⟩ (ofString y) (ofString z)) t'/\s'={s0 with toks:=tk}) (s:={s0 with toks:=s0.toks+1+1}) (x:=⟨x.toArray⟩) (t:=t) (u:=s0.toks) (v:=s0.toks+1) (ne_of_gt tk) (Nat.succ_ne_zero _) (ne_of_lt (lt_succ_self _)) hne (by rw[Az,Fs,Az];exact hb) λt' k=>⟨t',k,rfl,rfl⟩)) (λv s' V=>Ae V λU hle=>A2 U λt' tk' e1 e2=>?_) λ_ _ x=>x
  subst e1 e2
  refine(Mv (x:=Bq x (cs y) (cs z)) (F0.toks tk' ?_) ?_ q).up l0 p0
  ·exact lt_of_lt_of_le (succ_pos _) hle
  ·unfold Bq;rw[Fs,Fs])
noncomputable def pA (Γ:W) (A:Around) (env:Env) (es:List Expr) (T:List Nat->TT):Prop:=
 ∀K G ι σ s Q out,Aa Γ K env G ι σ s->T out σ Q->wpAny (model Γ.prog Γ.w) A (joinParts ⟨out.toArray⟩ (evalEach es env)) (As Γ K env VR G ι Q) (λ_ _=>False) s
theorem nE:pA Γ A env [] (λout σ Q=>out.length<=sizeLine/\Q (.str out) σ):=λK G ι σ s Q out F q=>
 joinParts_nil (Mv (F.toks _) rfl q.2) (by rw[Az];exact q.1)
theorem fR {e:Expr}{es:List Expr}{T:TT}{T':List Nat->TT}(h:Bm Γ A env e T)(h':pA Γ A env es T'):
  pA Γ A env (e::es) (λout σ Q=>T σ λd σ=>∃y,d=.str y/\(out++y).length<=sizeLine/\T' (out++y) σ Q):=λK G ι σ s Q out F q=>
 joinParts_cons (A8 h F q λG1 ι1 d v σ1 s1 l1 p1 r1 F1 Z=>Ay Z λy e hz q1=>by
  subst e
  refine Af r1 λt Y=>?_
  try clear r1
  subst Y
  dsimp only
  rw[Gs,Az]
  exact⟨hz,wpAny_mono (h' K G1 ι1 σ1 s1 Q (out++y) F1 q1) (λ_ _ p=>p.up l1 p1) λ_ _ x=>x⟩)
theorem lF {e:Expr}{pos:Pos}{T:TT}(h:Bm Γ A env e T):Bm Γ A env (.FormattedValue e (-1) none pos) (λσ Q=>T σ λd σ=>∃y,d=.str y/\y.length<=sizeLine/\tV (.str y) σ Q):=λK G ι σ s Q F q=>
 FormattedValue_plain (A8 h F q λG1 ι1 d v σ1 s1 l1 p1 r1 F1 Z=>Ay Z λy e hz q1=>by
  subst e
  refine Af r1 λt Y=>?_
  try clear r1
  subst Y
  refine wpAny_mono (A4 (formatField_str (E:=λ_ _=>False) (Q:=λv s'=>∃t' tk,v=.str ⟨y.toArray⟩ t'/\s'={s1 with toks:=tk}) (λt' tk=>⟨t',tk,rfl,rfl⟩) (by rw[Az];exact hz))) (λv s' V=>Ae V λU hle=>A2 U λt' tk e1 e2=>?_) λ_ _ x=>x
  subst e1 e2
  exact(Mv (F1.toks _ (lt_of_lt_of_le F1.tk hle)) rfl q1).up l1 p1)
theorem fB {v₁ v₂:Expr}{rest:List Expr}{pos:Pos}{T:List Nat->TT}(h:pA Γ A env (v₁::v₂::rest) T):Bm Γ A env (.JoinedStr (v₁::v₂::rest) pos) (T []):=λK G ι σ s Q F q=>
 JoinedStr_many (h K G ι σ s Q [] F q)
theorem Rl (x y:Str)(i j:Int)(t u v w:Tok):Gives (Builtin.«str.find» ⟨[.str x t,.str y u,.int i v,.int j w],[]⟩) (.int (match Builtin.Str.occurrences x y (fromIndex x.length i) (min (fromIndex x.length j) x.length) 1 with|k::_=>(k:Int)|[]=> -1)):=by
 show Gives (match Builtin.Str.occurrences x y (fromIndex x.length i) (min (fromIndex x.length j) x.length) 1 with|k::_=>retInt k|[]=>(do rule "str.find.not-found";retInt (-1))) _
 cases Builtin.Str.occurrences x y (fromIndex x.length i) (min (fromIndex x.length j) x.length) 1 with
 |nil=>exact .rule (.of_eq rfl)
 |cons k _=>exact .of_eq rfl
noncomputable def Ls (x y:List Nat) (i j:Int):Int:=match Builtin.Str.occurrences ⟨x.toArray⟩ ⟨y.toArray⟩ (fromIndex x.length i) (min (fromIndex x.length j) x.length) 1 with|k::_=>(k:Int)|[]=> -1
noncomputable def lX (d:D) (ds:List D) (σ:St) (Q:D->St->Prop):Prop:=∃x y i j,d=.str x/\ds=[.str y,.int i,.int j]/\Q (.int (Ls x y i j)) σ
theorem lG {o:Expr}{apos pos:Pos}{e:Expr}{es:List Expr}{T0:TT}{T:St->(List D->St->Prop)->Prop}(h0:Bm Γ A env o T0)(h:Ky Γ A env pos (e::es) T)(hs:starEach (e::es) env=(false,eval e env)::starEach es env)(hp:(backTo pos (starEach es env)).any (·.1)=false)
  (hbase:attributeBase o (ofString "find") env (eval o env)=eval o env)
  (hfew:((backTo pos (starEach (e::es) env)).all (λx=> !x.1)&&(backToKw pos (keywordEach [] env)).all (λx=>x.1.isSome)&&decide ((e::es).length+([]:List Keyword).length+(if([]:List Keyword).isEmpty then 0 else 1)<30))=true)
  (hline:(apos.endLine==pos.line)=true):
  Bm Γ A env (.Call (.Attribute o (ofString "find") apos) (e::es) [] pos) (λσ Q=>T0 σ λd σ=>O9 d σ/\T σ λds σ=>lX d ds σ Q):=
 Nh PySem.F.plainAttrs_str PySem.F.slot_str_find PySem.F.type_str_find (λF r h=>Oj F r h) (λ{K G ι σ s d v ds vs Q} F r rl h=>by
  refine Go h λx y i j z1 z2 q=>?_
  try clear h
  subst z1
  subst z2
  refine Af r λt z3=>?_
  try clear r
  subst z3
  refine Aj rl λ_ _ z4 Z Y=>?_
  try clear rl
  subst z4
  refine Af Z λu z5=>?_
  clear Z
  subst z5
  refine Aj Y λ_ _ z6 V U=>?_
  clear Y
  subst z6
  refine Af V λv z7=>?_
  clear V
  subst z7
  refine Aj U λ_ _ z8 z0 e=>?_
  clear U
  subst z8
  refine Af z0 λw z9=>?_
  clear z0
  subst z9
  obtain rfl:=Bs e
  refine call_gives PySem.F.slot_str_find (typeIs_str _ _ _) PySem.F.entry_str_find (PySem.F.args_str_find_4 _ _ _ _) (Rl _ _ i j t u v w) ?_
  rw[Az]
  exact Jo (F.toks _) q) h0 h hs hp hbase hfew hline
theorem Lj:mroOf (.type "object")=pure [.type "object"]:=by kernel_rfl
theorem It:typeLookup (.type "object") "__new__"=pure (some (.builtin "object.__new__")):=by rw[typeLookup_type,builtinLookup_eq_fast];kernel_rfl
theorem H9:Slot "object" "__init__" "object.__init__":=
 .of (owner:="object") (n:="__init__") (by rw[typeLookup_type,builtinLookup_eq_fast];kernel_rfl) (by decide +kernel) (by decide +kernel) (by decide +kernel)
  (by first|exact .inl (by decide +kernel)|exact .inr (by decide +kernel)) (by rw[isSubtype_type];kernel_rfl)
theorem M0:TypeCalled "object" "object.__new__" "object.__init__":=
 ⟨by decide +kernel,by decide +kernel,⟨_,_,Lj⟩,madeBy_type Lj It (by decide +kernel),by decide +kernel,by rw[isSubtype_type];kernel_rfl,H9⟩
theorem O4:Builtin.«object.__new__» ⟨[.type "object"],[]⟩=(newObj (.type "object") .plain none>>=λv=>ret v):=by kernel_rfl
theorem cY:Meets (Builtin.«object.__new__» ⟨[.type "object"],[]⟩) (λ_ R s=>R (.ok (.ret (.ref s.heap.objs.size))) {s with heap:=s.heap.push {cls:=.type "object",data:=.plain}}):=
 .of_wp λprog w A R s h=>by
  rw[O4]
  exact wpAny_bind (wpAny_newObj_type (wpAny_pure ⟨_,rfl,h⟩) (by size_fits))
theorem Iy:entryFor table "object.__new__"=some Builtin.«object.__new__»:=entryFor_of_tree (by kernel_rfl)
theorem H4:entryFor table "object.__init__"=some Builtin.«object.__init__»:=entryFor_of_tree (by kernel_rfl)
theorem Ty {prog:Program}{w:World}{E:Value->Shared->Prop}{Q:Value->Shared->Prop}(h:Q (.ref s.heap.objs.size) {s with heap:=s.heap.push {cls:=.type "object",data:=.plain}}):
  wpAny (model prog w) A (call (.type "object") []) Q E s:=
 callType_meets (Q₁:=λobj s₁=>obj=.ref s.heap.objs.size/\s₁={s with heap:=s.heap.push {cls:=.type "object",data:=.plain}}) M0 (by kernel_rfl) (by kernel_rfl) Iy H4 cY ⟨rfl,rfl⟩ λobj s₁ h₁=>by
  refine Ae h₁ λZ Y=>?_
  try clear h₁
  subst Z
  subst Y
  exact⟨⟨_,Heap.get?_push_size _ rfl,rfl⟩,by unfold argsOk;kernel_rfl,λ_ R s=>R (.ok (.ret .none)) s,.of_wp λprog w A R s hs=>wpAny_pure ⟨_,rfl,hs⟩,rfl,h⟩
theorem cT (H:Ev Γ A env){p pos:Pos}(hk:env.kindOf (ofString "object")=some .globalImplicit)(hn:Γ.mg (ofString "object")=none)(hv:Γ.mb (ofString "object")=some (.type "object")):
  Bm Γ A env (.Call (.Name (ofString "object") p) [] [] pos) (λσ Q=>∀a:Addr,Q (.raw (.ref a)) σ):=λK G ι σ s Q F q=>
 wpAny_Call_NameR (wpAny_mono (Hz H hk hn hv (by decide) K G ι σ s (λd σ'=>d=.raw (.type "object")/\∀a:Addr,Q (.raw (.ref a)) σ') F ⟨rfl,q⟩) (λv s0 Z=>Eh Z λG0 ι0 d0 σ0 l0 p0 r0 F0 e0 q0=>by
  subst e0;cases r0
  exact callWith_type0 (Ty ((iD (F0.push _ s0.toks F0.tk) (q0 _)).up l0 p0))) λ_ _ x=>x)
end
theorem Mw:typeLookup (.type "list") "append"=pure (some (.builtin "list.append")):=slot_list_append.lookup
theorem iL:typeLookup (.type "method_descriptor") "__get__"=pure (some (.builtin "method_descriptor.__get__")):=by rw[typeLookup_type,builtinLookup_eq_fast];kernel_rfl
theorem iK:typeLookup (.type "method_descriptor") "__set__"=pure none:=by rw[typeLookup_type,builtinLookup_eq_fast];kernel_rfl
theorem iM:typeLookup (.type "method_descriptor") "__delete__"=pure none:=by rw[typeLookup_type,builtinLookup_eq_fast];kernel_rfl
theorem Zn (a:Addr)(xs:Array Value)(k:Nat)(sl:Array (Option Value)):
  Meets (Builtin.«method_descriptor.__get__» ⟨[.builtin "list.append",.ref a,.type "list"],[]⟩) (λA R s=>s.heap.get? a=some {cls:=.type "list",dict:=none,data:=.seq xs k,slots:=sl}/\R (.ok (.ret (.ref s.heap.objs.size))) {s with heap:=s.heap.push (Eo a)}):=
 Meets.of_wp λprog w A R s hs=>by
  obtain⟨hp,g,d,tk,os⟩:=s
  refine Ae hs λhx Z=>?_
  try clear hs
  revert Z
  intro hs
  have hT:(⟨hp,g,d,tk,os⟩:Shared).TypeIs (.ref a) "list":=⟨_,hx,rfl⟩
  unfold Builtin.«method_descriptor.__get__»
  refine wpAny_bind (wpAny_of_eq (a:=(.builtin "list.append",some (.ref a),some (.type "list"))) (by first|rfl|kernel_rfl) ?_)
  dsimp only
  have t1:Manifest.toldItsClass.contains "list.append"=false:=by decide +kernel
  rw[if_neg (by rw[t1];decide)]
  have e1:".".intercalate ("list.append".cutAt '.').dropLast="list":=by decide +kernel
  have f1:isSubtype (.type "list") (.type (".".intercalate ("list.append".cutAt '.').dropLast))=pure true:=by rw[e1,isSubtype_type];kernel_rfl
  repeat (any_goals (first|assumption|wp_step))
  exact⟨_,rfl,hs⟩
theorem J8:Slot "method_descriptor" "__get__" "method_descriptor.__get__":=
 .of (owner:="method_descriptor") (n:="__get__") (by rw[typeLookup_type,builtinLookup_eq_fast];kernel_rfl) (by decide +kernel) (by decide +kernel) (by decide +kernel)
  (by first|exact .inl (by decide +kernel)|exact .inr (by decide +kernel)) (by rw[isSubtype_type];kernel_rfl)
theorem Ph:entryFor table "method_descriptor.__get__"=some Builtin.«method_descriptor.__get__»:=entryFor_of_tree (by kernel_rfl)
theorem Sa (a b c:Value):argsOk "method_descriptor.__get__" ⟨[a,b,c],[]⟩:=by unfold argsOk;kernel_rfl
theorem Js (a:Addr)(xs:Array Value)(k:Nat)(sl:Array (Option Value))(u:Tok):
  Meets (Builtin.«object.__getattribute__» ⟨[.ref a,.str "append" u],[]⟩) (λA R s=>s.heap.get? a=some {cls:=.type "list",dict:=none,data:=.seq xs k,slots:=sl}/\R (.ok (.ret (.ref s.heap.objs.size))) {s with heap:=s.heap.push (Eo a)}):=
 Meets.of_wp λprog w A R s hs=>by
  obtain⟨hp,g,d,tk,os⟩:=s
  refine Ae hs λhx Z=>?_
  try clear hs
  revert Z
  intro hs
  have hT:(⟨hp,g,d,tk,os⟩:Shared).TypeIs (.ref a) "list":=⟨_,hx,rfl⟩
  have f1:=Mw
  have f2:=PySem.F.type_list_append
  have f3:=iL
  have f4:=iK
  have f5:=iM
  unfold Builtin.«object.__getattribute__»
  repeat (any_goals (first|assumption|wp_step))
  refine codeAny_mono (codeAny_call_builtin (R:=λr s'=>r=.ok (.ret (.ref hp.objs.size))/\s'=⟨hp.push (Eo a),g,d,tk,os⟩) J8.plain Ph (J8.check _ _ _ _ _ _ _ _ f2 (Sa _ _ _) (Zn a xs k sl prog w A.in1 (λr s'=>r=.ok (.ret (.ref hp.objs.size))/\s'=⟨hp.push (Eo a),g,d,tk,os⟩) ⟨hp,g,d,tk,os⟩ ⟨hx,rfl,rfl⟩))) λr s' h=>?_
  refine Ae h λY V=>?_
  try clear h
  subst Y
  subst V
  exact wpAny_pure ⟨_,rfl,hs⟩
theorem Wz {prog:Program}{w:World}{A:Around}{E:Value->Shared->Prop}{s:Shared}{a:Addr}{xs:Array Value}{Q:Value->Shared->Prop}(hl:s.heap.PlainList a xs)
  (h:Q (.ref s.heap.objs.size) {s with heap:=s.heap.push (Eo a),toks:=s.toks+1}):wpAny (model prog w) A (getAttr (.ref a) "append" true) Q E s:=by
 refine Af hl λk hx=>?_
 try clear hl
 obtain⟨hp,g,d,tk,os⟩:=s
 have hT:∀tk',(⟨hp,g,d,tk',os⟩:Shared).TypeIs (.ref a) "list":=λ_=>⟨_,hx,rfl⟩
 have f3:=PySem.F.slot_list_getattribute.lookup
 have f4:=PySem.F.slot_list_getattribute.bind (.ref a)
 unfold getAttr getAttrBy
 repeat (any_goals (first|assumption|exact hT _|((with_reducible show wpAny _ _ (call (Value.builtin "list.__getattribute__") _ _) _ _ _);refine call_meets PySem.F.slot_list_getattribute (hT _) am_entry_list_getattribute (PySem.F.args_list_getattribute_2 _ _) (Js a xs k _ _) ⟨hx,?_⟩)|wp_step))
 show wpAny _ A (handedOut (.ref _)) Q E _
 exact wpAny_pure h
section
variable {α β γ δ:Type}{Γ:W}{K:Cw}{A:Around}{env:Env}{G G':Gh}{ι ι':List Addr}{σ:St}{s s':Shared}
theorem Yz (H:Ev Γ A env){o:Expr}{pos:Pos}{T0:TT}(h0:Bm Γ A env o T0)(hbase:attributeBase o (ofString "append") env (eval o env)=eval o env):
  Bm Γ A env (.Attribute o (ofString "append") pos) (λσ Q=>T0 σ λd σ=>∃k ds,d=.obj k/\σ.own[k]? =some ds/\tV (.app k) σ Q):=λK G ι σ s Q F q=>by
 rw[arm_eval_Attribute,hbase]
 refine wpAny_bind (A8 h0 F q λG1 ι1 d v σ1 s1 l1 p1 r1 F1 Z=>Aj Z λk ds e he q1=>?_)
 subst e
 refine Ac r1 λa ha Y=>?_
 try clear r1
 subst Y
 refine Ac (F1.store.at_ k a ds ha he) λvs hl rl=>?_
 refine Ae (F1.alloc H.ok (o:=Eo a) rfl (s1.toks+1) (succ_pos _)) λle F2=>?_
 refine wpAny_bind (wpAny_standAt (wpAny_bind (wpAny_holding (Wz hl ?_))))
 exact wpAny_bind (wpAny_letTemporaryGo (wpAny_pure ((Mu (d:=.app k) ⟨_,a,ha,rfl,Gh.put_self _ _ _⟩ F2 q1).up (l1.trans le) p1)))
theorem Tf {m a:Addr}{Q:Keeper->Shared->Prop}{E:Value->Shared->Prop}(ho:s.heap.get? m=some (Eo a))(h:Q .machine s):wpAny (model Γ.prog Γ.w) A (keeperOf (.ref m)) Q E s:=by
 refine wpAny_bind (m:=load m) (wpAny_load ho ?_)
 show wpAny _ _ (if(Value.type "builtin_function_or_method" != Value.type "method")=true then pure (if(Value.type "builtin_function_or_method"==Value.type "builtin_function_or_method"||Value.type "builtin_function_or_method"==Value.type "method-wrapper")=true then Keeper.machine else .caller)else _) _ _ _
 rw[if_pos (by decide),if_pos (by decide)]
 exact wpAny_pure h
theorem Po {m a:Addr}{pos:Pos}{args:List (Bool×Sem Value)}{Q:Value->Shared->Prop}{E:Value->Shared->Prop}(hplain:args.any (·.1)=false)
  (h:wpAny (model Γ.prog Γ.w) A (evalArgs (.ref m) true args []) (λx s₁=>s₁.heap.get? m=some (Eo a)/\wpAny (model Γ.prog Γ.w) A (call (.ref m) ([]++x.pos) x.kw) Q E s₁) E s):wpAny (model Γ.prog Γ.w) A (callWith pos (.ref m) [] args []) Q E s:=by
 unfold callWith
 refine wpAny_bind (wpAny_holding (wpAny_mono h (λx s₁ h₁=>wpAny_bind (wpAny_standAt ?_)) λ_ _ x=>x))
 refine Ae h₁ λho hcall=>?_
 try clear h₁
 rw[hplain]
 refine wpAny_bind (m:=keeperOf (.ref m)) (Tf ho ?_)
 exact wpAny_bind (wpAny_mono hcall (λr s₂ hr=>wpAny_bind (wpAny_holding (wpAny_point (wpAny_pure hr)))) λ_ _ x=>x)
theorem eD {m a:Addr}{x:Value}{items:Array Value}{Q:Value->Shared->Prop}{E:Value->Shared->Prop}(ho:s.heap.get? m=some (Eo a))(hl:s.heap.PlainList a items)(hz:items.size<=sizeLine)
  (hQ:∀h',h'.PlainList a (items.push x)->Heap.SameBut a s.heap h'->Q .none {s with heap:=h'}):wpAny (model Γ.prog Γ.w) A (call (.ref m) [x]) Q E s:=by
 refine Af (id hl) λn hx=>?_
 refine wpAny_call (codeAny_of_tree ?_)
 show wpAny _ A.in1 (callAny (.ref m) ⟨[x],[]⟩) _ _ s
 refine wpAny_bind (m:=load m) (wpAny_load ho ?_)
 show wpAny _ _ (if(Value.type "builtin_function_or_method"==Value.type "method"||Value.type "builtin_function_or_method"==Value.type "builtin_function_or_method"||Value.type "builtin_function_or_method"==Value.type "method-wrapper")=true then _ else _) _ _ _
 rw[if_pos (by decide)]
 show wpAny _ _ (if(Value.type "builtin_function_or_method" != Value.type "method")=true then(checkBoundCall "list.append" ⟨[.ref a,x],[]⟩>>=λ_=>again (.builtin "list.append" ⟨[.ref a,x],[]⟩))else _) _ _ s
 rw[if_pos (by decide)]
 refine wpAny_bind ?_
 obtain⟨hp,g,d,tk,os⟩:=s
 have hT:(⟨hp,g,d,tk,os⟩:Shared).TypeIs (.ref a) "list":=⟨_,hx,rfl⟩
 have f1:isSubtype (.type "list") (.type "module")=pure false:=by rw[isSubtype_type];kernel_rfl
 have f2:Manifest.varargsMethods.contains "list.append"=false:=by decide +kernel
 unfold checkBoundCall
 have f3:isSubtype (.type "list") (.type "type")=pure false:=by rw[isSubtype_type];kernel_rfl
 clear f1
 repeat (any_goals (first|assumption|wp_step))
 refine wpAny_of_eq (show isSubtype (.type "list") (.type "module")=pure false by rw[isSubtype_type];kernel_rfl) ?_
 rw[if_neg (by rw[f2];decide)]
 refine wpAny_bind ?_
 unfold isType
 show wpAny _ _ (loadHead a>>=λo=>pure (match o.data with| .cls _=>true|_=>false)) _ _ _
 first|refine wpAny_bind (wpAny_loadPart hx (wpAny_pure ?_))|refine wpAny_bind (wpAny_load hx (wpAny_pure ?_))|refine wpAny_bind (wpAny_loadPart' hx (wpAny_pure ?_))
 dsimp only
 rw[if_neg (by decide)]
 refine wpAny_bind (wpAny_typeOf hT ?_)
 dsimp only
 refine wpAny_of_eq (a:=()) (by kernel_rfl) ?_
 refine wpAny_pure ⟨plainId_quiet slot_list_append.plain _,codeAny_mono (R:=λr s'=>r=.ok (.ret .none)/\s'=⟨hp.update a (Obj.mapSeq λy=>y.push x),g,d,tk,os⟩) (codeAny_builtin entry_list_append ?_) λr s' h=>?_⟩
 ·rw[Around.under_plainId slot_list_append.plain _]
  exact list_append a items n x hz Γ.prog Γ.w A (λr s'=>r=.ok (.ret .none)/\s'=⟨hp.update a (Obj.mapSeq λy=>y.push x),g,d,tk,os⟩) ⟨hp,g,d,tk,os⟩ ⟨hx,rfl,rfl⟩
 ·refine Ae h λZ Y=>?_
  try clear h
  subst Z
  subst Y
  refine hQ _ ?_ (Heap.SameBut.update ..)
  unfold Heap.PlainList
  rw[Heap.get?_update_self _ hx (by simp[Obj.mapSeq,Obj.isFreed])]
  exact⟨_,rfl⟩
theorem Q7 (H:Ev Γ A env){f:String}{e:Expr}{p pos:Pos}{T:St->(List D->St->Prop)->Prop}(hd:(ofString f==("__debug__":Str))=false)(hc:(ofString f==("__classdict__":Str))=false)
  (h:Ky Γ A env pos [e] T)(hs:starEach [e] env=(false,eval e env)::starEach [] env):
  Bm Γ A env (.Call (.Name (ofString f) p) [e] [] pos) (λσ Q=>∃k,σ.get f=some (.app k)/\T σ λds σ=>∃x l,ds=[x]/\σ.own[k]? =some l/\l.length<=sizeLine/\tV .none {σ with own:=σ.own.set k (l++[x])} Q):=λK G ι σ s Q F Z=>Ac Z λk hk q=>
 wpAny_Call_NameR (wpAny_Name (D5 H F hk hc λv r=>by
  refine Aj r λm a ha Y hm=>?_
  try clear r
  subst Y
  refine Po (a:=a) (Jn hs rfl) (Ho hs (A8 h F q λG1 ι1 ds vs σ1 s1 l1 p1 r1 F1 V=>Dt V λx l e1 hl hz q1=>⟨F1.store.gin _ _ (l1 _ _ hm),?_⟩))
  subst e1
  refine Aj r1 λv w U rv e=>?_
  try clear r1
  subst U
  obtain rfl:=Bs e
  refine Ac (F1.store.at_ k a l (p1 _ _ ha) hl) λvs hp rl=>?_
  refine eD (F1.store.gin _ _ (l1 _ _ hm)) hp (by rw[size_toArray,rl.length];exact hz) λh' hp' hb=>?_
  have e:vs.toArray.push v=(vs++[v]).toArray:=by simp
  rw[e]at hp'
  exact(Zc (F1.setOwn (p1 _ _ ha) (rl.snoc rv) hp' hb _ F1.tk) q1).up l1 p1) hd)
end
section
variable {α β γ δ:Type}{Γ:W}{K:Cw}{A:Around}{env:Env}{G G':Gh}{ι ι':List Addr}{σ:St}{s s':Shared}
theorem Yx (H:Ev Γ A env){f:String}{a:Addr}{fd:FuncData}{e:Expr}{es:List Expr}{p pos:Pos}{T:St->(List D->St->Prop)->Prop}{S:Mine.Cf}(hd:(ofString f==("__debug__":Str))=false)(hc:(ofString f==("__classdict__":Str))=false)
  (ho:∃o,Γ.B.get? a=some o/\o.data=.func fd)(hf:Ar Γ A (.ref a) S)(h:Ky Γ A env pos (e::es) T)(hs:starEach (e::es) env=(false,eval e env)::starEach es env):
  Bm Γ A env (.Call (.Name (ofString f) p) (e::es) [] pos) (λσ Q=>σ.get f=some (.raw (.ref a))/\T σ λds σ=>S ds σ.own λd own'=>Q d {σ with own:=own'}):=λK G ι σ s Q F Z=>Ae Z λhx q=>
 wpAny_Call_NameR (wpAny_Name (D5 H F hx hc λv r=>by
  cases r
  refine Ac ho λo Y hd=>?_
  try clear ho
  revert Y
  intro ho
  exact Calls.callWith_function (o:=o) (fd:=fd) (Ho hs (A8 h F q λG1 ι1 ds vs σ1 s1 l1 p1 r1 F1 q1=>
   ⟨⟨F1.store.gin _ _ (F1.store.base _ _ ho),hd⟩,wpAny_mono (N7 hf F1 r1 q1) (λ_ _ p=>p.up l1 p1) λ_ _ x=>x⟩))) hd)
theorem aF (H:Ev Γ A env){it:Value}{X:Addr->Prop}{C:St->Prop}{P:Gh->List Addr->List D->(Addr->Prop)->Shared->Prop}{n₀ gz:Nat}{e tgt:Expr}{b:List Stmt}{p:Pos}{Ta:D->St->(St->Prop)->Prop}{Tb:TS}{items:List D}{Q:FD->St->Prop}
  (I:I9 Γ A env n₀ gz it C P)(hv:∀{Q':Value->Shared->Prop},Q' it s->wpAny (model Γ.prog Γ.w) A (eval e env) Q' (λ_ _=>False) s)(ha:Sf Γ A env tgt Ta)(hb:Py Γ A env b Tb)(hs:∀x,foldedSetIterable e env x=pure x)
  (F:Aa Γ K env G ι σ s)(hX:Bw Γ K env G ι X)(hg:K.gens.size<=gz)(hP:P G ι items X s)(hn:ι.length<=n₀)
  (q:Do C (λx σ Q=>Ta x σ λσ1=>Tb σ1 Q) n₀ items σ Q):wpAny (model Γ.prog Γ.w) A (exec (.For tgt e b [] p) env) (As Γ K env FR G ι Q) (λ_ _=>False) s:=
 wpAny_For (hv (I.self hP _ (codeAny_mono (Pe H I ha hb F hX hg hP hn q) λr s' h=>by
   cases r with
   |ok f=>exact h
   |error e=>exact h.elim))) hs
end
noncomputable def Hk (st:Option Stmt):DefItem:=(scan st.toList ([],[],[])).1.headD ⟨"",⟨[],[],none,[],[],none,[]⟩,[],default,⟨0,0,0,0⟩⟩
noncomputable def Bk (p:Program) (i:Nat):DefRec:=⟨(Hk p.main.body[i]?).name,(Hk p.main.body[i]?).params,(Hk p.main.body[i]?).body,(Hk p.main.body[i]?).scope,(Hk p.main.body[i]?).pos⟩
noncomputable def tF (env:Env) (scope:Scope) (cap:List String):Bool:=
 (cap.all λx=>(env.cells.lookup (ofString x)).isSome)&&(scope.names.filter λp=>p.2== .cell).all λp=> !(cap.map ofString).contains p.1
noncomputable def tE (env:Env) (scope:Scope) (cap:List String) (C:Addr):Bool:=
 (cap.all λx=>((env.kindOf (ofString x)==some .cell)&&((Ad scope (A7 env cap) env C).kindOf (ofString x)==some .cell))||((env.kindOf (ofString x)==some .free)&&((Ad scope (A7 env cap) env C).kindOf (ofString x)==some .free)))&&
 scope.names.all λp=>(p.2 != .cell||(Ad scope (A7 env cap) env C).kindOf p.1==some .cell)&&(p.2 != .local||(Ad scope (A7 env cap) env C).kindOf p.1==some .local)
theorem fG {a b:Bool}{P:Prop}(h:(a||b)=true)(p:P->a=false)(x:P):b=true:=by rw[p x]at h;exact h
theorem Cm {env:Env}{scope:Scope}{cap:List String}(h1:closureFor scope env=pure (A7 env cap))(h2:tF env scope cap=true)(h3:∀C,tE env scope cap C=true)(h4:scope.kind=.function):CE env scope cap (A7 env cap):=by
 have h2:=Bool.and_eq_true_iff.mp h2
 have h3:=λC=>Bool.and_eq_true_iff.mp (h3 C)
 have h5:=λC p hp=>Bool.and_eq_true_iff.mp (all_eq_true.mp (h3 C).2 p hp)
 refine⟨h1,Tx,eA (all_eq_true.mp h2.1),λC x hx=>?_,λC p hp e=>?_,dC h2.2,λC p hp e=>?_,h4⟩
 ·refine(Bool.or_eq_true_iff.mp (all_eq_true.mp (h3 C).1 x hx)).imp (λh=>?_) λh=>?_
  ·exact⟨eq_of_beq (Bool.and_eq_true_iff.mp h).1,eq_of_beq (Bool.and_eq_true_iff.mp h).2⟩
  ·exact⟨eq_of_beq (Bool.and_eq_true_iff.mp h).1,eq_of_beq (Bool.and_eq_true_iff.mp h).2⟩
 ·exact eq_of_beq (fG (h5 C p hp).1 (λe=>by rw[e];rfl) e)
 ·exact eq_of_beq (fG (h5 C p hp).2 (λe=>by rw[e];rfl) e)
section
noncomputable def Lk:List Str:=["_twin_re_1","translate","_special_chars_map","escape","_translate","_join_translated_parts","_iter_escaped_chars","_strip_quoted_realnames","_check_parenthesis","cmp_to_key","_initial_missing","reduce","_law_pieces","_law_spelled","_law_sign","_law_units","_law_places","_law_step","_law_closes","_law_holds"]
noncomputable def q1:Program:=view PySem.Challenge.pw_in0167_01 [0,27]
structure Cc where
 i:Nat
 a:Nat
 c:Nat
 pm:String
 pt:Nat
 dv:Value
 qt:Nat
noncomputable def Cg:List Cc:=[⟨3,43,42,"cpy313.fnmatch",282,.none,323⟩,
 ⟨8,62,61,"cpy313.fnmatch",486,.none,489⟩,
 ⟨9,69,68,"cpy313.fnmatch",486,.none,508⟩,
 ⟨11,76,75,"cpy313.email.utils",520,.none,523⟩,
 ⟨12,83,82,"cpy313.email.utils",520,.none,533⟩,
 ⟨13,90,89,"cpy313.email.utils",520,.none,545⟩,
 ⟨15,97,96,"cpy313.functools",554,.none,557⟩,
 ⟨17,106,105,"cpy313.functools",554,.ref 99,567⟩,
 ⟨19,113,112,"law_in0167_01",578,.none,581⟩,
 ⟨20,118,117,"law_in0167_01",578,.none,592⟩,
 ⟨21,125,124,"law_in0167_01",578,.none,598⟩,
 ⟨22,132,131,"law_in0167_01",578,.none,606⟩,
 ⟨23,139,138,"law_in0167_01",578,.none,619⟩,
 ⟨24,146,145,"law_in0167_01",578,.none,629⟩,
 ⟨25,151,150,"law_in0167_01",578,.none,639⟩,
 ⟨26,156,155,"law_in0167_01",578,.none,645⟩,
 ⟨27,161,160,"law_in0167_01",578,.none,651⟩]
noncomputable def Cc.fd (r:Cc):FuncData:={docDef (Bk PySem.Challenge.pw_in0167_01 r.i).name (Bk PySem.Challenge.pw_in0167_01 r.i).params (Bk PySem.Challenge.pw_in0167_01 r.i).body (Bk PySem.Challenge.pw_in0167_01 r.i).scope (.str (ofString r.pm) r.pt) (.ref r.c) .none with defaults:=r.dv}
noncomputable def Yf (h:Heap) (r:Cc):Option Data×Option (Option Value):=((h.get? r.a).map (·.data),(h.get? r.c).map λo=>match o.data with| .fields vs=>vs[1]? |_=>none)
noncomputable def Z5 (r:Cc):Option Data×Option (Option Value):=(some (.func r.fd),some (some (.str (Bk PySem.Challenge.pw_in0167_01 r.i).name r.qt)))
noncomputable def nS (n:Nat) (d:Data):Option (List (Value×Value)):=match d with| .dict es _=>some ((es.toList.take n).map λe=>(e.key,e.val))|_=>none
noncomputable def Qv (n:Nat) (o:Option Obj):Option (Value×Option Addr×Array (Option Value)×Option (List (Value×Value))):=o.map λo=>(o.cls,o.dict,o.slots,nS n o.data)
noncomputable def Li:List (Str×Value):=[(ofString "translate",.ref 43),(ofString "_translate",.ref 62),(ofString "_join_translated_parts",.ref 69),(ofString "_iter_escaped_chars",.ref 76),(ofString "_strip_quoted_realnames",.ref 83),(ofString "_check_parenthesis",.ref 90),(ofString "cmp_to_key",.ref 97),(ofString "reduce",.ref 106),(ofString "_law_pieces",.ref 113),(ofString "_law_spelled",.ref 118),(ofString "_law_sign",.ref 125),(ofString "_law_units",.ref 132),(ofString "_law_places",.ref 139),(ofString "_law_step",.ref 146),(ofString "_law_closes",.ref 151),(ofString "_law_holds",.ref 156),(ofString "law",.ref 161),(ofString "_twin_re_1",.ref 36),(ofString "_initial_missing",.ref 98),(ofString "__builtins__",.ref 4)]
noncomputable def Nu:List (Nat×Obj):=[(4,{cls:=.type "module",dict:=some builtinsNs}),
 (35,{cls:=.type "tuple",data:=.seq #[.int 14 0,.int 14 0,.int 4 0,.int 1 0,.int 1 0,.int 9 0,.int 0 0,.int 64 0,.int 0 0,.int 1342177280 0,.int 0 0,.int 0 0,.int 0 0,.int 0 0,.int 0 0,.int 17 0,.int 0 0,.int 13 0,.int 11 0,.int 9 0,.int 0 0,.int 64 0,.int 0 0,.int 1342177280 0,.int 0 0,.int 0 0,.int 0 0,.int 0 0,.int 0 0,.int 17 0,.int 1 0,.int 1 0]}),
 (36,{cls:=.type "re.Pattern",data:=.fields #[.str (ofString "([&~|])") 285,.int 32 320,.int 1 0,.none,.none,.ref 35,.int 0 0]}),
 (57,{cls:=.none,data:=.fields #[]}),
 (61,{cls:=.type "code",data:=.fields #[.str (ofString "_translate") 488,.str (ofString "_translate") 489,.str (ofString "/claim/cut.py") 490,.int 17 0,.int 3 0,.int 0 0,.int 0 0,.int 3 0,.ref 56,.bool true,.int 276 0,.ref 57,.none,.ref 58,.ref 59,.ref 60,.int 504 0,.int 17 0,.str (ofString "/claim/cut.py") 505]}),
 (92,{cls:=.none,data:=.fields #[]}),
 (96,{cls:=.type "code",data:=.fields #[.str (ofString "cmp_to_key") 556,.str (ofString "cmp_to_key") 557,.str (ofString "/claim/cut.py") 558,.int 150 0,.int 1 0,.int 0 0,.int 0 0,.int 3 0,.ref 91,.bool true,.int 276 0,.ref 92,.none,.ref 93,.ref 94,.ref 95,.int 562 0,.int 150 0,.str (ofString "/claim/cut.py") 563]}),
 (98,{cls:=.type "object"}),
 (99,{cls:=.type "tuple",data:=.seq #[.ref 98]}),
 (153,{cls:=.none,data:=.fields #[]}),
 (155,{cls:=.type "code",data:=.fields #[.str (ofString "_law_holds") 644,.str (ofString "_law_holds") 645,.str (ofString "/claim/cut.py") 646,.int 239 0,.int 2 0,.int 0 0,.int 0 0,.int 3 0,.ref 152,.bool true,.int 276 0,.ref 153,.none,.none,.none,.ref 154,.int 647 0,.int 239 0,.str (ofString "/claim/cut.py") 648]})]
noncomputable def L0:List (Value×Value):=[(.str (ofString "\x69mport.loaded._sre") 183,.bool true),(.str (ofString "class._frozen_\x69mportlib.BuiltinImporter") 185,.ref 14),(.str (ofString "watched.\x69mport") 206,.ref 18),(.str (ofString "class._frozen_\x69mportlib.ModuleSpec") 216,.ref 22),(.str (ofString "sys.modules.booked-epoch") 245,.int 3 0),(.str (ofString "\x69mport.later-laid._sre") 270,.bool true),(.str (ofString "watched.library") 272,.ref 27),(.str (ofString "watched.library-objects") 0,.str ⟨#[12]⟩ 0),(.str (ofString "watched.library-deep._sre") 273,.str ⟨#[4,0,0,11,4,0,0,11,4,0,0,3,4,0,0,11,8,4,100,105,99,116,2]⟩ 0)]
noncomputable def Rv:List (Value×Value):=[(.str (ofString "__name__") 165,.str (ofString "law_in0167_01") 578),(.str (ofString "__doc__") 166,.none),(.str (ofString "__package__") 167,.none),(.str (ofString "__loader__") 168,.builtin "__main__.__loader__#opaque"),(.str (ofString "__spec__") 169,.none),(.str (ofString "__annotations__") 170,.ref 6),(.str (ofString "__builtins__") 171,.ref 4)]
noncomputable def R6:List Str:=["len","range","list","sorted","iter","enumerate","object"]
noncomputable def Yg (s:Shared):=(Nat.ble 1 s.toks,Li.map (λp=>s.heap.nsMap mainGlobals p.1),R6.map (λx=>s.heap.nsMap mainGlobals x),Cg.map (Yf s.heap),Qv 10 (s.heap.get? 2),Qv 7 (s.heap.get? 3),Nu.map λp=>s.heap.get? p.1)
noncomputable def Z6:=(true,Li.map (λp=>some p.2),R6.map (λ_=>(none:Option Value)),Cg.map Z5,some (Value.none,(none:Option Addr),(#[]:Array (Option Value)),some L0),some (Value.type "dict",(none:Option Addr),(#[]:Array (Option Value)),some Rv),Nu.map λp=>some p.2)
noncomputable def Ll (w:World):=(openEnds treeTable PySem.Challenge.pw_in0167_01 w 4088).map (λs=>(openSeen q1 Lk (importedModules PySem.Challenge.pw_in0167_01.main.body) (λs=>xlAt q1 [] s&&recOk [] s) true s,Yg s))
noncomputable def Sz:=some (openGood q1 Lk,Z6)
open PySem.W.Fast in
theorem l1:∀w:World,Ll ((w.withFollow "comprehension-iter-twice" false).withFollow "special-get-raises" false)=Sz:=λw=>by
 unfold Ll openEnds fencedOpening topFrom
 simp only[te4187177175401517315,te14364793385576792824,te5923862056798008813,te14082659384304107361,te10274390034422433532,te14289696077712309145]
 kernel_rfl
end
section
open PySem.W.Fast in
theorem l2:∀w:World,Ll ((w.withFollow "comprehension-iter-twice" false).withFollow "special-get-raises" true)=Sz:=λw=>by
 unfold Ll openEnds fencedOpening topFrom
 simp only[te4187177175401517315,te14364793385576792824,te5923862056798008813,te14082659384304107361,te10274390034422433532,te14289696077712309145]
 kernel_rfl
open PySem.W.Fast in
theorem l3:∀w:World,Ll ((w.withFollow "comprehension-iter-twice" true).withFollow "special-get-raises" false)=Sz:=λw=>by
 unfold Ll openEnds fencedOpening topFrom
 simp only[te4187177175401517315,te14364793385576792824,te5923862056798008813,te14082659384304107361,te10274390034422433532,te14289696077712309145]
 kernel_rfl
open PySem.W.Fast in
theorem l4:∀w:World,Ll ((w.withFollow "comprehension-iter-twice" true).withFollow "special-get-raises" true)=Sz:=λw=>by
 unfold Ll openEnds fencedOpening topFrom
 simp only[te4187177175401517315,te14364793385576792824,te5923862056798008813,te14082659384304107361,te10274390034422433532,te14289696077712309145]
 kernel_rfl
noncomputable def sA (s:Shared):Bool:=xlAt q1 [] s&&recOk [] s
theorem mD:LeftO PySem.Challenge.pw_in0167_01 q1 Lk sA Yg (λ_=>Z6) 4088:=λw=>
 byRow2 "special-get-raises" (P:=λw=>Ll w=Sz) (λw=>byRow2 "comprehension-iter-twice" (P:=λw=>Ll (w.withFollow "special-get-raises" false)=Sz) l1 l3 w)
  (λw=>byRow2 "comprehension-iter-twice" (P:=λw=>Ll (w.withFollow "special-get-raises" true)=Sz) l2 l4 w) w
end
theorem Fi (xs:List (List Nat)):Eg [] xs=xs.flatten:=by
 have h:∀(r:List (List Nat)) (acc:List Nat),r.foldl (λacc p=>acc++[]++p) acc=acc++r.flatten:=by
  intro r
  induction r with
  |nil=>intro acc;simp
  |cons x r ih=>intro acc;simp only[foldl_cons,ih];simp
 cases xs with
 |nil=>rfl
 |cons x r=>show r.foldl _ x=_;rw[h];simp
theorem Mm (x y:List Nat)(hy:1<=y.length):((Bj x y).map (·.length)).sum+(Bj x y).length<=x.length+1:=by
 have h:=split_weight ⟨x.toArray⟩ ⟨y.toArray⟩ (by simpa[Az]using hy)
 unfold Bj
 rw[length_map,map_map]
 have e:(List.map ((λx=>x.length)∘λp:Str=>p.cps.toList) (Txt.split ⟨x.toArray⟩ ⟨y.toArray⟩))=(Txt.split ⟨x.toArray⟩ ⟨y.toArray⟩).map (·.length):=by
  apply map_congr_left
  intro p _
  simp[Str.length]
 rw[e]
 simpa[Az]using h
theorem Dk (x y:List Nat)(hy:1<=y.length)(h:By y x=true):(Bq x y []).length+y.length<=x.length:=by
 have hn:Builtin.Str.occurrences ⟨x.toArray⟩ ⟨y.toArray⟩ 0 x.length (x.length+1)≠[]:=by
  intro e
  unfold By at h
  have h2:(!(Builtin.Str.occurrences ⟨x.toArray⟩ ⟨y.toArray⟩ 0 (⟨x.toArray⟩:Str).length 1).isEmpty)=true:=by rw[Az];exact h
  refine Ac ((StrLaws.found_iff _ _).mp h2) λi h3 h4=>?_
  rcases StrLaws.occ_head ⟨x.toArray⟩ ⟨y.toArray⟩ (x.length+1) (by simp +arith only)with⟨_,hno⟩|⟨i,r,hr,_⟩
  ·exact hno i ⟨h3,h4⟩
  ·rw[Az,e]at hr
   cases hr
 have hx:=StrLaws.glued_between_self ⟨x.toArray⟩ ⟨y.toArray⟩ (x.length+1)
 have hl:=congrArg Str.length hx
 rw[size_glued,length_partsBetween,Nat.add_sub_cancel,Az,Az]at hl
 have hg:=size_glued ⟨#[]⟩ (Builtin.Str.partsBetween ⟨x.toArray⟩ (Builtin.Str.occurrences ⟨x.toArray⟩ ⟨y.toArray⟩ 0 x.length (x.length+1)) y.length)
 unfold Bq Txt.replace
 rw[Az,Az]
 have hne:((Builtin.Str.occurrences ⟨x.toArray⟩ ⟨y.toArray⟩ 0 x.length (x.length+1)).isEmpty||(y.length==0&&(⟨#[]⟩:Str).length==0))=false:=by
  cases hq:Builtin.Str.occurrences ⟨x.toArray⟩ ⟨y.toArray⟩ 0 x.length (x.length+1)with
  |nil=>exact absurd hq hn
  |cons a r=>
   cases y with
   |nil=>simp at hy
   |cons b z=>rfl
 have hpos:1<=(Builtin.Str.occurrences ⟨x.toArray⟩ ⟨y.toArray⟩ 0 x.length (x.length+1)).length:=by
  cases hq:Builtin.Str.occurrences ⟨x.toArray⟩ ⟨y.toArray⟩ 0 x.length (x.length+1)with
  |nil=>exact absurd hq hn
  |cons a r=>simp
 have e0:(⟨([]:List Nat).toArray⟩:Str)=⟨#[]⟩:=rfl
 rw[e0,hne,if_neg (by decide)]
 have e1:∀t:Str,t.cps.toList.length=t.length:=λt=>by simp[Str.length]
 have e2:(⟨#[]⟩:Str).length=0:=rfl
 rw[e1,hg,e2,Nat.mul_zero,Nat.add_zero]
 have:=mul_le_mul_right y.length hpos
 rw[one_mul]at this
 exact Ah (add_le_add (le_of_eq hl) this)
theorem J0 {Tc:St->(Bool->St->Prop)->Prop}{Tb:TS}{n₀:Nat}{Q:FD->St->Prop}(I:Nat->St->Prop)
  (h:∀n σ (next:St->Prop),I n σ->(∀m σ',m<n->I m σ'->next σ')->Tc σ λc σ1=>if c=true then Tb σ1 λf σ2=>match f with
   | .brk=>Q .next σ2| .ret d=>Q (.ret d) σ2|_=>∃σ3,Ep n₀ σ2 σ3/\next σ3 else Q .next σ1):
  ∀k n σ,n<k->I n σ->Hp Tc Tb n₀ k σ Q
 |0,n,σ,hk,_=>absurd hk (Nat.not_lt_zero _)
 |k+1,n,σ,hk,i=>h n σ _ i λm σ' hm i'=>J0 I h k m σ' (by exact Ah (add_le_add hm hk)) i'
theorem Dd {Tc:St->(Bool->St->Prop)->Prop}{Tb:TS}{n₀:Nat}{Q:FD->St->Prop}(I:Nat->St->Prop)
  (h:∀n σ (R:FD->St->Prop),I n σ->(∀m σ' σ3,m<n->Ep n₀ σ' σ3->I m σ3->R .next σ')->(∀σ',Q .next σ'->R .brk σ')->Tc σ λc σ1=>if c=true then Tb σ1 R else Q .next σ1)
  (k n:Nat)(σ:St)(hk:n<k)(i:I n σ):Hp Tc Tb n₀ k σ Q:=
 J0 I (λn σ next hi hn=>h n σ _ hi (λm σ' σ3 hm hw hi2=>⟨σ3,hw,hn m σ3 hm hi2⟩) λ_ h=>h) k n σ hk i
noncomputable def Ei:Nat->List Nat->List Nat
 |0,x=>x
 |n+1,x=>if By (cs "()") x=true then Ei n (Bq x (cs "()") [])else x
theorem E6 (n:Nat)(x:List Nat):Ei (n+1) x=if By (cs "()") x=true then Ei n (Bq x (cs "()") [])else x:=rfl
theorem J1:∀(n m:Nat) (x:List Nat),x.length<=n->x.length<=m->Ei n x=Ei m x
 |0,0,x,_,_=>rfl
 |0,m+1,x,h,_=>by
  have:¬By (cs "()") x=true:=λhs=>by
   have:=Dk x (cs "()") (by decide) hs
   have e:(cs "()").length=2:=by decide
   exact oO (add_le_add (add_le_add (le_of_eq e.symm) this) h)
  rw[E6,if_neg this];rfl
 |n+1,0,x,_,h=>by
  have:¬By (cs "()") x=true:=λhs=>by
   have:=Dk x (cs "()") (by decide) hs
   have e:(cs "()").length=2:=by decide
   exact oO (add_le_add (add_le_add (le_of_eq e.symm) this) h)
  rw[E6,if_neg this];rfl
 |n+1,m+1,x,h,h'=>by
  rw[E6,E6]
  by_cases hs:By (cs "()") x=true
  ·rw[if_pos hs,if_pos hs]
   have:=Dk x (cs "()") (by decide) hs
   have e:(cs "()").length=2:=by decide
   exact J1 n m _ (by exact Ah (add_le_add (add_le_add this h) (le_of_eq e.symm))) (by exact Ah (add_le_add (add_le_add this h') (le_of_eq e.symm)))
  ·rw[if_neg hs,if_neg hs]
theorem Zm {α:Type}{l:List α}{lo hi st:Option Int}{x:α}(h:x∈C8 l lo hi st):x∈l:=by
 unfold C8 at h
 refine Ac (List.mem_filterMap.mp h) λi _ hi=>?_
 exact List.mem_of_getElem? hi
theorem K4 (l:List (List Nat))(m:Nat)(h:∀x∈l,x.length<=m):(l.map λx=>x.length+(cs "").length).sum<=l.length*m:=by
 induction l with
 |nil=>simp
 |cons x l ih=>
  have h1:=h x (by simp)
  have h2:=ih λy hy=>h y (mem_cons_of_mem _ hy)
  have h5:(cs "").length=0:=by decide
  rw[map_cons,sum_cons,length_cons,add_mul,one_mul,h5]
  rw[h5]at h2
  exact Ah (add_le_add h1 h2)
theorem Y6 (l:List (List Nat)){x:List Nat}(h:x∈l):x.length<=(l.map (·.length)).sum:=by
 induction l with
 |nil=>cases h
 |cons y l ih=>
  rw[map_cons,sum_cons]
  rcases mem_cons.mp h with rfl|h
  ·simp +arith only
  ·have:=ih h;exact Ah this
theorem Lm {α:Type}(l:List α)(lo hi st:Option Int):(C8 l lo hi st).length<=l.length:=by
 have h:=slicePick_size_le (l.map λ_=>Value.none).toArray lo hi st
 have e:=congrArg List.length (Rd l (λ_=>Value.none) lo hi st)
 rw[length_map]at e
 rw[e]
 unfold slicePick at h
 unfold C8
 simpa using h
theorem Ca {α:Type}{d:D}{σ1:St}{B:D->TS}{n₀:Nat}{s:List (String×D)}{cap:List String}{F:St->Prop}(g:α->D)(out:α->List D)(xs:List α)
  (hi:Al σ1.own d=some (xs.map g))
  (hB:∀x don res (junk:List (List D)) (R:FD->St->Prop),xs=don++x::res->(∀m j,R .next ⟨s++m,σ1.own++(don.flatMap out++out x)::(junk++j),cap⟩)->B (g x) ⟨s,σ1.own++don.flatMap out::junk,cap⟩ R)
  (hF:∀loc junk,F ⟨loc,σ1.own++xs.flatMap out::junk,cap⟩):Fr d σ1 λitems C=>Do C B n₀ items ⟨s,σ1.own++[[]],cap⟩ (Iz F):=by
 refine Cl hi ?_
 refine E0 (λitems σ=>∃don res junk,xs=don++res/\items=res.map g/\σ=⟨s,σ1.own++don.flatMap out::junk,cap⟩) ?_ ?_ _ _ ⟨[],xs,[],rfl,rfl,rfl⟩
 ·intro x r σ next Z hk
  refine Fq Z λdon res junk e e2 V=>?_
  clear Z
  subst V
  cases res with
  |nil=>cases e2
  |cons p res=>
   rw[map_cons]at e2
   injection e2 with e3 e4
   subst e3 e4
   exact⟨Au hi _,hB p don res junk _ e λm j=>⟨_,H8 s m,hk _ ⟨don++[p],res,junk++j,by simp[e],rfl,by simp⟩⟩⟩
 ·intro σ Y
  refine Fq Y λdon res junk e e2 U=>?_
  clear Y
  subst U
  have:res=[]:=by simpa using e2.symm
  subst this
  rw[append_nil]at e;subst e
  exact⟨Au hi _,hF _ _⟩
theorem Di {α:Type}{l:List α}{j:Nat}{x:α}(h:l[j]? =some x):Fg l (j:Int)=some x:=by
 have hj:=(List.getElem?_eq_some_iff.mp h).1
 have e:seqIndex? (j:Int) l.length=some j:=by
  unfold seqIndex?
  have h1:¬((j:Int)<0):=by exact Wl (n:=j) rfl
  have h2:(j:Int)<l.length:=by exact Int.ofNat_lt.2 (Ah hj:j<l.length)
  simp only[if_neg h1]
  simp[h2]
 unfold Fg
 rw[e];exact h
theorem Rq {α β:Type}{f:α->List β}(h:∀x,(f x).length<=1)(xs:List α):(xs.flatMap f).length<=xs.length:=by
 induction xs with
 |nil=>exact le_refl _
 |cons x xs ih=>have:=h x;simp only[flatMap_cons,length_append,length_cons];exact Ah (add_le_add this ih)
theorem nf {p:Prop}:(false=true->p):=λh=>absurd h (by decide)
theorem Rp {α β:Type}(f:α->β)(xs:List α):(xs.flatMap λx=>[f x])=xs.map f:=by
 induction xs with
 |nil=>rfl
 |cons x xs ih=>rw[flatMap_cons,map_cons,ih];rfl
theorem Aq {T1 T2:TS}{σ:St}{R:FD->St->Prop}(h:T1 σ (Xs T2 R)):Ya T1 T2 σ R:=h
theorem Xr (R:FD->St->Prop):Xs (λσ Q=>Q .next σ) R=R:=funext λf=>funext λσ=>by cases f<;>rfl
theorem Ap {T:TS}{σ:St}{R:FD->St->Prop}(h:T σ R):Ya T (λσ Q=>Q .next σ) σ R:=Aq (by rw[Xr];exact h)
theorem Ao {T1 T2:TS}{σ:St}{Q:FD->St->Prop}(I:St->Prop)(J:D->St->Prop)(h1:∀R:FD->St->Prop,(∀σ',I σ'->R .next σ')->(∀d σ',J d σ'->R (.ret d) σ')->T1 σ R)
  (h2:∀σ',I σ'->T2 σ' Q)(h3:∀d σ',J d σ'->Q (.ret d) σ'):Ya T1 T2 σ Q:=h1 _ h2 h3
theorem Bf {T:TS}{σ:St}{R:FD->St->Prop}(h:∀R':FD->St->Prop,(∀σ',R .next σ'->R' .next σ')->(∀d σ',R (.ret d) σ'->R' (.ret d) σ')->T σ R'):Ya T (λσ Q=>Q .next σ) σ R:=h _ (λ_ h=>h) λ_ _ h=>h
theorem E1 {C:St->Prop}{Tb:D->TS}{n₀:Nat}{Q:FD->St->Prop}(I:List D->St->Prop)
  (h:∀x r σ (R:FD->St->Prop),I (x::r) σ->(∀σ' σ2,Ep n₀ σ' σ2->I r σ2->R .next σ')->(∀d σ',Q (.ret d) σ'->R (.ret d) σ')->(∀σ',Q .next σ'->R .brk σ')->C σ/\Tb x σ R)
  (h0:∀σ,I [] σ->C σ/\Q .next σ)(items:List D)(σ:St)(i:I items σ):Do C Tb n₀ items σ Q:=
 E0 I (λx r σ next hi hn=>h x r σ _ hi (λσ' σ2 hw hi2=>⟨σ2,hw,hn σ2 hi2⟩) (λ_ _ h=>h) λ_ h=>h) h0 items σ i
theorem sV {d:D}{σ:St}{Q:D->St->Prop}(h:Q d σ):tV d σ Q:=h
theorem Ab {x:String}{d:D}{σ:St}{Q:D->St->Prop}(e:σ.get x=some d)(h:Q d σ):Xu x σ Q:=⟨d,e,h⟩
theorem Yh {l:List D}{i:Int}{d:D}{σ:St}{P:D->Prop}(hw:B6 i)(e:Fg l i=some d)(h:P d):Kh (.tup l) (.int i) σ P:=⟨hw,d,e,h⟩
theorem Gd {k:Nat}{l:List D}{i:Int}{d:D}{σ:St}{P:D->Prop}(hl:σ.own[k]? =some l)(hw:B6 i)(e:Fg l i=some d)(h:P d):Kh (.obj k) (.int i) σ P:=⟨l,hl,hw,d,e,h⟩
theorem Oq {k:Nat}{l:List D}{σ:St}{P:Bool->Prop}(hl:σ.own[k]? =some l)(hz:l.length<=20000)(h:P (!l.isEmpty)):Ju (.obj k) σ P:=⟨l,hl,by exact lt_of_le_of_lt hz (by decide),h⟩
theorem Cp {c:Bool}{σ:St}{P:Bool->Prop}(h:P c):Ju (.bool c) σ P:=h
theorem Qw {x y:List Nat}{σ:St}{R:Bool->Prop}(h:R (decide (x=y))):Em .Eq (.str x) (.str y) σ R:=h
theorem B0 {x:String}{d:D}{σ:St}{Q:St->Prop}(h:Q (σ.set x d)):eQ false x d σ Q:=⟨nf,h⟩
theorem H6 {c:Bool}{A B:Prop}(h:c=true->A)(h':c=false->B):if c=true then A else B:=by
 cases c
 ·rw[if_neg (by decide)];exact h' rfl
 ·rw[if_pos rfl];exact h rfl
theorem sT {A B:Prop}(h:A):if true=true then A else B:=by rw[if_pos rfl];exact h
theorem sF {A B:Prop}(h:B):if false=true then A else B:=by rw[if_neg (by decide)];exact h
theorem Lp {α:Type}(l:List α)(x:α):seqIndex? (-1) (l++[x]).length=some l.length:=by
 unfold seqIndex?
 rw[length_append]
 simp
 exact fK _
theorem Dl {α:Type}(l:List α)(x:α):Fg (l++[x]) (-1)=some x:=by
 unfold Fg
 rw[Lp,Option.bind_some,List.getElem?_append_right (le_refl _),sub_self];rfl
theorem W1 {α:Type}(l:List α)(x:α):(l++[x]).drop ((l++[x]).length - 1)=[x]:=by simp
theorem Gy {x:List Nat}{c:Nat}{i:Int}{σ:St}{P:D->Prop}(hw:B6 i)(e:Fg x i=some c)(h:P (.str [c])):Kh (.str x) (.int i) σ P:=⟨hw,c,e,h⟩
theorem pN {i:Int}{σ:St}{R:Bool->Prop}(h:R false):Em .Is (.int i) .none σ R:=h
theorem pL {i j:Int}{σ:St}{R:Bool->Prop}(h:R (i != j)):Em .NotEq (.int i) (.int j) σ R:=h
theorem Mo {i j:Int}{σ:St}{R:Bool->Prop}(h:R (i==j)):Em .Eq (.int i) (.int j) σ R:=h
theorem Mn {i j:Int}{σ:St}{R:Bool->Prop}(h:R (decide (i<j))):Em .Lt (.int i) (.int j) σ R:=h
theorem Hd {i j:Int}{σ:St}{Q:D->St->Prop}(h:Q (.int (i+j)) σ):Mz .Add (.int i) (.int j) σ Q:=h
theorem kU {x:List Nat}{σ:St}{Q:D->St->Prop}(hz:x.length<2^62)(h:Q (.int x.length) σ):Tv (.str x) σ Q:=⟨hz,h⟩
theorem eW {i j:Int}{σ:St}{Q:D->St->Prop}(h:Q (.int (i+j)) σ):N6 .Add (.int i) (.int j) σ Q:=.inl ⟨rfl,h⟩
theorem pO {x y:List Nat}{σ:St}{R:Bool->Prop}(h:R (By y x)):Em .In (.str y) (.str x) σ R:=h
theorem bP {T:TT}{k:Nat}{σ:St}{Q:St->Prop}(h:T σ λd σ=>∃l,σ.own[k]? =some l/\l.length<=sizeLine/\Q {σ with own:=σ.own.set k (l++[d])}):Ru T k σ Q:=h
theorem Hc {Ti:TT}{Ta:D->St->(St->Prop)->Prop}{Tt:St->(Bool->St->Prop)->Prop}{Tin:Nat->St->(St->Prop)->Prop}{cap:List String}{σ:St}{Q:D->St->Prop}
  (h:Ti σ λd σ1=>Fr d σ1 λitems C=>Do C (λx σ Q=>Ta x σ λσ'=>Tt σ' λok σ'=>if ok=true then Tin σ1.own.length σ' (Q .next)else Q .next σ') (σ1.own.length+1) items ⟨seen cap σ1,σ1.own++[[]],cap⟩ (Iz λσe=>Q (.obj σ1.own.length) {σ1 with own:=σe.own})):L4 Ti Ta Tt Tin cap σ Q:=h
theorem eS {Ti:TT}{Ta:D->St->(St->Prop)->Prop}{Tt:St->(Bool->St->Prop)->Prop}{Tin:Nat->St->(St->Prop)->Prop}{k:Nat}{σ:St}{Q:St->Prop}
  (h:Ti σ λd σ1=>Fr d σ1 λitems C=>Do C (λx σ Q=>Ta x σ λσ1=>Tt σ1 λok σ1=>if ok=true then Tin k σ1 (Q .next)else Q .next σ1) σ1.own.length items σ1 (Iz Q)):Zj Ti Ta Tt Tin k σ Q:=h
theorem Bn (own:List (List D))(x:List D)(j:List (List D)):(own++x::j)[own.length]? =some x:=by simp
theorem E9 (own:List (List D))(x y:List D)(j:List (List D)):(own++x::j).set own.length y=own++y::j:=by simp
theorem Uo {k:Nat}{l:List D}{σ:St}{Q:D->St->Prop}(hl:σ.own[k]? =some l)(hz:l.length<=20000)(h:Q (.int l.length) σ):Tv (.obj k) σ Q:=⟨l,hl,by exact lt_of_le_of_lt hz (by decide),h⟩
theorem Z7 (own:List (List D))(x:List D)(j y:List (List D)):(own++x::j++y)[own.length]? =some x:=by rw[append_assoc];exact Bn own x (j++y)
theorem X8 (own:List (List D))(x z:List D)(j y:List (List D)):(own++x::j++y).set own.length z=own++z::(j++y):=by rw[append_assoc];exact E9 own x z (j++y)
theorem eU {k n:Nat}{l:List D}{σ:St}{Q:D->St->Prop}(hl:σ.own[k]? =some l)(hn:l.length=n)(hz:n<=20000)(h:Q (.int n) σ):Tv (.obj k) σ Q:=by subst hn;exact Uo hl hz h
theorem cR {x:List Nat}{r:Addr}{σ:St}{R:Bool->Prop}(h:R true):Em .IsNot (.str x) (.raw (.ref r)) σ R:=⟨⟨r,rfl⟩,h⟩
theorem kX {k:Nat}{ys:List (List Nat)}{x:List Nat}{b:Bool}{σ:St}{R:Bool->Prop}(e:σ.own[k]? =some (ys.map D.str))(hb:ys.any (·==x)=b)(h:R b):Em .In (.str x) (.obj k) σ R:=by subst hb;exact qQ e h
theorem La {l:D}{xs:List (List Nat)}{σ:St}{Q:D->St->Prop}(hi:Al σ.own l=some (xs.map D.str))(hz:xs.flatten.length<=4000000)(h:Q (.str xs.flatten) σ):Uz (.str (cs "")) [l] σ Q:=
 ⟨_,l,xs,rfl,rfl,hi,by
  have e:(xs.map λx=>x.length+(cs "").length).sum=xs.flatten.length:=length_flatten.symm
  rw[e];unfold sizeLine;exact le_trans hz (by decide),by rw[show Eg (cs "") xs=xs.flatten from Fi xs];exact h⟩
theorem eR {k:Nat}{l:List D}{lo hi st:Option Int}{σ:St}{Q:D->St->Prop}(hl:σ.own[k]? =some l)(hs:st≠some 0)(hz:l.length<=20000)(h:Q (.obj σ.own.length) {σ with own:=σ.own++[C8 l lo hi st]}):Pi (.obj k) lo hi st σ Q:=⟨hs,l,hl,by unfold sizeLine;exact le_trans hz (by decide),h⟩
theorem gP {x y:List Nat}{σ:St}{Q:D->St->Prop}(hy:y≠[])(hz:x.length<=20000)(h:Q (.obj σ.own.length) {σ with own:=σ.own++[(Bj x y).map D.str]}):S6 (.str x) [.str y] σ Q:=⟨x,y,rfl,rfl,hy,by unfold sizeLine;exact le_trans (Ah hz) b6,h⟩
theorem Um {c:Bool}{A B:Prop}(e:c=true)(h:A):if c=true then A else B:=by rw[if_pos e];exact h
theorem Yj {c:Bool}{A B:Prop}(e:c=false)(h:B):if c=true then A else B:=by rw[e];exact sF h
theorem kT {x y:List Nat}{σ:St}{R:Bool->Prop}(h:R (!decide (x=y))):Em .NotEq (.str x) (.str y) σ R:=h
theorem pQ {i j:Int}{σ:St}{R:Bool->Prop}(h:R (decide (i>=j))):Em .GtE (.int i) (.int j) σ R:=h
theorem pP {x y:List Nat}{σ:St}{R:Bool->Prop}(h:R (decide (y<x))):Em .Gt (.str x) (.str y) σ R:=h
theorem Up {i j:Int}{σ:St}{Q:D->St->Prop}(hj:0<j/\j<1073741824)(h:Q (.int (i/j)) σ):Mz .FloorDiv (.int i) (.int j) σ Q:=⟨hj,h⟩
theorem K9 {i j:Int}{σ:St}{Q:D->St->Prop}(hj:0<j)(h:Q (.int (i%j)) σ):Mz .Mod (.int i) (.int j) σ Q:=⟨hj,h⟩
theorem V3 {x y:List Nat}{σ:St}{Q:D->St->Prop}(hz:x.length+y.length<=20000)(h:Q (.str (x++y)) σ):Mz .Add (.str x) (.str y) σ Q:=⟨rfl,by unfold sizeLine;exact le_trans hz (by decide),h⟩
theorem Qx {x:List Nat}{lo hi:Option Int}{σ:St}{Q:D->St->Prop}(hz:x.length<=20000)(h:Q (.str (E4 x lo hi)) σ):Pi (.str x) lo hi none σ Q:=⟨rfl,by unfold sizeLine;exact le_trans hz (by decide),h⟩
theorem eT {x:List Nat}{σ:St}{Q:D->St->Prop}(hz:x.length<=20000)(h:Q (.int x.length) σ):Tv (.str x) σ Q:=⟨by exact lt_of_le_of_lt hz (by decide),h⟩
theorem gQ {d:D}{c:Bool}{σ:St}{R:Bool->Prop}(e:(d=.none/\c=true)\/(∃x,d=.str x)/\c=false)(h:R c):Em .Is d .none σ R:=by
 rcases e with⟨rfl,rfl⟩|⟨⟨x,rfl⟩,rfl⟩<;>exact h
structure Br where
 bar:Bool
 ps:List (List Nat×Option (List Nat))
 op:Bool
noncomputable def pD (p:List Nat×Option (List Nat)):D:=.tup [.str p.1,match p.2 with|none=>.none|some y=>.str y]
theorem Zl {X r:List α}{x:α}{t:Nat}(e:X.length=t):(X++x::r)[t]? =some x:=by subst e;rw[List.getElem?_append_right (le_refl _),sub_self];rfl
noncomputable def Kn (ix:List (Nat×Nat)):List Nat:=ix.flatMap λi=>[i.1,i.2]
noncomputable def eE (b:Br) (p:Nat):List D:=[.bool b.bar,.obj p,.bool b.op]
noncomputable def E5 (n₀:Nat) (own:List (List D)) (k:Nat) (bs:List Br):Prop:=∃ix:List (Nat×Nat),ix.length=bs.length/\own[k]? =some (ix.map λi=>.obj i.1)/\
 (∀(j:Nat) i b,ix[j]? =some i->bs[j]? =some b->own[i.1]? =some (eE b i.2)/\own[i.2]? =some (b.ps.map pD))/\
 (k::Kn ix).Nodup/\(∀x∈k::Kn ix,n₀<=x)
theorem Rh {ix:List (Nat×Nat)}{j:Nat}{i:Nat×Nat}(h:ix[j]? =some i):i.1∈Kn ix/\i.2∈Kn ix:=by
 have:=List.mem_of_getElem? h
 exact⟨mem_flatMap.mpr ⟨i,this,by simp⟩,mem_flatMap.mpr ⟨i,this,by simp⟩⟩
theorem E3 (ix:List (Nat×Nat))(i:Nat×Nat):Kn (ix++[i])=Kn ix++[i.1,i.2]:=by simp[Kn]
theorem E5.last {n₀ k:Nat}{own:List (List D)}{bs:List Br}{b:Br}(ht:E5 n₀ own k bs)(hg:bs.getLast?=some b):
  ∃l i p,own[k]? =some (l++[.obj i])/\l.length+1=bs.length/\own[i]? =some (eE b p)/\own[p]? =some (b.ps.map pD)/\n₀<=i/\n₀<=p/\
   ∀own' b',own'.length=own.length->(∀j,j≠i->j≠p->own'[j]? =own[j]?)->own'[i]? =some (eE b' p)->own'[p]? =some (b'.ps.map pD)->E5 n₀ own' k (bs.dropLast++[b']):=by
 obtain⟨ix,h1,h2,h3,h4,h5⟩:=ht
 obtain⟨bs',rfl⟩:=List.getLast?_eq_some_iff.mp hg
 rcases List.eq_nil_or_concat ix with rfl|⟨ix',ip,rfl⟩
 ·rw[length_append]at h1;exact absurd h1.symm (Nat.succ_ne_zero _)
 rw[List.concat_eq_append]at h1 h2 h3 h4 h5
 have hl:ix'.length=bs'.length:=by rw[length_append,length_append]at h1;exact Nat.succ.inj h1
 have hb:=h3 ix'.length ip b (Zl rfl) (Zl hl.symm)
 rw[E3]at h4 h5
 refine⟨ix'.map λi=>.obj i.1,ip.1,ip.2,by rw[h2,map_append];rfl,by rw[length_map,length_append,hl];rfl,hb.1,hb.2,h5 _ (.tail _ (mem_append_right _ (.head _))),h5 _ (.tail _ (mem_append_right _ (.tail _ (.head _)))),λown' b' _ ho hi hp=>?_⟩
 have hk:k≠ip.1/\k≠ip.2:=by
  have:=(nodup_cons.mp h4).1
  exact⟨λe=>this (by rw[e];exact mem_append_right _ (.head _)),λe=>this (by rw[e];exact mem_append_right _ (.tail _ (.head _)))⟩
 have hd:∀x∈Kn ix',x≠ip.1/\x≠ip.2:=λx hx=>by
  have:=(List.nodup_append.mp (nodup_cons.mp h4).2).2.2 x hx
  exact⟨this _ (.head _),this _ (.tail _ (.head _))⟩
 refine⟨ix'++[ip],by rw[dropLast_concat,length_append,length_append,hl];rfl,by rw[ho k hk.1 hk.2,h2],λj i b2 e1 e2=>?_,by rw[E3];exact h4,by rw[E3];exact h5⟩
 rw[dropLast_concat]at e2
 by_cases hj:j<ix'.length
 ·rw[List.getElem?_append_left hj]at e1
  rw[List.getElem?_append_left (hl▸hj)]at e2
  have m:=Rh e1
  rw[ho _ (hd _ m.1).1 (hd _ m.1).2,ho _ (hd _ m.2).1 (hd _ m.2).2]
  exact h3 j i b2 (by rw[List.getElem?_append_left hj];exact e1) (by rw[List.getElem?_append_left (hl▸hj)];exact e2)
 ·have hj2:j=ix'.length:=by
   have:=(List.getElem?_eq_some_iff.mp e1).1
   rw[length_append]at this;exact le_antisymm (Nat.le_of_lt_succ this) (not_lt.1 hj)
  subst hj2
  rw[List.getElem?_append_right (le_refl _),sub_self]at e1
  rw[hl,List.getElem?_append_right (le_refl _),sub_self]at e2
  cases e1;cases e2
  exact⟨hi,hp⟩
theorem E5.app {n₀ k:Nat}{own:List (List D)}{bs:List Br}(ht:E5 n₀ own k bs)(x:List (List D)):E5 n₀ (own++x) k bs:=by
 obtain⟨ix,h1,h2,h3,h4,h5⟩:=ht
 have g:∀{j:Nat} {l:List D},own[j]? =some l->(own++x)[j]? =some l:=λe=>by
  rw[List.getElem?_append_left (List.getElem?_eq_some_iff.mp e).1];exact e
 exact⟨ix,h1,g h2,λj i b e e'=>⟨g (h3 j i b e e').1,g (h3 j i b e e').2⟩,h4,h5⟩
theorem gR {k:Nat}{l:List D}{σ:St}{P:Prop}(hl:σ.own[k]? =some l)(h:P):Z0 (.obj k) σ/\P:=⟨⟨k,l,rfl,hl⟩,h⟩
theorem Mp {k:Nat}{x:D}{l:List D}{σ:St}{Q:D->St->Prop}(hl:σ.own[k]? =some l)(hz:l.length<=20000)(h:Q .none {σ with own:=σ.own.set k (l++[x])}):U0 (.obj k) [x] σ Q:=
 ⟨k,x,l,rfl,rfl,hl,by unfold sizeLine;exact le_trans hz (by decide),h⟩
theorem Yi {k j:Nat}{n:Int}{x:D}{l:List D}{σ:St}{Q:St->Prop}(hl:σ.own[k]? =some l)(hw:B6 n)(hj:seqIndex? n l.length=some j)(h:Q {σ with own:=σ.own.set k (l.set j x)}):bA (.obj k) (.int n) x σ Q:=
 ⟨l,j,hl,hw,hj,h⟩
theorem Ps (ys:List (List Nat))(u:List Nat):ys.any (·==u)=decide (u∈ys):=by
 by_cases h:u∈ys
 ·rw[decide_eq_true h,List.any_eq_true];exact⟨u,h,by simp⟩
 ·rw[decide_eq_false h,List.any_eq_false]
  intro y hy e
  exact h ((show y=u by simpa using e)▸hy)
theorem E5.push {n₀ k:Nat}{own own':List (List D)}{bs:List Br}{b:Br}(ht:E5 n₀ own k bs){i p:Nat}(hi:own.length<=i)(hp:own.length<=p)(hip:i≠p)(hn:n₀<=own.length)
  (ho:∀j,j≠k->j<own.length->own'[j]? =own[j]?)(hk:∀l,own[k]? =some l->own'[k]? =some (l++[.obj i]))(h1:own'[i]? =some (eE b p))(h2:own'[p]? =some (b.ps.map pD)):E5 n₀ own' k (bs++[b]):=by
 obtain⟨ix,e1,e2,h3,h4,h5⟩:=ht
 have lt:∀(j:Nat) (i:Nat×Nat),ix[j]? =some i->i.1<own.length/\i.2<own.length:=λj i e=>by
  have hj:j<bs.length:=e1▸(List.getElem?_eq_some_iff.mp e).1
  have:=h3 j i bs[j] e (List.getElem?_eq_getElem hj)
  exact⟨(List.getElem?_eq_some_iff.mp this.1).1,(List.getElem?_eq_some_iff.mp this.2).1⟩
 have ltf:∀x∈k::Kn ix,x<own.length:=λx hx=>by
  rcases mem_cons.mp hx with rfl|hx
  ·exact(List.getElem?_eq_some_iff.mp e2).1
  ·obtain⟨i,hi,hx⟩:=mem_flatMap.mp hx
   obtain⟨j,hj,e⟩:=List.getElem_of_mem hi
   have:=lt j i (by rw[List.getElem?_eq_getElem hj,e])
   exact(forall_mem_cons.mpr ⟨this.1,forall_mem_cons.mpr ⟨this.2,forall_mem_nil _⟩⟩:∀x∈[i.1,i.2],x<own.length) x hx
 have nk:∀x∈Kn ix,x≠k:=λx hx e=>(nodup_cons.mp h4).1 (e▸hx)
 refine⟨ix++[(i,p)],by rw[length_append,length_append,e1];rfl,by rw[hk _ e2,map_append];rfl,λj i' b' x1 x2=>?_,?_,?_⟩
 ·by_cases hj:j<ix.length
  ·rw[List.getElem?_append_left hj]at x1
   rw[List.getElem?_append_left (e1▸hj)]at x2
   have m:=Rh x1
   rw[ho _ (nk _ m.1) (lt j i' x1).1,ho _ (nk _ m.2) (lt j i' x1).2]
   exact h3 j i' b' x1 x2
  ·have hj2:j=ix.length:=by
    have:=(List.getElem?_eq_some_iff.mp x1).1
    rw[length_append]at this;exact le_antisymm (Nat.le_of_lt_succ this) (not_lt.1 hj)
   subst hj2
   rw[List.getElem?_append_right (le_refl _),sub_self]at x1
   rw[e1,List.getElem?_append_right (le_refl _),sub_self]at x2
   cases x1;cases x2
   exact⟨h1,h2⟩
 ·rw[E3,<-cons_append]
  refine List.nodup_append.mpr ⟨h4,by simp[hip],λx hx y hy e=>?_⟩
  have:=ltf x hx
  simp only[mem_cons,not_mem_nil,or_false]at hy
  rcases hy with rfl|rfl<;>first|exact ne_of_lt (lt_of_lt_of_le this hi) e|exact ne_of_lt (lt_of_lt_of_le this hp) e
 ·rw[E3,<-cons_append]
  intro x hx
  rcases mem_append.mp hx with hx|hx
  ·exact h5 x hx
  ·simp only[mem_cons,not_mem_nil,or_false]at hx
   rcases hx with rfl|rfl<;>first|exact le_trans hn hi|exact le_trans hn hp
noncomputable def dZ:DefRec:=Bk PySem.Challenge.pw_in0167_01 19
noncomputable def sg:List Nat:=cs "\"&()[\\^abcz|~"
structure Pc where
 x:Nat
 y:Nat
 lone:Bool
 wt:Int
noncomputable def Le (n:Int):Pc:=⟨sg.getD (n%13).toNat 0,if n/13%3==0 then sg.getD (n%13).toNat 0 else sg.getD (n/39%13).toNat 0,n/13%3==0,n/1014%3⟩
noncomputable def Dm (p:Pc):D:=.tup [.str [p.x],.str [p.y],.bool p.lone,.int p.wt]
theorem kP (m:Int):B6 (m%13)/\Fg sg (m%13)=some (sg.getD (m%13).toNat 0):=by
 have h0:0<=m%13:=Int.emod_nonneg _ (by decide)
 have h1:m%13<13:=Int.emod_lt_of_pos _ (by decide)
 refine⟨⟨Int.le_trans (by decide) h0,Int.lt_trans h1 (by decide)⟩,?_⟩
 generalize m%13=k at h0 h1
 refine Af (Int.eq_ofNat_of_zero_le h0) λj Z=>?_
 subst Z
 exact(by decide:∀j:Nat,j<13->Fg sg (j:Int)=some (sg.getD (j:Int).toNat 0)) j (by exact Ah (Int.ofNat_lt.1 h1))
theorem Y9 (n:Int):Dm (Le n)=.tup [.str [sg.getD (n%13).toNat 0],.str [if n/13%3=0 then sg.getD (n%13).toNat 0 else sg.getD (n/39%13).toNat 0],.bool (n/13%3==0),.int (n/1014%3)]:=by
 simp[Le,Dm]
noncomputable def oW:Mine.Cf:=λds own Q=>∃(d:D) (ns:List Int),ds=[d]/\Al own d=some (ns.map D.int)/\ns.length<=63/\Q (.obj own.length) (own++[ns.map λn=>Dm (Le n)])
theorem dT {Γ:W}(ok:Γ.Ok){A:Around}{a:Addr}{pm code doc:Value}(N:Fn Γ a (docDef dZ.name dZ.params dZ.body dZ.scope pm code doc) ["numbers"] dZ.body)(hA:Bi 1 A):Ar Γ A (.ref a) oW:=by
 refine'(Dr ok N rfl (by have:=hA.depth;exact Ah this) (λL=>?w)).imp ?p
 case w=>
  have H:=H3 ok N (hA.deeper (callEnvC (docDef dZ.name dZ.params dZ.body dZ.scope pm code doc) L a)) L
  refine' Be ?_ ?_
  all_goals repeat' first
   |((with_reducible show _=_);first|assumption|rfl|decide)
   |((with_reducible show Ev _ _ _);assumption)
   |((with_reducible show Kd _ _ _);first|exact Kd.local (by rfl)|exact Kd.cell (by rfl) ⟨_,by rfl⟩)
   |((with_reducible show∀_,_=_);intro _;rfl)
   |((with_reducible show∀_ _,_=_);intro _ _;rfl)
   |((with_reducible show∀_ _,∃_,_);exact λ_ _=>⟨_,rfl⟩)
   |with_reducible exact Fu
   |with_reducible refine' Be ..
   |with_reducible refine' Co ..
   |with_reducible refine' Ue ..
   |with_reducible refine' bQ ..
   |with_reducible refine' Ft ..
   |with_reducible refine' K0 ..
   |with_reducible exact Ig
   |with_reducible exact Hx
   |with_reducible refine' Fe ..
   |with_reducible refine' Kl ..
   |with_reducible refine' Q6 ..
   |with_reducible refine' He ..
   |with_reducible refine' Hw ..
   |with_reducible exact Dc
   |with_reducible refine' B3 ..
   |with_reducible refine' Ou ..
   |with_reducible refine' Hy ..
   |with_reducible refine' Xe ..
   |with_reducible refine' Dq ..
   |with_reducible refine' Cb ..
 case p=>
  intro ds own Q Z
  refine Dt Z λd ns U hi hl q=>?_
  clear Z
  subst U
  refine⟨rfl,?_⟩
  refine Aq ⟨zero_le _,le_of_ble_eq_true rfl,_,rfl,rfl,Aq (Ab rfl (Cl (Au hi _) ?_))⟩
  refine E1 (λitems σ=>∃don res,ns=don++res/\items=res.map D.int/\σ=⟨[("numbers",d),("pieces",.obj own.length),("signs",.str sg)],own++[don.map λn=>Dm (Le n)],[]⟩) ?_ ?_ _ _ ⟨[],ns,rfl,rfl,rfl⟩
  ·intro x r σ R Y hk _ _
   refine Aj Y λdon res e e2 z0=>?_
   clear Y
   subst z0
   cases res with
   |nil=>cases e2
   |cons n res=>
    rw[map_cons]at e2
    injection e2 with e3 e4
    subst e3 e4
    refine Ae (kP n) λw1 n1=>Ae (kP (n/39)) λw2 n2=>?_
    have hz:(don.map λn=>Dm (Le n)).length<=20000:=by
     rw[length_map]
     have:=congrArg List.length e
     rw[length_append,length_cons]at this
     exact Ah (add_le_add (le_of_eq this.symm) hl)
    have fin:∀t,t=Dm (Le n)->R .next ⟨[("numbers",d),("pieces",.obj own.length),("signs",.str sg),("n",.int n),("lone",.bool (n/13%3==0))],(own++[don.map λn=>Dm (Le n)]).set own.length (don.map (λn=>Dm (Le n))++[t]),[]⟩:=λt ht=>by
     rw[B4,ht]
     exact hk _ _ (H8 [("numbers",d),("pieces",.obj own.length),("signs",.str sg)] _) ⟨don++[n],res,by rw[e,append_assoc];rfl,rfl,by rw[map_append];rfl⟩
    refine⟨Au hi _,B0 (Aq (Ab rfl (Up ⟨by decide,by decide⟩ (K9 (by decide) (Mo (B0 (Ap (Ab rfl ⟨⟨_,_,rfl,Ai _ _⟩,Ab rfl (Ab rfl (K9 (by decide) (Gy w1 n1 (Ab rfl (Cp (H6 (λhc=>?_) λhc=>?_))))))⟩))))))))⟩
    ·exact Ab rfl (Ab rfl (K9 (by decide) (Gy w1 n1 (Ab rfl (Ab rfl (Up ⟨by decide,by decide⟩ (K9 (by decide) ⟨le_of_ble_eq_true rfl,Mp (Ai _ _) hz (fin _ (by rw[Y9,if_pos (eq_of_beq hc)]))⟩)))))))
    ·exact Ab rfl (Ab rfl (Up ⟨by decide,by decide⟩ (K9 (by decide) (Gy w2 n2 (Ab rfl (Ab rfl (Up ⟨by decide,by decide⟩ (K9 (by decide) ⟨le_of_ble_eq_true rfl,Mp (Ai _ _) hz (fin _ (by rw[Y9,if_neg (ne_of_beq_false hc)]))⟩))))))))
  ·intro σ V
   refine Aj V λdon res e e2 z1=>?_
   clear V
   subst z1
   have:res=[]:=List.map_eq_nil_iff.mp e2.symm
   subst this
   rw[append_nil]at e;subst e
   exact⟨Au hi _,Ap (Ab rfl q)⟩
noncomputable def W6:DefRec:=Bk PySem.Challenge.pw_in0167_01 21
noncomputable def Aw (c:Nat) (first:Bool):List Nat:=if[92,38,124,126].contains c||(first&&[94,91].contains c)then[92,c]else[c]
theorem qG:∀c∈sg,By [c] (cs "\\&|~")=[92,38,124,126].contains c:=by decide +kernel
theorem qF:∀c∈sg,By [c] (cs "^[")=[94,91].contains c:=by decide +kernel
noncomputable def qY:Mine.Cf:=λds own Q=>∃c first,ds=[.str [c],.bool first]/\c∈sg/\Q (.str (Aw c first)) own
theorem nD {Γ:W}(ok:Γ.Ok){A:Around}{a:Addr}{pm code doc:Value}(N:Fn Γ a (docDef W6.name W6.params W6.body W6.scope pm code doc) ["sign","first"] W6.body)(hA:Bi 1 A):Ar Γ A (.ref a) qY:=by
 refine'(Dr ok N rfl (by have:=hA.depth;exact Ah this) (λL=>?w)).imp ?p
 case w=>
  have H:=H3 ok N (hA.deeper (callEnvC (docDef W6.name W6.params W6.body W6.scope pm code doc) L a)) L
  refine' Be ?_ ?_
  all_goals repeat' first
   |((with_reducible show _=_);first|assumption|rfl|decide)
   |((with_reducible show Ev _ _ _);assumption)
   |((with_reducible show Kd _ _ _);first|exact Kd.local (by rfl)|exact Kd.cell (by rfl) ⟨_,by rfl⟩)
   |((with_reducible show∀_,_=_);intro _;rfl)
   |((with_reducible show∀_ _,_=_);intro _ _;rfl)
   |((with_reducible show∀_ _,∃_,_);exact λ_ _=>⟨_,rfl⟩)
   |with_reducible exact Fu
   |with_reducible refine' Be ..
   |with_reducible refine' Ft ..
   |with_reducible exact Ig
   |with_reducible refine' Kl ..
   |with_reducible refine' Hy ..
   |with_reducible refine' Pr ..
   |with_reducible refine' R8 ..
   |with_reducible exact Kx
   |with_reducible exact Pw
   |with_reducible refine' eK ..
   |with_reducible refine' oR ..
   |with_reducible refine' Xe ..
   |with_reducible refine' Cb ..
 case p=>
  intro ds own Q Z
  refine Aj Z λc first Y hc q=>?_
  clear Z
  subst Y
  refine⟨rfl,?_⟩
  have hv:Aw c first=if([92,38,124,126].contains c||(first&&[94,91].contains c))=true then cs "\\"++[c]else[c]:=rfl
  rw[hv]at q
  have yes:([92,38,124,126].contains c||(first&&[94,91].contains c))=true->Q (.str (cs "\\"++[c])) own:=λh=>by
   rw[if_pos h]at q;exact q
  have no:([92,38,124,126].contains c||(first&&[94,91].contains c))=false->Q (.str [c]) own:=λh=>by
   rw[h]at q;exact q
  rw[<-qG c hc,<-qF c hc]at yes no
  refine Bf λR _ hr=>Ab rfl (pO (H6 (λh1=>sT ?_) λh1=>Ab rfl (Cp (H6 (λh2=>Ab rfl (pO (H6 (λh3=>sT (sT ?_)) λh3=>sF (sF ?_)))) λh2=>sF ?_))))
  ·exact Ab rfl (V3 (le_of_ble_eq_true rfl) (hr _ _ (yes (by rw[h1];rfl))))
  ·exact Ab rfl (V3 (le_of_ble_eq_true rfl) (hr _ _ (yes (by rw[h1,h2,h3];rfl))))
  ·exact Ab rfl (hr _ _ (no (by rw[h1,h2,h3];rfl)))
  ·exact Ab rfl (hr _ _ (no (by rw[h1,h2];rfl)))
noncomputable def dX:DefRec:=Bk PySem.Challenge.pw_in0167_01 23
noncomputable def Cq (e:Int):List (List Nat)->List D
 |[]=>[]
 |u::r=>.tup [.int (e+u.length),.str u]::Cq (e+u.length) r
theorem Ld (e:Int)(u:List Nat)(r:List (List Nat)):Cq e (u::r)=.tup [.int (e+u.length),.str u]::Cq (e+u.length) r:=rfl
noncomputable def Rs (e:Int):List (List Nat)->Int
 |[]=>e
 |u::r=>Rs (e+u.length) r
theorem Ox (u:List Nat):∀(l:List (List Nat)) (e:Int),Cq e (l++[u])=Cq e l++[.tup [.int (Rs e l+u.length),.str u]]/\Rs e (l++[u])=Rs e l+u.length:=by
 intro lq
 induction lq with
 |nil=>intro e;exact⟨rfl,rfl⟩
 |cons x l ih=>
  intro e
  refine Ae (ih (e+x.length)) λh1 h2=>?_
  exact⟨by rw[cons_append,Ld,h1];rfl,h2⟩
theorem Rc:∀(l:List (List Nat)) (e:Int),(Cq e l).length=l.length:=by
 intro lq
 induction lq with
 |nil=>intro _;exact rfl
 |cons x l ih=>intro e;exact congrArg Nat.succ (ih _)
noncomputable def oT:Mine.Cf:=λds own Q=>∃d us,ds=[d]/\Al own d=some (us.map D.str)/\us.length<=10000/\(∀u∈us,u.length<2^62)/\Q (.obj own.length) (own++[Cq (-1) us])
theorem dS {Γ:W}(ok:Γ.Ok){A:Around}{a:Addr}{pm code doc:Value}(N:Fn Γ a (docDef dX.name dX.params dX.body dX.scope pm code doc) ["units"] dX.body)(hA:Bi 1 A)
  (len1:Γ.mg (ofString "len")=none)(len2:Γ.mb (ofString "len")=some (.builtin "len")):Ar Γ A (.ref a) oT:=by
 refine'(Dr ok N rfl (by have:=hA.depth;exact Ah this) (λL=>?w)).imp ?p
 case w=>
  have H:=H3 ok N (hA.deeper (callEnvC (docDef dX.name dX.params dX.body dX.scope pm code doc) L a)) L
  refine' Be ?_ ?_
  all_goals repeat' first
   |((with_reducible show _=_);first|assumption|rfl|decide)
   |((with_reducible show Ev _ _ _);assumption)
   |((with_reducible show Kd _ _ _);first|exact Kd.local (by rfl)|exact Kd.cell (by rfl) ⟨_,by rfl⟩)
   |((with_reducible show∀_,_=_);intro _;rfl)
   |((with_reducible show∀_ _,_=_);intro _ _;rfl)
   |((with_reducible show∀_ _,∃_,_);exact λ_ _=>⟨_,rfl⟩)
   |with_reducible exact Fu
   |with_reducible refine' Be ..
   |with_reducible refine' Ue ..
   |with_reducible refine' H7 ..
   |with_reducible refine' bQ ..
   |with_reducible refine' Ft ..
   |with_reducible refine' K0 ..
   |with_reducible exact Hx
   |with_reducible refine' Fe ..
   |with_reducible refine' S0 ..
   |with_reducible refine' He ..
   |with_reducible refine' Hw ..
   |with_reducible exact Dc
   |with_reducible refine' B3 ..
   |with_reducible refine' Yv ..
   |with_reducible refine' Dq ..
   |with_reducible refine' Cb ..
 case p=>
  intro ds own Q Z
  refine Lu Z λd us U hi hl hu q=>?_
  clear Z
  subst U
  refine⟨rfl,?_⟩
  refine Aq ⟨zero_le _,1,rfl,le_of_ble_eq_true rfl,_,rfl,rfl,Aq (Ab rfl (Cl (Au hi _) ?_))⟩
  refine E1 (λitems σ=>∃don res,us=don++res/\items=res.map D.str/\σ=⟨[("units",d),("end",.int (Rs (-1) don)),("pairs",.obj own.length)],own++[Cq (-1) don],[]⟩) ?_ ?_ _ _ ⟨[],us,rfl,rfl,rfl⟩
  ·intro x r σ R Y hk _ _
   refine Aj Y λdon res e e2 z0=>?_
   clear Y
   subst z0
   cases res with
   |nil=>cases e2
   |cons u res=>
    rw[map_cons]at e2
    injection e2 with e3 e4
    subst e3 e4
    have hz:(Cq (-1) don).length<=20000:=by
     rw[Rc]
     have:=congrArg List.length e
     rw[length_append,length_cons]at this
     exact Ah (add_le_add (le_of_eq this.symm) hl)
    have fin:R .next ⟨[("units",d),("end",.int (Rs (-1) don+u.length)),("pairs",.obj own.length),("unit",.str u)],(own++[Cq (-1) don]).set own.length (Cq (-1) don++[.tup [.int (Rs (-1) don+u.length),.str u]]),[]⟩:=by
     refine Ae (Ox u don (-1)) λp1 p2=>?_
     rw[B4,<-p1,<-p2]
     exact hk _ _ (H8 [("units",d),("end",.int (Rs (-1) (don++[u]))),("pairs",.obj own.length)] _) ⟨don++[u],res,by rw[e,append_assoc];rfl,rfl,rfl⟩
    exact⟨Au hi _,B0 (Aq ⟨_,rfl,Ab rfl ⟨_,rfl,kU (hu u (by rw[e];exact mem_append_right _ mem_cons_self)) (eW (B0 (Ap (Ab rfl ⟨⟨_,_,rfl,Ai _ _⟩,Ab rfl (Ab rfl ⟨le_of_ble_eq_true rfl,Mp (Ai _ _) hz fin⟩)⟩))))⟩⟩)⟩
  ·intro σ V
   refine Aj V λdon res e e2 z1=>?_
   clear V
   subst z1
   have:res=[]:=List.map_eq_nil_iff.mp e2.symm
   subst this
   rw[append_nil]at e;subst e
   exact⟨Au hi _,Ap (Ab rfl q)⟩
noncomputable def W5:DefRec:=Bk PySem.Challenge.pw_in0167_01 22
noncomputable def Bu (barred:Bool) (row:List Pc):List (List Nat):=row.foldl (λus p=>if p.x<=p.y then us++Aw p.x (us.length==1)::(if p.lone then[]else[[45],Aw p.y false])else us) (if barred then[[91],[94]]else[[91]])
noncomputable def Ce (barred:Bool) (row:List Pc):List (List Nat):=
 let us:=Bu barred row
 if us.length==(if barred then 2 else 1)then(if barred then[[46]]else[[40],[63],[33],[41]])else us++[[93]]
noncomputable def oU:Mine.Cf:=λds own Q=>∃d ps b,ds=[d,.bool b]/\Al own d=some (ps.map Dm)/\(∀p∈ps,p.x∈sg/\p.y∈sg)/\ps.length<=100/\∀k own',own<+:own'->own.length<=k->own'[k]? =some ((Ce b ps).map D.str)->Q (.obj k) own'
noncomputable def Dj (us:List (List Nat)) (p:Pc):List (List Nat):=if p.x<=p.y then us++Aw p.x (us.length==1)::(if p.lone then[]else[[45],Aw p.y false])else us
theorem iG (x y:Nat):([x]<[y])↔x<y:=by
 constructor
 ·intro h
  cases h with
  |rel h=>exact h
  |cons h=>cases h
 ·intro h;exact List.Lex.rel h
theorem eB (n:Nat):((n:Int)==1)=(n==1):=by
 exact lQ n 1
theorem K1 (b:Bool)(row:List Pc):Bu b row=row.foldl Dj (if b then[[91],[94]]else[[91]]):=rfl
theorem Of (b:Bool)(row:List Pc)(p:Pc):Bu b (row++[p])=Dj (Bu b row) p:=by simp[K1,foldl_append]
theorem Fx (b:Bool):∀row:List Pc,(Bu b row).length<=2+3*row.length:=by
 have:∀(row:List Pc) us,(row.foldl Dj us).length<=us.length+3*row.length:=by
  intro row
  induction row with
  |nil=>intro us;simp
  |cons p r ih=>
   intro us
   refine le_trans (ih _) ?_
   have:(Dj us p).length<=us.length+3:=by
    unfold Dj
    split
    ·split<;>simp
    ·simp +arith only
   simp only[length_cons]
   exact Ah this
 intro row
 rw[K1]
 refine le_trans (this _ _) ?_
 cases b<;>simp
theorem kW {x y:Nat}{σ:St}{R:Bool->Prop}(h:R (decide (x<=y))):Em .LtE (.str [x]) (.str [y]) σ R:=by
 have e:(!decide ([y]<[x]))=decide (x<=y):=by
  rw[Bool.eq_iff_iff];simp[iG]
 show R (!decide ([y]<[x]))
 rw[e];exact h
theorem kY {k m:Nat}{la lb:List D}{σ:St}{Q:D->St->Prop}(ha:σ.own[k]? =some la)(hb:σ.own[m]? =some lb)(hz:la.length+lb.length<=sizeLine)(h:Q (.obj k) {σ with own:=σ.own.set k (la++lb)}):N6 .Add (.obj k) (.obj m) σ Q:=by
 rw[mH];exact⟨la,lb,ha,hb,hz,h⟩
theorem Yk {k m:Nat}{la lb:List D}{σ:St}{Q:D->St->Prop}(ha:σ.own[k]? =some la)(hb:σ.own[m]? =some lb)(hz:la.length+lb.length<=sizeLine)(h:Q (.obj σ.own.length) {σ with own:=σ.own++[la++lb]}):Mz .Add (.obj k) (.obj m) σ Q:=⟨rfl,la,lb,ha,hb,hz,h⟩
noncomputable def En (d:D) (b:Bool) (n:Nat):List (String×D):=[("row",d),("barred",.bool b),("units",.obj n)]
theorem jD {Γ:W}(ok:Γ.Ok){A:Around}{a a21:Addr}{pm code doc pm21 code21 doc21:Value}(N:Fn Γ a (docDef W5.name W5.params W5.body W5.scope pm code doc) ["row","barred"] W5.body)(hA:Bi 2 A)
  (g21:Γ.mg (ofString "_law_sign")=some (.ref a21))(o21:∃o,Γ.B.get? a21=some o/\o.data=.func (docDef W6.name W6.params W6.body W6.scope pm21 code21 doc21))(f21:∀env,Ar Γ (A.deeper env) (.ref a21) qY)
  (len1:Γ.mg (ofString "len")=none)(len2:Γ.mb (ofString "len")=some (.builtin "len")):Ar Γ A (.ref a) oU:=by
 refine'(Dr ok N rfl (by have:=hA.depth;exact Ah this) (λL=>?w)).imp ?p
 case w=>
  have H:=H3 ok N (hA.deeper (callEnvC (docDef W5.name W5.params W5.body W5.scope pm code doc) L a)) L
  have F21:=f21 (callEnvC (docDef W5.name W5.params W5.body W5.scope pm code doc) L a)
  refine' Be ?_ ?_
  all_goals repeat' first
   |((with_reducible show _=_);first|assumption|rfl|decide)
   |((with_reducible show Ev _ _ _);assumption)
   |((with_reducible show Kd _ _ _);first|exact Kd.local (by rfl)|exact Kd.cell (by rfl) ⟨_,by rfl⟩)
   |((with_reducible show∀_,_=_);intro _;rfl)
   |((with_reducible show∀_ _,_=_);intro _ _;rfl)
   |((with_reducible show∀_ _,∃_,_);exact λ_ _=>⟨_,rfl⟩)
   |((with_reducible show Ar _ _ _ _);assumption)
   |((with_reducible show∃_,_/\_);assumption)
   |with_reducible exact Fu
   |with_reducible refine' Be ..
   |with_reducible refine' Co ..
   |with_reducible refine' H7 ..
   |with_reducible refine' bQ ..
   |with_reducible refine' bO ..
   |with_reducible refine' Ft ..
   |with_reducible refine' K0 ..
   |with_reducible exact Ig
   |with_reducible exact Hx
   |with_reducible exact Q9
   |with_reducible refine' Fe ..
   |with_reducible refine' S0 ..
   |with_reducible refine' Q8 _ _ (by assumption) ..
   |with_reducible refine' Kl ..
   |with_reducible refine' Q6 ..
   |with_reducible refine' He ..
   |with_reducible exact Dc
   |with_reducible refine' B3 ..
   |with_reducible refine' Hy ..
   |with_reducible refine' Pr ..
   |with_reducible refine' jW ..
   |with_reducible refine' Xe ..
   |with_reducible refine' Dq ..
   |with_reducible refine' I7 ..
   |with_reducible exact Sc
   |with_reducible refine' Mb ..
   |with_reducible refine' Cb ..
 case p=>
  intro ds own Q Z
  refine Iw Z λd ps b z1 hi hps hlen q=>?_
  clear Z
  subst z1
  refine⟨rfl,?_⟩
  refine Ao (λσ=>σ=⟨En d b own.length,own++[(Bu b []).map D.str],[]⟩) (λ_ _=>False) (λR r1 _=>?_) ?_ λ_ _ h=>h.elim
  ·refine Ab rfl (Cp (H6 (λhb=>?_) λhb=>?_))<;>(subst hb;exact⟨by decide,B0 (r1 _ rfl)⟩)
  rintro σ rfl
  refine Ao (λσ=>∃junk,σ=⟨En d b own.length,own++(Bu b ps).map D.str::junk,[]⟩) (λ_ _=>False) (λR r1 _=>?_) ?_ λ_ _ h=>h.elim
  ·refine Ab rfl (Cl (Au hi _) ?_)
   refine E1 (λitems σ=>∃don res junk,ps=don++res/\items=res.map Dm/\σ=⟨En d b own.length,own++(Bu b don).map D.str::junk,[]⟩) (λx r σ R2 hI n2 _ _=>?_) ?_ _ _ ⟨[],ps,[],rfl,rfl,rfl⟩
   ·refine Fq hI λdon res junk e e2 z2=>?_
    try clear hI
    subst z2
    cases res with
    |nil=>cases e2
    |cons p res=>
     rw[map_cons]at e2
     injection e2 with e3 e4
     subst e3 e4
     have hp:=hps p (by rw[e];simp)
     have hl:(Bu b don).length<=400:=by
      have h1:=Fx b don
      have h2:=congrArg List.length e
      rw[length_append,length_cons]at h2
      exact le_trans h1 (le_trans (Nat.add_le_add_left (mul_le_mul_left 3 (Ah (add_le_add (le_of_eq h2.symm) hlen):don.length<=100)) 2) (by decide))
     have n3:∀m junk' us,Dj (Bu b don) p=us->R2 .next ⟨En d b own.length++m,own++us.map D.str::junk',[]⟩:=λm junk' us hus=>
      n2 _ _ (H8 _ m) ⟨don++[p],res,junk',by rw[append_assoc];exact e,rfl,by rw[Of,hus]⟩
     refine⟨Au hi _,?_⟩
     generalize Bu b don=us at hl n3⊢
     refine⟨_,rfl,rfl,_,_,rfl,B0 ⟨_,_,rfl,B0 ⟨_,_,rfl,B0 ⟨_,_,rfl,B0 (Bf λR3 n4 _=>Ab rfl (Ab rfl (kW (H6 (λhxy=>?_) λhxy=>?_))))⟩⟩⟩⟩
     ·have hxy:p.x<=p.y:=of_decide_eq_true hxy
      refine Ao (λσ=>σ=⟨En d b own.length++[("x",.str [p.x]),("y",.str [p.y]),("lone",.bool p.lone),("weight",.int p.wt)],own++(us++[Aw p.x (us.length==1)]).map D.str::junk,[]⟩) (λ_ _=>False) (λR4 r4 _=>?_) ?_ λ_ _ h=>h.elim
      ·refine Ab rfl (gR (Bn _ _ _) (Ab rfl (Ab rfl ⟨_,rfl,Uo (Bn _ _ _) (by rw[length_map];exact le_trans hl (by decide)) ((Mo ⟨p.x,_,rfl,hp.1,Mp (Bn _ _ _) (by rw[length_map];exact le_trans hl (by decide)) (r4 _ ?_)⟩))⟩)))
       rw[length_map,eB]
       have e5:(own++us.map D.str::junk).set own.length (us.map D.str++[.str (Aw p.x (us.length==1))])=own++(us++[Aw p.x (us.length==1)]).map D.str::junk:=by rw[E9,map_append];rfl
       exact congrArg (λo=>St.mk (En d b own.length++[("x",.str [p.x]),("y",.str [p.y]),("lone",.bool p.lone),("weight",.int p.wt)]) o []) e5
      rintro σ rfl
      refine Bf λR4 n5 _=>Ab rfl (Cp (H6 (λhlo=>?_) λhlo=>n5 _ (n4 _ (n3 _ _ _ ?_))))
      ·have hlo:p.lone=false:=by simpa using hlo
       refine Bf λR5 n6 _=>⟨_,rfl,(Ab rfl (⟨p.y,_,rfl,hp.2,by show(2:Nat)<=sizeLine;decide,?_⟩))⟩
       refine kY (by rw[List.getElem?_append_left (by simp)];exact Bn _ _ _) (Ai _ _) (by rw[length_map,length_append];unfold sizeLine;simp only[length_cons,length_nil];exact le_trans (Ah hl) b6) (B0 (n6 _ (n5 _ (n4 _ ?_))))
       have e5:((own++(us++[Aw p.x (us.length==1)]).map D.str::junk)++[[D.str (cs "-"),D.str (Aw p.y false)]]).set own.length ((us++[Aw p.x (us.length==1)]).map D.str++[D.str (cs "-"),D.str (Aw p.y false)])=own++(us++Aw p.x (us.length==1)::[[45],Aw p.y false]).map D.str::(junk++[[D.str (cs "-"),D.str (Aw p.y false)]]):=by
        rw[append_assoc,cons_append,E9];simp;first|decide|rfl
       have h5:=n3 [("x",.str [p.x]),("y",.str [p.y]),("lone",.bool p.lone),("weight",.int p.wt)] (junk++[[.str (cs "-"),.str (Aw p.y false)]]) (us++Aw p.x (us.length==1)::[[45],Aw p.y false]) (by unfold Dj;rw[if_pos hxy,hlo];rfl)
       rw[<-e5]at h5
       exact h5
      ·have hlo:p.lone=true:=by simpa using hlo
       unfold Dj
       rw[if_pos hxy,hlo];rfl
     ·exact n4 _ (n3 _ _ _ (if_neg (of_decide_eq_false hxy)))
   ·intro σ Y
    refine Fq Y λdon res junk e e2 z3=>?_
    clear Y
    subst z3
    obtain rfl:res=[]:=by simpa using e2.symm
    rw[append_nil]at e;subst e
    exact⟨Au hi _,r1 _ ⟨junk,rfl⟩⟩
  intro σ V
  refine Af V λjunk z4=>?_
  clear V
  subst z4
  have hl:=Fx b ps
  have e8:Ce b ps=if(Bu b ps).length==(if b then 2 else 1)then(if b then[[46]]else[[40],[63],[33],[41]])else Bu b ps++[[93]]:=rfl
  generalize Bu b ps=us at hl e8⊢
  refine Ao (λσ=>(us.length==(if b then 2 else 1))=false/\σ=⟨En d b own.length,own++us.map D.str::junk,[]⟩) (λd σ=>∃k,d=.obj k/\own<+:σ.own/\own.length<=k/\σ.own[k]? =some ((Ce b ps).map D.str)) (λR r1 r2=>?_) ?_ ?_
  ·have body:∀n:Nat,n=(if b then 2 else 1)->∀(T:TS),((us.length==n)=true->T ⟨En d b own.length,own++us.map D.str::junk,[]⟩ R)->(if((((us.map D.str).length:Int)==(n:Int))=true)then T ⟨En d b own.length,own++us.map D.str::junk,[]⟩ R else R .next ⟨En d b own.length,own++us.map D.str::junk,[]⟩):=λn hn T hT=>by
    have e9:(((us.map D.str).length:Int)==(n:Int))=(us.length==n):=by rw[length_map];exact lQ _ _
    rw[e9]
    exact H6 hT λh=>r1 _ ⟨by rw[<-hn];exact h,rfl⟩
   refine Ab rfl ⟨_,rfl,Uo (Bn _ _ _) (by rw[length_map];exact Ah (add_le_add hl (mul_le_mul_left 3 hlen))) (Ab rfl (Cp (H6 (λhb=>?_) λhb=>?_)))⟩
   ·subst hb
    refine(Mo (body 2 rfl _ λh=>?_))
    refine Bf λR4 n5 n6=>Ab rfl (Cp (sT (⟨by show(1:Nat)<=sizeLine;decide,n6 _ _ (r2 _ _ ⟨_,rfl,?_,?_,?_⟩)⟩)))
    ·exact(prefix_append _ _).trans (prefix_append _ _)
    ·simp
    ·rw[show Ce true ps=[[46]]from e8.trans (if_pos h)];exact Ai _ _
   ·subst hb
    refine(Mo (body 1 rfl _ λh=>?_))
    refine Bf λR4 n5 n6=>Ab rfl (Cp (sF ((((⟨by show(4:Nat)<=sizeLine;decide,n6 _ _ (r2 _ _ ⟨_,rfl,?_,?_,?_⟩)⟩))))))
    ·exact(prefix_append _ _).trans (prefix_append _ _)
    ·simp
    ·rw[show Ce false ps=[[40],[63],[33],[41]]from e8.trans (if_pos h)];exact Ai _ _
  ·intro σ U
   refine Ae U λhne z5=>?_
   clear U
   subst z5
   refine Bf λR4 n5 n6=>Ab rfl (⟨by show(1:Nat)<=sizeLine;decide,Yk (by rw[List.getElem?_append_left (by simp)];exact Bn _ _ _) (Ai _ _) (by rw[length_map];unfold sizeLine;simp only[length_cons,length_nil];exact le_trans (Ah (add_le_add hl (mul_le_mul_left 3 hlen))) b6) (n6 _ _ (q _ _ ?_ ?_ ?_))⟩)
   ·exact((prefix_append _ _).trans (prefix_append _ _)).trans (prefix_append _ _)
   ·simp
   ·rw[e8,if_neg (by rw[hne];decide)]
    refine(Ai _ _).trans ?_
    rw[map_append];rfl
  ·intro d σ z0
   refine Ck z0 λk z6 h1 h2 h3=>?_
   clear z0
   subst z6
   exact q k _ h1 h2 h3
noncomputable def dW:DefRec:=Bk PySem.Challenge.pw_in0167_01 25
noncomputable def Fm (u:List Nat):Bool:=decide (u∈[cs "(",cs ")",cs "\""])
theorem Z8 (a:List (List D))(x y:List D):(a++[x]++[y])[a.length]? =some x:=by simp
theorem cZ {α β:Type}(f:α->β)(l:List α)(k:Int):Fg (l.map f) k=(Fg l k).map f:=by
 unfold Fg
 rw[length_map]
 cases seqIndex? k l.length with
 |none=>rfl
 |some i=>simp
theorem Ux {α:Type}{l:List α}{k:Int}{x:α}(h:Fg l k=some x):x∈l:=by
 unfold Fg at h
 refine Ac (Option.bind_eq_some_iff.mp h) λi _ h=>?_
 exact List.mem_of_getElem? h
theorem J6 (x:List Nat):∃y,Fg (Bj x (cs "\"")) (-1)=some y:=by
 have h:=split_len ⟨x.toArray⟩ 34
 have e:(⟨(cs "\"").toArray⟩:Str)=⟨#[34]⟩:=rfl
 unfold Bj Fg
 rw[e]
 have hc:(0:Int)<=cnt 34 (⟨x.toArray⟩:Str).cps.toList:=countIn_nonneg _ _
 generalize Txt.split ⟨x.toArray⟩ ⟨#[34]⟩=l at h
 have hl:1<=l.length:=Int.ofNat_le.1 (by rw[h];exact Int.le_add_of_nonneg_right hc)
 have hi:seqIndex? (-1) (l.map λp=>p.cps.toList).length=some (l.length-1):=by
  unfold seqIndex?
  rw[length_map]
  simp
  rw[<-sub_add_cancel hl];exact fK (l.length-1)
 rw[hi]
 exact⟨_,by rw[Option.bind_some];exact List.getElem?_eq_getElem (by rw[length_map];exact Ah (le_of_eq (sub_add_cancel (Ah hl:1<=l.length))))⟩
noncomputable def lN (parts:List (List Nat)):List Nat:=(C8 parts none none (some 2)).flatten
noncomputable def aT (parts:List (List Nat)):List Nat:=(C8 parts none (some (-1)) (some 2)).flatten++(Fg parts (-1)).getD []
noncomputable def Ed (us:List (List Nat)):List Nat:=
 let parts:=Bj (us.filter Fm).flatten (cs "\"")
 if((parts.length:Int)%2==1)=true then lN parts else aT parts
noncomputable def Kw (us:List (List Nat)):Bool:=decide (Ei (Ed us).length (Ed us)=[])
noncomputable def oS:Mine.Cf:=λds own Q=>∃(d:D) (us:List (List Nat)),ds=[d]/\Al own d=some (us.map D.str)/\us.length<=1000/\∀own',own<+:own'->Q (.bool (Kw us)) own'
theorem Ro (us:List (List Nat)):us.flatMap (λu=>if Fm u=true then[D.str u]else[])=(us.filter Fm).map D.str:=by
 induction us with
 |nil=>rfl
 |cons u r ih=>
  rw[flatMap_cons,ih]
  by_cases h:Fm u=true
  ·rw[if_pos h,filter_cons_of_pos h];rfl
  ·rw[if_neg h,filter_cons_of_neg h];rfl
theorem cN (u:List Nat):[cs "(",cs ")",cs "\""].any (·==u)=Fm u:=Ps _ _
theorem Yc (l:List (List Nat))(h:∀u∈l,Fm u=true):l.flatten.length=l.length:=by
 induction l with
 |nil=>rfl
 |cons u l ih=>
  have h3:=of_decide_eq_true (h u mem_cons_self)
  have h4:∀v∈[cs "(",cs ")",cs "\""],v.length=1:=by decide
  rw[flatten_cons,length_append,ih λv hv=>h v (mem_cons_of_mem _ hv),h4 u h3,length_cons,Nat.add_comm]
theorem Np {text:List Nat}(ht:text.length<=1000):(Bj text (cs "\"")).length<=1001/\(∀x∈Bj text (cs "\""),x.length<=1001)/\∀lo hi st,(C8 (Bj text (cs "\"")) lo hi st).flatten.length<=1001*1001:=by
 have hw:=Mm text (cs "\"") (by decide)
 have hpar:∀x∈Bj text (cs "\""),x.length<=1001:=λx hx=>by
  have:=Y6 _ hx
  exact Ah (add_le_add (add_le_add this hw) ht)
 refine⟨by exact Ah (add_le_add hw ht),hpar,λlo hi st=>?_⟩
 have h1:=Lm (Bj text (cs "\"")) lo hi st
 have h2:=le_trans (K4 _ 1001 λx hx=>hpar x (Zm hx)) (mul_le_mul_right 1001 (le_trans h1 (show(Bj text (cs "\"")).length<=1001 by exact Ah (add_le_add hw ht))))
 rw[length_flatten]
 exact h2
theorem Qu {us:List (List Nat)}(h:(((Bj (us.filter Fm).flatten (cs "\"")).length:Int)%2==1)=true):Ed us=(C8 (Bj (us.filter Fm).flatten (cs "\"")) none none (some 2)).flatten:=if_pos h
theorem Nc {us:List (List Nat)}{last:List Nat}(h:(((Bj (us.filter Fm).flatten (cs "\"")).length:Int)%2==1)=false)(e:Fg (Bj (us.filter Fm).flatten (cs "\"")) (-1)=some last):
  Ed us=(C8 (Bj (us.filter Fm).flatten (cs "\"")) none (some (-1)) (some 2)).flatten++last:=
 (if_neg (ne_true_of_eq_false h)).trans (by unfold aT;rw[e];rfl)
theorem Ye (us:List (List Nat))(hl:us.length<=1000):(us.filter Fm).length<=1000/\(us.filter Fm).flatten.length<=1000/\(Ed us).length<=1002*1001:=by
 have h1:=le_trans (length_filter_le Fm us) hl
 have h2:(us.filter Fm).flatten.length<=1000:=by rw[Yc _ λu hu=>(mem_filter.mp hu).2];exact h1
 refine⟨h1,h2,?_⟩
 refine A0 (Np h2) λa b c=>?_
 cases hc:((Bj (us.filter Fm).flatten (cs "\"")).length:Int)%2==1 with
 |true=>rw[Qu hc];exact le_trans (c _ _ _) (by decide)
 |false=>
  refine Af (J6 (us.filter Fm).flatten) λlast hlast=>?_
  rw[Nc hc hlast,length_append];exact le_trans (add_le_add (c none (some (-1)) (some 2)) (b _ (Ux hlast))) (by decide)
theorem dU {Γ:W}(ok:Γ.Ok){A:Around}{a:Addr}{pm code doc:Value}(N:Fn Γ a (docDef dW.name dW.params dW.body dW.scope pm code doc) ["units"] dW.body)(hA:Bi 1 A)
  (len1:Γ.mg (ofString "len")=none)(len2:Γ.mb (ofString "len")=some (.builtin "len")):Ar Γ A (.ref a) oS:=by
 refine'(Dr ok N rfl (by have:=hA.depth;exact Ah this) (λL=>?w)).imp ?p
 case w=>
  have H:=H3 ok N (hA.deeper (callEnvC (docDef dW.name dW.params dW.body dW.scope pm code doc) L a)) L
  refine' Be ?_ ?_
  all_goals repeat' first
   |((with_reducible show _=_);first|assumption|rfl|decide)
   |((with_reducible show Ev _ _ _);assumption)
   |((with_reducible show Kd _ _ _);first|exact Kd.local (by rfl)|exact Kd.cell (by rfl) ⟨_,by rfl⟩)
   |((with_reducible show CE _ _ _ _);exact Cm (by rfl) (by rfl) (λ_=>by rfl) rfl)
   |((with_reducible show∀_,_=_);intro _;rfl)
   |((with_reducible show∀_ _,_=_);intro _ _;rfl)
   |((with_reducible show∀_ _ _,_=_);intro _ _ _;rfl)
   |((with_reducible show∀_ _,∃_,_);exact λ_ _=>⟨_,rfl⟩)
   |with_reducible exact Fu
   |with_reducible refine' Cv (cap:=[]) ..
   |with_reducible refine' Cv (cap:=[_]) ..
   |with_reducible refine' Cv (cap:=[_,_]) ..
   |with_reducible refine' Cv (cap:=[_,_,_]) ..
   |with_reducible refine' Cv (cap:=[_,_,_,_]) ..
   |((with_reducible show∀_:Addr,Ev _ _ _->_);intro C hC)
   |with_reducible refine' mI ..
   |with_reducible refine' Be ..
   |with_reducible refine' Co ..
   |with_reducible refine' Sh ..
   |with_reducible refine' Ft ..
   |with_reducible exact Ig
   |with_reducible exact Hx
   |with_reducible refine' Q5 ..
   |with_reducible refine' S0 ..
   |with_reducible refine' gY ..
   |with_reducible refine' Q4 ..
   |with_reducible refine' Kl ..
   |with_reducible refine' Q6 ..
   |with_reducible refine' He ..
   |with_reducible exact Dc
   |with_reducible refine' B3 ..
   |with_reducible refine' Ov ..
   |with_reducible refine' Ou ..
   |with_reducible exact oI
   |with_reducible refine' Uv ..
   |with_reducible refine' Hy ..
   |with_reducible refine' Yv ..
   |with_reducible refine' Pr ..
   |with_reducible refine' Dq ..
   |with_reducible refine' Cb ..
 case p=>
  intro ds own Q Z
  refine Dt Z λd us Y hi hl q=>?_
  clear Z
  subst Y
  refine⟨rfl,?_⟩
  refine A0 (Ye us hl) λhf hz hs=>A0 (Np hz) λhp hq hr=>?_
  refine Ao (λσ=>∃o,own<+:o/\σ=⟨[("units",d),("parts",.obj o.length)],o++[(Bj (us.filter Fm).flatten (cs "\"")).map D.str],[]⟩) (λ_ _=>False) (λR h1 _=>?_) (λσ zq=>?_) (λ_ _ h=>h.elim)
  ·refine⟨⟨_,rfl⟩,Hc (Ab rfl (Ca (s:=[]) D.str (λu=>if Fm u=true then[D.str u]else[]) us hi (λu don res junk R2 e hR=>?_) λloc junk=>?_))⟩
   ·refine B0 (Ab rfl ⟨le_of_ble_eq_true rfl,kX (Ai _ _) (cN u) (H6 (λhs=>bP (Ab rfl ⟨_,Z7 _ _ _ _,?_,?_⟩)) λhs=>?_)⟩)
    ·rw[Ro,length_map]
     have h1:=length_filter_le Fm don
     have h2:=congrArg List.length e
     rw[length_append,length_cons]at h2
     unfold sizeLine;exact le_trans (Ah (add_le_add (add_le_add h1 (le_of_eq h2.symm)) hl)) b6
    ·have:=hR [("unit",.str u)] [[D.str (cs "("),D.str (cs ")"),D.str (cs "\"")]]
     rw[if_pos hs]at this
     show R2 .next ⟨_,(own++_::junk++_).set own.length _,_⟩
     rw[X8];exact this
    ·have:=hR [("unit",.str u)] [[D.str (cs "("),D.str (cs ")"),D.str (cs "\"")]]
     rw[if_neg (ne_true_of_eq_false hs),append_nil]at this
     show R2 .next ⟨_,own++_::junk++_,_⟩
     rw[append_assoc];exact this
   ·exact La ((Bn _ _ _).trans (congrArg some (Ro us))) (by exact le_trans hz (by decide)) ⟨⟨_,rfl⟩,gP (by decide) (by exact le_trans hz (by decide)) (B0 (h1 _ ⟨_,prefix_append _ _,rfl⟩))⟩
  refine Ac zq λo ho zs=>?_
  clear zq
  subst zs
  refine Ao (λσ=>∃o2,own<+:o2/\σ=⟨[("units",d),("parts",.obj o.length),("seen",.str (Ed us))],o2,[]⟩) (λ_ _=>False) (λR h1 _=>?_) (λσ zq=>?_) (λ_ _ h=>h.elim)
  ·have hpm:∀lo hi st,C8 ((Bj (us.filter Fm).flatten (cs "\"")).map D.str) lo hi st=(C8 (Bj (us.filter Fm).flatten (cs "\"")) lo hi st).map D.str:=λ_ _ _=>(Rd _ _ _ _ _).symm
   have pf:∀x y:List (List D),own<+:o++x++y:=λx y=>(ho.trans (prefix_append _ _)).trans (prefix_append _ _)
   refine Ab rfl ⟨_,rfl,eU (Ai _ _) (length_map ..) (by exact le_trans hp (by decide)) (K9 (by decide) (Mo (H6 (λhodd=>?_) λhodd=>?_)))⟩
   ·exact⟨⟨_,rfl⟩,Ab rfl ⟨2,rfl,eR (Ai _ _) (by decide) (by rw[length_map];exact le_trans hp (by decide)) (La ((Ai _ _).trans (congrArg some (hpm _ _ _))) (le_trans (hr _ _ _) (by decide)) (B0 (h1 _ ⟨_,pf _ _,by rw[Qu hodd];rfl⟩)))⟩⟩
   ·refine Af (J6 (us.filter Fm).flatten) λlast hlast=>?_
    have hlm:Fg ((Bj (us.filter Fm).flatten (cs "\"")).map D.str) (-1)=some (.str last):=by rw[cZ,hlast];rfl
    have e:=hr none (some (-1)) (some 2)
    have e2:=hq _ (Ux hlast)
    refine⟨⟨_,rfl⟩,Ab rfl ⟨1,rfl,-1,rfl,2,rfl,eR (Ai _ _) (by decide) (by rw[length_map];exact le_trans hp (by decide)) (La ((Ai _ _).trans (congrArg some (hpm _ _ _))) (by exact Ah e) (Ab rfl ⟨1,rfl,Gd (Z8 _ _ _) (by unfold B6;decide) hlm ⟨rfl,by unfold sizeLine;exact le_trans (Ah (add_le_add e e2)) b6,B0 (h1 _ ⟨_,pf _ _,by rw[Nc hodd hlast];rfl⟩)⟩⟩))⟩⟩
  refine Ac zq λo2 ho2 zs=>?_
  clear zq ho
  subst zs
  refine Ao (λσ=>σ=⟨[("units",d),("parts",.obj o.length),("seen",.str (Ei (Ed us).length (Ed us)))],o2,[]⟩) (λ_ _=>False) (λR h1 _=>⟨(Ed us).length+1,Dd (λn σ=>∃y,σ=⟨[("units",d),("parts",.obj o.length),("seen",.str y)],o2,[]⟩/\y.length=n/\n<=(Ed us).length/\Ei y.length y=Ei (Ed us).length (Ed us)) (λn σ R2 zq hn _=>?_) _ _ _ (lt_succ_self _) ⟨_,rfl,rfl,le_refl _,rfl⟩⟩) (λσ zq=>?_) (λ_ _ h=>h.elim)
  ·refine Ck zq λy zs hl hle hst=>?_
   clear zq
   subst zs
   subst hl
   refine Ab rfl (pO (H6 (λhh=>?_) λhh=>?_))
   ·have hsh:=Dk y (cs "()") (by decide) hh
    have e2:(cs "()").length=2:=by decide
    refine Ap (Ab rfl ⟨y,rfl,by rw[show(cs "").length=0 from rfl,Nat.mul_zero];exact le_trans (Ah (add_le_add hle hs)) b6,B0 (hn (Bq y (cs "()") []).length _ _ (by exact Ah (add_le_add hsh (le_of_eq e2.symm))) (Ep.refl _ _) ⟨_,rfl,rfl,by exact Ah (add_le_add hsh hle),?_⟩)⟩)
    rw[<-hst,show y.length=(y.length-1)+1 by exact le_antisymm (Ah (Bp (y.length) (1))) (Ah (le_of_eq (sub_add_cancel (Ah (add_le_add (le_of_eq e2.symm) hsh):1<=y.length)))),E6,if_pos hh]
    exact J1 _ _ _ (le_refl _) (show(Bq y (cs "()") []).length<=_ by exact Ah (add_le_add (add_le_add hsh (Bp (y.length) (1))) (le_of_eq e2.symm)))
   ·refine h1 _ ?_
    rw[<-hst]
    cases hy:y.length with
    |zero=>rfl
    |succ k=>rw[E6,if_neg (ne_true_of_eq_false hh)]
  subst zq
  exact Ap (Ab rfl (Qw (q _ ho2)))
noncomputable def d9:DefRec:=Bk PySem.Challenge.pw_in0167_01 9
noncomputable def S9:Mine.Cf:=λds own Q=>∃(k:Nat) (r:Addr) (us:List (List Nat)),ds=[.obj k,.raw (.ref r)]/\own[k]? =some (us.map D.str)/\us.length<=1000/\us.flatten.length<=1000000/\∀own',own<+:own'->Q (.str (cs "(?s:"++us.flatten++cs ")\\Z")) own'
noncomputable def L9 (k:Nat) (r:Addr) (o n i:Nat):List (String×D):=[("inp",.obj k),("STAR",.raw (.ref r)),("res",.obj o),("add",.app o),("n",.int n),("i",.int i)]
theorem nF {Γ:W}(ok:Γ.Ok){A:Around}{a:Addr}{pm code doc:Value}(N:Fn Γ a (docDef d9.name d9.params d9.body d9.scope pm code doc) ["inp","STAR"] d9.body)(hA:Bi 1 A)
  (len1:Γ.mg (ofString "len")=none)(len2:Γ.mb (ofString "len")=some (.builtin "len")):Ar Γ A (.ref a) S9:=by
 refine'(Dr ok N rfl (by have:=hA.depth;exact Ah this) (λL=>?w)).imp ?p
 case w=>
  have H:=H3 ok N (hA.deeper (callEnvC (docDef d9.name d9.params d9.body d9.scope pm code doc) L a)) L
  refine' Be ?_ ?_
  all_goals repeat' first
   |((with_reducible show _=_);first|assumption|rfl|decide)
   |((with_reducible show Ev _ _ _);assumption)
   |((with_reducible show Kd _ _ _);first|exact Kd.local (by rfl)|exact Kd.cell (by rfl) ⟨_,by rfl⟩)
   |((with_reducible show∀_,_=_);intro _;rfl)
   |((with_reducible show∀_ _,_=_);intro _ _;rfl)
   |((with_reducible show∀_ _,∃_,_);exact λ_ _=>⟨_,rfl⟩)
   |with_reducible exact Fu
   |with_reducible refine' Be ..
   |with_reducible refine' Co ..
   |with_reducible refine' Ue ..
   |with_reducible refine' H7 ..
   |with_reducible refine' bO ..
   |with_reducible refine' Sh ..
   |with_reducible refine' Ft ..
   |with_reducible refine' K0 ..
   |with_reducible exact Xm
   |with_reducible refine' Ug ..
   |with_reducible exact Ig
   |with_reducible exact Hx
   |with_reducible refine' Fe ..
   |with_reducible refine' Q5 ..
   |with_reducible refine' S0 ..
   |with_reducible refine' Yz ..
   |with_reducible refine' Q7 _ (by decide) ..
   |with_reducible refine' fB ..
   |with_reducible refine' lF ..
   |with_reducible refine' fR ..
   |with_reducible exact nE
   |with_reducible refine' He ..
   |with_reducible refine' Hw ..
   |with_reducible exact Dc
   |with_reducible refine' B3 ..
   |with_reducible refine' Ou ..
   |with_reducible refine' Pr ..
   |with_reducible refine' R8 ..
   |with_reducible exact Kx
   |with_reducible refine' eK ..
   |with_reducible refine' Cb ..
 case p=>
  intro ds own Q Z
  refine Iw Z λk r us Y hi hl hf q=>?_
  clear Z
  subst Y
  refine⟨rfl,?_⟩
  have hk:k<own.length:=(List.getElem?_eq_some_iff.mp hi).1
  have hin:∀x:List (List D),(own++x)[k]? =some (us.map D.str):=λx=>by rw[List.getElem?_append_left hk];exact hi
  refine Aq ⟨zero_le _,B0 (Aq (Ab rfl ⟨_,_,rfl,Ai _ _,B0 (Aq (Ab rfl ⟨_,rfl,eU (hin _) (length_map ..) (by exact le_trans hl (by decide)) ⟨le_of_ble_eq_true rfl,_,rfl,rfl,?_⟩⟩))⟩))⟩
  refine Ao (λσ=>σ=⟨L9 k r own.length us.length us.length,own++[us.map D.str],[]⟩) (λ_ _=>False) (λR h1 _=>?_) (λσ zq=>?_) (λ_ _ h=>h.elim)
  ·refine⟨us.length+1,Dd (λm σ=>∃j,j+m=us.length/\σ=⟨L9 k r own.length us.length j,own++[(us.take j).map D.str],[]⟩) (λm σ R2 zq hn _=>?_) _ us.length _ (lt_succ_self _) ⟨0,zero_add _,rfl⟩⟩
   refine Ac zq λj hj V=>?_
   clear zq
   subst V
   refine Ab rfl (Ab rfl (Mn (H6 (λhlt=>?_) λhge=>?_)))
   ·have hlt:j<us.length:=Int.ofNat_lt.mp (of_decide_eq_true hlt)
    have hx:Fg (us.map D.str) (j:Int)=some (.str us[j]):=Di (by rw[List.getElem?_map,List.getElem?_eq_getElem hlt];rfl)
    have hw:B6 (j:Int):=iw (n:=j) rfl (Ah (add_le_add (le_of_eq hj) hl))
    refine Ab rfl (Ab rfl (Gd (hin _) hw hx (Ab rfl (cR (sT (sT (Aq ⟨_,rfl,Ab rfl (Ab rfl (Gd (hin _) hw hx ⟨_,_,rfl,Ai _ _,?_,Ap ⟨_,rfl,eW (B0 (hn (m-1) _ _ (by exact Ah (le_of_eq (sub_add_cancel (Ah (add_le_add hlt (le_of_eq hj.symm)):1<=m)))) (Ep.refl _ _) ⟨j+1,by exact le_antisymm (Ah (add_le_add (le_of_eq hj) (le_of_eq (sub_add_cancel (Ah (add_le_add hlt (le_of_eq hj.symm)):1<=m))))) (Ah (add_le_add (le_of_eq hj.symm) (Bp (m) (1)))),?_⟩))⟩⟩))⟩)))))))
    ·rw[length_map,length_take];unfold sizeLine;exact le_trans (Ah (add_le_add (min_le_right (j) (us.length)) hl)) b6
    ·show St.mk _ ((own++[(us.take j).map D.str]).set own.length _) _=_
     rw[B4,take_add_one,List.getElem?_eq_getElem hlt,map_append]
     rfl
   ·have ej:j=us.length:=by exact le_antisymm (Ah (le_of_eq hj)) (Ah (not_lt.1 (mt Int.ofNat_lt.2 (of_decide_eq_false hge))))
    subst ej
    exact sF (h1 _ (by rw[List.take_length]))
  ·subst zq
   have ir:decide ((us.length:Int)<us.length)=false:=decide_eq_false (Int.lt_irrefl _)
   refine Ao (λσ=>σ=⟨L9 k r own.length us.length us.length,own++[us.map D.str],[]⟩) (λ_ _=>False) (λR h1 _=>⟨1,Dd (λ_ σ=>σ=⟨L9 k r own.length us.length us.length,own++[us.map D.str],[]⟩) (λm σ R2 zq _ _=>?_) 1 0 _ Nat.one_pos rfl⟩) (λσ zq=>?_) (λ_ _ h=>h.elim)
   ·subst zq
    refine Ab rfl (Ab rfl (Mn ?_))
    rw[ir]
    exact sF (h1 _ rfl)
   ·subst zq
    refine Aq (Ab rfl (Ab rfl (Mo ⟨beq_self_eq_true _,Aq ⟨⟨_,rfl⟩,Ab rfl (La (Ai _ _) (by exact le_trans hf (by decide)) (B0 (Ap ?_)))⟩⟩)))
    have z1:(([]++cs "(?s:":List Nat)++us.flatten).length<=sizeLine:=by rw[length_append];show 4+_<=sizeLine;unfold sizeLine;exact le_trans (Ah hf) b6
    have z2:(([]++cs "(?s:":List Nat)++us.flatten++cs ")\\Z").length<=sizeLine:=by rw[length_append,length_append];show 4+_+3<=sizeLine;unfold sizeLine;exact le_trans (Ah hf) b6
    exact⟨_,rfl,le_of_ble_eq_true rfl,Ab rfl ⟨_,rfl,by unfold sizeLine;exact le_trans hf (by decide),_,rfl,z1,_,rfl,z2,z2,q _ (prefix_append _ _)⟩⟩
noncomputable def dY:DefRec:=Bk PySem.Challenge.pw_in0167_01 20
theorem iS {b:Bool}{σ:St}{F:D->St->Prop}{x y z:List Nat}(h:x.length+y.length<=sizeLine)(h2:x.length+z.length<=sizeLine)(q:F (.str (x++if b=true then y else z)) σ):
  if b=true then Mz .Add (.str x) (.str y) σ F else Mz .Add (.str x) (.str z) σ F:=by
 cases b
 ·rw[if_neg (by decide)]at q⊢;exact⟨rfl,h2,q⟩
 ·rw[if_pos rfl]at q⊢;exact⟨rfl,h,q⟩
noncomputable def A6 (p:Pc):List Nat:=if p.lone=true then[p.x]else[p.x,45,p.y]
noncomputable def Ej (ps:List Pc) (b:Bool):List Nat:=91::((if b=true then[33]else[])++((ps.map A6).flatten++[93]))
noncomputable def oV:Mine.Cf:=λds own Q=>∃(d:D) (ps:List Pc) (b:Bool),ds=[d,.bool b]/\Al own d=some (ps.map Dm)/\ps.length<=100/\∀own',own<+:own'->Q (.str (Ej ps b)) own'
theorem aK {Γ:W}(ok:Γ.Ok){A:Around}{a:Addr}{pm code doc:Value}(N:Fn Γ a (docDef dY.name dY.params dY.body dY.scope pm code doc) ["row","barred"] dY.body)(hA:Bi 1 A):Ar Γ A (.ref a) oV:=by
 refine'(Dr ok N rfl (by have:=hA.depth;exact Ah this) (λL=>?w)).imp ?p
 case w=>
  have H:=H3 ok N (hA.deeper (callEnvC (docDef dY.name dY.params dY.body dY.scope pm code doc) L a)) L
  refine' Be ?_ ?_
  all_goals repeat' first
   |((with_reducible show _=_);first|assumption|rfl|decide)
   |((with_reducible show Ev _ _ _);assumption)
   |((with_reducible show Kd _ _ _);first|exact Kd.local (by rfl)|exact Kd.cell (by rfl) ⟨_,by rfl⟩)
   |((with_reducible show CE _ _ _ _);exact Cm (by rfl) (by rfl) (λ_=>by rfl) rfl)
   |((with_reducible show∀_,_=_);intro _;rfl)
   |((with_reducible show∀_ _,_=_);intro _ _;rfl)
   |((with_reducible show∀_ _ _,_=_);intro _ _ _;rfl)
   |((with_reducible show∀_ _,∃_,_);exact λ_ _=>⟨_,rfl⟩)
   |with_reducible exact Fu
   |with_reducible refine' Cv (cap:=[]) ..
   |with_reducible refine' Cv (cap:=[_]) ..
   |with_reducible refine' Cv (cap:=[_,_]) ..
   |with_reducible refine' Cv (cap:=[_,_,_]) ..
   |with_reducible refine' Cv (cap:=[_,_,_,_]) ..
   |((with_reducible show∀_:Addr,Ev _ _ _->_);intro C hC)
   |with_reducible exact iT
   |with_reducible refine' Be ..
   |with_reducible refine' Ft ..
   |with_reducible exact Ig
   |with_reducible refine' Q5 ..
   |with_reducible refine' Kl ..
   |with_reducible exact Dc
   |with_reducible refine' B3 ..
   |with_reducible refine' Hy ..
   |with_reducible refine' Xe ..
   |with_reducible refine' Dq ..
   |with_reducible refine' I7 ..
   |with_reducible exact Sc
   |with_reducible refine' Mb ..
   |with_reducible refine' Cb ..
 case p=>
  intro ds own Q Z
  refine Ds Z λd ps b Y hi hl q=>?_
  clear Z
  subst Y
  refine⟨rfl,?_⟩
  have hlen:∀p:Pc,(A6 p).length<=3:=λp=>by unfold A6;split<;>simp
  refine Bf λR _ hr=>Ab rfl (Cp (iS (by decide) (by decide) ⟨⟨_,rfl⟩,Hc (Ab rfl (Ca (s:=[]) Dm (λp=>[.str (A6 p)]) ps hi (λp don res junk R2 e hR=>?_) λloc junk=>?_))⟩))
  ·have hl2:(don.flatMap λp=>[D.str (A6 p)]).length<=100:=le_trans (Rq (λ_=>le_refl _) don) (by have:=congrArg List.length e;rw[length_append,length_cons]at this;exact Ah (add_le_add (le_of_eq this.symm) hl))
   have fin:∀x,x=A6 p->R2 .next ⟨[("x",.str [p.x]),("y",.str [p.y]),("lone",.bool p.lone),("weight",.int p.wt)],(own++(don.flatMap λp=>[D.str (A6 p)])::junk).set own.length ((don.flatMap λp=>[D.str (A6 p)])++[.str x]),[]⟩:=λx hx=>by
    have:=hR [("x",.str [p.x]),("y",.str [p.y]),("lone",.bool p.lone),("weight",.int p.wt)] []
    rw[append_nil,<-hx]at this
    rw[E9];exact this
   refine⟨_,rfl,rfl,_,_,rfl,B0 ⟨_,_,rfl,B0 ⟨_,_,rfl,B0 ⟨_,_,rfl,B0 (sT (bP (Ab rfl (Cp (H6 (λhlo=>?_) λhlo=>?_)))))⟩⟩⟩⟩
   ·exact Ab rfl ⟨_,Bn _ _ _,by unfold sizeLine;exact le_trans hl2 (by decide),fin _ (by unfold A6;rw[if_pos hlo])⟩
   ·exact Ab rfl (V3 (le_of_ble_eq_true rfl) (Ab rfl (V3 (le_of_ble_eq_true rfl) ⟨_,Bn _ _ _,by unfold sizeLine;exact le_trans hl2 (by decide),fin _ (by unfold A6;rw[if_neg (ne_true_of_eq_false hlo)];rfl)⟩)))
  ·have hb:(ps.map A6).flatten.length<=300:=by
    have h:=K4 (ps.map A6) 3 λx hx=>by
     refine Ac (mem_map.mp hx) λp _ V=>?_
     subst V;exact hlen p
    rw[length_map]at h
    rw[length_flatten]
    exact le_trans h (mul_le_mul_right 3 hl)
   have he:(ps.flatMap λp=>[D.str (A6 p)])=(ps.map A6).map D.str:=by rw[Rp,map_map];rfl
   have c1:(cs "["++if b=true then cs "!" else cs "")=91::(if b=true then[33]else[]):=by cases b<;>rfl
   have c2:(91::(if b=true then[33]else[])).length<=2:=by cases b<;>decide
   rw[c1]
   refine La ((Bn _ _ _).trans (congrArg some he)) (by exact le_trans hb (by decide)) (V3 (by exact Ah (add_le_add c2 hb)) (V3 (by rw[length_append,show(cs "]").length=1 from rfl];exact Ah (add_le_add c2 hb)) (hr _ _ ?_)))
   have:=q (own++(ps.flatMap λp=>[D.str (A6 p)])::junk) (prefix_append _ _)
   unfold Ej at this
   rw[<-cons_append,<-append_assoc]at this
   exact this
noncomputable def C9 (b:Br) (u:List Nat):Br:=
 if u=cs "]" then{b with op:=false}
 else if u=cs "^"/\b.ps=[]/\b.bar=false then{b with bar:=true}
 else if u=cs "-" then{b with ps:=match b.ps.getLast? with|some p=>b.ps.dropLast++[(p.1,none)]|none=>[]}
 else match b.ps.getLast? with
  |some (x,none)=>{b with ps:=b.ps.dropLast++[(x,some (u.drop (u.length-1)))]}
  |_=>{b with ps:=b.ps++[(u.drop (u.length-1),some (u.drop (u.length-1)))]}
noncomputable def G9 (bs:List Br) (u:List Nat):List Br:=if u=cs "["\/u=cs "."\/u=cs "!" then bs++[⟨decide (u=cs "."),[],decide (u=cs "[")⟩]else bs
noncomputable def A3 (bs:List Br) (u:List Nat):List Br:=match bs.getLast? with
 |none=>G9 bs u
 |some b=>if b.op=true then bs.dropLast++[C9 b u]else G9 bs u
noncomputable def rA (k:Nat) (n:Int) (u:List Nat) (p:Nat):List (String×D):=[("told",.obj k),("pair",.tup [.int n,.str u]),("unit",.str u),("pieces",.obj p)]
theorem dL {own x:List (List D)}{k:Nat}{l:List D}(h:own[k]? =some l):(own++x)[k]? =some l:=by rw[List.getElem?_append_left (List.getElem?_eq_some_iff.mp h).1];exact h
noncomputable def Pa (own:List (List D)) (k:Nat) (lk x:List D) (bar op:Bool):List (List D):=(own++[x]++[[]]++[[D.bool bar,D.obj (own++[x]).length,D.bool op]]).set k (lk++[D.obj (own++[x]++[[]]).length])
theorem Vm {n₀ k:Nat}{own:List (List D)}{bs:List Br}{lk x:List D}{bar op:Bool}(ht:E5 n₀ own k bs)(hn:n₀<=own.length)(hlk:own[k]? =some lk):
  E5 n₀ (Pa own k lk x bar op) k (bs++[⟨bar,[],op⟩])/\(∀j,j<n₀->(Pa own k lk x bar op)[j]? =own[j]?)/\own.length<=(Pa own k lk x bar op).length:=by
 have hk:k<own.length:=(List.getElem?_eq_some_iff.mp hlk).1
 have hk2:n₀<=k:=by refine Lv ht λ_ _ _ _ _ h=>?_;exact h k mem_cons_self
 unfold Pa
 rw[show(own++[x]++[[]]:List (List D)).length=own.length+2 by rw[length_append,length_append];rfl,show(own++[x]).length=own.length+1 from length_append,append_assoc,append_assoc]
 refine⟨ht.push (i:=own.length+2) (p:=own.length+1) (by simp +arith only) (by simp +arith only) (by exact ne_of_gt (by simp +arith only)) hn (λj hj1 hj2=>?_) (λl hl=>?_) ?_ ?_,λj hj=>?_,?_⟩
 ·rw[List.getElem?_set_ne (Ne.symm hj1),List.getElem?_append_left hj2]
 ·rw[hlk]at hl;cases hl
  rw[List.getElem?_set_self (by rw[length_append];exact lt_of_lt_of_le hk (le_add_right _ _))]
 ·rw[List.getElem?_set_ne (by exact ne_of_lt (Ah hk))]
  rw[List.getElem?_append_right (le_add_right _ _),Nat.add_sub_cancel_left];rfl
 ·rw[List.getElem?_set_ne (by exact ne_of_lt (Ah hk))]
  rw[List.getElem?_append_right (le_add_right _ _),Nat.add_sub_cancel_left];rfl
 ·rw[List.getElem?_set_ne (by exact ne_of_gt (Ah (add_le_add hj hk2))),List.getElem?_append_left (by exact Ah (add_le_add hj hn))]
 ·rw[length_set,length_append];exact le_add_right _ _
theorem Yn {b:Br}{u:List Nat}(h:u=cs "]"):C9 b u={b with op:=false}:=if_pos h
theorem gS {b:Br}{u:List Nat}(h:¬u=cs "]")(h2:u=cs "^"/\b.ps=[]/\b.bar=false):C9 b u={b with bar:=true}:=(if_neg h).trans (if_pos h2)
theorem Uq {b:Br}{u x:List Nat}{o:Option (List Nat)}{ps:List (List Nat×Option (List Nat))}(h:¬u=cs "]")(h2:¬(u=cs "^"/\b.ps=[]/\b.bar=false))(h3:u=cs "-")(hp:b.ps=ps++[(x,o)]):C9 b u={b with ps:=ps++[(x,none)]}:=by
 unfold C9
 rw[if_neg h,if_neg h2,if_pos h3,hp,getLast?_concat,dropLast_concat]
theorem Ym {b:Br}{u x:List Nat}{c:Nat}{ps:List (List Nat×Option (List Nat))}(h:¬u=cs "]")(h2:¬(u=cs "^"/\b.ps=[]/\b.bar=false))(h3:¬u=cs "-")(hu:u.drop (u.length-1)=[c])(hp:b.ps=ps++[(x,none)]):C9 b u={b with ps:=ps++[(x,some [c])]}:=by
 unfold C9
 rw[if_neg h,if_neg h2,if_neg h3,hu,hp,getLast?_concat,dropLast_concat]
theorem Yl {b:Br}{u:List Nat}{c:Nat}(h:¬u=cs "]")(h2:¬(u=cs "^"/\b.ps=[]/\b.bar=false))(h3:¬u=cs "-")(hu:u.drop (u.length-1)=[c])(hp:∀x,b.ps.getLast?≠some (x,none)):C9 b u={b with ps:=b.ps++[([c],some [c])]}:=by
 unfold C9
 rw[if_neg h,if_neg h2,if_neg h3,hu]
 cases hg:b.ps.getLast? with
 |none=>rfl
 |some q=>
  cases q with
  |mk x o=>
   cases o with
   |none=>exact absurd hg (hp x)
   |some y=>rfl
theorem Wr {u:List Nat}(hu:u≠[]):∃c,Fg u (-1)=some c/\u.drop (u.length-1)=[c]:=by
 rcases List.eq_nil_or_concat u with h0|⟨u',c,h⟩
 ·exact absurd h0 hu
 ·rw[List.concat_eq_append]at h
  subst h
  exact⟨c,Dl _ _,W1 _ _⟩
noncomputable def W4:DefRec:=Bk PySem.Challenge.pw_in0167_01 24
noncomputable def qX:Mine.Cf:=λds own Q=>∃(n₀ k:Nat) (bs:List Br) (u:List Nat) (n:Int),ds=[.obj k,.tup [.int n,.str u]]/\E5 n₀ own k bs/\u≠[]/\u.length<=100/\n₀<=own.length/\bs.length<=10000/\(∀b∈bs,b.ps.length<=10000)/\
 (u=cs "-"->∀b,bs.getLast?=some b->b.op=true->b.ps≠[])/\
 ∀own',E5 n₀ own' k (A3 bs u)->(∀j,j<n₀->own'[j]? =own[j]?)->own.length<=own'.length->Q (.obj k) own'
theorem nC {Γ:W}(ok:Γ.Ok){A:Around}{a:Addr}{pm code doc:Value}(N:Fn Γ a (docDef W4.name W4.params W4.body W4.scope pm code doc) ["told","pair"] W4.body)(hA:Bi 1 A):Ar Γ A (.ref a) qX:=by
 refine'(Dr ok N rfl (by have:=hA.depth;exact Ah this) (λL=>?w)).imp ?p
 case w=>
  have H:=H3 ok N (hA.deeper (callEnvC (docDef W4.name W4.params W4.body W4.scope pm code doc) L a)) L
  refine' Be ?_ ?_
  all_goals repeat' first
   |((with_reducible show _=_);first|assumption|rfl|decide)
   |((with_reducible show Ev _ _ _);assumption)
   |((with_reducible show Kd _ _ _);first|exact Kd.local (by rfl)|exact Kd.cell (by rfl) ⟨_,by rfl⟩)
   |((with_reducible show∀_,_=_);intro _;rfl)
   |((with_reducible show∀_ _,_=_);intro _ _;rfl)
   |((with_reducible show∀_ _,∃_,_);exact λ_ _=>⟨_,rfl⟩)
   |with_reducible exact Fu
   |with_reducible refine' Be ..
   |with_reducible refine' Co ..
   |with_reducible refine' kI ..
   |with_reducible refine' bO ..
   |with_reducible refine' Ft ..
   |with_reducible refine' K0 ..
   |with_reducible exact Ig
   |with_reducible exact Hx
   |with_reducible exact Q9
   |with_reducible exact fA
   |with_reducible refine' Fe ..
   |with_reducible refine' Q6 ..
   |with_reducible refine' He ..
   |with_reducible refine' Hw ..
   |with_reducible exact Dc
   |with_reducible refine' B3 ..
   |with_reducible refine' Ou ..
   |with_reducible refine' Yv ..
   |with_reducible refine' Pr ..
   |with_reducible refine' jW ..
   |with_reducible refine' R8 ..
   |with_reducible exact Kx
   |with_reducible exact Pw
   |with_reducible refine' eK ..
   |with_reducible refine' oR ..
   |with_reducible refine' Xe ..
   |with_reducible refine' Cb ..
 case p=>
  intro ds own Q Z
  refine fW Z λn₀ k bs u n z0 ht hu hu2 hn hb1 hb2 hm q=>?_
  clear Z
  subst z0
  refine⟨rfl,?_⟩
  refine Ao (λσ=>σ=⟨[("told",.obj k),("pair",.tup [.int n,.str u]),("unit",.str u)],own,[]⟩) (λ_ _=>False) ?_ ?_ (λ_ _ h=>h.elim)
  ·intro R h1 h2
   exact Ab rfl ((Yh ⟨by decide,by decide⟩ rfl (B0 (h1 _ rfl))))
  rintro σ rfl
  refine Ao (λσ=>∃b,bs.getLast?=some b/\b.op=true/\σ=⟨[("told",.obj k),("pair",.tup [.int n,.str u]),("unit",.str u)],own,[]⟩) (λd σ=>d=.obj k/\Q d σ.own) ?_ ?_ (λd σ h=>h.2)
  ·intro R h1 h2
   obtain⟨lk,hlk,hlz⟩:∃l,own[k]? =some l/\l.length=bs.length:=by
    refine Ay ht λix e1 e2 _=>?_
    try clear ht
    exact⟨_,e2,by rw[length_map,e1]⟩
   refine'(λ(body:A3 bs u=G9 bs u->?C)=>?main) ?b
   case main=>
    refine Ab rfl (Oq hlk (by exact Ah (add_le_add (le_of_eq hlz) hb1)) ?_)
    cases hg:bs.getLast? with
    |none=>
     rw[List.getLast?_eq_none_iff]at hg
     have:lk=[]:=by subst hg;exact List.length_eq_zero_iff.mp hlz
     subst this
     refine sT (sT ?_)
     exact body (by unfold A3;rw[hg];rfl)
    |some b=>
     refine Iw (ht.last hg) λl i p e1 e2 e3 e4 _=>?_
     rw[e1]at hlk;cases hlk
     have ne:(!(l++[D.obj i]).isEmpty)=true:=by cases l<;>rfl
     refine Yj (by rw[ne];rfl) (Ab rfl (⟨_,rfl,Gd e1 ⟨by decide,by decide⟩ (Dl _ _) ((Gd e3 ⟨by decide,by decide⟩ rfl ?_))⟩))
     refine Cp ?_
     cases hop:b.op with
     |true=>exact sF (h1 _ ⟨b,hg,hop,rfl⟩)
     |false=>exact sT (body (by unfold A3;rw[hg];simp[hop]))
   case b=>
    intro hS
    rw[hS]at q
    refine Ao (λσ=>σ.loc=[("told",.obj k),("pair",.tup [.int n,.str u]),("unit",.str u)]/\E5 n₀ σ.own k (G9 bs u)/\(∀j,j<n₀->σ.own[j]? =own[j]?)/\own.length<=σ.own.length) (λ_ _=>False) ?_ ?_ (λ_ _ h=>h.elim)
    ·intro R' g1 g2
     refine Ab rfl ⟨by decide,kX (ys:=[cs "[",cs ".",cs "!"]) (Ai _ _) (Ps _ _) (H6 (λhc=>?_) λhc=>?_)⟩
     ·have hc:=of_decide_eq_true hc
      simp only[mem_cons,not_mem_nil,or_false]at hc
      have hu3:G9 bs u=bs++[⟨decide (u=cs "."),[],decide (u=cs "[")⟩]:=if_pos hc
      rw[hu3]at g1
      refine A0 (Vm (x:=[.str (cs "["),.str (cs "."),.str (cs "!")]) (bar:=decide (u=cs ".")) (op:=decide (u=cs "[")) ht hn hlk) λa1 a2 a3=>?_
      exact Ap (Ab rfl (gR (dL hlk) (Ab rfl (Qw ⟨by decide,Ab rfl (Qw ⟨le_of_ble_eq_true rfl,Mp (dL (dL (dL hlk))) (by exact Ah (add_le_add (le_of_eq hlz) hb1)) (g1 _ ⟨rfl,a1,a2,a3⟩)⟩)⟩))))
     ·have hc:=of_decide_eq_false hc
      simp only[mem_cons,not_mem_nil,or_false]at hc
      have hu3:G9 bs u=bs:=if_neg hc
      exact g1 _ ⟨rfl,by rw[hu3];exact ht.app _,λj hj=>List.getElem?_append_left (lt_of_lt_of_le hj hn),length_append .. ▸le_add_right _ _⟩
    ·intro σ Y
     refine B7 Y λe1 e2 e3 e4=>?_
     clear Y
     have hg:σ.get "told"=some (.obj k):=by unfold St.get;rw[e1];rfl
     exact Ab hg (h2 _ _ ⟨rfl,q _ e2 e3 e4⟩)
  intro σ V
  refine Ay V λb hg hop z1=>?_
  clear V
  subst z1
  refine Vb (ht.last hg) λl i p e1 e2 e3 e4 e5 e6 e7=>?_
  refine Ao (λσ=>σ=⟨[("told",.obj k),("pair",.tup [.int n,.str u]),("unit",.str u),("pieces",.obj p)],own,[]⟩) (λ_ _=>False) ?_ ?_ (λ_ _ h=>h.elim)
  ·intro R h1 h2
   exact Ab rfl (⟨_,rfl,Gd e1 ⟨by decide,by decide⟩ (Dl _ _) ((Gd e3 ⟨by decide,by decide⟩ rfl (B0 (h1 _ rfl))))⟩)
  rintro σ rfl
  have hip:i≠p:=λe=>by
   subst e;rw[e3]at e4
   have h:=Option.some.inj e4
   unfold eE at h
   cases hps:b.ps with
   |nil=>rw[hps]at h;cases h
   |cons x r=>rw[hps]at h;injection h with h _;unfold pD at h;cases h
  have setI:∀(b':Br),b'.ps=b.ps->∀l,l=eE b' p->E5 n₀ (own.set i l) k (bs.dropLast++[b']):=λb' hb l hl=>e7 _ b' (by simp) (λj h1 h2=>List.getElem?_set_ne (Ne.symm h1))
   (by rw[List.getElem?_set_self (List.getElem?_eq_some_iff.mp e3).1,hl]) (by rw[List.getElem?_set_ne hip,e4,hb])
  have setP:∀(b':Br),b'.bar=b.bar->b'.op=b.op->∀l,l=b'.ps.map pD->E5 n₀ (own.set p l) k (bs.dropLast++[b']):=λb' hb hb2 l hl=>e7 _ b' (by simp) (λj h1 h2=>List.getElem?_set_ne (Ne.symm h2))
   (by rw[List.getElem?_set_ne (Ne.symm hip),e3];unfold eE;rw[hb,hb2]) (by rw[List.getElem?_set_self (List.getElem?_eq_some_iff.mp e4).1,hl])
  have hstep:A3 bs u=bs.dropLast++[C9 b u]:=by unfold A3;rw[hg];simp[hop]
  rw[hstep]at q
  refine Ao (λσ=>σ.loc=rA k n u p/\E5 n₀ σ.own k (bs.dropLast++[C9 b u])/\(∀j,j<n₀->σ.own[j]? =own[j]?)/\own.length<=σ.own.length) (λ_ _=>False) ?_ ?_ (λ_ _ h=>h.elim)
  ·intro R h1 _
   have okI:∀(b':Br) (l:List D),C9 b u=b'->b'.ps=b.ps->l=eE b' p->R .next ⟨rA k n u p,own.set i l,[]⟩:=λb' l s hb hl=>
    h1 _ ⟨rfl,s▸setI b' hb l hl,λj hj=>List.getElem?_set_ne (by exact ne_of_gt (Ah (add_le_add hj e5))),le_of_eq (length_set ..).symm⟩
   have okP:∀(b':Br) (l:List D),C9 b u=b'->b'.bar=b.bar->b'.op=b.op->l=b'.ps.map pD->R .next ⟨rA k n u p,own.set p l,[]⟩:=λb' l s hb hb2 hl=>
    h1 _ ⟨rfl,s▸setP b' hb hb2 l hl,λj hj=>List.getElem?_set_ne (by exact ne_of_gt (Ah (add_le_add hj e6))),le_of_eq (length_set ..).symm⟩
   have hz:b.ps.length<=10000:=hb2 b (List.mem_of_getLast? hg)
   have hz2:(b.ps.map pD).length<=20000:=by rw[length_map];exact le_trans hz (by decide)
   have hmd:u=cs "-"->b.ps≠[]:=λhd=>hm hd b hg hop
   refine Af (Wr hu) λc hnu=>Ae hnu λhnu hdr=>?_
   clear h1 setI setP e7 hb2 hm hb1 q ht hg hop
   have ob:∀{P:D->Prop} {σ:St},σ.own=own->P (.obj i)->Kh (.obj k) (.int (-1)) σ P:=λhs hp=>Gd (by rw[hs];exact e1) ⟨by decide,by decide⟩ (Dl _ _) hp
   refine Ab rfl (Qw (H6 (λhc=>?_) λhc=>?_))
   ·exact Ap (Ab rfl ⟨_,rfl,ob rfl (Yi (j:=2) e3 ⟨by decide,by decide⟩ rfl (okI _ _ (Yn (of_decide_eq_true hc)) rfl rfl))⟩)
   ·have hc:=of_decide_eq_false hc
    refine Ap (Ab rfl (Qw ?_))
    refine'(λ(body2:¬(u=cs "^"/\b.ps=[]/\b.bar=false)->_)=>?main2) ?b2
    case main2=>
     refine H6 (λhc2=>?_) λhc2=>?_
     ·refine Ab rfl (Oq e4 hz2 ?_)
      by_cases hps:b.ps=[]
      ·refine Um (by rw[hps];rfl) (Ab rfl ⟨_,rfl,ob rfl (Gd e3 ⟨by decide,by decide⟩ rfl (Cp ?_))⟩)
       cases hbar:b.bar with
       |true=>
        refine sF (sF ?_)
        exact body2 λh=>by rw[hbar]at h;exact absurd h.2.2 (by decide)
       |false=>exact sT (sT (Ap (Ab rfl ⟨_,rfl,ob rfl (Yi (j:=0) e3 ⟨by decide,by decide⟩ rfl (okI _ _ (gS hc ⟨of_decide_eq_true hc2,hps,hbar⟩) rfl rfl))⟩)))
      ·refine Yj (by rw[show(b.ps.map pD).isEmpty=false by simp[hps]];rfl) (sF ?_)
       exact body2 λh=>hps h.2.1
     ·refine sF ?_
      exact body2 λh=>(of_decide_eq_false hc2) h.1
    case b2=>
     intro hne
     refine Ap (Ab rfl (Qw (H6 (λhd=>?_) λhd=>?_)))
     ·have hd:=of_decide_eq_true hd
      rcases List.eq_nil_or_concat b.ps with h0|⟨ps',⟨x,o⟩,hps⟩
      ·exact absurd h0 (hmd hd)
      rw[List.concat_eq_append]at hps
      rw[hps,map_append]at e4
      exact Ap (Ab rfl ⟨_,rfl,Gd e4 ⟨by decide,by decide⟩ (Dl _ _) (Yh ⟨by decide,by decide⟩ rfl ⟨le_of_ble_eq_true rfl,Ab rfl ⟨_,rfl,Yi e4 ⟨by decide,by decide⟩ (Lp _ _) (okP _ _ (Uq hc hne hd hps) rfl rfl (by simp[pD]))⟩⟩)⟩)
     ·have hd:=of_decide_eq_false hd
      refine'(λ(body3:(∀x,b.ps.getLast?≠some (x,none))->_)=>?main3) ?b3
      case main3=>
       refine Ap (Ab rfl (Oq e4 hz2 ?_))
       rcases List.eq_nil_or_concat b.ps with h0|⟨ps',⟨x,o⟩,hp⟩
       ·refine Yj (by rw[h0];rfl) (sF ?_)
        exact body3 (by rw[h0];exact λ_=>nofun)
       ·rw[List.concat_eq_append]at hp
        have e4':=e4
        rw[hp,map_append]at e4'
        refine Um (by rw[hp];simp) (Ab rfl ⟨_,rfl,Gd e4' ⟨by decide,by decide⟩ (Dl _ _) (Yh ⟨by decide,by decide⟩ rfl ?_)⟩)
        cases o with
        |none=>exact gQ (c:=true) (.inl ⟨rfl,rfl⟩) (sT (sT (Ap (Ab rfl ⟨_,rfl,Gd e4' ⟨by decide,by decide⟩ (Dl _ _) (Yh ⟨by decide,by decide⟩ rfl (Ab rfl ⟨_,rfl,Gy ⟨by decide,by decide⟩ hnu ⟨le_of_ble_eq_true rfl,Ab rfl ⟨_,rfl,Yi e4' ⟨by decide,by decide⟩ (Lp _ _) (okP _ _ (Ym hc hne hd hdr hp) rfl rfl (by simp[pD]))⟩⟩⟩))⟩))))
        |some y=>
         refine gQ (c:=false) (.inr ⟨⟨y,rfl⟩,rfl⟩) (sF (sF ?_))
         exact body3 (by rw[hp,getLast?_concat];exact λ_=>nofun)
      case b3=>
       intro h3
       exact Ap (Ab rfl (gR e4 (Ab rfl ⟨_,rfl,Gy ⟨by decide,by decide⟩ hnu (Ab rfl ⟨_,rfl,Gy ⟨by decide,by decide⟩ hnu ⟨le_of_ble_eq_true rfl,Mp e4 hz2 (okP _ _ (Yl hc hne hd hdr h3) rfl rfl (by simp[pD]))⟩⟩)⟩)))
  ·intro σ U
   refine B7 U λe1 e2 e3 e4=>?_
   clear U
   have hg:σ.get "told"=some (.obj k):=by unfold St.get;rw[e1];rfl
   exact Ab hg (q _ e2 e3 e4)
section
open Sem (wp)
noncomputable def A9 (i:Nat) (b:Bool):List Nat->List (Int×List Nat)
 |[]=>if b=true then[((i:Int)-1,[92])]else[]
 |c::r=>if b=true then((i:Int),[92,c])::A9 (i+1) false r else if c=92 then A9 (i+1) true r else((i:Int),[c])::A9 (i+1) false r
theorem Tq {c:Nat}(h:c≠92)(i:Nat)(r:List Nat):A9 i false (c::r)=((i:Int),[c])::A9 (i+1) false r:=(if_neg Bool.false_ne_true).trans (if_neg h)
noncomputable def Gr (q:Int×List Nat):D:=.tup [.int q.1,.str q.2]
section
variable {prog:Program}{w:World}{A:Around}{E:Value->Shared->Prop}{s:Shared}
theorem aX (hh:A.handled=none)(it:Addr)(x:Str)(t:Tok):
  Draws prog w A it [it] x.cps.size (λi v=>∃c u,x.cps[i]? =some c/\v=.str ⟨#[c]⟩ u) (λi h=>h.IsStrIter it (strIterType x) x t i):=by
 cases ha:x.cps.all (·<128)
 ·have e:strIterType x="str_iterator":=by simp[strIterType,ha]
  rw[e];exact Draws.strWide hh it x t
 ·have e:strIterType x="str_ascii_iterator":=by simp[strIterType,ha]
  rw[e];exact Draws.strAscii hh it x t
theorem Zp {h:Heap}{it:Addr}{o:Obj}{f:Array Value->Array Value}{vs:Array Value}(ho:h.get? it=some o)(hd:o.data=.fields vs)(x y:Obj):
  ∃o',(((h.update it λo=>o.mapFields f).push x).push y).get? it=some o':=
 ⟨_,Heap.get?_push_of_some _ (Heap.get?_push_of_some _ (Heap.get?_update_self _ ho (Obj.isFreed_of_fields (Obj.data_mapFields hd _))))⟩
theorem Vd {it:Addr}{o:Obj}{x:Str}{t:Tok}{i:Nat}(hh:A.handled=none)(ho:s.heap.get? it=some o)(hd:o.data=.fields #[.str x t,.int i 0])
  (hE:∀h' e,Heap.ExtBut it s.heap h'->(∃o,h'.get? it=some o)->(∃o,h'.get? e=some o/\o.cls=.type "StopIteration")->E (.ref e) {s with heap:=h'}){Q:Fin->Shared->Prop}{f:Array Value->Array Value}:
  wpAny (model prog w) A.in1 (newExc (.type "StopIteration") []>>=λx=>raiseNew x) Q E {s with heap:=s.heap.update it λo=>o.mapFields f}:=by
 refine wpAny_bind ?_
 simp only[newExc,newTuple]
 refine wpAny_bind (wpAny_newObj_type ?_ (by size_fits))
 refine wpAny_bind (m:=firstArgMember _ _) (wpAny_of_eq (a:=Value.none) (by first|rfl|(simp only[firstArgMember];rfl)) ?_)
 refine wpAny_newObj_type ?_ (by size_fits)
 refine wpAny_raiseNew_none (show A.in1.handled=none from hh) ?_
 exact hE _ _ (((Heap.SameBut.update ..).extBut.push _).push _) (Zp ho hd _ _) ⟨_,Heap.get?_push_size _ rfl,rfl⟩
theorem Iq {it:Addr}{x:Str}{t:Tok}{i:Nat}{Q:Value->Shared->Prop}(hh:A.handled=none)(hit:s.heap.IsStrIter it "str_ascii_iterator" x t i)(hx:x.cps[i]? =none)
  (hE:∀h' e,Heap.ExtBut it s.heap h'->(∃o,h'.get? it=some o)->(∃o,h'.get? e=some o/\o.cls=.type "StopIteration")->E (.ref e) {s with heap:=h'}):
  wpAny (model prog w) A (Builtin.SmallTypes.nextOf (.ref it)) Q E s:=by
 refine Ay (id hit) λo ho hc hd=>?_
 unfold Builtin.SmallTypes.nextOf
 refine wpAny_bind (wpAny_callSpecial?_slot (name:=ofString "__next__") hit.typeIs PySem.F.slot_str_ascii_iterator_next
  (wpAny_call_entry PySem.F.slot_str_ascii_iterator_next hit.typeIs PySem.F.entry_str_ascii_iterator_next ?_ (PySem.F.args_str_ascii_iterator_next_1 _)))
 show wpAny _ _ (field (.ref it) 0>>=_) _ _ s
 refine wpAny_bind (wpAny_field ho hd (x:=.str x t) rfl ?_)
 show wpAny _ _ (field (.ref it) 1>>=_) _ _ s
 refine wpAny_bind (wpAny_field ho hd (x:=.int i 0) rfl ?_)
 simp only[Int.toNat_natCast,hx]
 exact wpAny_bind (wpAny_rule (wpAny_bind (wpAny_setField ho hd (by simp) (wpAny_bind (wpAny_letGo (Vd hh ho hd hE))))))
theorem Jr {it:Addr}{x:Str}{t:Tok}{i:Nat}{Q:Value->Shared->Prop}(hh:A.handled=none)(hit:s.heap.IsStrIter it "str_iterator" x t i)(hx:x.cps[i]? =none)
  (hE:∀h' e,Heap.ExtBut it s.heap h'->(∃o,h'.get? it=some o)->(∃o,h'.get? e=some o/\o.cls=.type "StopIteration")->E (.ref e) {s with heap:=h'}):
  wpAny (model prog w) A (Builtin.SmallTypes.nextOf (.ref it)) Q E s:=by
 refine Ay (id hit) λo ho hc hd=>?_
 unfold Builtin.SmallTypes.nextOf
 refine wpAny_bind (wpAny_callSpecial?_slot (name:=ofString "__next__") hit.typeIs PySem.F.slot_str_iterator_next
  (wpAny_call_entry PySem.F.slot_str_iterator_next hit.typeIs PySem.F.entry_str_iterator_next ?_ (PySem.F.args_str_iterator_next_1 _)))
 show wpAny _ _ (field (.ref it) 0>>=_) _ _ s
 refine wpAny_bind (wpAny_field ho hd (x:=.str x t) rfl ?_)
 show wpAny _ _ (field (.ref it) 1>>=_) _ _ s
 refine wpAny_bind (wpAny_field ho hd (x:=.int i 0) rfl ?_)
 simp only[Int.toNat_natCast,hx]
 exact wpAny_bind (wpAny_rule (wpAny_bind (wpAny_setField ho hd (by simp) (wpAny_bind (wpAny_letGo (Vd hh ho hd hE))))))
theorem Km {it:Addr}{x:Str}{t:Tok}{i:Nat}{Q:Value->Shared->Prop}(hh:A.handled=none)(hit:s.heap.IsStrIter it (strIterType x) x t i)(hx:x.cps[i]? =none)
  (hE:∀h' e,Heap.ExtBut it s.heap h'->(∃o,h'.get? it=some o)->(∃o,h'.get? e=some o/\o.cls=.type "StopIteration")->E (.ref e) {s with heap:=h'}):
  wpAny (model prog w) A (Builtin.SmallTypes.nextOf (.ref it)) Q E s:=by
 cases ha:x.cps.all (·<128)
 ·have e:strIterType x="str_iterator":=by simp[strIterType,ha]
  rw[e]at hit;exact Jr hh hit hx hE
 ·have e:strIterType x="str_ascii_iterator":=by simp[strIterType,ha]
  rw[e]at hit;exact Iq hh hit hx hE
theorem Jl {e it:Addr}{x:Str}{t:Tok}{i:Nat}{k:Int}{old:Value}{Q:Option Value->Shared->Prop}(hh:A.handled=none)
  (he:IsEnum s.heap e it k old)(hit:s.heap.IsStrIter it (strIterType x) x t i)(hx:x.cps[i]? =none)
  (hQ:∀h',Heap.ExtBut it s.heap h'->(∃o,h'.get? it=some o)->Q none {s with heap:=h'}):wpAny (model prog w) A (pyNext (.ref e)) Q E s:=by
 have hT:s.TypeIs (.ref e) "enumerate":=⟨_,he,rfl⟩
 unfold pyNext
 refine wpAny_bind (wpAny_attempt (wpAny_callSpecial?_slot (name:=ofString "__next__") hT PySem.F.slot_enumerate_next
  (wpAny_call_entry PySem.F.slot_enumerate_next hT PySem.F.entry_enumerate_next ?_ (PySem.F.args_enumerate_next_1 _))))
 show wpAny _ _ (field (.ref e) 2>>=_) _ _ _
 refine wpAny_bind (wpAny_field he rfl (x:=.ref it) rfl ?_)
 refine wpAny_bind (Km hh hit hx λh' x he' hl hx'=>?_)
 refine Ac hx' λo ho hc=>?_
 try clear hx'
 refine wpAny_bind (wpAny_isInstance (T:="StopIteration") (b:=true) ⟨o,ho,hc⟩ isSubtype_stop ?_)
 exact wpAny_pure (hQ _ he' hl)
theorem Nj {a:Addr}{g n:Nat}{gs:GenState}{P:Nat->Shared->Shared->Prop}{Y:Protocol}{Q:Option Value->Shared->Prop}(hh:A.handled=none)
  (hl:s.heap.NoLimit)(hroom:A.depth<recursionLimit)(hg:s.heap.IsGen a g)(hgs:s.gens[g]? =some gs)
  (hgo:gs.Goes (model prog w) A.in1 (λn s₀ r s₁=>r=.ok (.ret .none)/\P n s₀ s₁) Y n (.send .none) (s.setGen g .running))
  (hY:∀v s₁ gs',gs'.bare=true->Y (n-1) (s.setGen g .running) v s₁ (λr' s''=>match n with
    |0=>False
    |m+1=>gs'.Goes (model prog w) A.in1 (λn s₀ r s₁=>r=.ok (.ret .none)/\P n s₀ s₁) Y m r' s'')->Q (some v) (s₁.setGen g gs'))
  (hP:∀s₁,P n (s.setGen g .running) s₁->∀h',(∀b o,s₁.heap.get? b=some o->h'.get? b=some o)->Q none {s₁.setGen g .finished with heap:=h'}):
  wpAny (model prog w) A (pyNext (.ref a)) Q E s:=by
 unfold pyNext
 refine wpAny_bind (wpAny_attempt (wpAny_callSpecial?_slot (name:=ofString "__next__") hg.typeIs slot_gen_next
  (wpAny_call_entry slot_gen_next hg.typeIs entry_gen_next ?_ (args_gen_next _))))
 show wpAny _ _ (Builtin.Generator.genWake (.ref a) (.send .none)) _ _ s
 unfold Builtin.Generator.genWake
 refine wpAny_bind (wpAny_holding (wpAny_genNumber hg (wpAny_bind (wpAny_genState hgs ?_))))
 cases gs with
 |running=>exact hgo.elim
 |finished=>exact hgo.elim
 |_=>
  refine wpAny_bind (wpAny_roomToWake hl hroom ?_)
  show wpAny _ A.in1 (.resume g (.send .none) [] _) _ _ s
  refine wpAny_resumeQ hgs hgo (λx s₁ hx=>?_) (λv s₁ gs' hb hv=>?_)
  ·obtain⟨rfl,hp⟩:=hx
   show wpAny _ A.in1 (newExc (.type "StopIteration") []>>=_) _ _ _
   refine wpAny_bind ?_
   simp only[newExc,newTuple]
   refine wpAny_bind (wpAny_newObj_type ?_ (by size_fits))
   refine wpAny_bind (m:=firstArgMember _ _) (wpAny_of_eq (a:=Value.none) (by first|rfl|(simp only[firstArgMember];rfl)) ?_)
   refine wpAny_newObj_type ?_ (by size_fits)
   refine wpAny_bind (wpAny_raiseNew_none (show A.in1.handled=none from hh) ?_)
   refine wpAny_bind (wpAny_isInstance (T:="StopIteration") (b:=true) ⟨_,Heap.get?_push_size _ rfl,rfl⟩ isSubtype_stop ?_)
   exact wpAny_pure (hP s₁ hp _ λb o hb=>Heap.get?_push_of_some _ (Heap.get?_push_of_some _ hb))
  ·exact wpAny_pure ⟨v,rfl,wpAny_pure (hY v s₁ gs' hb hv)⟩
theorem J9 {A:Around}{R:GenEnd}{Y:Protocol}{n:Nat}{s₀:Shared}{fs:List Frame}{s:Shared}{env:Env}{target:Expr}{it:Value}{body orelse:List Stmt}
  (h:wpAny (model prog w) (A.over (.forLoop target it body orelse env) fs) (pyNext it) (λr s1=>match r with
   |none=>Seg (model prog w) A R Y n s₀ (.forLoop target it body orelse env) (.pure (.again (.block orelse env))) fs s1
   |some v=>wpAny (model prog w) (A.over (.forLoop target it body orelse env) fs) (letOwnedTupleGo target it v) (λ_ s2=>wpAny (model prog w) (A.over (.forLoop target it body orelse env) fs) (assign target env v) (λ_ s3=>
      Seg (model prog w) A R Y n s₀ (.forLoop target it body orelse env) ((execs body env).wrap (λf=>match f with
      | .next| .cont=>.pure (.again (.forLoop target it body orelse env))
      | .brk=>.pure (.done .next)
      | .ret v=>.pure (.done (.ret v))) (λe=>(do noteFrame e env;theTreesLotGoes e:Sem Unit).wrap (λ_=>.raise e) .raise id id) id id) fs s3) (λ_ _=>False) s2) (λ_ _=>False) s1) (λ_ _=>False) s):
  Seg (model prog w) A R Y n s₀ (.forLoop target it body orelse env) ((model prog w).den (.forLoop target it body orelse env)) fs s:=by
 show Seg _ A R Y n s₀ _ ((forTurn target it body orelse env).onRaise (λx=>do noteFrame x env;theTreesLotGoes x)) fs s
 unfold forTurn
 rw[Sem.onRaise_eq_wrap]
 refine seg_bind_wrap (wpAny_standAt ?_)
 refine seg_bind_wrap (wpAny_onRaise (wpAny_mono h (λr s1 h1=>?_) λ_ _ x=>x.elim))
 cases r with
 |none=>exact h1
 |some v=>
  refine seg_bind_wrap (wpAny_mono h1 (λ_ s2 h2=>?_) λ_ _ x=>x.elim)
  refine seg_bind_wrap (wpAny_mono h2 (λ_ s3 h3=>?_) λ_ _ x=>x.elim)
  rw[Sem.bind_eq_wrap',Sem.wrap_wrap]
  rw[Sem.wrap_congr (execs body env) _ _ (K':=λf=>match f with
      | .next| .cont=>.pure (.again (.forLoop target it body orelse env))
      | .brk=>.pure (.done .next)
      | .ret v=>.pure (.done (.ret v))) (H':=(λe=>(do noteFrame e env;theTreesLotGoes e:Sem Unit).wrap (λ_=>.raise e) .raise id id))
    (λf=>by cases f<;>rfl)
    (λe=>by first|exact Sem.bind_eq_wrap _ _|(show(do noteFrame e env;theTreesLotGoes e:Sem Unit).bind (λ_=>.raise e)=_;rw[Sem.bind_eq_wrap]))]
  exact h3
noncomputable def Lq (env:Env) (K:Flow->Sem Fin) (H:Value->Sem Fin) (gd:Bool->Bool) (lv:List Value->List Value) (c:Code) (p:Pos):Frame:=
 .ret (λr=>((match r with| .ok f=>(.pure f:Sem Flow)| .error e=>.raise e).onRaise λ(x:Value)=>do
    if(<-field x 1)==Value.none then unsupported "frame.own-activation:exception-without-traceback"
    setFlight x env.frame).wrap K H gd lv) none (gd false) (lv []) c p []
theorem cO {M:Model}{A:Around}{R:GenEnd}{Y:Protocol}{n:Nat}{s₀:Shared}{c:Code}{fs:List Frame}{s:Shared}{env:Env}{K:Flow->Sem Fin}{H:Value->Sem Fin}{gd:Bool->Bool}{lv:List Value->List Value}
  {target iter:Expr}{body orelse:List Stmt}{pos:Pos}
  (h:wpAny M (A.over c fs) (eval iter env) (λx s1=>wpAny M (A.over c fs) (pyIter x) (λit s2=>∀p,Seg M A R Y n s₀ (.forLoop target it body orelse env) (M.den (.forLoop target it body orelse env)) (Lq env K H gd lv c p::fs) s2) (λ_ _=>False) s1) (λ_ _=>False) s)
  (hs:∀x,foldedSetIterable iter env x=pure x):Seg M A R Y n s₀ c ((exec (.For target iter body orelse pos) env).wrap K H gd lv) fs s:=by
 rw[exec_For]
 refine seg_bind_wrap (wpAny_standAt ?_)
 refine seg_bind_wrap (wpAny_mono h (λx s1 h1=>?_) λ_ _ x=>x.elim)
 refine seg_bind_wrap (wpAny_of_eq (hs x) ?_)
 refine seg_bind_wrap (wpAny_standAt ?_)
 refine seg_bind_wrap (wpAny_holding (wpAny_mono h1 (λit s2 h2=>?_) λ_ _ x=>x.elim))
 exact seg_call h2
theorem Sx {M:Model}{A:Around}{R:GenEnd}{Y:Protocol}{n:Nat}{s₀:Shared}{c:Code}{fs:List Frame}{s:Shared}{env:Env}{K:Flow->Sem Fin}{H:Value->Sem Fin}{gd:Bool->Bool}{lv:List Value->List Value}
  {test:Expr}{body orelse:List Stmt}{pos:Pos}
  (h:wpAny M (A.over c fs) (isTrue test env (eval test env)) (λb s1=>Seg M A R Y n s₀ c ((if b=true then execs body env else execs orelse env).wrap K H gd lv) fs s1) (λ_ _=>False) s):
  Seg M A R Y n s₀ c ((exec (.If test body orelse pos) env).wrap K H gd lv) fs s:=by
 rw[exec_If]
 refine seg_bind_wrap (wpAny_standAt ?_)
 exact seg_bind_wrap (wpAny_mono h (λb s1 h1=>h1) λ_ _ x=>x.elim)
end
end
section
open Sem (wp)
noncomputable abbrev gL (pp:Nat->Pos):Expr:=.Tuple [.Name (ofString "pos") (pp 7),.Name (ofString "ch") (pp 8)] 0 (pp 9)
noncomputable abbrev Xp (pp:Nat->Pos):List Stmt:=[.If (.Name (ofString "escape") (pp 35)) [.Expr (.Yield (some (.Tuple [.Name (ofString "pos") (pp 13),.BinOp (.Constant (.str (ofString "\\")) 0 (pp 14)) .Add (.Name (ofString "ch") (pp 15)) (pp 16)] 0 (pp 17))) (pp 18)) (pp 19),.Assign [.Name (ofString "escape") (pp 21)] (.Constant (.bool false) 0 (pp 20)) (pp 22)] [.If (.Compare (.Name (ofString "ch") (pp 31)) [.Eq] [.Constant (.str (ofString "\\")) 0 (pp 32)] (pp 33)) [.Assign [.Name (ofString "escape") (pp 24)] (.Constant (.bool true) 0 (pp 23)) (pp 25)] [.Expr (.Yield (some (.Tuple [.Name (ofString "pos") (pp 26),.Name (ofString "ch") (pp 27)] 0 (pp 28))) (pp 29)) (pp 30)] (pp 34)] (pp 36)]
noncomputable def Vi (pp:Nat->Pos):List Stmt:=[.Assign [.Name (ofString "pos") (pp 2)] (.Constant (.int 0) 0 (pp 1)) (pp 3),.Assign [.Name (ofString "escape") (pp 5)] (.Constant (.bool false) 0 (pp 4)) (pp 6),.For (gL pp) (.Call (.Name (ofString "enumerate") (pp 10)) [.Name (ofString "addr") (pp 11)] [] (pp 12)) (Xp pp) [] (pp 44),.If (.Name (ofString "escape") (pp 42)) [.Expr (.Yield (some (.Tuple [.Name (ofString "pos") (pp 37),.Constant (.str (ofString "\\")) 0 (pp 38)] 0 (pp 39))) (pp 40)) (pp 41)] [] (pp 43)]
structure GF (env:Env):Prop where
 kind:env.scope.kind=.function
 co:env.scope.isCoroutine=false
 ka:env.kindOf (ofString "addr")=some .local
 kp:env.kindOf (ofString "pos")=some .local
 ke:env.kindOf (ofString "escape")=some .local
 kc:env.kindOf (ofString "ch")=some .local
noncomputable def Fl (X:Addr->Prop) (s₀ s:Shared):Prop:=∃h' tk,s={s₀ with heap:=h',toks:=tk}/\0<tk/\∀b o,¬X b->s₀.heap.get? b=some o->h'.get? b=some o
theorem Fl.refl (X:Addr->Prop){s:Shared}(h:0<s.toks):Fl X s s:=⟨s.heap,s.toks,rfl,h,λ_ _ _ e=>e⟩
theorem Fl.step {X:Addr->Prop}{s₀ s:Shared}(g:Fl X s₀ s){h':Heap}{tk:Nat}(ht:0<tk)(k:∀b o,¬X b->s.heap.get? b=some o->h'.get? b=some o):Fl X s₀ {s with heap:=h',toks:=tk}:=by
 refine Aj g λh₁ t₁ Z _ k₁=>?_
 try clear g
 subst Z
 exact⟨h',tk,rfl,ht,λb o hb e=>k b o hb (k₁ b o hb e)⟩
noncomputable def X3 (L it e:Addr):Addr->Prop:=λb=>b=L\/b=it\/b=e
structure J (it e:Addr)(L:Addr)(x:Str)(t:Tok)(i:Nat)(b:Bool)(s:Shared):Prop where
 en:∃old,IsEnum s.heap e it i old
 st:s.heap.IsStrIter it (strIterType x) x t i
 ns:∃m p tp,s.heap.Ns L m/\m (ofString "escape")=some (.bool b)/\m (ofString "pos")=some (.int p tp)/\(b=true->p=(i:Int)-1)
structure Je (it e:Addr)(L:Addr)(i:Nat)(b:Bool)(s:Shared):Prop where
 en:∃o,s.heap.get? e=some o
 st:∃o,s.heap.get? it=some o
 ns:∃m p tp,s.heap.Ns L m/\m (ofString "escape")=some (.bool b)/\m (ofString "pos")=some (.int p tp)/\(b=true->p=(i:Int)-1)
structure gK (L it e:Addr):Prop where
 a4:L≠it
 a5:L≠e
 a6:it≠e
theorem J.keep {it e L:Addr}{x:Str}{t:Tok}{i:Nat}{b:Bool}{s s':Shared}(j:J it e L x t i b s)(k:∀b o,X3 L it e b->s.heap.get? b=some o->s'.heap.get? b=some o):J it e L x t i b s' where
 en:=by refine Af j.en λold h=>?_;exact⟨old,k _ _ (.inr (.inr rfl)) h⟩
 st:=by refine Ac j.st λo h r=>?_;exact⟨o,k _ _ (.inr (.inl rfl)) h,r⟩
 ns:=by refine B9 j.ns λm p tp Z q=>?_;refine B9 Z λo es ep ho r=>?_;clear Z;exact⟨m,p,tp,⟨o,es,ep,k _ _ (.inl rfl) ho,r⟩,q⟩
theorem J.live {it e L:Addr}{x:Str}{t:Tok}{i:Nat}{b:Bool}{s:Shared}(j:J it e L x t i b s):∀a,X3 L it e a->∃o,s.heap.get? a=some o:=λa h=>by
 rcases h with rfl|rfl|rfl
 ·refine B9 j.ns λm p tp Z q=>?_
  refine B9 Z λo es ep ho r=>?_
  clear Z;exact⟨o,ho⟩
 ·refine Ac j.st λo h _=>?_;exact⟨o,h⟩
 ·refine Af j.en λold h=>?_;exact⟨_,h⟩
theorem Je.live {it e L:Addr}{i:Nat}{b:Bool}{s:Shared}(j:Je it e L i b s):∀a,X3 L it e a->∃o,s.heap.get? a=some o:=λa h=>by
 rcases h with rfl|rfl|rfl
 ·refine B9 j.ns λm p tp Z q=>?_
  refine B9 Z λo es ep ho r=>?_
  clear Z;exact⟨o,ho⟩
 ·exact j.st
 ·exact j.en
noncomputable def yP (X:Addr->Prop) (all:List (Int×List Nat)):Protocol:=λn s₀ v s kap=>
 Fl X s₀ s/\(∃tup q u z,v=.ref tup/\s.heap.get? tup=some {cls:=.type "tuple",data:=.seq #[.int q.1 u,.str ⟨q.2.toArray⟩ z]}/\s₀.heap.get? tup=none/\¬X tup/\∃A1 rest,all=A1++q::rest/\rest.length=n)/\
 (∀b,X b->∃o,s.heap.get? b=some o)/\∀s'':Shared,0<s''.toks->(∀b o,X b->s.heap.get? b=some o->s''.heap.get? b=some o)->kap (.send .none) s''
noncomputable def rP (X:Addr->Prop):GenEnd:=λn s₀ r s₁=>r=.ok (.ret .none)/\(n=0/\Fl X s₀ s₁)
section
variable {prog:Program}{w:World}{A:Around}{E:Value->Shared->Prop}{s:Shared}{env:Env}
theorem Tp {e1 e2:Expr}{p:Pos}{Q:Value->Shared->Prop}(h1:wpAny (model prog w) A (eval e1 env) (λv s1=>wpAny (model prog w) A (eval e2 env) (λv' s2=>
  Q (.ref s2.heap.objs.size) {s2 with heap:=s2.heap.push {cls:=.type "tuple",data:=.seq #[v,v']}}) E s1) E s)
  (a1:starEach [e1,e2] env=(false,eval e1 env)::starEach [e2] env)(a2:starEach [e2] env=(false,eval e2 env)::starEach [] env):
  wpAny (model prog w) A (eval (.Tuple [e1,e2] 0 p) env) Q E s:=
 wpAny_Tuple (wpAny_items_cons (wpAny_mono h1 (λv s1 h=>wpAny_items_cons (wpAny_mono h (λv' s2 h=>wpAny_items_nil ⟨by show 2<=sizeLine;decide,h⟩) λ_ _ x=>x) a2) λ_ _ x=>x) a1)
theorem Fk (H:env.scope.kind=.function){x:String}{p:Pos}{m:Str->Option Value}{v:Value}{Q:Value->Shared->Prop}(hk:env.kindOf (ofString x)=some .local)(hn:s.heap.Ns env.locals m)(hv:m (ofString x)=some v)(h:Q v s)
  (hd:(ofString x==("__debug__":Str))=false:=by decide):wpAny (model prog w) A (eval (.Name (ofString x) p) env) Q E s:=
 wpAny_Name (wpAny_loadName_local H hk hn hv h) hd
theorem Oe {X:Addr->Prop}{all:List (Int×List Nat)}{n:Nat}{s₀:Shared}{q:Int×List Nat}{u z:Tok}{kap:Resume->Shared->Prop}(g:Fl X s₀ s)(hX:∀b,X b->∃o,s.heap.get? b=some o)(hq:∃A1 rest,all=A1++q::rest/\rest.length=n)
  (hk:∀s'':Shared,0<s''.toks->(∀b o,X b->s.heap.get? b=some o->s''.heap.get? b=some o)->kap (.send .none) s''):
  yP X all n s₀ (.ref s.heap.objs.size) {s with heap:=s.heap.push {cls:=.type "tuple",data:=.seq #[.int q.1 u,.str ⟨q.2.toArray⟩ z]}} kap:=by
 have fr:s.heap.get? s.heap.objs.size=none:=Heap.get?_none_of_le (le_refl _)
 have nX:¬X s.heap.objs.size:=λh=>by refine Af (hX _ h) λo ho=>?_;rw[fr]at ho;cases ho
 refine⟨g.step (tk:=s.toks) (by refine Aj g λh' tk Z ht _=>?_;try clear g;subst Z;exact ht) λb o _ e=>Heap.get?_push_of_some _ e,⟨_,q,u,z,rfl,Heap.get?_push_size _ rfl,?_,nX,hq⟩,λb hb=>(by refine Af (hX b hb) λo ho=>?_;exact⟨o,Heap.get?_push_of_some _ ho⟩),λs'' ht k=>hk s'' ht λb o hb e=>k b o hb (Heap.get?_push_of_some _ e)⟩
 refine Aj g λh' tk Y _ k=>?_
 try clear g
 subst Y
 cases e:s₀.heap.get? h'.objs.size with
 |none=>rfl
 |some o=>exact absurd (k _ _ nX e) (by rw[show h'.get? h'.objs.size=none from fr];exact λh=>nomatch h)
theorem Xq {α:Type}{t:Sem α}{Q:α->Shared->Prop}(ht:0<s.toks)(h:wpAny (model prog w) A t (λa s'=>0<s'.toks->Q a s') E s):wpAny (model prog w) A t Q E s:=
 wpAny_mono (A4 h) (λa s' h2_=>by refine Ae h2_ λh1 h2=>?_;try clear h2_;exact h1 (lt_of_lt_of_le ht h2)) λ_ _ x=>x
end
end
section
open Sem (wp)
section
variable {prog:Program}{w:World}{A:Around}{E:Value->Shared->Prop}{s:Shared}{env:Env}
theorem cP (N:GF env)(hh:A.handled=none){pp:Nat->Pos}{p:Pos}{it e:Addr}(ap:gK env.locals it e){xs:List Nat}{t:Tok}{all:List (Int×List Nat)}{K:Flow->Sem Fin}{H:Value->Sem Fin}{c:Code}
  (hend:∀(b:Bool) (s₀ s:Shared),(∃A1,all=A1++A9 xs.length b [])->Je it e env.locals xs.length b s->Fl (X3 env.locals it e) s₀ s->
   Seg (model prog w) A (rP (X3 env.locals it e)) (yP (X3 env.locals it e) all) (A9 xs.length b []).length s₀ c (K .next) [] s)
  (hsz:xs.length+3<=sizeLine):∀(r:List Nat) (i:Nat) (b:Bool) (s₀ s:Shared),xs.drop i=r->i<=xs.length->(∃A1,all=A1++A9 i b r)->J it e env.locals ⟨xs.toArray⟩ t i b s->Fl (X3 env.locals it e) s₀ s->
   Seg (model prog w) A (rP (X3 env.locals it e)) (yP (X3 env.locals it e) all) (A9 i b r).length s₀ (.forLoop (gL pp) (.ref e) (Xp pp) [] env)
    ((model prog w).den (.forLoop (gL pp) (.ref e) (Xp pp) [] env)) [Lq env K H id id c p] s:=by
 have hh':∀c',(A.over c' [Lq env K H id id c p]).handled=none:=λ_=>hh
 have hp:(env.scope.kind== .class||(env.scope.kind== .module&&env.locals != env.globals))=false:=by rw[N.kind];rfl
 intro r
 induction r with
 |nil=>
  intro i b s₀ s hdr hi hsuf j g
  have hil:i=xs.length:=by
   have:=congrArg List.length hdr
   simp at this;exact le_antisymm (Ah hi) (Ah (add_le_add (Bp (xs.length) (i)) (le_of_eq this)))
  subst hil
  refine Af j.en λold he=>?_
  refine J9 (Jl (hh' _) he j.st (by simp) λh' hx hl=>?_)
  refine seg_again rfl ?_
  show Seg _ _ _ _ _ _ _ (leafOf (.ok .next)) _ _
  refine seg_leaf (.ok .next) ?_
  have k:∀b o,¬X3 env.locals it e b->s.heap.get? b=some o->h'.get? b=some o:=λb o hb e'=>hx b o (λq=>hb (.inr (.inl q))) e'
  have ht:0<s.toks:=by refine Aj g λ_ tk Y ht _=>?_;try clear g;subst Y;exact ht
  refine hend b s₀ _ hsuf ⟨⟨_,hx _ _ ap.a6.symm he⟩,hl,?_⟩ (g.step (tk:=s.toks) ht k)
  refine B9 j.ns λm q tq Z rest=>?_
  refine B9 Z λo es ep ho r=>?_
  clear Z
  exact⟨m,q,tq,⟨o,es,ep,hx _ _ ap.a4 ho,r⟩,rest⟩
 |cons ch r ih=>
  intro i b s₀ s hdr hi hsuf j g
  have hlt:i<xs.length:=by
   have:=congrArg List.length hdr
   simp at this;exact Ah (add_le_add (le_of_eq (sub_add_cancel (Ah hi:i<=xs.length))) (le_of_eq this.symm))
  have hdr':xs.drop (i+1)=r:=by rw[<-List.tail_drop,hdr];rfl
  have hget:xs[i]? =some ch:=by
   have:(xs.drop i)[0]? =some ch:=by rw[hdr];rfl
   rw[List.getElem?_drop]at this;simpa using this
  refine Af j.en λold he=>?_
  refine Ds j.ns λm q tq hn hesc hpos hq=>?_
  refine J9 (wpAny_pyNext_enum_itemD (aX (by exact hh) it ⟨xs.toArray⟩ t) he j.st (by simpa using hlt) (Ne.symm ap.a6) (by simp;exact Ne.symm ap.a6) λv h₁ tk hv heo hst₁ ht₁ hz₁ hk₁=>?_)
  refine A2 hv λc' u hc' V=>?_
  try clear hv
  subst V
  have:c'=ch:=by
   have:xs[i]? =some c':=by simpa using hc'
   rw[hget]at this;cases this;rfl
  subst this
  refine wpAny_letOwnedTupleGo_enum heo λh₂ he₂ hs₂=>?_
  replace hs₂:Heap.SameBut e h₁ h₂:=hs₂
  have heH:e<s.heap.objs.size:=Heap.lt_size he
  have hLH:env.locals<s.heap.objs.size:=hn.lt
  have hiH:it<s.heap.objs.size:=by refine Ac j.st λ_ ho _=>?_;exact Heap.lt_size ho
  have ht₂:h₂.IsTuple s.heap.objs.size #[.int i tk,.str ⟨#[c']⟩ u]:=⟨_,(hs₂.2 _ (ne_of_gt heH)).trans ht₁,rfl,_,rfl⟩
  have hz₂:h₂.objs.size=s.heap.objs.size+1:=hs₂.1.trans hz₁
  refine wpAny_assign_Tuple (hh' _) ht₂ rfl rfl λh₃ hx₃=>?_
  replace hx₃:Heap.ExtBut h₂.objs.size h₂ h₃:=hx₃
  have old₃:∀b o,b<s.heap.objs.size->h₂.get? b=some o->h₃.get? b=some o:=λb o hb x=>hx₃ b o (by rw[hz₂];exact ne_of_lt (lt_succ_of_lt hb)) x
  have hn₃:h₃.Ns env.locals m:=(hn.at λo x=>hk₁ _ o ap.a5 ap.a4 x).sameBut hs₂ ap.a5 |>.at λo x=>old₃ _ o hLH x
  show wpAny _ _ (do holding [Value.str ⟨#[c']⟩ u] (assign (.Name (ofString "pos") (pp 7)) env (.int i tk));do holding [] (assign (.Name (ofString "ch") (pp 8)) env (.str ⟨#[c']⟩ u));pure ()) _ _ _
  refine wpAny_bind (wpAny_holding (wpAny_assign_Name (wpAny_storeName_local N.kp hn₃ (λh₄ hn₄ hs₄=>?_) hp)))
  replace hs₄:Heap.SameBut env.locals h₃ h₄:=hs₄
  refine wpAny_bind (wpAny_holding (wpAny_assign_Name (wpAny_storeName_local N.kc hn₄ (λh₅ hn₅ hs₅=>wpAny_pure ?_) hp)))
  replace hs₅:Heap.SameBut env.locals h₄ h₅:=hs₅
  have up:∀b o,b≠env.locals->b<s.heap.objs.size->h₂.get? b=some o->h₅.get? b=some o:=λb o hbL hb x=>
   hs₅.extBut b o hbL (hs₄.extBut b o hbL (old₃ b o hb x))
  have g₅:∀tk',0<tk'->Fl (X3 env.locals it e) s₀ {s with heap:=h₅,toks:=tk'}:=λtk' ht=>g.step ht λb o hb x=>by
   have h1:b≠env.locals:=λz=>hb (.inl z)
   have h2:b≠it:=λz=>hb (.inr (.inl z))
   have h3:b≠e:=λz=>hb (.inr (.inr z))
   exact up b o h1 (Heap.lt_size x) (hs₂.extBut b o h3 (hk₁ b o h3 h2 x))
  have mk:∀(s':Shared) (b':Bool) m',s'.heap.Ns env.locals m'->(∀a o,a≠env.locals->h₅.get? a=some o->s'.heap.get? a=some o)->m' (ofString "escape")=some (.bool b')->m' (ofString "pos")=some (.int i tk)->
    J it e env.locals ⟨xs.toArray⟩ t (i+1) b' s':=λs' b' m' hn' k' he' hp'=>
   ⟨⟨.str ⟨#[c']⟩ u,by
     have e1:((i+1:Nat):Int)=(i:Int)+1:=by push_cast;rfl
     rw[e1];exact k' e _ (Ne.symm ap.a5) (up e _ (Ne.symm ap.a5) heH he₂)⟩,
    (by refine Ac hst₁ λo ho r=>?_;try clear hst₁;exact⟨o,k' it o (Ne.symm ap.a4) (up it o (Ne.symm ap.a4) hiH (hs₂.extBut it o ap.a6 ho)),r⟩),
    ⟨m',i,tk,hn',he',hp',λ_=>by push_cast;exact(qC _).symm⟩⟩
  have e1:¬ofString "escape"=ofString "ch":=λz=>absurd (Ba z) (by decide)
  have e2:¬ofString "escape"=ofString "pos":=λz=>absurd (Ba z) (by decide)
  have e3:¬ofString "pos"=ofString "ch":=λz=>absurd (Ba z) (by decide)
  have e4:¬ofString "pos"=ofString "escape":=λz=>absurd (Ba z) (by decide)
  change Seg _ _ _ _ _ _ _ _ _ ({s with heap:=h₅,toks:=tk+1+1+1}:Shared)
  refine seg_execs_cons (Sx (wpAny_isTrue_value (Fk N.kind N.ke hn₅ (v:=.bool b) ((if_neg e1).trans ((if_neg e2).trans hesc)) (wpAny_truthy_bool ?_)) rfl))
  have hbs:∀z:Nat,ofString "\\"++(⟨#[z]⟩:Str)=⟨[92,z].toArray⟩:=λz=>by
   rw[Fs,show cs "\\"=[92]by decide];exact Gs [92] [z]
  have tk0:∀{a:Nat},0<a+1:=succ_pos _
  cases b with
  |true=>
   rw[if_pos rfl]
   have ee:A9 i true (c'::r)=((i:Int),[92,c'])::A9 (i+1) false r:=rfl
   rw[ee]at hsuf⊢
   rw[length_cons]
   refine Af hsuf λpr hpr=>?_
   try clear hsuf
   refine seg_execs_cons (seg_Expr_Yield rfl rfl rfl (Tp (Fk N.kind N.kp hn₅ (v:=.int i tk) ((if_neg e3).trans (if_pos rfl)) (wpAny_BinOp (wpAny_Constant_str (Fk N.kind N.kc (by exact hn₅) (v:=.str ⟨#[c']⟩ u) (if_pos rfl) (Xq tk0 (add_str (λt' tk' ht'=>?_) (by rw[Fs,show cs "\\"=[92]by decide];show 1+1<=sizeLine;decide))))))) rfl rfl) N.co (by first|rfl|(rw[interactive,N.kind];rfl)))
   intro kap hkap
   rw[hbs]
   have J5:=mk {s with heap:=h₅,toks:=tk'} true _ hn₅ (λ_ _ _ x=>x) ((if_neg e1).trans ((if_neg e2).trans hesc)) ((if_neg e3).trans (if_pos rfl))
   refine Oe (q:=((i:Int),[92,c'])) (g₅ _ ht') (J5.live) ⟨pr,_,hpr,rfl⟩ λs'' ht'' k''=>hkap .none s'' ?_
   refine Ds ((J5.keep k'').ns) λm'' q'' tq'' hn'' he'' hp'' _=>?_
   have j'':=J5.keep k''
   show Seg _ _ _ _ _ _ _ ((execs [_] env).wrap _ _ _ _) _ _
   refine seg_execs_cons (seg_wrap (wpAny_Assign_Name (wpAny_Constant_bool (wpAny_storeName_local N.ke hn'' (λh₆ hn₆ hs₆=>?_) hp)) rfl))
   replace hs₆:Heap.SameBut env.locals s''.heap h₆:=hs₆
   refine seg_again rfl (ih (i+1) false s'' _ hdr' hlt ⟨pr++[((i:Int),[92,c'])],by rw[hpr,append_assoc];rfl⟩ ?_ ((Fl.refl _ ht'').step (succ_pos _) λb o hb x=>hs₆.extBut b o (λz=>hb (.inl z)) x))
   exact{en:=(by refine Af j''.en λold h=>?_;exact⟨old,hs₆.extBut _ _ (Ne.symm ap.a5) h⟩),st:=(by refine Ac j''.st λo h r=>?_;exact⟨o,hs₆.extBut _ _ (Ne.symm ap.a4) h,r⟩),ns:=⟨_,q'',tq'',hn₆,if_pos rfl,(if_neg e4).trans hp'',λh=>nomatch h⟩}
  |false=>
   rw[if_neg Bool.false_ne_true]
   refine seg_execs_cons (Sx (wpAny_isTrue_Compare1 (Fk N.kind N.kc (by exact hn₅) (v:=.str ⟨#[c']⟩ u) (if_pos rfl) (wpAny_Constant_str (eq_str (wpAny_truthy_bool ?_)))) rfl))
   have hcmp:((⟨#[c']⟩:Str)==ofString "\\")=decide (c'=92):=by
    rw[Fs,show cs "\\"=[92]by decide]
    have:=Uj [c'] [92]
    rw[show(⟨#[c']⟩:Str)=⟨[c'].toArray⟩from rfl,this]
    by_cases h:c'=92<;>simp[h]
   rw[hcmp]
   change Seg _ _ _ _ _ _ _ _ _ ({s with heap:=h₅,toks:=tk+1+1+1+1}:Shared)
   by_cases h92:c'=92
   ·rw[if_pos (decide_eq_true h92)]
    have ee:A9 i false (c'::r)=A9 (i+1) true r:=(if_neg Bool.false_ne_true).trans (if_pos h92)
    rw[ee]at hsuf⊢
    refine seg_execs_cons (seg_wrap (wpAny_Assign_Name (wpAny_Constant_bool (wpAny_storeName_local N.ke hn₅ (λh₆ hn₆ hs₆=>?_) hp)) rfl))
    replace hs₆:Heap.SameBut env.locals h₅ h₆:=hs₆
    refine seg_again rfl (ih (i+1) true s₀ _ hdr' hlt hsuf (mk _ true _ hn₆ (λa o ha x=>hs₆.extBut a o ha x) (if_pos rfl) ((if_neg e4).trans ((if_neg e3).trans (if_pos rfl)))) ?_)
    exact(g₅ (tk+1+1+1+1) (succ_pos _)).step (succ_pos _) λb o hb x=>hs₆.extBut b o (λz=>hb (.inl z)) x
   ·rw[if_neg (λh=>h92 (of_decide_eq_true h))]
    have ee:A9 i false (c'::r)=((i:Int),[c'])::A9 (i+1) false r:=(if_neg Bool.false_ne_true).trans (if_neg h92)
    rw[ee]at hsuf⊢
    rw[length_cons]
    refine Af hsuf λpr hpr=>?_
    try clear hsuf
    refine seg_execs_cons (seg_Expr_Yield rfl rfl rfl (Tp (Fk N.kind N.kp hn₅ (v:=.int i tk) ((if_neg e3).trans (if_pos rfl)) (Fk N.kind N.kc (by exact hn₅) (v:=.str ⟨#[c']⟩ u) (if_pos rfl) ?_)) rfl rfl) N.co (by first|rfl|(rw[interactive,N.kind];rfl)))
    intro kap hkap
    have J5:=mk {s with heap:=h₅,toks:=tk+1+1+1+1} false _ hn₅ (λ_ _ _ x=>x) ((if_neg e1).trans ((if_neg e2).trans hesc)) ((if_neg e3).trans (if_pos rfl))
    refine Oe (q:=((i:Int),[c'])) (g₅ _ tk0) (J5.live) ⟨pr,_,hpr,rfl⟩ λs'' ht'' k''=>hkap .none s'' ?_
    have j'':=J5.keep k''
    exact seg_again rfl (ih (i+1) false s'' _ hdr' hlt ⟨pr++[((i:Int),[c'])],by rw[hpr,append_assoc];rfl⟩ j'' (Fl.refl _ ht''))
end
end
section
open Sem (wp)
section
variable {Γ:W}{A:Around}{s:Shared}{env:Env}
theorem Yd (ok:Γ.Ok)(N:GF env)(hkn:env.kindOf (ofString "enumerate")=some .globalImplicit)(hgl:env.globals=mainGlobals)(hbu:env.builtins=builtinsNs)(hn0:Γ.mg (ofString "enumerate")=none)(hv0:Γ.mb (ofString "enumerate")=some (.type "enumerate"))
  (hh:A.handled=none){pp:Nat->Pos}{xs:List Nat}{t:Tok}{m:Str->Option Value}
  (hsz:xs.length+3<=sizeLine)(hB:∀b o,Γ.B.get? b=some o->s.heap.get? b=some o)(hBL:Γ.B.get? env.locals=none)(ht:0<s.toks)(hn:s.heap.Ns env.locals m)(hm:m (ofString "addr")=some (.str ⟨xs.toArray⟩ t)):
  Seg (model Γ.prog Γ.w) A (rP (X3 env.locals s.heap.objs.size (s.heap.objs.size+1))) (yP (X3 env.locals s.heap.objs.size (s.heap.objs.size+1)) (A9 0 false xs)) (A9 0 false xs).length s
   (.func (Vi pp) env)
   ((model Γ.prog Γ.w).den (.func (Vi pp) env)) [] s:=by
 have hp:(env.scope.kind== .class||(env.scope.kind== .module&&env.locals != env.globals))=false:=by rw[N.kind];rfl
 have e4:(ofString "pos"=ofString "escape")=False:=eq_false λz=>absurd (Ba z) (by decide)
 have e6:(ofString "addr"=ofString "escape")=False:=eq_false λz=>absurd (Ba z) (by decide)
 have e7:(ofString "addr"=ofString "pos")=False:=eq_false λz=>absurd (Ba z) (by decide)
 have hLl:env.locals<s.heap.objs.size:=hn.lt
 have ap:gK env.locals s.heap.objs.size (s.heap.objs.size+1):=⟨ne_of_lt hLl,ne_of_lt (lt_succ_of_lt hLl),ne_of_lt (lt_succ_self _)⟩
 generalize hX:X3 env.locals s.heap.objs.size (s.heap.objs.size+1)=X
 have XL:X env.locals:=by rw[<-hX];exact .inl rfl
 refine seg_func ?_
 unfold Vi
 refine seg_execs_cons (seg_wrap (wpAny_Assign_Name (wpAny_Constant_int (wpAny_storeName_local N.kp hn (λh₁ hn₁ hs₁=>?_) hp)) rfl))
 replace hs₁:Heap.SameBut env.locals s.heap h₁:=hs₁
 refine seg_execs_cons (seg_wrap (wpAny_Assign_Name (wpAny_Constant_bool (wpAny_storeName_local N.ke hn₁ (λh₂ hn₂ hs₂=>?_) hp)) rfl))
 replace hs₂:Heap.SameBut env.locals h₁ h₂:=hs₂
 change Seg _ _ _ _ _ _ _ _ _ ({s with heap:=h₂,toks:=s.toks+1+1+1}:Shared)
 have g₂:Fl X s ({s with heap:=h₂,toks:=s.toks+1+1+1}:Shared):=(Fl.refl X ht).step (succ_pos _) λb o hb x=>by
  have hbL:b≠env.locals:=λz=>hb (z▸XL)
  exact hs₂.extBut b o hbL (hs₁.extBut b o hbL x)
 have hsize:h₂.objs.size=s.heap.objs.size:=hs₂.1.trans hs₁.1
 have hB₂:∀b o,Γ.B.get? b=some o->b≠env.locals->h₂.get? b=some o:=λb o x hbL=>hs₂.extBut b o hbL (hs₁.extBut b o hbL (hB b o x))
 have hB₃:∀b o,Γ.B.get? b=some o->h₂.get? b=some o:=λb o x=>hB₂ b o x λz=>by rw[z,hBL]at x;cases x
 refine seg_execs_cons (cO (wpAny_Call_NameR (Calls.Name_function_global N.kind hkn (Calls.loadGlobal_builtin (by rw[hgl];exact ok.g.keeps hB₃) hn0 (by rw[hbu];exact ok.b.keeps hB₃) hv0
  (PyProof.Rows.callWith_type (Jn rfl rfl) (Ho rfl (wpAny_items_cons (Fk N.kind N.ka hn₂ (v:=.str ⟨xs.toArray⟩ t) (by simp only[e6,e7,if_false];exact hm) (wpAny_items_nil (call_enumerate_str λh₃ he₃ hit₃ hsz₃ hk₃=>wpAny_pyIter_enum he₃ λp=>?_))) rfl)))) (by decide))) (λ_=>rfl))
 change h₃.objs.size=h₂.objs.size+2 at hsz₃
 change IsEnum h₃ (h₂.objs.size+1) h₂.objs.size 0 .none at he₃
 change h₃.IsStrIter h₂.objs.size _ _ _ _ at hit₃
 rw[hsize]at he₃ hit₃
 change Seg _ _ _ _ _ _ (Code.forLoop _ (.ref (h₂.objs.size+1)) _ _ _) ((model Γ.prog Γ.w).den (Code.forLoop _ (.ref (h₂.objs.size+1)) _ _ _)) _ ({s with heap:=h₃,toks:=s.toks+1+1+1}:Shared)
 rw[hsize]
 have g₃:Fl X s ({s with heap:=h₃,toks:=s.toks+1+1+1}:Shared):=g₂.step (succ_pos _) λb o _ x=>hk₃ b o x
 have ns₃:h₃.Ns env.locals _:=hn₂.keeps hk₃
 subst hX
 refine cP N hh ap (λb s₀ s₁ hsuf je gr=>?_) hsz xs 0 false s _ rfl (zero_le _) ⟨[],rfl⟩ ⟨⟨_,he₃⟩,hit₃,⟨_,0,s.toks,ns₃,by simp only[if_true],by simp only[e4,if_false,if_true],λh=>nomatch h⟩⟩ g₃
 refine Ds je.ns λm₁ q tq hn₁' hesc hpos hq=>?_
 show Seg _ _ _ _ _ _ _ ((execs [_] env).wrap _ _ _ _) _ _
 refine seg_execs_cons (Sx (wpAny_isTrue_value (Fk N.kind N.ke hn₁' (v:=.bool b) hesc (wpAny_truthy_bool ?_)) rfl))
 cases b with
 |true=>
  rw[if_pos rfl]
  have ee:A9 xs.length true []=[((xs.length:Int)-1,[92])]:=rfl
  rw[ee]at hsuf⊢
  refine Af hsuf λpr hpr=>?_
  try clear hsuf
  have hq':=hq rfl
  subst hq'
  have hbs:ofString "\\"=⟨[92].toArray⟩:=by rw[Fs,show cs "\\"=[92]by decide]
  refine seg_execs_cons (seg_Expr_Yield rfl rfl rfl (Tp (Fk N.kind N.kp hn₁' (v:=.int ((xs.length:Int)-1) tq) hpos (wpAny_Constant_str ?_)) rfl rfl) N.co (by first|rfl|(delta interactive;simp[N.kind])))
  intro kap hkap
  rw[hbs]
  refine Oe (s:={s₁ with toks:=s₁.toks+1}) (q:=((xs.length:Int)-1,[92])) (gr.step (succ_pos _) λ_ _ _ x=>x) je.live ⟨pr,[],hpr,rfl⟩ λs'' ht'' k''=>hkap .none s'' ?_
  exact seg_end (.ok (.ret .none)) ⟨rfl,rfl,Fl.refl _ ht''⟩
 |false=>
  rw[if_neg Bool.false_ne_true]
  have ee:A9 xs.length false []=[]:=rfl
  rw[ee]
  exact seg_end (.ok (.ret .none)) ⟨rfl,rfl,gr⟩
end
end
section
open Sem (wp)
section
variable {α β γ δ:Type}{Γ:W}{K:Cw}{A:Around}{env:Env}{G G':Gh}{ι ι':List Addr}{σ:St}{s s':Shared}
theorem Aa.live (F:Aa Γ K env G ι σ s){a:Addr}(h:G a≠none\/a∈ι\/a∈Γ.tabs.map (·.2)\/Jz env a\/K.old a≠none):∃o,s.heap.get? a=some o:=by
 rcases h with h|h|h|h|h
 ·cases e:G a with
  |none=>exact absurd e h
  |some o=>exact⟨o,F.store.gin _ _ e⟩
 ·obtain⟨k,hk,e⟩:=List.getElem_of_mem h
  have e1:ι[k]? =some a:=by rw[List.getElem?_eq_getElem hk,e]
  have hk2:k<σ.own.length:=F.store.len▸hk
  obtain⟨vs,⟨o,ho⟩,_⟩:=F.store.at_ k a σ.own[k] e1 (List.getElem?_eq_getElem hk2)
  exact⟨_,ho⟩
 ·obtain⟨p,hp,rfl⟩:=mem_map.mp h
  obtain⟨_,_,ps,⟨_,t⟩,_⟩:=F.store.tabs p hp
  exact⟨_,t⟩
 ·rcases h with rfl|⟨x,hk,hl⟩
  ·obtain⟨m,⟨o,es,ep,ho,r⟩,_⟩:=F.ns;exact⟨o,ho⟩
  ·obtain⟨_,⟨v,o,ho,_⟩,_⟩:=F.cell x a hk hl;exact⟨o,ho⟩
 ·cases e:K.old a with
  |none=>exact absurd e h
  |some o=>exact⟨o,(F.far _ _ e).1⟩
theorem Ii (F:Aa Γ K env G ι σ s){X:Addr->Prop}(hX:∀a,X a->s.heap.get? a=none):Bw Γ K env G ι X:=λa xa=>by
 have h:=λq=>F.live (a:=a) q
 have no:∀{p:Prop},(p->∃o,s.heap.get? a=some o)->¬p:=λk hp=>by refine Af (k hp) λo ho=>?_;rw[hX a xa]at ho;cases ho
 refine⟨Classical.byContradiction λq=>no (λq=>h (.inl q)) q,no λq=>h (.inr (.inl q)),no λq=>h (.inr (.inr (.inl q))),no λq=>h (.inr (.inr (.inr (.inl q)))),Classical.byContradiction λq=>no (λq=>h (.inr (.inr (.inr (.inr q))))) q⟩
theorem S1 (F:Aa Γ K env G ι σ s){X X₁:Addr->Prop}(hX:Bw Γ K env G ι X)(h:∀a,X₁ a->X a\/s.heap.get? a=none):Bw Γ K env G ι X₁:=λa xa=>by
 rcases h a xa with x|x
 ·exact hX a x
 ·exact Ii F (X:=λb=>s.heap.get? b=none) (λ_ e=>e) a x
theorem Aa.ext2 (F:Aa Γ K env G ι σ s){h':Heap}{t:Nat}{g:Array GenState}{dr:Drawn}
  (k:∀a o,(G a=some o\/a∈ι\/a∈Γ.tabs.map (·.2)\/Jz env a\/K.old a=some o)->s.heap.get? a=some o->h'.get? a=some o)(hg:A5 K.gens g)(ht:0<t):Aa Γ K env G ι σ ⟨h',g,dr,t,s.os⟩:=by
 have F1:Aa Γ K env G ι σ ⟨h',s.gens,dr,t,s.os⟩:=F.ext (ht:=ht) k
 exact⟨F1.store,F1.ns,F1.loc,F1.away,F1.cell,F1.freeIn,F1.far,F1.os,hg,F1.tk⟩
theorem O5 {X:Addr->Prop}(hX:Bw Γ K env G ι X){a:Addr}{o:Obj}(h:G a=some o\/a∈ι\/a∈Γ.tabs.map (·.2)\/Jz env a\/K.old a=some o):¬X a:=λx=>by
 refine Hi (hX a x) λy1 y2 y3 y4 y5=>?_
 rcases h with h|h|h|h|h
 ·rw[y1]at h;cases h
 ·exact y2 h
 ·exact y3 h
 ·exact y4 h
 ·rw[y5]at h;cases h
theorem Aa.putPriv (ok:Γ.Ok)(F:Aa Γ K env G ι σ s){a:Addr}{o:Obj}(hp:Bw Γ K env G ι (λb=>b=a))(ho:s.heap.get? a=some o):G.le (G.put a o)/\Aa Γ K env (G.put a o) ι σ s:=by
 refine Hi (hp a rfl) λy1 y2 y3 y4 y5=>?_
 have le:=Gh.put_le (o:=o) y1
 refine⟨le,F.freeze ok le (λb p e=>?_) (λb hb=>?_) λx c hk hl z hz hr=>?_⟩
 ·unfold Gh.put at e
  split at e
  ·rename_i h;subst h;cases e;exact ho
  ·exact F.store.gin _ _ e
 ·have ne:b≠a:=by
   rintro rfl
   rcases hb with h|h|h|h
   ·exact y2 h
   ·exact y3 h
   ·exact y4 (.inl h)
   ·exact h y5
  rw[Gh.put_ne ne]
  rcases hb with h|h|h|h
  ·exact F.store.fresh b h
  ·refine Ac (mem_map.mp h) λp hp Z=>?_
   subst Z;exact(F.store.tabs p hp).1
  ·rw[h];exact F.loc
  ·cases e:K.old b with
   |none=>exact absurd e h
   |some o=>exact(F.far b o e).2.1
 ·have q:=(F.cell x c hk hl).2.2.2 z hz hr
  have ne:c≠a:=λe=>y4 (.inr ⟨x,hk,by rw[<-e];exact hl⟩)
  exact⟨by rw[Gh.put_ne ne];exact q.1,q.2⟩
theorem A5.set {g0 g1:Array GenState}(h:A5 g0 g1){g:Nat}{x:GenState}(hg:g0.size<=g)(hb:x.bare=true):A5 g0 (g1.setIfInBounds g x):=by
 refine⟨by simpa using h.1,λi hi=>?_,λi y hi e=>?_⟩
 ·rw[Array.getElem?_setIfInBounds_ne (by exact ne_of_gt (Ah (add_le_add hi hg)))];exact h.2.1 i hi
 ·by_cases q:g=i
  ·subst q
   rw[Array.getElem?_setIfInBounds]at e
   simp only[if_true]at e
   split at e
   ·cases e;exact hb
   ·cases e
  ·rw[Array.getElem?_setIfInBounds_ne q]at e;exact h.2.2 i y hi e
theorem A5.push {g0 g1:Array GenState}(h:A5 g0 g1){x:GenState}(hb:x.bare=true):A5 g0 (g1.push x):=by
 refine⟨by have:=h.1;simp;exact Ah this,λi hi=>?_,λi y hi e=>?_⟩
 ·rw[Array.getElem?_push,if_neg (by have:=h.1;exact ne_of_lt (Ah (add_le_add hi this)))];exact h.2.1 i hi
 ·rw[Array.getElem?_push]at e
  split at e
  ·cases e;exact hb
  ·exact h.2.2 i y hi e
noncomputable def dM (Γ:W) (A:Around) (ga:Addr) (g:Nat) (all:List (Int×List Nat)):Gh->List Addr->List D->(Addr->Prop)->Shared->Prop:=λ_ _ r X s=>
 ∃rest pr,all=pr++rest/\r=rest.map Gr/\s.heap.IsGen ga g/\X ga/\(∀a,X a->∃o,s.heap.get? a=some o)/\∃gs,s.gens[g]? =some gs/\
  ∀s'':Shared,0<s''.toks->(∀b o,X b->s.heap.get? b=some o->s''.heap.get? b=some o)->(∀b o,Γ.B.get? b=some o->s''.heap.get? b=some o)->
   ∃X₁:Addr->Prop,(∀b,X b->b=ga\/X₁ b)/\¬X₁ ga/\(∀b,X₁ b->X b\/s''.heap.get? b=none)/\gs.Goes (model Γ.prog Γ.w) A.in1 (rP X₁) (yP X₁ all) rest.length (.send .none) s''
theorem H2 {h h':Heap}{a:Addr}{g:Nat}(x:h.IsGen a g)(k:∀o,h.get? a=some o->h'.get? a=some o):h'.IsGen a g:=by refine B9 x λo nm qn ho r=>?_;try clear x;exact⟨o,nm,qn,k _ ho,r⟩
theorem U3 (ok:Γ.Ok)(hh:A.handled=none)(hroom:A.depth<recursionLimit){ga:Addr}{g n₀ gz:Nat}{all:List (Int×List Nat)}(hgz:gz<=g):I9 Γ A env n₀ gz (.ref ga) (λ_=>True) (dM Γ A ga g all) where
 inn:=λh0_ a xa=>by refine Hh h0_ λ_ _ _ _ _ _ hl _=>?_;try clear h0_;refine Af (hl a xa) λo ho=>?_;rw[ho];exact Option.some_ne_none _
 keep:=λ{G G' ι ι' r X s s'} zp_ k gx _ _=>by
  refine Hh zp_ λrest pr e1 e2 hg xg hl Z=>?_
  try clear zp_
  refine Ac Z λgs hgs hgo=>?_
  clear Z
  refine⟨rest,pr,e1,e2,H2 hg λo=>k _ _ xg,xg,λa xa=>(by refine Af (hl a xa) λo ho=>?_;exact⟨o,k _ _ xa ho⟩),gs,?_,λs'' ht k' kB=>hgo s'' ht (λb o xb e=>k' b o xb (k b o xb e)) kB⟩
  have hlt:g<s.gens.size:=by
   rcases Nat.lt_or_ge g s.gens.size with h|h
   ·exact h
   ·rw[Array.getElem?_eq_none h]at hgs;cases hgs
  rw[gx.2.1 g hlt];exact hgs
 item:=λ{K G ι σ s x r X} F hX hK _ zp_=>by
  refine Hh zp_ λrest pr e1 e2 hg xg hl Y=>?_
  try clear zp_
  refine Ac Y λgs hgs hgo=>?_
  clear Y
  cases rest with
  |nil=>cases e2
  |cons q rest=>
   rw[map_cons]at e2
   injection e2 with e3 e4
   subst e3 e4
   have hB:∀b o,Γ.B.get? b=some o->s.heap.get? b=some o:=λb o e=>F.store.gin _ _ (F.store.base _ _ e)
   refine Ck (hgo (s.setGen g .running) F.tk (λ_ _ _ e=>e) hB) λX₁ x1 x2 x3 hgo=>?_
   refine Nj (P:=λn s₀ s₁=>n=0/\Fl X₁ s₀ s₁) hh (ok.nolimit.keeps hB) hroom hg hgs hgo (λv s₁ gs' hb hv=>?_) (λs₁ hp h' hk=>absurd hp.1 (by simp))
   refine B7 hv λV U hlive hcont=>?_
   try clear hv
   refine Aj V λh' tk z5 htk hk=>?_
   clear V
   subst z5
   refine Cs U λtup q' u z z6 htup hfr hnX z0=>?_
   clear U
   subst z6
   refine A2 z0 λpr' rest' hall hlen=>?_
   clear z0
   replace hk:∀b o,¬X₁ b->s.heap.get? b=some o->h'.get? b=some o:=hk
   replace hfr:s.heap.get? tup=none:=hfr
   replace htup:h'.get? tup=_:=htup
   have hp1:Bw Γ K env G ι X₁:=S1 F hX x3
   have hpt:Bw Γ K env G ι (λb=>b=tup):=Ii F λa e=>by rw[e];exact hfr
   have same:q'=q/\rest'=rest:=by
    have hl':rest'.length=rest.length:=by simpa using hlen
    have:=List.append_inj' (e1.symm.trans hall) (by simp[hl'])
    have h2:=this.2
    injection h2 with h3 h4
    exact⟨h3.symm,h4.symm⟩
   refine Ae same λz7 z8=>?_
   try clear same
   subst z7
   subst z8
   have hnga:tup≠ga:=λe=>by refine Af (hl ga xg) λo ho=>?_;rw[<-e,hfr]at ho;cases ho
   have F1:Aa Γ K env G ι σ ⟨h',(s.gens.setIfInBounds g .running).setIfInBounds g gs',s.drawn,tk,s.os⟩:=F.ext2 (λa o hh e=>hk a o (O5 hp1 hh) e) ((F.gens.set (le_trans hK hgz) rfl).set (le_trans hK hgz) hb) htk
   refine Ae (F1.putPriv ok hpt htup) λle F2=>?_
   refine⟨.ref tup,G.put tup _,λb=>b=ga\/X₁ b,rfl,le,λa xa=>?_,F2,?_,rest',pr++[q'],by simp[e1],rfl,?_,.inl rfl,λa xa=>?_,gs',?_,λs'' ht k' kB=>⟨X₁,λb h=>h,x2,λb h=>.inl (.inr h),?_⟩⟩
   ·have hy:Bw Γ K env G ι (λb=>b=ga\/X₁ b):=λa h=>by
     rcases h with rfl|h
     ·exact hX _ xg
     ·exact hp1 a h
    refine Ae (hy a xa) λy1 y=>?_
    refine⟨?_,y⟩
    rw[Gh.put_ne λe=>?_]
    ·exact y1
    ·subst e
     rcases xa with h|h
     ·exact hnga h
     ·exact hnX h
   ·exact⟨tup,[_,_],rfl,⟨_,Gh.put_self _ _ _,rfl,_,rfl⟩,⟨_,_,rfl,⟨u,rfl⟩,_,_,rfl,⟨z,rfl⟩,rfl⟩⟩
   ·exact H2 hg λo e=>hk _ _ x2 e
   ·rcases xa with rfl|h
    ·refine Af (hl _ xg) λo ho=>?_;exact⟨o,hk _ _ x2 ho⟩
    ·exact hlive a h
   ·exact setGen_self (s:=s.setGen g .running) (gs:=.running) (setGen_self hgs)
   ·exact hcont s'' ht λb o hb e=>k' b o (.inr hb) e
 done:=λ{K G ι σ s X} F hX hK _ zp_=>by
  refine Hh zp_ λrest pr e1 e2 hg xg hl z1=>?_
  try clear zp_
  refine Ac z1 λgs hgs hgo=>?_
  clear z1
  cases rest with
  |cons q rest=>cases e2
  |nil=>
   have hB:∀b o,Γ.B.get? b=some o->s.heap.get? b=some o:=λb o e=>F.store.gin _ _ (F.store.base _ _ e)
   refine Ck (hgo (s.setGen g .running) F.tk (λ_ _ _ e=>e) hB) λX₁ x1 x2 x3 hgo=>?_
   refine Nj (P:=λn s₀ s₁=>n=0/\Fl X₁ s₀ s₁) hh (ok.nolimit.keeps hB) hroom hg hgs hgo (λv s₁ gs' hb hv=>?_) (λs₁ hp h' hk=>⟨rfl,?_⟩)
   ·refine B7 hv λz2 _ _ hcont=>?_
    try clear hv
    refine Aj z2 λh' tk z9 htk hk=>?_
    clear z2
    subst z9
    exact False.elim (hcont {s with heap:=h',toks:=tk} htk λ_ _ _ e=>e)
   ·refine Ae hp λ_ z3=>?_
    try clear hp
    refine Aj z3 λh₁ tk y0 htk hk₁=>?_
    clear z3
    subst y0
    have hp1:Bw Γ K env G ι X₁:=S1 F hX x3
    exact F.ext2 (λa o hh e=>hk a o (hk₁ a o (O5 hp1 hh) e)) ((F.gens.set (le_trans hK hgz) rfl).set (le_trans hK hgz) rfl) htk
 own:=λh0_ tgt v Q q=>by refine Dt h0_ λ_ _ _ _ z4 _=>?_;try clear h0_;refine Ds z4 λo nm qn ho hc hd hs=>?_;clear z4;exact Ex ho hc hd (by decide) tgt v q
 self:=λh0_ Q q=>by refine Dt h0_ λ_ _ _ _ hg _=>?_;try clear h0_;exact wpAny_pyIter_gen hg q
end
end
section
open Sem (wp)
structure Ja (Γ:W)(a:Addr)(fd:FuncData):Prop where
 fn:∃pp:Nat->Pos,
  Fn Γ a fd ["addr"] (Vi pp)
 gen:fd.scope.isGenerator=true
 gf:∀L,GF (callEnvC fd L a)
 kn:∀L,(callEnvC fd L a).kindOf (ofString "enumerate")=some .globalImplicit
 hn:Γ.mg (ofString "enumerate")=none
 hv:Γ.mb (ofString "enumerate")=some (.type "enumerate")
section
variable {α β γ δ:Type}{Γ:W}{K:Cw}{A:Around}{env:Env}{G G':Gh}{ι ι':List Addr}{σ:St}{s s':Shared}
theorem dN (H:Ev Γ A env){a:Addr}{fd:FuncData}(N:Ja Γ a fd){xs:List Nat}{v:Value}(hsz:xs.length+3<=sizeLine)(F:Aa Γ K env G ι σ s)(r:Bb G ι (.str xs) v):
  wpAny (model Γ.prog Γ.w) A (call (.ref a) [v]) (λv' s'=>∃ga X,v'=.ref ga/\Aa Γ K env G ι σ s'/\Bw Γ K env G ι X/\(∀A':Around,A'.handled=none->dM Γ A' ga s.gens.size (A9 0 false xs) G ι ((A9 0 false xs).map Gr) X s')/\s'.heap.IsGen ga s.gens.size) (λ_ _=>False) s:=by
 refine Af N.fn λpp N1=>?_
 refine Ac N1.obj λo ho hd=>?_
 refine Af r λt Z=>?_
 try clear r
 subst Z
 have hB:∀b o,Γ.B.get? b=some o->s.heap.get? b=some o:=λb o e=>F.store.gin _ _ (F.store.base _ _ e)
 have hr:A.depth<recursionLimit:=by have:=H.depth;exact Ah this
 refine wpAny_call (codeAny_call_generator hr (hB _ _ ho) hd N1.co N.gen N1.body (N1.code.keeps hB) ?_)
 rw[N1.clo]
 refine N1.bind _ rfl _ _ _ _ _ hB (wpAny_mono (A4 (E:=λ_ _=>False) (wpAny_newFunctionEnv_cells (Q:=λenv s'=>env=callEnvC fd s.heap.objs.size a/\InCallC s env.locals (bindL env.kindOf ((["addr"].map ofString).zip [Value.str ⟨xs.toArray⟩ t]) λ_=>none) env.cells (bindC env.kindOf ((["addr"].map ofString).zip [Value.str ⟨xs.toArray⟩ t]) λ_=>none) s') N1.kind (λx hx=>?_) λenv he s' x=>⟨he,x⟩)) (λenv₁ s₁ Y=>Ae Y λV hle=>Ae V λhe x=>?_) λ_ _ x=>x.elim)
 ·refine Ac (mem_map.mp (of_mem_zip (show(x.1,x.2)∈_ from hx)).1) λy hy e=>?_
  rcases N1.kinds y hy with h|⟨h,h'⟩
  ·exact .inl (e▸h)
  ·exact .inr ⟨e▸h,e▸h' _⟩
 subst he
 have keep:=x.toInCall.keep
 have hns:=x.toInCall.ns
 refine Gp x.toInCall.same λh tk U=>?_
 subst U
 have ht:0<tk:=lt_of_lt_of_le F.tk hle
 have hm:(bindL (callEnvC fd s.heap.objs.size a).kindOf ((["addr"].map ofString).zip [Value.str ⟨xs.toArray⟩ t]) λ_=>none) (ofString "addr")=some (.str ⟨xs.toArray⟩ t):=
  Jy (N.gf s.heap.objs.size).ka ["addr"] [.str ⟨xs.toArray⟩ t] _ N1.nodup rfl
 have hBL:Γ.B.get? s.heap.objs.size=none:=by
  cases e:Γ.B.get? s.heap.objs.size with
  |none=>rfl
  |some o=>exact absurd (Heap.lt_size (hB _ _ e)) (lt_irrefl _)
 refine⟨(H.ok.nolimit.keeps hB).keeps keep,?_⟩
 have hLg:s.heap.objs.size<h.objs.size:=hns.lt
 refine⟨h.objs.size,λb=>b=h.objs.size\/b=s.heap.objs.size,rfl,?_,?_,λA' hA'=>?_,⟨_,_,_,Heap.get?_push_size _ rfl,rfl,rfl,rfl⟩⟩
 ·exact F.ext2 (λb o _ e=>Heap.get?_push_of_some _ (keep b o e)) (F.gens.push rfl) (lt_succ_of_lt (lt_succ_of_lt ht))
 ·refine Ii F λb hb=>?_
  rcases hb with rfl|rfl
  ·exact Heap.get?_none_of_le (le_of_lt hLg)
  ·exact Heap.get?_none_of_le (le_refl _)
 ·refine⟨A9 0 false xs,[],rfl,rfl,⟨_,_,_,Heap.get?_push_size _ rfl,rfl,rfl,rfl⟩,.inl rfl,λb hb=>?_,_,Array.getElem?_push_size ..,λs'' ht'' k' kB=>?_⟩
  ·rcases hb with rfl|rfl
   ·exact⟨_,Heap.get?_push_size _ rfl⟩
   ·refine B9 hns λo es ep ho r=>?_
    try clear hns;exact⟨o,Heap.get?_push_of_some _ ho⟩
  ·have hns'':s''.heap.Ns s.heap.objs.size _:=B9 hns λo es ep ho r=>⟨o,es,ep,k' _ o (.inr rfl) (Heap.get?_push_of_some _ ho),r⟩
   have hga'':h.objs.size<s''.heap.objs.size:=Heap.lt_size (k' _ _ (.inl rfl) (Heap.get?_push_size _ rfl))
   refine⟨X3 s.heap.objs.size s''.heap.objs.size (s''.heap.objs.size+1),λb hb=>hb.imp id .inl,λhx=>?_,λb hb=>?_,rfl,?_⟩
   ·rcases hx with h|h|h
    ·exact ne_of_gt hLg h
    ·exact ne_of_lt hga'' h
    ·exact ne_of_lt (lt_succ_of_lt hga'') h
   ·rcases hb with rfl|rfl|rfl
    ·exact .inl (.inr rfl)
    ·exact .inr (Heap.get?_none_of_le (le_refl _))
    ·exact .inr (Heap.get?_none_of_le (le_succ _))
   ·exact Yd (A:=A'.in1) H.ok (N.gf s.heap.objs.size) (N.kn _) N1.glob N1.bui N.hn N.hv hA' hsz kB hBL ht'' hns'' hm
theorem gD (H:Ev Γ A env){f:String}{a:Addr}{fd:FuncData}{e:Expr}{p pos:Pos}{T:St->(List D->St->Prop)->Prop}(N:Ja Γ a fd)(hk:env.kindOf (ofString f)=some .globalImplicit)(hv:Γ.mg (ofString f)=some (.ref a))
  (hd:(ofString f==("__debug__":Str))=false)(h:Ky Γ A env pos [e] T)(hs:starEach [e] env=(false,eval e env)::starEach [] env){Q:Value->Shared->Prop}{R:List Nat->St->Prop}(F:Aa Γ K env G ι σ s)
  (q:T σ λds σ=>∃xs,ds=[.str xs]/\xs.length+3<=sizeLine/\R xs σ)
  (k:∀xs G' ι' σ' s' ga X g,G.le G'->A1 ι ι'->R xs σ'->Aa Γ K env G' ι' σ' s'->Bw Γ K env G' ι' X->(∀A':Around,A'.handled=none->dM Γ A' ga g (A9 0 false xs) G' ι' ((A9 0 false xs).map Gr) X s')->K.gens.size<=g->s'.heap.IsGen ga g->Q (.ref ga) s'):
  wpAny (model Γ.prog Γ.w) A (eval (.Call (.Name (ofString f) p) [e] [] pos) env) Q (λ_ _=>False) s:=by
 refine Af N.fn λpp N1=>?_
 refine Ac N1.obj λo ho hdo=>?_
 refine wpAny_Call_NameR (wpAny_mono (Ni H hk hv hd K G ι σ s (λd σ'=>d=.raw (.ref a)/\T σ' λds σ=>∃xs,ds=[.str xs]/\xs.length+3<=sizeLine/\R xs σ) F ⟨rfl,q⟩) (λv s0 Z=>Eh Z λG0 ι0 d0 σ0 l0 p0 r0 F0 e0 q0=>?_) λ_ _ x=>x)
 subst e0;cases r0
 refine Calls.callWith_function (o:=o) (fd:=fd) (Ho hs (A8 h F0 q0 λG1 ι1 ds vs σ1 s1 l1 p1 r1 F1 q1=>⟨⟨F1.store.gin _ _ (F1.store.base _ _ ho),hdo⟩,?_⟩))
 refine Ay q1 λxs Y hsz V=>?_
 try clear q1
 revert V
 intro q1
 subst Y
 refine Aj r1 λv w U rv e=>?_
 try clear r1
 subst U
 obtain rfl:=Bs e
 exact wpAny_mono (dN H N hsz F1 rv) (λv' s' z0=>Lu z0 λga X e F' hX hP hG=>by
  subst e
  exact k xs G1 ι1 σ1 s' ga X _ (l0.trans l1) (p0.trans p1) q1 F' hX hP F1.gens.1 hG) λ_ _ x=>x
theorem Uf (H:Ev Γ A env){f:String}{a:Addr}{fd:FuncData}{e tgt:Expr}{b:List Stmt}{p pos fpos:Pos}{T:St->(List D->St->Prop)->Prop}{Ta:D->St->(St->Prop)->Prop}{Tb:TS}(N:Ja Γ a fd)(hk:env.kindOf (ofString f)=some .globalImplicit)(hv:Γ.mg (ofString f)=some (.ref a))
  (hd:(ofString f==("__debug__":Str))=false)(h:Ky Γ A env pos [e] T)(hs:starEach [e] env=(false,eval e env)::starEach [] env)(ha:Sf Γ A env tgt Ta)(hb:Py Γ A env b Tb)(hs2:∀x,foldedSetIterable (.Call (.Name (ofString f) p) [e] [] pos) env x=pure x):
  Oc Γ A env (.For tgt (.Call (.Name (ofString f) p) [e] [] pos) b [] fpos) (λσ Q=>T σ λds σ1=>∃xs,ds=[.str xs]/\xs.length+3<=sizeLine/\Do (λ_=>True) (λx σ Q=>Ta x σ λσ1=>Tb σ1 Q) σ1.own.length ((A9 0 false xs).map Gr) σ1 Q):=λK G ι σ s Q F q=>
 wpAny_For (gD H N hk hv hd h hs F q λxs G1 ι1 σ1 s1 ga X g l1 p1 q1 F1 hX hP hK hG=>by
  refine wpAny_pyIter_gen hG (codeAny_mono (Pe H (U3 H.ok H.handled (by have:=H.depth;exact Ah this) (le_refl g)) ha hb F1 hX hK (hP A H.handled) (le_refl _) (by rw[F1.store.len];exact q1)) λr s' h=>?_)
  cases r with
  |ok f=>exact h.up l1 p1
  |error e=>exact h.elim) hs2
end
end
section
open Sem (wp)
section
variable {α β γ δ:Type}{Γ:W}{K:Cw}{A:Around}{env:Env}{G G':Gh}{ι ι':List Addr}{σ:St}{s s':Shared}
theorem X7 {α:Type}{l:List α}{k:Nat}{x:α}(h:l[k]? =some x):l.set k x=l:=by
 apply List.ext_getElem?
 intro i
 by_cases e:k=i
 ·subst e
  have:=(List.getElem?_eq_some_iff.mp h).1
  rw[List.getElem?_set_self this,h]
 ·rw[List.getElem?_set_ne e]
theorem U7 {n₀ gz:Nat}{it res:Value}{P:Gh->List Addr->List D->(Addr->Prop)->Shared->Prop}(I:I9 Γ A.in1 env n₀ gz it (λ_=>True) P){k:Nat}{S:Addr}(hn:ι.length<=n₀)(hk:ι[k]? =some S)(hK:K.gens.size<=gz):
  ∀(r acc:List D) {G:Gh} {σ:St} {s:Shared} {X:Addr->Prop},Aa Γ K env G ι σ s->Bw Γ K env G ι X->P G ι r X s->σ.own[k]? =some acc->acc.length+r.length<=sizeLine->
   codeAny (model Γ.prog Γ.w) A (.builtin "list.extend.loop" ⟨[.ref S,it,res],[]⟩) (λrr s'=>rr=.ok (.ret res)/\∃G',G.le G'/\Aa Γ K env G' ι {σ with own:=σ.own.set k (acc++r)} s') s
 |[],acc,G,σ,s,X,F,hX,hP,ha,hz=>by
  refine codeAny_builtin PySem.F.entry_extend_loop ?_
  rw[Around.under_plainId PySem.F.plain_extend_loop _]
  show wpAny _ A.in1 (pyNext it>>=_) _ _ s
  refine wpAny_bind (wpAny_mono (I.done F hX hK trivial hP) (λres' s' V=>Ae V λe F'=>?_) λ_ _ x=>x.elim)
  subst e
  exact wpAny_pure ⟨rfl,G,Gh.le.refl _,by rw[append_nil,X7 ha];exact F'⟩
 |x::r,acc,G,σ,s,X,F,hX,hP,ha,hz=>by
  refine codeAny_builtin PySem.F.entry_extend_loop ?_
  rw[Around.under_plainId PySem.F.plain_extend_loop _]
  show wpAny _ A.in1 (pyNext it>>=_) _ _ s
  refine wpAny_bind (wpAny_mono (I.item F hX hK trivial hP) (λres' s' U=>Hg U λv G2 X2 e l2 hX2 F2 rx P2=>?_) λ_ _ x=>x.elim)
  subst e
  refine Ac (F2.store.at_ k S acc hk ha) λvs Z rl=>?_
  refine Af Z λn ho=>?_
  clear Z
  have hlen:=rl.length
  rw[length_cons]at hz
  show wpAny _ A.in1 (updateSeq S (·.push v)>>=_) _ _ _
  refine wpAny_bind ?_
  refine wpAny_updateSeq ho rfl (wpAny_pure ⟨plainId_quiet PySem.F.plain_extend_loop _,?_⟩) (by rw[size_toArray,hlen];exact Ah hz) (by show(vs.toArray.push v).size<=sizeLine+1;rw[Array.size_push,size_toArray,hlen];exact Ah hz)
  have hp:(s'.heap.update S (Obj.mapSeq (·.push v))).PlainList S (vs.toArray.push v):=by
   unfold Heap.PlainList
   rw[Heap.get?_update_self _ ho (by simp[Obj.mapSeq,Obj.isFreed])]
   exact⟨_,rfl⟩
  rw[show vs.toArray.push v=(vs++[v]).toArray by simp]at hp
  have F3:=F2.setOwn hk (rl.snoc rx) hp (Heap.SameBut.update ..) s'.toks F2.tk
  have hS:∀b,X2 b->b≠S:=λb hb e=>(hX2 b hb).2.1 (e▸List.mem_of_getElem? hk)
  have hlt:k<σ.own.length:=(List.getElem?_eq_some_iff.mp ha).1
  refine codeAny_mono (U7 I hn hk hK r (acc++[x]) F3 hX2 (I.keep P2 (λb o hb e=>(Heap.get?_update_other _ _ (Ne.symm (hS b hb))).trans e) (A5.refl _) (Gh.le.refl _) λ_ _ h=>h) (by show(σ.own.set k (acc++[x]))[k]? =_;rw[List.getElem?_set_self hlt]) (by simp;exact Ah hz)) λrr s'' h=>?_
  refine Ae h λe Y=>?_
  try clear h
  refine Ac Y λG3 l3 F4=>?_
  clear Y
  refine⟨e,G3,l2.trans l3,?_⟩
  have:(σ.own.set k (acc++[x])).set k (acc++[x]++r)=σ.own.set k (acc++x::r):=by rw[List.set_set];simp
  rw[<-this];exact F4
theorem Rz (H:Ev Γ A env){ga:Addr}{g:Nat}{all:List (Int×List Nat)}{X:Addr->Prop}{Q:D->St->Prop}(F:Aa Γ K env G ι σ s)(hX:Bw Γ K env G ι X)(hP:∀A':Around,A'.handled=none->dM Γ A' ga g all G ι (all.map Gr) X s)(hK:K.gens.size<=g)(hG:s.heap.IsGen ga g)(hz:all.length<=sizeLine)
  (q:Q (.obj σ.own.length) {σ with own:=σ.own++[all.map Gr]}):wpAny (model Γ.prog Γ.w) A (call (.type "list") [.ref ga]) (As Γ K env VR G ι Q) (λ_ _=>False) s:=by
 have I:=λA' (hA:A'.handled=none) (hd:A'.depth=A.depth)=>U3 (Γ:=Γ) (A:=A') (env:=env) (ga:=ga) (g:=g) (n₀:=(ι++[s.heap.objs.size]).length) (gz:=K.gens.size) (all:=all) H.ok hA (by have:=H.depth;exact Ah (add_le_add (le_of_eq hd) this)) hK
 have hga:ga<s.heap.objs.size:=by refine B9 hG λo _ _ ho _=>?_;try clear hG;exact Heap.lt_size ho
 refine callType_codes (Q₁:=λobj s₁=>obj=.ref s.heap.objs.size/\s₁={s with heap:=s.heap.push {cls:=.type "list",data:=.seq #[]}}) PySem.F.called_list (PySem.F.typeCall_list_1 _) PySem.F.entry_list_init
  (code_list_new _ ⟨rfl,rfl⟩) λobj s₁ h₁=>?_
 refine Ae h₁ λY V=>?_
 try clear h₁
 subst Y
 subst V
 have hS:(s.heap.push {cls:=.type "list",data:=.seq #[]}).get? s.heap.objs.size=some {cls:=.type "list",data:=.seq #[]}:=Heap.get?_push_size _ rfl
 refine⟨⟨_,hS,rfl⟩,PySem.F.args_list_init_2 _ _,?_⟩
 have F1:=F.newOwn (ds:=[]) (vs:=[]) rfl 0 s.toks F.tk
 show wpAny _ A.in1.in1 (do let old<-Builtin.List.listItems (.ref s.heap.objs.size);Builtin.List.listUpdate (.ref s.heap.objs.size) (λ_=>#[]);letGo old.toList.reverse;Builtin.List.listExtendWith (.ref s.heap.objs.size) (.ref ga) .none) _ _ _
 refine wpAny_bind ?_
 unfold Builtin.List.listItems
 refine wpAny_bind (wpAny_seqItems hS rfl (wpAny_pure ?_))
 show wpAny _ A.in1.in1 (updateSeq s.heap.objs.size (λ_=>#[])>>=λ_=>letGo (#[]:Array Value).toList.reverse>>=λ_=>Builtin.List.listExtendWith (.ref s.heap.objs.size) (.ref ga) .none) _ _ _
 refine wpAny_bind (wpAny_updateSeq hS rfl ?_)
 have hS₂:=Heap.get?_update_self (Obj.mapSeq (λ_=>(#[]:Array Value))) hS rfl
 refine wpAny_bind (wpAny_letGo ?_)
 have hne:s.heap.objs.size≠ga:=ne_of_gt hga
 have oth:∀b o,b≠s.heap.objs.size->s.heap.get? b=some o->(((s.heap.push {cls:=.type "list",data:=.seq #[]}).update s.heap.objs.size (Obj.mapSeq (λ_=>(#[]:Array Value))))).get? b=some o:=
  λb o hb e=>(Heap.get?_update_other _ _ (Ne.symm hb)).trans (Heap.get?_push_of_some _ e)
 generalize hh:(s.heap.push {cls:=.type "list",data:=.seq #[]}).update s.heap.objs.size (Obj.mapSeq (λ_=>(#[]:Array Value)))=h₂ at hS₂ oth
 have hG₂:h₂.IsGen ga g:=H2 hG λo e=>oth _ o (Ne.symm hne) e
 have hT:∀h',h'.IsGen ga g->({s with heap:=h'}:Shared).TypeIs (.ref ga) "generator":=λh' x=>Heap.IsGen.typeIs (s:={s with heap:=h'}) x
 unfold Builtin.List.listExtendWith
 refine wpAny_bind (wpAny_typeOf (hT _ hG₂) ?_)
 have h1:Builtin.List.listSameRef (.ref s.heap.objs.size) (.ref ga)=false:=by simp[Builtin.List.listSameRef,hne]
 have h2:(Value.type "generator"==Value.type "list")=false:=by decide
 have h3:(Value.type "generator"==Value.type "tuple")=false:=by decide
 simp only[h1,h2,h3,Bool.or_false,Bool.false_eq_true,if_false]
 refine wpAny_bind (wpAny_pyIter_gen hG₂ ?_)
 refine wpAny_bind (wpAny_holding ?_)
 unfold Builtin.List.listLengthHint
 refine wpAny_bind (wpAny_specialOf (hT _ hG₂) PySem.F.gen_no_len ?_)
 show wpAny _ A.in1.in1 (specialOf (Value.ref ga) (ofString "__length_hint__")>>=_) _ _ _
 refine wpAny_bind (wpAny_specialOf (hT _ hG₂) PySem.F.gen_no_hint ?_)
 refine wpAny_pure ?_
 show wpAny _ A.in1.in1 (rule "list.extend.makes-room">>=λ_=>Builtin.List.listTouch (.ref s.heap.objs.size)>>=λ_=>
  again (.builtin "list.extend.loop" ⟨[.ref s.heap.objs.size,.ref ga,.none],[]⟩)) _ _ _
 refine wpAny_bind (wpAny_rule ?_)
 refine wpAny_bind ?_
 show wpAny _ A.in1.in1 (updateSeq s.heap.objs.size (·.push .none)>>=λ_=>updateSeq s.heap.objs.size (·.pop)) _ _ _
 have hS₂':h₂.get? s.heap.objs.size=some {cls:=.type "list",dict:=none,data:=.seq #[] 0,slots:=#[]}:=by rw[hS₂];rfl
 refine wpAny_bind (wpAny_updateSeq hS₂' rfl ?_)
 have hS₃:=Heap.get?_update_self (Obj.mapSeq (·.push Value.none)) hS₂' rfl
 refine wpAny_updateSeq (hz:=by seq_fits) hS₃ rfl ?_
 have hS₄:=Heap.get?_update_self (Obj.mapSeq (·.pop)) hS₃ rfl
 have oth₄:∀b o,b≠s.heap.objs.size->s.heap.get? b=some o->((h₂.update s.heap.objs.size (Obj.mapSeq (·.push Value.none))).update s.heap.objs.size (Obj.mapSeq (·.pop))).get? b=some o:=
  λb o hb e=>(Heap.get?_update_other _ _ (Ne.symm hb)).trans ((Heap.get?_update_other _ _ (Ne.symm hb)).trans (oth b o hb e))
 have sm:Heap.SameBut s.heap.objs.size (s.heap.push {cls:=.type "list",data:=.seq #[]}) ((h₂.update s.heap.objs.size (Obj.mapSeq (·.push Value.none))).update s.heap.objs.size (Obj.mapSeq (·.pop))):=by
  rw[<-hh]
  exact((Heap.SameBut.update ..).trans (Heap.SameBut.update ..)).trans (Heap.SameBut.update ..)
 have hk:(ι++[s.heap.objs.size])[σ.own.length]? =some s.heap.objs.size:=by
  rw[<-F.store.len,List.getElem?_append_right (le_refl _),sub_self];rfl
 have F2:=F1.setOwn (k:=σ.own.length) (ds':=[]) (vs':=[]) hk rfl (h':=(h₂.update s.heap.objs.size (Obj.mapSeq (·.push Value.none))).update s.heap.objs.size (Obj.mapSeq (·.pop))) ⟨_,hS₄⟩ sm s.toks F.tk
 have hX2:Bw Γ K env G (ι++[s.heap.objs.size]) X:=λa xa=>by
  refine A0 (hX a xa) λy1 y2 y3=>?_
  refine⟨y1,λhm=>?_,y3⟩
  rcases mem_append.mp hm with h|h
  ·exact y2 h
  ·rw[mem_singleton]at h
   obtain⟨o,ho⟩:∃o,s.heap.get? a=some o:=by refine Hh (hP A H.handled) λ_ _ _ _ _ _ hl _=>?_;exact hl a xa
   exact absurd (Heap.lt_size ho) (by rw[h];exact lt_irrefl _)
 have hP2:=(I A.in1.in1 H.handled rfl).keep (s':={s with heap:=(h₂.update s.heap.objs.size (Obj.mapSeq (·.push Value.none))).update s.heap.objs.size (Obj.mapSeq (·.pop))}) (hP A.in1.in1 H.handled) (λb o hb e=>oth₄ b o (λh=>(hX2 b hb).2.1 (by rw[h];simp)) e) (A5.refl _) (Gh.le.refl G) (ι':=ι++[s.heap.objs.size]) (λκ _ h=>h.trans (A1.append _ _))
 refine wpAny_pure ⟨plainId_quiet PySem.F.plain_extend_loop _,codeAny_mono (U7 (A:=A.in1) (I A.in1.in1 H.handled rfl) (le_refl _) hk (le_refl _) (all.map Gr) [] F2 hX2 hP2 (by show((σ.own++[[]]).set σ.own.length [])[σ.own.length]? =_;rw[B4];exact Ai _ _) (by simpa using hz)) λrr s' h=>?_⟩
 refine Ae h λU Z=>?_
 try clear h
 subst U
 refine Ac Z λG' l F'=>?_
 clear Z
 refine⟨rfl,G',_,.obj σ.own.length,_,l,A1.append ι _,⟨_,hk,rfl⟩,F',?_⟩
 show Q _ {σ with own:=((σ.own++[[]]).set σ.own.length []).set σ.own.length ([]++all.map Gr)}
 rw[B4,B4]
 exact q
end
end
section
open Sem (wp)
noncomputable def Bd (G:Gh) (cd:Value) (q:Str):Prop:=∃c o vs t,cd=.ref c/\G c=some o/\o.data=.fields vs/\vs[1]? =some (.str q t)
noncomputable def Mh (Γ:W) (A:Around) (G₀:Gh) (f:Value) (S:Mine.Cf):Prop:=
 ∀G ι own s ds vs Q,G₀.le G->Ch Γ G ι own s.heap->RelL G ι ds vs->0<s.toks->S ds own Q->
  codeAny (model Γ.prog Γ.w) A (.call f ⟨vs,[]⟩) (λr s'=>∃v d G' ι' own',r=.ok (.ret v)/\gI Γ G ι s G' ι' own' s'/\Bb G' ι' d v/\Q d own') s
theorem Mh.imp {Γ:W}{A:Around}{G₀:Gh}{f:Value}{S S':Mine.Cf}(h:Mh Γ A G₀ f S)(k:∀ds own Q,S' ds own Q->S ds own Q):Mh Γ A G₀ f S':=
 λG ι own s ds vs Q l st r ht q=>h G ι own s ds vs Q l st r ht (k _ _ _ q)
structure gJ (Γ:W)(G₀:Gh)(a:Addr)(fd:FuncData)(ps:List String)(fr:List (String×D)):Prop where
 obj:∃o,G₀ a=some o/\o.data=.func fd
 code:Bd G₀ fd.code fd.qualname
 glob:fd.globals=mainGlobals
 bui:fd.builtins=builtinsNs
 bind:∀vs:List Value,vs.length=ps.length->bindArgs fd ⟨vs,[]⟩=pure ((ps.map ofString).zip vs)
 kinds:∀p∈ps,fd.scope.names.lookup (ofString p)=some .local
 nodup:ps.Nodup
 nocell:∀x∈fd.scope.names,x.2≠ .cell
 free:∀x d,fr.lookup x=some d->fd.scope.names.lookup (ofString x)=some .free/\∃c o v,fd.closure.lookup (ofString x)=some c/\G₀ c=some o/\o.data=.cell (some v)/\Bb G₀ [] d v
 freeAll:∀x c,fd.closure.lookup x=some c->∃o,G₀ c=some o
 kind:fd.scope.kind=.function
 co:fd.scope.isCoroutine=false
 gen:fd.scope.isGenerator=false
noncomputable def Bt (fd:FuncData) (L a:Addr):Env:=newEnv fd.scope L fd.globals fd.closure (fd.qualname++".<locals>.") (some a) fd.code none fd.builtins
theorem Nf {x:String}{v:Value}:∀(ps:List String) (vs:List Value),ps.Nodup->(ps.zip vs).lookup x=some v->((ps.map ofString).zip vs).reverse.lookup (ofString x)=some v
 |[],_,_,e=>by simp at e
 |_::_,[],_,e=>by simp at e
 |p::ps,w::vs,nd,e=>by
  refine Ae (nodup_cons.mp nd) λn1 n2=>?_
  rw[map_cons,zip_cons_cons,List.reverse_cons,List.lookup_append]
  rw[zip_cons_cons,lookup_cons]at e
  by_cases hx:x=p
  ·subst hx
   rw[beq_self_eq_true]at e;cases e
   have hno:((ps.map ofString).zip vs).reverse.lookup (ofString x)=none:=D7 λc hc=>by
    have:=of_mem_zip (mem_reverse.mp hc)
    exact Jq n1 this.1
   rw[hno];simp
  ·rw[show(x==p)=false by simp[hx]]at e
   rw[Nf ps vs n2 e];rfl
section
variable {α β γ δ:Type}{Γ:W}{K:Cw}{A:Around}{env:Env}{G G₀ G':Gh}{ι ι':List Addr}{σ:St}{s s':Shared}
theorem Gi {y:String}{v:Value}:∀(l:List String) (m:List Value),(l.zip m).lookup y=some v->y∈l
 |[],m,h=>by simp at h
 |p::l,[],h=>by simp at h
 |p::l,w::m,h=>by
  rw[zip_cons_cons,lookup_cons]at h
  by_cases hp:y=p
  ·exact hp▸mem_cons_self
  ·rw[show(y==p)=false by simp[hp]]at h
   exact mem_cons_of_mem _ (Gi l m h)
theorem aG (ok:Γ.Ok){a:Addr}{fd:FuncData}{ps:List String}{fr:List (String×D)}(N:gJ Γ G₀ a fd ps fr)(l:G₀.le G){own:List (List D)}{ds:List D}{vs:List Value}{h:Heap}{tk:Nat}(S:Ch Γ G ι own s.heap)(r:RelL G ι ds vs)(ht:0<tk)
  (hns:h.Ns s.heap.objs.size (λy=>((ps.map ofString).zip vs).reverse.lookup y))(keep:∀b o,s.heap.get? b=some o->h.get? b=some o):
  ∃K:Cw,K.os=s.os/\K.gens=s.gens/\(∀b o,s.heap.get? b=some o->G b=none->b∉ι->b∉Γ.tabs.map (·.2)->K.old b=some o)/\Aa Γ K (Bt fd s.heap.objs.size a) G ι ⟨ps.zip ds++fr,own,[]⟩ {s with heap:=h,toks:=tk}:=by
 classical
 refine⟨⟨s.os,s.gens,λb=>if G b=none/\b∉ι/\b∉Γ.tabs.map (·.2)then s.heap.get? b else none⟩,rfl,rfl,λb o e h1 h2 h3=>by dsimp only;rw[if_pos ⟨h1,h2,h3⟩];exact e,?_⟩
 have nc:∀y,(Bt fd s.heap.objs.size a).kindOf y≠some .cell:=λy e=>N.nocell (y,.cell) (mem_of_lookup (show fd.scope.names.lookup y=some NameKind.cell from e)) rfl
 have isL:∀b,Jz (Bt fd s.heap.objs.size a) b->b=s.heap.objs.size:=λb hb=>by
  rcases hb with rfl|⟨y,hk,hl⟩
  ·rfl
  ·exact absurd hk (nc y)
 have ltG:∀b o,G b=some o->b<s.heap.objs.size:=λb o e=>Heap.lt_size (S.gin _ _ e)
 have GL:G s.heap.objs.size=none:=by
  cases e:G s.heap.objs.size with
  |none=>rfl
  |some o=>exact absurd (ltG _ o e) (lt_irrefl _)
 have ltT:∀b∈Γ.tabs.map (·.2),b<s.heap.objs.size:=λb hb=>by
  refine Ac (mem_map.mp hb) λp hp U=>?_
  subst U
  refine A0 (S.tabs p hp) λ_ _ Z=>?_
  refine Ac Z λps Y _=>?_
  clear Z
  refine Ae Y λ_ t=>?_
  clear Y
  exact Heap.lt_size t
 refine⟨S.ext λb o _ e=>keep b o e,⟨_,hns,λy d e=>?_⟩,GL,λb hb=>⟨λhm=>?_,λhm=>?_⟩,λy c hk hl=>absurd hk (nc y),λy c hk hl=>?_,λb o e=>?_,rfl,A5.refl _,ht⟩
 ·have e':(ps.zip ds++fr).lookup y=some d:=e
  rw[List.lookup_append]at e'
  cases e1:(ps.zip ds).lookup y with
  |some d'=>
   rw[e1]at e';cases e'
   refine Ac (r.zip e1) λv hv rv=>?_
   exact .inl ⟨N.kinds y (Gi _ _ hv),v,Nf ps vs N.nodup hv,rv⟩
  |none=>
   rw[e1]at e'
   refine Ae (N.free y d e') λhk V=>?_
   refine Ds V λc o v hc ho hd rv=>?_
   clear V
   exact .inr (.inr ⟨hk,c,o,v,hc,.inl (l _ _ ho),hd,rv.mono l λk a e=>(nomatch e)⟩)
 ·rw[isL b hb]at hm;exact lt_irrefl _ (S.lt _ hm)
 ·rw[isL b hb]at hm;exact lt_irrefl _ (ltT _ hm)
 ·refine Af (N.freeAll y c hl) λo e=>?_
  exact⟨o,.inl (l _ _ e)⟩
 ·dsimp only at e
  split at e
  ·rename_i hh
   exact⟨keep b o e,hh.1,hh.2.1,hh.2.2,ne_of_lt (Heap.lt_size e)⟩
  ·cases e
theorem U6 (ok:Γ.Ok){a:Addr}{fd:FuncData}{ps:List String}{fr:List (String×D)}(N:gJ Γ G₀ a fd ps fr)(l:G₀.le G){own:List (List D)}{ds:List D}{vs:List Value}{R:Env->Shared->Prop}(S:Ch Γ G ι own s.heap)(r:RelL G ι ds vs)(htk:0<s.toks)(hl:ds.length=ps.length)
  (k:∀K s₁,K.os=s.os->K.gens=s.gens->(∀b o,s.heap.get? b=some o->G b=none->b∉ι->b∉Γ.tabs.map (·.2)->K.old b=some o)->Aa Γ K (Bt fd s.heap.objs.size a) G ι ⟨ps.zip ds++fr,own,[]⟩ s₁->s₁.heap.NoLimit->R (Bt fd s.heap.objs.size a) s₁):
  wpAny (model Γ.prog Γ.w) A.in1 (bindArgs fd ⟨vs,[]⟩) (λbinds s₁=>wpAny (model Γ.prog Γ.w) A.in1 (newFunctionEnv fd.scope fd.globals fd.closure binds (fd.qualname++".<locals>.") (some a) fd.code none fd.builtins) R (λ_ _=>False) s₁) (λ_ _=>False) s:=by
 have hB:∀b o,Γ.B.get? b=some o->s.heap.get? b=some o:=λb o e=>S.gin _ _ (S.base _ _ e)
 rw[N.bind vs (by rw[r.length,hl])]
 refine wpAny_pure (wpAny_newFunctionEnv N.nocell (λx hx=>?_) (λh' hns hsb=>?_) N.kind)
 ·refine Ac (mem_map.mp (of_mem_zip (show(x.1,x.2)∈_ from hx)).1) λy hy e=>?_
  rw[<-e];exact N.kinds y hy
 ·have keep:∀b o,s.heap.get? b=some o->h'.get? b=some o:=λb o e=>hsb.extBut b o (ne_of_lt (Heap.lt_size e)) (Heap.get?_push_of_some _ e)
  refine Ck (aG (tk:=s.toks+((ps.map ofString).zip vs).length) ok N l S r (lt_of_lt_of_le htk (le_add_right _ _)) hns keep) λK k1 k2 k3 F=>?_
  exact k K _ k1 k2 k3 F ((ok.nolimit.keeps hB).keeps keep)
theorem eY {K:Cw}{env:Env}{G':Gh}{ι':List Addr}{σ':St}(k1:K.os=s.os)(k2:K.gens=s.gens)(k3:∀b o,s.heap.get? b=some o->G b=none->b∉ι->b∉Γ.tabs.map (·.2)->K.old b=some o)
  (le:G.le G')(pr:A1 ι ι')(F':Aa Γ K env G' ι' σ' s'):gI Γ G ι s G' ι' σ'.own s':=
 ⟨le,pr,F'.store,λb o e h1 h2 h3=>(by refine B7 (F'.far b o (k3 b o e h1 h2 h3)) λf1 f2 f3 _=>?_;exact⟨f1,f2,f3⟩),F'.os.trans k1,k2▸F'.gens⟩
theorem mL (ok:Γ.Ok){a:Addr}{fd:FuncData}{ps:List String}{fr:List (String×D)}{body:Expr}{T:TT}(N:gJ Γ G₀ a fd ps fr)(hb:fd.body=.expr body)(hr:A.depth<recursionLimit)
  (hT:∀L,Bm Γ (A.deeper (Bt fd L a)) (Bt fd L a) body T):Mh Γ A G₀ (.ref a) (λds own Q=>ds.length=ps.length/\T ⟨ps.zip ds++fr,own,[]⟩ λd σ=>Q d σ.own):=λG ι own s ds vs Q l S r htk Z=>Ae Z λhl q=>by
 refine Ac N.obj λo ho hd=>?_
 refine Fp N.code λc oc ws t hc hoc hdc hq=>?_
 refine kla_callFunE hr (S.gin _ _ (l _ _ ho)) hd N.co N.gen hb ⟨c,oc,ws,t,hc,S.gin _ _ (l _ _ hoc),hdc,hq⟩ ?_
 refine wpAny_mono (U6 ok N l S r htk hl λK s₁ k1 k2 k3 F hnl=>And.intro hnl (kla_codeExpr (wpAny_mono (hT _ K G ι _ s₁ _ F q) (λv s' h=>?_) λ_ _ x=>x.elim))) (λ_ _ h=>wpAny_mono h (λ_ _ h=>h) λ_ _ x=>x.elim) λ_ _ x=>x.elim
 refine Cs h λG' ι' d σ' le pr rf F' hq=>?_
 try clear h
 exact⟨v,d,G',ι',_,rfl,eY k1 k2 k3 le pr F',rf,hq⟩
theorem qJ (ok:Γ.Ok){a:Addr}{fd:FuncData}{ps:List String}{fr:List (String×D)}{body:List Stmt}{T:TS}(N:gJ Γ G₀ a fd ps fr)(hb:fd.body=.stmts body)(hr:A.depth<recursionLimit)
  (hT:∀L,Py Γ (A.deeper (Bt fd L a)) (Bt fd L a) body T):Mh Γ A G₀ (.ref a) (λds own Q=>ds.length=ps.length/\T ⟨ps.zip ds++fr,own,[]⟩ λf σ=>match f with| .ret d=>Q d σ.own| .next=>Q .none σ.own|_=>False):=λG ι own s ds vs Q l S r htk Z=>Ae Z λhl q=>by
 refine Ac N.obj λo ho hd=>?_
 refine Fp N.code λc oc ws t hc hoc hdc hq=>?_
 refine codeAny_call_function hr (S.gin _ _ (l _ _ ho)) hd N.co N.gen hb ⟨c,oc,ws,t,hc,S.gin _ _ (l _ _ hoc),hdc,hq⟩ ?_
 refine wpAny_mono (U6 ok N l S r htk hl λK s₁ k1 k2 k3 F hnl=>And.intro hnl (codeAny_func (wpAny_mono (hT _ K G ι _ s₁ _ F q) (λf s' h=>?_) λ_ _ x=>x.elim))) (λ_ _ h=>wpAny_mono h (λ_ _ h=>h) λ_ _ x=>x.elim) λ_ _ x=>x.elim
 refine Cs h λG' ι' fd' σ' le pr rf F' hq=>?_
 try clear h
 have R:=eY k1 k2 k3 le pr F'
 cases fd' with
 |next=>cases rf;exact⟨_,.none,G',ι',_,rfl,R,rfl,hq⟩
 |brk=>exact hq.elim
 |cont=>exact hq.elim
 |ret d=>refine Ac rf λv Y rv=>?_;try clear rf;subst Y;exact⟨_,d,G',ι',_,rfl,R,rv,hq⟩
theorem H5 {f:Value}{S:Mine.Cf}{ds:List D}{vs:List Value}{Q:D->St->Prop}(h:Mh Γ A G₀ f S)(l:G₀.le G)(F:Aa Γ K env G ι σ s)(r:RelL G ι ds vs)(q:S ds σ.own λd own'=>Q d {σ with own:=own'}):
  wpAny (model Γ.prog Γ.w) A (call f vs) (As Γ K env VR G ι Q) (λ_ _=>False) s:=
 wpAny_mono (A4 (wpAny_call (E:=λ_ _=>False) (Q:=λv s'=>∃d G' ι' own',gI Γ G ι s G' ι' own' s'/\Bb G' ι' d v/\Q d {σ with own:=own'}) (codeAny_mono (h G ι σ.own s ds vs _ l F.store r F.tk q) λr s' Y=>aO Y λv d G' ι' own' e R rv hq=>by
  subst e;exact⟨d,G',ι',own',R,rv,hq⟩))) (λv s' h2_=>by refine Ae h2_ λZ hle=>?_;try clear h2_;refine Go Z λd G' ι' own' R rv hq=>?_;clear Z;exact(As.mk' (R:=VR) rv (F.after R (lt_of_lt_of_le F.tk hle)) hq).up R.le R.pr) λ_ _ x=>x
end
end
section
variable {α β γ δ:Type}{Γ:W}{K:Cw}{A:Around}{env:Env}{G G':Gh}{ι ι':List Addr}{σ:St}{s s':Shared}
theorem Zz {v:Value}{Q:Value->Shared->Prop}{E:Value->Shared->Prop}(h:wpAny (model Γ.prog Γ.w) A.in1 (pyIter v) Q E s):wpAny (model Γ.prog Γ.w) A (call (.builtin "iter") [v]) Q E s:=by
 refine call_function_entry (by decide +kernel) (by decide +kernel) kdk_entry_iter (kdk_args_iter _) ?_
 unfold Builtin.«iter»
 refine wpAny_bind (m:=someArgs "iter" 1 2 _) (wpAny_of_eq (a:=[v]) (by first|rfl|kernel_rfl!) ?_)
 show wpAny _ _ (pyIter v>>=_) _ _ _
 exact wpAny_bind (wpAny_mono h (λr s' q=>wpAny_pure ⟨_,rfl,q⟩) λ_ _ x=>x)
theorem kK {b:List Stmt}:Py Γ A env b (λ_ _=>False):=λK G ι σ s Q F q=>q.elim
theorem eI (H:Ev Γ A env){x g:String}{r:Addr}{p p1 p2:Pos}(hd:(ofString x==("__debug__":Str))=false)(hc:(ofString x==("__classdict__":Str))=false)(hk:env.kindOf (ofString g)=some .globalImplicit)(hv:Γ.mg (ofString g)=some (.ref r))
  (hd2:(ofString g==("__debug__":Str))=false)(hr:∃o,Γ.B.get? r=some o)(hm:behindInMarks .Is (.Name (ofString g) p2)=false):
  Xf Γ A env (.Compare (.Name (ofString x) p1) [.Is] [.Name (ofString g) p2] p) (λσ Q=>(∃k l,σ.get x=some (.obj k)/\σ.own[k]? =some l)/\tU false σ Q):=λK G ι σ s Q F V=>Ae V λU q=>A2 U λk l hx hl=>
 wpAny_isTrue_Compare1 (A8 (Cb H hd hc) F (Q:=λd σ'=>d=.obj k/\σ'.own[k]? =some l/\Q false σ') ⟨_,hx,rfl,hl,q⟩ λG1 ι1 a va σ1 s1 l1 p1 r1 F1 z0=>A0 z0 λea hl1 q1=>A8 (Ni H hk hv hd2) F1 (Q:=λd σ'=>d=.raw (.ref r)/\σ'.own[k]? =some l/\Q false σ') ⟨rfl,hl1,q1⟩ λG2 ι2 b vb σ2 s2 l2 p2 r2 F2 z1=>A0 z1 λeb hl2 q2=>by
  subst ea eb
  cases r2
  refine Ac (r1.mono l2 p2) λa ha z2=>?_
  subst z2
  refine Af hr λo ho=>?_
  try clear hr
  refine Af (F2.store.at_ k a l ha hl2) λvs Z=>?_
  refine Ae Z λY _=>?_
  clear Z
  refine Af Y λoo hoo=>?_
  clear Y
  have ho2:=F2.store.gin _ _ (F2.store.base _ _ ho)
  have hne:a≠r:=λe=>by
   have:=F2.store.fresh a (List.mem_of_getElem? ha)
   rw[e,F2.store.base _ _ ho]at this;cases this
  exact kto_is hoo ho2 hne (show(Value.type "list")≠Value.type "tuple" by decide) (wpAny_truthy_bool ((As.mk' (R:=BR) rfl F2 q2).up (l1.trans l2) (p1.trans p2)))) hm
theorem kJ (H:Ev Γ A env){x:String}{e tgt:Expr}{st:Stmt}{b r:List Stmt}{p p1 p2 pos apos fp:Pos}{c:Bool}{T:St->(List D->St->Prop)->Prop}{T2:TS}{Ta:D->St->(St->Prop)->Prop}{Tb T4:TS}
  (hk:env.kindOf (ofString "iter")=some .globalImplicit)(hn:Γ.mg (ofString "iter")=none)(hv:Γ.mb (ofString "iter")=some (.builtin "iter"))
  (h:Ky Γ A env pos [e] T)(hs:starEach [e] env=(false,eval e env)::starEach [] env)(hx:Kd env x c)(hsw:swapsWith (.Call (.Name (ofString "iter") p) [e] [] pos) (some (.Name (ofString x) p1)) apos.line env=pure false)
  (h2:Oc Γ A env st T2)(ha:Sf Γ A env tgt Ta)(hb:Py Γ A env b Tb)(h4:Py Γ A env r T4)(hd1:(ofString x==("__debug__":Str))=false)(hd2:(ofString x==("__classdict__":Str))=false)
  (hs2:∀y,foldedSetIterable (.Name (ofString x) p2) env y=pure y):
  Py Γ A env (.Assign [.Name (ofString x) p1] (.Call (.Name (ofString "iter") p) [e] [] pos) apos::st:: .For tgt (.Name (ofString x) p2) b [] fp::r)
   (λσ Q=>T σ λds σ1=>∃d,ds=[d]/\Fr d σ1 λitems C=>∀it,eQ c x (.raw it) σ1 λσ2=>T2 σ2 λf σ3=>match f with
    | .next=>σ3.get x=some (.raw it)/\σ3.own.length<=σ1.own.length/\Do C (λx σ Q=>Ta x σ λσ1=>Tb σ1 Q) σ1.own.length items σ3 (λf σ4=>match f with| .next=>T4 σ4 Q|f=>Q f σ4)
    |f=>Q f σ3):=λK G ι σ s Q F q=>by
 refine wpAny_execs_cons (wpAny_Assign_Name ?_ hsw)
 refine wpAny_Call_NameR (wpAny_mono (Hz H hk hn hv (by decide) K G ι σ s (λd σ'=>d=.raw (.builtin "iter")/\T σ' _) F ⟨rfl,q⟩) (λv s0 Z=>Eh Z λG0 ι0 d0 σ0 l0 p0 r0 F0 e0 q0=>?_) λ_ _ x=>x)
 subst e0;cases r0
 refine Calls.callWith_builtin (Jn hs rfl) (Ho hs (A8 h F0 q0 λG1 ι1 ds vs σ1 s1 l1 p1 r1 F1 q1=>?_))
 refine Ac q1 λd Y V=>?_
 try clear q1
 revert V
 intro q1
 subst Y
 refine Aj r1 λv w U rv e=>?_
 try clear r1
 subst U
 obtain rfl:=Bs e
 refine Zz (wpAny_mono (Kr (A':=A.in1) H F1 rv q1) (λit s2 z0=>N3 z0 λX C P items I _ _ _ _ F2 X2 P2 q2=>?_) λ_ _ x=>x)
 have I':=I env K.gens.size H
 have hin:=I'.inn P2
 refine Ae (q2 it) λhro q3=>?_
 refine Jh H (hx.sto hro) (F2.cover X2) (d:=.raw it) rfl λs3 F3=>?_
 refine wpAny_execs_cons (A8 h2 F3 q3 λG4 ι4 f v4 σ4 s4 l4 p4 r4 F4 q4=>?_)
 refine B7 (F2.uncover X2 hin F4 l4) λF5 X5 k5 g5=>?_
 have lall:G.le G4:=(l0.trans l1).trans l4
 have pall:A1 ι ι4:=(p0.trans p1).trans p4
 cases f with
 |brk=>subst r4;exact(As.mk' (R:=FR) (b:=.brk) rfl F5 q4).up lall pall
 |cont=>subst r4;exact(As.mk' (R:=FR) (b:=.cont) rfl F5 q4).up lall pall
 |ret d=>refine Ac r4 λv z1 rr=>?_;try clear r4;subst z1;exact(As.mk' (R:=FR) (b:=.ret d) ⟨v,rfl,rr⟩ F5 q4).up lall pall
 |next=>
  subst r4
  refine A0 q4 λhget hlen q5=>?_
  try clear q4
  have P4:=I'.keep P2 k5 g5 l4 λκ hk hp=>hp.trans p4
  refine wpAny_execs_cons (wpAny_mono (aF H I' (λ{Q'} hQ=>wpAny_Name (D5 H F5 hget hd2 λv rv=>by cases rv;exact hQ) hd1) ha hb hs2 F5 X5 (le_refl _) P4 (by rw[F5.store.len,F1.store.len];exact hlen) (by rw[F1.store.len];exact q5)) (λf s' h=>?_) λ_ _ x=>x)
  refine Cs h λG6 ι6 f' σ6 l6 p6 r6 F6 q6=>?_
  try clear h
  have lall:=lall.trans l6
  have pall:=pall.trans p6
  cases f' with
  |brk=>subst r6;exact(As.mk' (R:=FR) (b:=.brk) rfl F6 q6).up lall pall
  |cont=>subst r6;exact(As.mk' (R:=FR) (b:=.cont) rfl F6 q6).up lall pall
  |ret d=>refine Ac r6 λv z2 rr=>?_;try clear r6;subst z2;exact(As.mk' (R:=FR) (b:=.ret d) ⟨v,rfl,rr⟩ F6 q6).up lall pall
  |next=>subst r6;exact wpAny_mono (h4 _ _ _ _ _ _ F6 q6) (λ_ _ h=>h.up lall pall) λ_ _ x=>x
end
noncomputable def nT:DefRec:=Bk PySem.Challenge.pw_in0167_01 17
noncomputable def Rr (pm code doc dv:Value):FuncData:={docDef nT.name nT.params nT.body nT.scope pm code doc with defaults:=dv}
noncomputable def Zb (p:Int×List Nat):D:=.tup [.int p.1,.str p.2]
noncomputable def Gx:List Br->List (Int×List Nat)->Prop
 |_,[]=>True
 |bs,p::r=>p.2≠[]/\p.2.length<=100/\bs.length<=10000/\(∀b∈bs,b.ps.length<=10000)/\(p.2=cs "-"->∀b,bs.getLast?=some b->b.op=true->b.ps≠[])/\Gx (A3 bs p.2) r
noncomputable def oX (a24:Addr):Mine.Cf:=λds own Q=>∃(j k:Nat) (ps:List (Int×List Nat)),ds=[.raw (.ref a24),.obj j,.obj k]/\j<k/\own[j]? =some (ps.map Zb)/\own[k]? =some []/\Gx [] ps/\
 ∀own',E5 k own' k (ps.foldl (λbs p=>A3 bs p.2) [])->(∀i,i<k->own'[i]? =own[i]?)->own.length<=own'.length->Q (.obj k) own'
theorem dR {Γ:W}(ok:Γ.Ok){A:Around}{a a24 r:Addr}{pm code doc dv pm24 code24 doc24:Value}(N:Fn Γ a (Rr pm code doc dv) ["function","sequence","initial"] nT.body)(hA:Bi 2 A)
  (o24:∃o,Γ.B.get? a24=some o/\o.data=.func (docDef W4.name W4.params W4.body W4.scope pm24 code24 doc24))(f24:∀env,Ar Γ (A.deeper env) (.ref a24) qX)
  (g1:Γ.mg (ofString "_initial_missing")=some (.ref r))(g2:∃o,Γ.B.get? r=some o)
  (it1:Γ.mg (ofString "iter")=none)(it2:Γ.mb (ofString "iter")=some (.builtin "iter")):Ar Γ A (.ref a) (oX a24):=by
 refine'(Dr ok N rfl (by have:=hA.depth;exact Ah this) (λL=>?w)).imp ?p
 case w=>
  have H:=H3 ok N (hA.deeper (callEnvC (Rr pm code doc dv) L a)) L
  have F24:=f24 (callEnvC (Rr pm code doc dv) L a)
  refine' kJ H rfl it1 it2 ?_ rfl (by first|exact Kd.local (by rfl)|exact Kd.cell (by rfl) ⟨_,by rfl⟩) rfl (bO (eI H (by decide) (by decide) rfl g1 (by decide) g2 rfl) kK ?_) ?_ ?_ ?_ (by decide) (by decide) (λ_=>rfl)
  all_goals repeat' first
   |((with_reducible show _=_);first|assumption|rfl|decide)
   |((with_reducible show Ev _ _ _);assumption)
   |((with_reducible show Kd _ _ _);first|exact Kd.local (by rfl)|exact Kd.cell (by rfl) ⟨_,by rfl⟩)
   |((with_reducible show∀_,_=_);intro _;rfl)
   |((with_reducible show∀_ _,_=_);intro _ _;rfl)
   |((with_reducible show∀_ _,∃_,_);exact λ_ _=>⟨_,rfl⟩)
   |with_reducible exact Fu
   |with_reducible refine' Be ..
   |with_reducible refine' Co ..
   |with_reducible refine' bO ..
   |with_reducible refine' Ft ..
   |with_reducible exact Dc
   |with_reducible refine' B3 ..
   |with_reducible refine' Dq ..
   |with_reducible refine' Cb ..
  refine' Yx H (by decide) (by decide) o24 F24 ?_ rfl
  all_goals repeat' first
   |((with_reducible show _=_);first|assumption|rfl|decide)
   |((with_reducible show Ev _ _ _);assumption)
   |((with_reducible show Kd _ _ _);first|exact Kd.local (by rfl)|exact Kd.cell (by rfl) ⟨_,by rfl⟩)
   |((with_reducible show∀_,_=_);intro _;rfl)
   |((with_reducible show∀_ _,_=_);intro _ _;rfl)
   |((with_reducible show∀_ _,∃_,_);exact λ_ _=>⟨_,rfl⟩)
   |with_reducible exact Fu
   |with_reducible refine' Be ..
   |with_reducible refine' Co ..
   |with_reducible refine' bO ..
   |with_reducible refine' Ft ..
   |with_reducible exact Dc
   |with_reducible refine' B3 ..
   |with_reducible refine' Dq ..
   |with_reducible refine' Cb ..
 case p=>
  intro ds own Q Z
  refine Hg Z λj k ps U hjk hj hk hg q=>?_
  clear Z
  subst U
  refine⟨rfl,?_⟩
  have hkl:k<own.length:=(List.getElem?_eq_some_iff.mp hk).1
  refine Ab rfl ⟨_,rfl,Cl hj λit=>B0 ⟨⟨k,_,rfl,hk⟩,sF (Ap (Ab rfl (B0 ⟨rfl,le_refl _,?_⟩)))⟩⟩
  refine E0 (λitems σ=>∃bs rest own',items=rest.map Zb/\σ=⟨[("function",.raw (.ref a24)),("sequence",.obj j),("initial",.obj k),("it",.raw it),("value",.obj k)],own',[]⟩/\E5 k own' k bs/\Gx bs rest/\
   ps.foldl (λbs p=>A3 bs p.2) []=rest.foldl (λbs p=>A3 bs p.2) bs/\(∀i,i<k->own'[i]? =own[i]?)/\own.length<=own'.length) ?_ ?_ _ _ ⟨[],ps,own,rfl,rfl,⟨[],rfl,hk,λj i b e=>by simp at e,by simp[Kn],λx hx=>by simp[Kn]at hx;exact Ah (le_of_eq hx.symm)⟩,hg,rfl,λ_ _=>rfl,le_refl _⟩
  ·intro x rr σ next Y hn
   refine Vb Y λbs rest own' e z0 ht hgo hf hlo hle=>?_
   clear Y
   subst z0
   cases rest with
   |nil=>cases e
   |cons p rest=>
    rw[map_cons]at e
    injection e with e1 e2
    subst e1 e2
    refine aS hgo λh1 h2 h3 h4 h5 h6=>?_
    try clear hgo
    refine⟨by show own'[j]? =_;rw[hlo j hjk];exact hj,B0 (Ap ⟨rfl,Ab rfl (Ab rfl ⟨k,k,bs,p.2,p.1,rfl,ht,h1,h2,le_trans (le_of_lt hkl) hle,h3,h4,h5,λown2 ht2 hlo2 hle2=>?_⟩)⟩)⟩
    refine B0 ⟨_,H8 [("function",.raw (.ref a24)),("sequence",.obj j),("initial",.obj k),("it",.raw it),("value",.obj k)] [("element",Zb p)],hn _ ⟨_,rest,own2,rfl,rfl,ht2,h6,hf,λi hi=>(hlo2 i hi).trans (hlo i hi),le_trans hle hle2⟩⟩
  ·intro σ V
   refine Vb V λbs rest own' e z1 ht hgo hf hlo hle=>?_
   clear V
   subst z1
   have:rest=[]:=by simpa using e.symm
   subst this
   refine⟨by show own'[j]? =_;rw[hlo j hjk];exact hj,Ap (Ab rfl (q own' (by rw[hf];exact ht) hlo hle))⟩
noncomputable def W8:DefRec:=Bk PySem.Challenge.pw_in0167_01 12
theorem Kv (x:List Nat)(lo hi:Option Int):(E4 x lo hi).length<=x.length:=by
 unfold E4
 simp only[length_take,length_drop]
 exact Ah (add_le_add (min_le_right (kms_hi hi x.length-kms_lo lo x.length) (x.length-kms_lo lo x.length)) (sub_le (x.length) (kms_lo lo x.length)))
structure QS where
 start:Int
 op:Option Int
 res:List (List Nat)
noncomputable def iF:Option Int->D
 |none=>.none
 |some o=>.int o
noncomputable def B5 (xs:List Nat) (q:QS) (p:Int×List Nat):QS:=
 if p.2=cs "\"" then match q.op with
  |none=>{q with op:=some p.1}
  |some o=>⟨p.1+1,none,if(q.start != o)=true then q.res++[E4 xs (some q.start) (some o)]else q.res⟩
 else q
noncomputable def Mr (xs:List Nat) (q:QS):List Nat:=(if q.start<xs.length then q.res++[E4 xs (some q.start) none]else q.res).flatten
noncomputable def E7 (xs:List Nat):List Nat:=if By (cs "\"") xs=true then Mr xs ((A9 0 false xs).foldl (B5 xs) ⟨0,none,[]⟩)else xs
noncomputable def Wc (xs:List Nat) (k:Nat) (q:QS):List (String×D):=[("addr",.str xs),("start",.int q.start),("open_pos",iF q.op),("result",.obj k)]
theorem Lb (xs:List Nat):∀(l:List (Int×List Nat)) (q:QS),(l.foldl (B5 xs) q).res.length<=q.res.length+l.length:=by
 intro lq
 induction lq with
 |nil=>intro q;exact le_refl _
 |cons p l ih=>
  intro q
  have h1:=ih (B5 xs q p)
  have h2:(B5 xs q p).res.length<=q.res.length+1:=by
   unfold B5
   split
   ·split
    ·exact le_succ _
    ·simp only;split<;>simp
   ·exact le_succ _
  simp only[foldl_cons,length_cons]
  exact Ah (add_le_add h1 h2)
noncomputable def qZ:Mine.Cf:=λds own Q=>∃xs:List Nat,ds=[.str xs]/\xs.length<=2000/\∀own',own<+:own'->Q (.str (E7 xs)) own'
theorem Ra (xs:List Nat):∀(l:List (Int×List Nat)) (q:QS),(∀x∈q.res,x.length<=xs.length)->∀x∈(l.foldl (B5 xs) q).res,x.length<=xs.length:=by
 intro lq
 induction lq with
 |nil=>intro q h;exact h
 |cons p l ih=>
  intro q h
  refine ih (B5 xs q p) ?_
  unfold B5
  split
  ·split
   ·exact h
   ·simp only
    split
    ·intro x hx
     rcases mem_append.mp hx with hx|hx
     ·exact h x hx
     ·rw[mem_singleton.mp hx];exact Kv _ _ _
    ·exact h
  ·exact h
theorem Gq (xs:List Nat):∀(i:Nat) (b:Bool),(A9 i b xs).length<=xs.length+(if b=true then 1 else 0):=by
 induction xs with
 |nil=>intro i b;cases b<;>exact le_refl _
 |cons c r ih=>
  intro i b
  cases b with
  |true=>exact le_succ_of_le (succ_le_succ (ih (i+1) false))
  |false=>
   by_cases h:c=92
   ·subst h;exact ih (i+1) true
   ·rw[Tq h];exact succ_le_succ (ih (i+1) false)
theorem jE {Γ:W}(ok:Γ.Ok){A:Around}{a a11:Addr}{pm code doc:Value}{fd11:FuncData}(N:Fn Γ a (docDef W8.name W8.params W8.body W8.scope pm code doc) ["addr"] W8.body)(hA:Bi 2 A)
  (N11:Ja Γ a11 fd11)(g11:Γ.mg (ofString "_iter_escaped_chars")=some (.ref a11))
  (len1:Γ.mg (ofString "len")=none)(len2:Γ.mb (ofString "len")=some (.builtin "len")):Ar Γ A (.ref a) qZ:=by
 refine'(Dr ok N rfl (by have:=hA.depth;exact Ah this) (λL=>?w)).imp ?p
 case w=>
  have H:=H3 ok N (hA.deeper (callEnvC (docDef W8.name W8.params W8.body W8.scope pm code doc) L a)) L
  refine' Be ?_ (Be ?_ (Be ?_ (Be ?_ (Be (Uf H N11 rfl g11 (by decide) ?_ rfl ?_ ?_ (λ_=>rfl)) ?_))))
  all_goals repeat' first
   |((with_reducible show _=_);first|assumption|rfl|decide)
   |((with_reducible show Ev _ _ _);assumption)
   |((with_reducible show Kd _ _ _);first|exact Kd.local (by rfl)|exact Kd.cell (by rfl) ⟨_,by rfl⟩)
   |((with_reducible show∀_,_=_);intro _;rfl)
   |((with_reducible show∀_ _,_=_);intro _ _;rfl)
   |((with_reducible show∀_ _,∃_,_);exact λ_ _=>⟨_,rfl⟩)
   |with_reducible exact Fu
   |with_reducible refine' Be ..
   |with_reducible refine' Co ..
   |with_reducible refine' bO ..
   |with_reducible refine' Ft ..
   |with_reducible refine' K0 ..
   |with_reducible exact Ig
   |with_reducible exact Hx
   |with_reducible exact fA
   |with_reducible refine' Fe ..
   |with_reducible refine' Q5 ..
   |with_reducible refine' S0 ..
   |with_reducible refine' Kl ..
   |with_reducible refine' He ..
   |with_reducible exact Dc
   |with_reducible refine' B3 ..
   |with_reducible refine' Ov ..
   |with_reducible exact oI
   |with_reducible refine' Uv ..
   |with_reducible refine' Pr ..
   |with_reducible refine' Dq ..
   |with_reducible refine' I7 ..
   |with_reducible exact Sc
   |with_reducible refine' Mb ..
   |with_reducible refine' Cb ..
 case p=>
  intro ds own Q Z
  refine Ay Z λxs z0 hx q=>?_
  clear Z
  subst z0
  refine⟨rfl,?_⟩
  refine Ao (λσ=>By (cs "\"") xs=true/\σ=⟨[("addr",.str xs)],own,[]⟩) (λd σ=>Q d σ.own) ?_ ?_ (λd σ h=>h)
  ·intro R h1 h2
   refine(Ab rfl ?_)
   rw[gF]
   refine H6 (λhc=>?_) λhc=>h1 _ ⟨by simpa using hc,rfl⟩
   have e:E7 xs=xs:=if_neg (by simpa using hc)
   exact Ap (Ab rfl (h2 _ _ (by have:=q own (List.prefix_refl _);rw[e]at this;exact this)))
  intro σ Y
  refine Ae Y λhq z1=>?_
  clear Y
  subst z1
  refine Aq ((B0 (Aq ((B0 (Aq ⟨by decide,B0 ?_⟩))))))
  refine Ao (λσ=>σ=⟨Wc xs own.length ((A9 0 false xs).foldl (B5 xs) ⟨0,none,[]⟩),own++[((A9 0 false xs).foldl (B5 xs) ⟨0,none,[]⟩).res.map D.str],[]⟩) (λ_ _=>False) ?_ ?_ (λ_ _ h=>h.elim)
  ·intro R h1 h2
   refine Ab rfl ⟨xs,rfl,by unfold sizeLine;exact le_trans (Ah hx) b6,?_⟩
   refine E1 (λitems σ=>∃don rest,A9 0 false xs=don++rest/\items=rest.map Gr/\σ=⟨Wc xs own.length (don.foldl (B5 xs) ⟨0,none,[]⟩),own++[(don.foldl (B5 xs) ⟨0,none,[]⟩).res.map D.str],[]⟩) ?_ ?_ _ _ ⟨[],A9 0 false xs,rfl,rfl,rfl⟩
   ·intro x rr σ R' V hn _ _
    refine Aj V λdon rest e e2 z2=>?_
    clear V
    subst z2
    cases rest with
    |nil=>cases e2
    |cons p rest=>
     rw[map_cons]at e2
     injection e2 with e3 e4
     subst e3 e4
     have hl:=Lb xs don ⟨0,none,[]⟩
     have hl2:=Gq xs 0 false
     have hl3:=congrArg List.length e
     simp only[length_append,length_cons,length_nil,Bool.false_eq_true,if_false]at hl hl2 hl3
     have hne:∀(q':QS),q'=(don++[p]).foldl (B5 xs) ⟨0,none,[]⟩->R' .next ⟨Wc xs own.length q'++[("pos",.int p.1),("ch",.str p.2)],own++[q'.res.map D.str],[]⟩:=λq' hq'=>
      hn _ _ (H8 _ _) ⟨don++[p],rest,by simp[e],rfl,by rw[hq']⟩
     rw[foldl_append]at hne
     generalize don.foldl (B5 xs) ⟨0,none,[]⟩=qs at hl hne⊢
     refine⟨trivial,_,rfl,rfl,_,_,rfl,B0 ⟨_,_,rfl,B0 (Bf λR1 r1 _=>Ab rfl ((Qw (H6 (λhc=>?_) λhc=>?_))))⟩⟩
     ·have hc:=of_decide_eq_true hc
      refine Bf λR2 r2 _=>(Ab rfl (?_))
      cases ho:qs.op with
      |none=>
       refine gQ (c:=true) (.inl ⟨rfl,rfl⟩) (sT (Bf λR3 r3 _=>(Ab rfl (B0 (r3 _ (r2 _ (r1 _ ?_)))))))
       have:=hne {qs with op:=some p.1} (by simp[B5,hc,ho])
       exact this
      |some o=>
       refine pN (sF (Ao (λσ=>σ=⟨Wc xs own.length qs++[("pos",.int p.1),("ch",.str p.2)],own++[(if(qs.start != o)=true then qs.res++[E4 xs (some qs.start) (some o)]else qs.res).map D.str],[]⟩) (λ_ _=>False) ?_ ?_ λ_ _ h=>h.elim))
       ·intro R3 r3 _
        refine Ab rfl (Ab (show _=some (D.int o)by show some (iF qs.op)=_;rw[ho];rfl) (pL (H6 (λhs=>?_) λhs=>?_)))
        ·refine Bf λR4 r4 _=>Ab rfl (gR (Ai _ _) (Ab rfl (Ab rfl ⟨_,rfl,Ab (show _=some (D.int o)by show some (iF qs.op)=_;rw[ho];rfl) ⟨_,rfl,Qx (by exact le_trans hx (by decide)) (Mp (Ai _ _) (by rw[length_map];exact Ah (add_le_add (add_le_add (add_le_add hl (le_of_eq hl3.symm)) hl2) hx)) (r4 _ (r3 _ ?_)))⟩⟩)))
         rw[if_pos hs,map_append]
         show St.mk _ ((own++[qs.res.map D.str]).set own.length _) _=_
         rw[B4];rfl
        ·refine r3 _ ?_
         rw[if_neg (by rw[hs];decide)]
         rfl
       ·rintro σ rfl
        refine Ao (λσ=>σ=⟨Wc xs own.length {qs with start:=p.1+1}++[("pos",.int p.1),("ch",.str p.2)],own++[(if(qs.start != o)=true then qs.res++[E4 xs (some qs.start) (some o)]else qs.res).map D.str],[]⟩) (λ_ _=>False) ?_ ?_ λ_ _ h=>h.elim
        ·intro R3 r3 _
         exact Ab rfl ((Hd (B0 (r3 _ rfl))))
        ·rintro σ rfl
         refine Bf λR4 r4 _=>(B0 (r4 _ (r2 _ (r1 _ ?_))))
         have:=hne ⟨p.1+1,none,if(qs.start != o)=true then qs.res++[E4 xs (some qs.start) (some o)]else qs.res⟩ (by simp[B5,hc,ho])
         exact this
     ·have hc:=of_decide_eq_false hc
      have:=hne qs (by simp[B5,hc])
      exact r1 _ this
   ·intro σ U
    refine Aj U λdon rest e e2 z3=>?_
    clear U
    subst z3
    have:rest=[]:=by simpa using e2.symm
    subst this
    rw[append_nil]at e;subst e
    exact⟨trivial,h1 _ rfl⟩
  rintro σ rfl
  have hl:=Lb xs (A9 0 false xs) ⟨0,none,[]⟩
  have hl2:=Gq xs 0 false
  have hcs:=Ra xs (A9 0 false xs) ⟨0,none,[]⟩ (λ_ h=>nomatch h)
  have hqe:E7 xs=Mr xs ((A9 0 false xs).foldl (B5 xs) ⟨0,none,[]⟩):=if_pos hq
  simp only[length_nil,Bool.false_eq_true,if_false]at hl hl2
  generalize (A9 0 false xs).foldl (B5 xs) ⟨0,none,[]⟩=qs at hl hqe hcs⊢
  refine Ao (λσ=>σ=⟨Wc xs own.length qs,own++[(if qs.start<xs.length then qs.res++[E4 xs (some qs.start) none]else qs.res).map D.str],[]⟩) (λ_ _=>False) ?_ ?_ λ_ _ h=>h.elim
  ·intro R r _
   refine Ab rfl (Ab rfl ⟨_,rfl,eT (by exact le_trans hx (by decide)) (Mn (H6 (λhs=>?_) λhs=>?_))⟩)
   ·refine Bf λR4 r4 _=>Ab rfl (gR (Ai _ _) (Ab rfl (Ab rfl ⟨_,rfl,Qx (by exact le_trans hx (by decide)) (Mp (Ai _ _) (by rw[length_map];exact Ah (add_le_add (add_le_add hl hl2) hx)) (r4 _ (r _ ?_)))⟩)))
    rw[if_pos (of_decide_eq_true hs),map_append]
    show St.mk _ ((own++[qs.res.map D.str]).set own.length _) _=_
    rw[B4];rfl
   ·refine r _ ?_
    rw[if_neg (of_decide_eq_false hs)]
  ·rintro σ rfl
   rw[hqe]at q
   unfold Mr at q
   have hb:∀x∈(if qs.start<xs.length then qs.res++[E4 xs (some qs.start) none]else qs.res),x.length<=2000:=λx hx2=>by
    split at hx2
    ·rcases mem_append.mp hx2 with h|h
     ·exact le_trans (hcs x h) hx
     ·rw[mem_singleton.mp h];exact le_trans (Kv _ _ _) hx
    ·exact le_trans (hcs x hx2) hx
   have hn:(if qs.start<xs.length then qs.res++[E4 xs (some qs.start) none]else qs.res).length<=2010:=by
    split
    ·rw[length_append,length_singleton];exact Ah (add_le_add (add_le_add hl hl2) hx)
    ·exact Ah (add_le_add (add_le_add hl hl2) hx)
   generalize (if qs.start<xs.length then qs.res++[E4 xs (some qs.start) none]else qs.res)=res at q hb hn⊢
   refine Bf λR4 _ r4=>⟨⟨_,rfl⟩,Ab rfl ⟨cs "",_,res,rfl,rfl,Ai _ _,le_trans (K4 _ 2000 hb) (by unfold sizeLine;exact le_trans (Ah (mul_le_mul_left 2000 hn)) b6),r4 _ _ ?_⟩⟩
   rw[show Eg (cs "") res=res.flatten from Fi _]
   exact q _ (prefix_append _ _)
noncomputable def W7:DefRec:=Bk PySem.Challenge.pw_in0167_01 13
noncomputable def Cz:Int->List (Int×List Nat)->Bool
 |n,[]=>n==0
 |n,p::r=>if p.2=cs "(" then Cz (n+1) r else if p.2=cs ")" then(if n-1<0 then false else Cz (n-1) r)else Cz n r
theorem Ik (n:Int)(p:Int×List Nat)(r:List (Int×List Nat)):Cz n (p::r)=if p.2=cs "(" then Cz (n+1) r else if p.2=cs ")" then(if n-1<0 then false else Cz (n-1) r)else Cz n r:=rfl
noncomputable def Jx (xs:List Nat):Bool:=Cz 0 (A9 0 false (E7 xs))
theorem Sl (xs:List Nat)(hx:xs.length<=2000):(E7 xs).length<=2010*2000:=by
 unfold E7
 split
 ·have hl:=Lb xs (A9 0 false xs) ⟨0,none,[]⟩
  have hl2:=Gq xs 0 false
  have hcs:=Ra xs (A9 0 false xs) ⟨0,none,[]⟩ (λ_ h=>nomatch h)
  simp only[length_nil,Bool.false_eq_true,if_false]at hl hl2
  generalize (A9 0 false xs).foldl (B5 xs) ⟨0,none,[]⟩=qs at hl hcs⊢
  unfold Mr
  have hb:∀x∈(if qs.start<xs.length then qs.res++[E4 xs (some qs.start) none]else qs.res),x.length<=2000:=λx hx2=>by
   split at hx2
   ·rcases mem_append.mp hx2 with h|h
    ·exact le_trans (hcs x h) hx
    ·rw[mem_singleton.mp h];exact le_trans (Kv _ _ _) hx
   ·exact le_trans (hcs x hx2) hx
  have hn:(if qs.start<xs.length then qs.res++[E4 xs (some qs.start) none]else qs.res).length<=2010:=by
   split
   ·rw[length_append,length_singleton];exact Ah (add_le_add (add_le_add hl hl2) hx)
   ·exact Ah (add_le_add (add_le_add hl hl2) hx)
  generalize (if qs.start<xs.length then qs.res++[E4 xs (some qs.start) none]else qs.res)=res at hb hn⊢
  have h:=le_trans (K4 _ 2000 hb) (mul_le_mul_right 2000 hn)
  have h5:(cs "").length=0:=by decide
  rw[length_flatten]
  simpa only[h5,Nat.add_zero]using h
 ·exact le_trans hx (by decide)
noncomputable def oY:Mine.Cf:=λds own Q=>∃xs:List Nat,ds=[.str xs]/\xs.length<=2000/\∀own',own<+:own'->Q (.bool (Jx xs)) own'
theorem jG {Γ:W}(ok:Γ.Ok){A:Around}{a a11 a12:Addr}{pm code doc pm12 code12 doc12:Value}{fd11:FuncData}(N:Fn Γ a (docDef W7.name W7.params W7.body W7.scope pm code doc) ["addr"] W7.body)(hA:Bi 3 A)
  (N11:Ja Γ a11 fd11)(g11:Γ.mg (ofString "_iter_escaped_chars")=some (.ref a11))
  (g12:Γ.mg (ofString "_strip_quoted_realnames")=some (.ref a12))(o12:∃o,Γ.B.get? a12=some o/\o.data=.func (docDef W8.name W8.params W8.body W8.scope pm12 code12 doc12))(f12:∀env,Ar Γ (A.deeper env) (.ref a12) qZ):Ar Γ A (.ref a) oY:=by
 refine'(Dr ok N rfl (by have:=hA.depth;exact Ah this) (λL=>?w)).imp ?p
 case w=>
  have H:=H3 ok N (hA.deeper (callEnvC (docDef W7.name W7.params W7.body W7.scope pm code doc) L a)) L
  have F12:=f12 (callEnvC (docDef W7.name W7.params W7.body W7.scope pm code doc) L a)
  refine' Be ?_ (Be ?_ (Be (Uf H N11 rfl g11 (by decide) ?_ rfl ?_ ?_ (λ_=>rfl)) ?_))
  all_goals repeat' first
   |((with_reducible show _=_);first|assumption|rfl|decide)
   |((with_reducible show Ev _ _ _);assumption)
   |((with_reducible show Kd _ _ _);first|exact Kd.local (by rfl)|exact Kd.cell (by rfl) ⟨_,by rfl⟩)
   |((with_reducible show∀_,_=_);intro _;rfl)
   |((with_reducible show∀_ _,_=_);intro _ _;rfl)
   |((with_reducible show∀_ _,∃_,_);exact λ_ _=>⟨_,rfl⟩)
   |((with_reducible show Ar _ _ _ _);assumption)
   |((with_reducible show∃_,_/\_);assumption)
   |with_reducible exact Fu
   |with_reducible refine' Be ..
   |with_reducible refine' Co ..
   |with_reducible refine' H7 ..
   |with_reducible refine' bO ..
   |with_reducible refine' Ft ..
   |with_reducible exact Ig
   |with_reducible exact Hx
   |with_reducible exact Q9
   |with_reducible refine' Q8 _ _ (by assumption) ..
   |with_reducible refine' Q6 ..
   |with_reducible exact Dc
   |with_reducible refine' B3 ..
   |with_reducible refine' Pr ..
   |with_reducible refine' Dq ..
   |with_reducible refine' I7 ..
   |with_reducible exact Sc
   |with_reducible refine' Mb ..
   |with_reducible refine' Cb ..
 case p=>
  intro ds own Q Z
  refine Ay Z λxs z2 hx q=>?_
  clear Z
  subst z2
  refine⟨rfl,?_⟩
  have hz:=Sl xs hx
  have qq:∀b own',b=Jx xs->own<+:own'->Q (.bool b) own':=λb own' e h=>by rw[e];exact q own' h
  unfold Jx at qq
  generalize hys:E7 xs=ys at hz qq
  refine Ao (λσ=>∃own',own<+:own'/\σ=⟨[("addr",.str ys)],own',[]⟩) (λ_ _=>False) ?_ ?_ λ_ _ h=>h.elim
  ·intro R r _
   exact Ab rfl ⟨xs,rfl,hx,λown' h=>B0 (r _ ⟨own',h,by rw[hys];rfl⟩)⟩
  intro σ Y
  refine Ac Y λown' hp z3=>?_
  clear Y
  subst z3
  refine Ao (λσ=>σ=⟨[("addr",.str ys),("opens",.int 0)],own',[]⟩) (λ_ _=>False) (λR r _=>(B0 (r _ rfl))) ?_ λ_ _ h=>h.elim
  rintro σ rfl
  refine Ao (λσ=>∃n:Int,σ=⟨[("addr",.str ys),("opens",.int n)],own',[]⟩/\(n==0)=Cz 0 (A9 0 false ys)) (λd σ=>d=.bool (Cz 0 (A9 0 false ys))/\σ.own=own') ?_ ?_ ?_
  ·intro R r r'
   refine Ab rfl ⟨ys,rfl,by unfold sizeLine;exact le_trans (Ah hz) b6,?_⟩
   refine E1 (λitems σ=>∃(n:Int) (rest:List (Int×List Nat)),items=rest.map Gr/\σ=⟨[("addr",.str ys),("opens",.int n)],own',[]⟩/\Cz 0 (A9 0 false ys)=Cz n rest) ?_ ?_ _ _ ⟨0,_,rfl,rfl,rfl⟩
   ·intro x rr σ R' V hk hr _
    refine Aj V λn rest e z4 hn=>?_
    clear V
    subst z4
    cases rest with
    |nil=>cases e
    |cons p rest=>
     rw[map_cons]at e
     injection e with e1 e2
     subst e1 e2
     have go:∀m:Int,Cz n (p::rest)=Cz m rest->R' .next ⟨[("addr",.str ys),("opens",.int m),("pos",.int p.1),("ch",.str p.2)],own',[]⟩:=λm h=>
      hk _ _ (H8 [("addr",.str ys),("opens",.int m)] [("pos",.int p.1),("ch",.str p.2)]) ⟨m,rest,rfl,rfl,hn.trans h⟩
     refine⟨trivial,_,rfl,rfl,_,_,rfl,B0 ⟨_,_,rfl,B0 (Bf λR1 r1 r1'=>Ab rfl ((Qw (H6 (λhc=>?_) λhc=>?_))))⟩⟩
     ·have hc:=of_decide_eq_true hc
      exact Bf λR2 r2 _=>⟨_,rfl,.inl ⟨rfl,B0 (r2 _ (r1 _ (go (n+1) (by rw[Ik,if_pos hc]))))⟩⟩
     ·have hc:=of_decide_eq_false hc
      refine Bf λR2 r2 r2'=>Ab rfl ((Qw (H6 (λhd=>?_) λhd=>?_)))
      ·have hd:=of_decide_eq_true hd
       refine Ao (λσ=>σ=⟨[("addr",.str ys),("opens",.int (n-1)),("pos",.int p.1),("ch",.str p.2)],own',[]⟩) (λ_ _=>False) (λR3 r3 _=>⟨_,rfl,.inr ⟨rfl,B0 (r3 _ rfl)⟩⟩) ?_ λ_ _ h=>h.elim
       rintro σ rfl
       refine Bf λR3 r3 r3'=>Ab rfl ((Mn (H6 (λhs=>?_) λhs=>?_)))
       ·have hs:=of_decide_eq_true hs
        refine Bf λR4 _ r4'=>(r4' _ _ (r3' _ _ (r2' _ _ (r1' _ _ (hr _ _ (r' _ _ ⟨?_,rfl⟩))))))
        rw[hn,Ik,if_neg hc,if_pos hd,if_pos hs]
       ·have hs:=of_decide_eq_false hs
        exact r3 _ (r2 _ (r1 _ (go (n-1) (by rw[Ik,if_neg hc,if_pos hd,if_neg hs]))))
      ·have hd:=of_decide_eq_false hd
       exact r2 _ (r1 _ (go n (by rw[Ik,if_neg hc,if_neg hd])))
   ·intro σ U
    refine Aj U λn rest e z5 hn=>?_
    clear U
    subst z5
    have:rest=[]:=by simpa using e.symm
    subst this
    exact⟨trivial,r _ ⟨n,rfl,hn.symm⟩⟩
  ·intro σ z0
   refine Ac z0 λn z6 hn=>?_
   clear z0
   subst z6
   exact Bf λR _ r=>Ab rfl ((Mo (r _ _ (qq _ _ hn hp))))
  ·intro d σ z1
   refine Ae z1 λz7 e=>?_
   clear z1
   subst z7
   exact qq _ _ rfl (e▸hp)
section
variable {α β γ δ:Type}{Γ:W}{K:Cw}{A:Around}{env:Env}{G G₀ G':Gh}{ι ι':List Addr}{σ:St}{s s':Shared}
theorem Qg {l:List Value}(h:TriplesOk l):l=[]\/∃a t b u x r,l=.int a t:: .int b u::x::r/\TriplesOk r:=by
 cases l with
 |nil=>exact .inl rfl
 |cons v l=>
  cases v with
  |int a t=>
   cases l with
   |nil=>exact h.elim
   |cons v l=>
    cases v with
    |int b u=>
     cases l with
     |nil=>exact h.elim
     |cons x r=>exact .inr ⟨a,t,b,u,x,r,rfl,h⟩
    |_=>exact h.elim
  |_=>exact h.elim
theorem Fy {P:List Value->Prop}(h0:P [])(h1:∀a t b u x r,TriplesOk r->P r->P (.int a t:: .int b u::x::r))(l:List Value)(h:TriplesOk l):P l:=by
 have key:∀(n:Nat) (l:List Value),l.length<=n->TriplesOk l->P l:=λn=>by
  induction n with
  |zero=>intro l hl _;rw[List.eq_nil_of_length_eq_zero (Nat.le_zero.mp hl)];exact h0
  |succ n ih=>
   intro l hl h
   rcases Qg h with rfl|⟨a,t,b,u,x,r,rfl,hr⟩
   ·exact h0
   ·exact h1 a t b u x r hr (ih r (le_trans (le_add_right _ 2) (Nat.le_of_succ_le_succ hl)) hr)
 exact key l.length l (le_refl _) h
theorem Oi (l:List Value)(a b:Int)(c:Value)(h:TriplesOk l):TriplesOk (l++[rawInt a,rawInt b,c]):=
 Fy (P:=λl=>TriplesOk (l++[rawInt a,rawInt b,c])) trivial (λ_ _ _ _ _ _ _ ih=>ih) l h
theorem Zk (l:List Value)(a b:Nat)(c:Value)(h:TriplesOk l):Uc l->Uc (l++[rawInt a,rawInt b,c]):=
 Fy (P:=λl=>Uc l->Uc (l++[rawInt a,rawInt b,c])) (λ_=>⟨Int.natCast_nonneg a,Int.natCast_nonneg b,trivial⟩) (λ_ _ _ _ _ _ _ ih h=>⟨h.1,h.2.1,ih h.2.2⟩) l h
theorem Ub (pos pos':Pos)(c c2:Value)(l:List Value)(h:TriplesOk l):codeAmong pos' (l++[rawInt pos.line,rawInt pos.col,c])=some c2->codeAmong pos' l=some c2\/(pos'.line=pos.line/\pos'.col=pos.col/\c2=c):=by
 refine Fy (P:=λl=>codeAmong pos' (l++[rawInt pos.line,rawInt pos.col,c])=some c2->codeAmong pos' l=some c2\/(pos'.line=pos.line/\pos'.col=pos.col/\c2=c)) (λh=>?_) (λa t b u x r _ ih h=>?_) l h
 ·have h:(if((pos.line:Int)==pos'.line&&(pos.col:Int)==pos'.col)=true then some c else none)=some c2:=h
  by_cases hh:((pos.line:Int)==pos'.line&&(pos.col:Int)==pos'.col)=true
  ·rw[if_pos hh]at h
   cases h
   refine Ae (Bool.and_eq_true_iff.mp hh) λh1 h2=>?_
   exact .inr ⟨(Int.ofNat.inj (eq_of_beq h1)).symm,(Int.ofNat.inj (eq_of_beq h2)).symm,rfl⟩
  ·rw[if_neg hh]at h;cases h
 ·have h:(if(a==pos'.line&&b==pos'.col)=true then some x else codeAmong pos' (r++[rawInt pos.line,rawInt pos.col,c]))=some c2:=h
  show(if(a==pos'.line&&b==pos'.col)=true then some x else codeAmong pos' r)=some c2\/_
  by_cases hh:(a==pos'.line&&b==pos'.col)=true
  ·rw[if_pos hh]at h⊢;exact .inl h
  ·rw[if_neg hh]at h⊢;exact ih h
theorem Aa.grow (ok:Γ.Ok)(F:Aa Γ K env G ι σ s){c P c':Addr}(hcP:(c,P)∈Γ.tabs){ps:Array Value}(hps:s.heap.get? P=some (tabObj ps)){pos:Pos}{h':Heap}(hx:Heap.ExtBut P s.heap h')(le:G.le G')(hin:∀a o,G' a=some o->h'.get? a=some o)
  (hnew:∀a,a<s.heap.objs.size->G' a=G a)(hP:h'.get? P=some (tabObj (ps++#[rawInt pos.line,rawInt pos.col,.ref c'])))(hcode:∀pos':Pos,pos'.line=pos.line->pos'.col=pos.col->Γ.codeOk P pos' G' (.ref c'))(t:Nat)(ht:0<t):
  Aa Γ K env G' ι σ {s with heap:=h',toks:=t}:=by
 have pn:∀{a:Addr},(G a≠none\/a∈ι\/a∈Γ.tabs.map (·.2)\/Jz env a\/K.old a≠none)->G' a=G a:=λh=>hnew _ (F.lt_own h)
 refine A0 (F.store.tabs _ hcP) λtP1 tP2 _=>?_
 have hPt:P∈Γ.tabs.map (·.2):=mem_map_of_mem (f:=(·.2)) hcP
 have hPo:∀b,Jz env b->b≠P:=λb hb e=>(F.away b hb).2 (e▸hPt)
 have hPold:K.old P=none:=by
  cases e:K.old P with
  |none=>rfl
  |some o=>exact absurd hPt (F.far _ _ e).2.2.2.1
 have kk:∀a o,(G a=some o\/a∈ι\/Jz env a\/K.old a=some o)->s.heap.get? a=some o->h'.get? a=some o:=λa o h e=>hx a o (λq=>by
  subst q
  rcases h with h|h|h|h
  ·rw[tP1]at h;cases h
  ·exact tP2 h
  ·exact hPo _ h rfl
  ·rw[hPold]at h;cases h) e
 refine⟨⟨λa o e=>le _ _ (F.store.base a o e),hin,F.store.len,λn a ds e e'=>?_,F.store.nodup,λa ha=>by rw[pn (.inr (.inl ha))];exact F.store.fresh a ha,λp hp=>?_⟩,?_,?_,F.away,λx cc hk hl=>?_,λx cc hk hl=>?_,λa o e=>?_,F.os,F.gens,ht⟩
 ·refine Ac (F.store.at_ n a ds e e') λvs Z r=>?_
  refine Af Z λn' ho=>?_
  clear Z
  exact⟨vs,⟨n',kk a _ (.inr (.inl (List.mem_of_getElem? e))) ho⟩,r.mono le (A1.refl _)⟩
 ·refine A0 (F.store.tabs p hp) λa b Y=>?_
  refine Ck Y λps0 t0 ic V q=>?_
  clear Y
  refine Af V λog eg=>?_
  clear V
  refine⟨by rw[pn (.inr (.inr (.inl (mem_map_of_mem hp))))];exact a,b,?_⟩
  by_cases hpp:p.2=P
  ·have:=ok.tinj p hp (c,P) hcP hpp
   subst this
   refine⟨ps++#[rawInt pos.line,rawInt pos.col,.ref c'],?_,?_,⟨og,le _ _ eg⟩,λpos' c2 e=>?_,?_⟩
   ·refine Ae t0 λU _=>?_
    try clear t0
    refine A2 U λo vs e1 r=>?_
    clear U
    exact⟨⟨o,vs,kk _ _ (.inl (by have:=F.store.gin _ _ eg;rw[this]at e1;cases e1;exact eg)) e1,r⟩,hP⟩
   ·refine Ix ic λo vs file tf flags tg inF text tt op a1 r1 r2 r3 r4 r5 r6 b1 b2 b3 b4=>?_
    try clear ic
    rw[hps]at b1;cases b1
    refine⟨o,vs,file,tf,flags,tg,inF,text,tt,_,kk _ _ (.inl (by have:=F.store.gin _ _ eg;rw[this]at a1;cases a1;exact eg)) a1,r1,r2,r3,r4,r5,r6,hP,rfl,?_,b4⟩
    have e0:ps=ps0:=by cases b2;rfl
    rw[<-e0]at b3
    simpa using Oi ps.toList pos.line pos.col (.ref c') b3
   ·have h1:=t0.2
    rw[hps]at h1
    have e0:ps=ps0:=by cases h1;rfl
    refine Ix ic λ_ _ _ _ _ _ _ _ _ _ _ _ _ _ _ _ _ _ _ b3 _=>?_
    try clear ic
    rw[<-e0]at q b3
    rcases Ub pos pos' (.ref c') c2 ps.toList b3 (by simpa using e)with h|⟨l1,l2,l3⟩
    ·exact ok.codeMono _ _ _ _ _ le (q.1 pos' c2 h)
    ·subst l3;exact hcode pos' l1 l2
   ·have h1:=t0.2
    rw[hps]at h1
    have e0:ps=ps0:=by cases h1;rfl
    refine Ix ic λ_ _ _ _ _ _ _ _ _ _ _ _ _ _ _ _ _ _ _ b3 _=>?_
    try clear ic
    rw[<-e0]at q b3
    simpa using Zk ps.toList pos.line pos.col (.ref c') b3 q.2
  ·have hp1:p.1≠P:=λe=>by rw[e,tP1]at eg;cases eg
   exact⟨ps0,t0.extBut hx hp1 hpp,ic.extBut hx hp1 hpp,⟨og,le _ _ eg⟩,λpos' c2 e=>ok.codeMono _ _ _ _ _ le (q.1 pos' c2 e),q.2⟩
 ·refine Ac F.ns λm z0 q=>?_
  refine B9 z0 λo es ep ho r=>?_
  clear z0
  refine⟨m,⟨o,es,ep,kk _ _ (.inr (.inr (.inl (.inl rfl)))) ho,r⟩,λx d e=>(q x d e).mono (λv r=>r.mono le (A1.refl _)) ?_ (λc o=>Ff le)⟩
  intro c v hk hl z1
  refine Ac z1 λo ho hd=>?_
  clear z1
  exact⟨o,kk _ _ (.inr (.inr (.inl (.inr ⟨_,hk,hl⟩)))) ho,hd⟩
 ·show G' env.locals=none
  rw[pn (.inr (.inr (.inr (.inl (.inl rfl)))))];exact F.loc
 ·refine B7 (F.cell x cc hk hl) λc1 z2 c3 c4=>?_
  refine A2 z2 λv o ho hd=>?_
  clear z2
  refine⟨c1,⟨v,o,kk _ _ (.inr (.inr (.inl (.inr ⟨x,hk,hl⟩)))) ho,hd⟩,c3,λz hz hr=>⟨?_,(c4 z hz hr).2⟩⟩
  rw[pn (.inr (.inr (.inr (.inl (.inr ⟨x,hk,hl⟩)))))];exact(c4 z hz hr).1
 ·refine Af (F.freeIn x cc hk hl) λo e=>?_
  exact⟨o,Ff le e⟩
 ·refine A0 (F.far a o e) λf1 f2 f3=>?_
  exact⟨kk _ _ (.inr (.inr (.inr e))) f1,by rw[pn (.inr (.inr (.inr (.inr (by rw[e];exact Option.some_ne_none _)))))];exact f2,f3⟩
theorem Aa.growTab (ok:Γ.Ok)(F:Aa Γ K env G ι σ s){c P c':Addr}(hcP:(c,P)∈Γ.tabs){ps:Array Value}(hps:s.heap.get? P=some (tabObj ps)){pos:Pos}{oc:Obj}{h':Heap}(hx:Heap.ExtBut P s.heap h')(hge:s.heap.objs.size<=c')
  (hc':h'.get? c'=some oc)(hP:h'.get? P=some (tabObj (ps++#[rawInt pos.line,rawInt pos.col,.ref c'])))(hcode:∀pos':Pos,pos'.line=pos.line->pos'.col=pos.col->Γ.codeOk P pos' (G.put c' oc) (.ref c'))(t:Nat)(ht:0<t):
  G.le (G.put c' oc)/\Aa Γ K env (G.put c' oc) ι σ {s with heap:=h',toks:=t}:=by
 have hGc:G c'=none:=by
  cases e:G c' with
  |none=>rfl
  |some o=>exact absurd (Heap.lt_size (F.store.gin _ _ e)) (not_lt.mpr hge)
 have le:=Gh.put_le (o:=oc) hGc
 refine⟨le,F.grow ok hcP hps hx le (λa o e=>?_) (λa ha=>Gh.put_ne (ne_of_lt (lt_of_lt_of_le ha hge))) hP hcode t ht⟩
 unfold Gh.put at e
 split at e
 ·rename_i h;subst h;cases e;exact hc'
 ·refine hx a o (λq=>?_) (F.store.gin a o e)
  subst q
  rw[(F.store.tabs _ hcP).1]at e;cases e
theorem Aa.freezeNew (ok:Γ.Ok)(F:Aa Γ K env G ι σ s){h':Heap}(hx:∀a o,s.heap.get? a=some o->h'.get? a=some o)(le:G.le G')(hin:∀a o,G' a=some o->h'.get? a=some o)
  (hnew:∀a,a<s.heap.objs.size->G' a=G a)(t:Nat)(ht:0<t):Aa Γ K env G' ι σ {s with heap:=h',toks:=t}:=by
 have pn:∀{a:Addr},(G a≠none\/a∈ι\/a∈Γ.tabs.map (·.2)\/Jz env a\/K.old a≠none)->G' a=G a:=λh=>hnew _ (F.lt_own h)
 refine(F.keepsTo hx t ht).freeze ok (ro:=σ.ro) le hin (λa ha=>?_) λx c hk hl z hx hz=>?_
 ·rcases ha with h|h|h|h
  ·rw[pn (.inr (.inl h))];exact F.store.fresh a h
  ·rw[pn (.inr (.inr (.inl h)))];refine Ac (mem_map.mp h) λp hp Z=>?_;subst Z;exact(F.store.tabs p hp).1
  ·rw[pn (.inr (.inr (.inr (.inl (.inl h)))))];rw[h];exact F.loc
  ·rw[pn (.inr (.inr (.inr (.inr h))))]
   cases e:K.old a with
   |none=>exact absurd e h
   |some o=>exact(F.far a o e).2.1
 ·have q:=(F.cell x c hk hl).2.2.2 z hx hz
  exact⟨by rw[pn (.inr (.inr (.inr (.inl (.inr ⟨x,hk,hl⟩)))))];exact q.1,q.2⟩
noncomputable def Gh.upto (G:Gh) (n:Nat) (h:Heap):Gh:=λa=>if n<=a then h.get? a else G a
theorem Gh.upto_le {n:Nat}{h:Heap}(hG:∀a o,G a=some o->a<n):G.le (G.upto n h):=λa o e=>by unfold Gh.upto;rw[if_neg (not_le.mpr (hG a o e))];exact e
theorem Gh.upto_new {n a:Nat}{h:Heap}(ha:a<n):G.upto n h a=G a:=by unfold Gh.upto;rw[if_neg (not_le.mpr ha)]
theorem Gh.upto_at {n a:Nat}{h:Heap}(ha:n<=a):G.upto n h a=h.get? a:=by unfold Gh.upto;rw[if_pos ha]
theorem Gh.upto_in {n:Nat}{h:Heap}(k:∀a o,G a=some o->h.get? a=some o):∀a o,G.upto n h a=some o->h.get? a=some o:=λa o e=>by
 unfold Gh.upto at e
 split at e
 ·exact e
 ·exact k a o e
end
noncomputable def Oa (name qual:Str) (params:Arguments) (body:Expr) (scope:Scope) (clos:List (Str×Addr)) (pm:Value) (G₀:Gh) (v:Value):Prop:=∃a o cv ctv,v=.ref a/\G₀ a=some o/\o.cls=.type "function"/\
 o.data=.func (kla_fn name qual params body scope clos pm cv ctv)/\Bd G₀ cv qual
section
variable {α β γ δ:Type}{Γ:W}{K:Cw}{A:Around}{env:Env}{G G₀ G':Gh}{ι ι':List Addr}{σ:St}{s s':Shared}
theorem fJ (H:Ev Γ A env){c P:Addr}{name qual:Str}{params:Arguments}{body:Expr}{scope:Scope}{clos:List (Str×Addr)}{pos:Pos}{ln:Nat}(hcode:env.code=.ref c)(hcP:(c,P)∈Γ.tabs)(hcl:closureFor scope env=pure clos)
  (hit:∀G cv,Γ.codeOk P pos G cv->Bd G cv qual)(mk:∀G cv pos',pos'.line=pos.line->pos'.col=pos.col->Bd G cv qual->Γ.codeOk P pos' G cv)(F:Aa Γ K env G ι σ s){Q:Value->Shared->Prop}
  (k:∀G' v s',G.le G'->Oa name qual params body scope clos ((Γ.mg "__name__").getD .none) G' v->Aa Γ K env G' ι σ s'->Q v s'):
  wpAny (model Γ.prog Γ.w) A (makeFunction name qual params (.expr body) scope env [] [] [] pos ln) Q (λ_ _=>False) s:=by
 refine A0 (F.store.tabs _ hcP) λtP1 tP2 Z=>?_
 refine Ck Z λps t0 ic Y q=>?_
 clear Z
 refine Af Y λog eg=>?_
 clear Y
 have hin:=F.store.gin
 have hB:∀b o,Γ.B.get? b=some o->s.heap.get? b=some o:=λb o e=>hin _ _ (F.store.base _ _ e)
 have C:CodeHd s.heap c P:=CodeHd.of ic t0
 have hP:s.heap.get? P=some (tabObj ps):=t0.2
 have ht:TriplesOk ps.toList:=by
  refine Ix ic λ_ _ _ _ _ _ _ _ _ op _ _ _ _ _ _ _ b1 b2 b3 _=>?_
  try clear ic
  rw[hP]at b1;cases b1;cases b2;exact b3
 have hg:=H.ok.g.keeps hB
 have neP:∀b o,Γ.B.get? b=some o->b≠P:=λb o e h=>by
  have:=F.store.base _ _ e
  rw[h,tP1]at this;cases this
 refine aP H.ok.bm λbm ob hm1 hm2 hm3 hm4 hm5 hm6 hm7=>?_
 have hb:s.heap.BuiltinsAt Γ.mg P:=⟨bm,ob,hm1,hm2,hm3,neP _ _ hm4,hB _ _ hm4,hm5,hm6,hm7⟩
 have hgP:mainGlobals≠P:=by
  refine B9 H.ok.g λo es ep ho _=>?_
  exact neP _ _ ho
 cases hf:codeAmong pos ps.toList with
 |none=>
  refine wpAny_mono (A4 (kla_makeFunction (E:=λ_ _=>False) (Q:=λv s'=>∃(c':Addr) (ctv:Value) (h':Heap) (tk:Nat) (oc:Obj),Heap.ExtBut P s.heap h'/\s.heap.objs.size<=c'/\h'.get? c'=some oc/\(∀G:Gh,G c'=some oc->Bd G (.ref c') qual)/\h'.get? P=some (tabObj (ps++#[rawInt pos.line,rawInt pos.col,.ref c']))/\
   v=.ref h'.objs.size/\s'={s with heap:=h'.push (kla_obj name qual params body scope clos ((Γ.mg "__name__").getD .none) c' ctv),toks:=tk}) hcl H.glob hg hcode C hP ht hf hgP hb ?_)) (λv s' V=>Ae V λU hle=>aN U λc' ctv h' tk oc h1 h2 h3 h4 h5 e1 e2=>?_) λ_ _ x=>x
  ·intro c' ctv h' tk hx hge hlt hrec hP'
   refine Fp hrec λc2 oc vs t e h3 h4 h5=>?_
   try clear hrec
   cases e
   exact⟨c',ctv,h',tk,oc,hx,hge,h3,λG hG=>⟨c',oc,vs,t,rfl,hG,h4,h5⟩,hP',rfl,rfl⟩
  ·subst e1 e2
   refine Ae (F.growTab H.ok hcP hP h1 h2 h3 h5 (λpos' e1 e2=>mk _ _ pos' e1 e2 (h4 _ (Gh.put_self _ _ _))) tk (lt_of_lt_of_le F.tk hle)) λl1 F1=>?_
   refine Ae (F1.alloc H.ok (o:=kla_obj name qual params body scope clos ((Γ.mg "__name__").getD .none) c' ctv) rfl tk (lt_of_lt_of_le F.tk hle)) λl2 F2=>?_
   refine k _ _ _ (l1.trans l2) ⟨_,_,.ref c',ctv,rfl,Gh.put_self _ _ _,rfl,rfl,h4 _ (l2 _ _ (Gh.put_self _ _ _))⟩ F2
 |some cv=>
  refine wpAny_mono (A4 (kla_makeFunctionHit (E:=λ_ _=>False) (Q:=λv s'=>∃(ctv:Value) (h':Heap) (tk:Nat),(∀b o,s.heap.get? b=some o->h'.get? b=some o)/\v=.ref h'.objs.size/\
   s'={s with heap:=h'.push {cls:=.type "function",data:=.func (kla_fn name qual params body scope clos ((Γ.mg "__name__").getD .none) cv ctv)},toks:=tk}) hcl H.glob hg hcode C hP ht hf hb ?_)) (λv s' z0=>Ae z0 λz1 hle=>Fq z1 λctv h' tk h1 e1 e2=>?_) λ_ _ x=>x
  ·exact λctv h' tk h1 _=>⟨ctv,h',tk,h1,rfl,rfl⟩
  ·subst e1 e2
   have F1:=F.keepsTo h1 tk (lt_of_lt_of_le F.tk hle)
   refine Ae (F1.alloc H.ok (o:={cls:=.type "function",data:=.func (kla_fn name qual params body scope clos ((Γ.mg "__name__").getD .none) cv ctv)}) rfl tk (lt_of_lt_of_le F.tk hle)) λl2 F2=>?_
   refine Fp (hit _ _ (q.1 pos cv hf)) λcc oc vs t e h3 h4 h5=>?_
   exact k _ _ _ l2 ⟨_,_,cv,ctv,rfl,Gh.put_self _ _ _,rfl,rfl,cc,oc,vs,t,e,l2 _ _ h3,h4,h5⟩ F2
theorem pR (H:Ev Γ A env){c P:Addr}{params:Arguments}{body:Expr}{scope:Scope}{clos:List (Str×Addr)}{pos:Pos}(hcode:env.code=.ref c)(hcP:(c,P)∈Γ.tabs)(hdef:defaultsOf params env=([],[]))(hcl:closureFor scope env=pure clos)
  (hit:∀G cv,Γ.codeOk P pos G cv->Bd G cv (env.qual++"<lambda>"))(mk:∀G cv pos',pos'.line=pos.line->pos'.col=pos.col->Bd G cv (env.qual++"<lambda>")->Γ.codeOk P pos' G cv):
  Bm Γ A env (.Lambda params body scope pos) (λσ Q=>∃P,(∀G v,Oa "<lambda>" (env.qual++"<lambda>") params body scope clos ((Γ.mg "__name__").getD .none) G v->P G v)/\Q (.sem P) σ):=λK G ι σ s Q F Z=>Ac Z λP' hP' q=>
 kla_eval hdef (fJ H hcode hcP hcl hit mk F λG' v s' l hL F'=>(As.mk' (R:=VR) (b:=.sem P') ⟨G',Gh.le.refl _,hP' _ _ hL⟩ F' q).up l (A1.refl _))
end
section
open PySem.Sre
noncomputable def Mj:Array Nat:=#[14,14,4,1,1,9,0,64,0,1342177280,0,0,0,0,0,17,0,13,11,9,0,64,0,1342177280,0,0,0,0,0,17,1,1]
noncomputable def Db (c:Nat):Bool:=c==38||c==124||c==126
theorem eF:∀c,c<256->(decide (c<256)&&(Mj.getD (5+(1+c/32)) 0).testBit (c%32))=Db c:=by decide +kernel
theorem bJ (c i:Nat)(hw:∀k,k<8->Mj.getD (i+(1+k)) 0=Mj.getD (5+(1+k)) 0):(decide (c<256)&&(Mj.getD (i+(1+c/32)) 0).testBit (c%32))=Db c:=by
 by_cases h:c<256
 ·rw[hw (c/32) (Nat.div_lt_of_lt_mul h)];exact eF c h
 ·have:Db c=false:=by unfold Db;simp;exact⟨⟨ne_of_gt (Ah (not_lt.1 h)),ne_of_gt (Ah (not_lt.1 h))⟩,ne_of_gt (Ah (not_lt.1 h))⟩
  rw[this];simp[h]
theorem bM {b:Bool}{c:Nat}{s1 s2:Sre.Seen}(h:b=Db c):∃s',(if b=true then(.ok (true,s1):Except String (Bool×Sre.Seen))else .ok (false,s2))=.ok (Db c,s'):=by
 cases b
 ·exact⟨s2,h▸rfl⟩
 ·exact⟨s1,h▸rfl⟩
theorem iR (c:Nat)(seen:Sre.Seen):∃s',inSet Mj c (30+2) 5 true seen=.ok (Db c,s'):=bM (bJ c 5 λ_ _=>rfl)
theorem dH (c:Nat)(seen:Sre.Seen):∃s',inSet Mj c (30+2) 19 true seen=.ok (Db c,s'):=bM (bJ c 19 (by decide))
noncomputable def Fj (T:Array Nat) (lim:Nat):Nat->Nat->Option Nat
 |0,_=>none
 |f+1,s=>if s>=lim then none else if Db (T.getD s 0)=true then some s else Fj T lim f (s+1)
theorem Lr (T:Array Nat)(lim f s:Nat):Fj T lim (f+1) s=if s>=lim then none else if Db (T.getD s 0)=true then some s else Fj T lim f (s+1):=rfl
theorem oA {m:Sre.M}{f s:Nat}{b:Bool}{seen s':Sre.Seen}(hm:m.code=Mj)(h:¬s>=m.lim)(e:inSet Mj (m.text.getD s 0) (30+2) 5 true seen=.ok (b,s')):
  Sre.M.admitted m (f+1) s seen=if b=true then .ok (some s,s')else Sre.M.admitted m f (s+1) s':=by
 show(if s>=m.lim then _ else _)=_
 rw[if_neg h,hm]
 rw[show Mj.size=30+2 from rfl,e]
 cases b<;>rfl
theorem Sd (m:Sre.M)(hm:m.code=Mj):∀(f s:Nat) (seen:Sre.Seen),∃s',Sre.M.admitted m f s seen=.ok (Fj m.text m.lim f s,s'):=by
 intro lq
 induction lq with
 |zero=>intro s seen;exact⟨_,rfl⟩
 |succ f ih=>
  intro s seen
  rw[Lr]
  by_cases h:s>=m.lim
  ·rw[if_pos h]
   refine⟨seen,?_⟩
   show(if s>=m.lim then _ else _)=_
   rw[if_pos h]
  ·rw[if_neg h]
   refine Af (iR (m.text.getD s 0) seen) λs' e=>?_
   rw[oA hm h e]
   by_cases ha:Db (m.text.getD s 0)=true
   ·rw[if_pos ha,if_pos ha];exact⟨_,rfl⟩
   ·rw[if_neg ha,if_neg ha]
    exact ih (s+1) s'
noncomputable def Kg (T:Array Nat) (start lim:Nat):Option Nat:=if start>lim\/lim-start<1 then none else Fj T lim (lim+1-start) start
noncomputable def m0 (T:Array Nat) (start lim:Nat) (must:Bool) (ls:Nat):M:={code:=Mj,text:=T,lim,start,pc:=15,pos:=start,handed:=start,marks:=#[none,none],mustAdvance:=must,seen:=({}:Sre.Seen).add 14,lastStart:=ls}
theorem V1 (T:Array Nat)(start lim:Nat)(must:Bool):forSearch Mj T 1 start lim must=if(decide (start>lim)||decide (lim-start<1))=true then(m0 T start lim must 0).say false else(m0 T start lim must lim).attemptFrom start true:=rfl
noncomputable def mA (T:Array Nat) (lim ls s:Nat) (pc pos handed:Nat) (marks:Array (Option Nat)) (lm li:Int) (frames:List Sre.Frame) (weight:Nat) (answer:Option Bool) (outcome:Option Sre.Outcome) (seen:Sre.Seen):M:=
 {code:=Mj,text:=T,lim,start:=s,lastStart:=ls,pc,pos,handed,marks,lastmark:=lm,lastindex:=li,frames,weight,answer,seen,outcome}
noncomputable def Xj (s:Nat):Sre.Frame:={wait:=.nextStart,pc:=15,pos:=s,outermost:=true}
theorem Ee (n:Nat)(m:M)(h:m.outcome=none):M.runFor (n+1) m=M.runFor n m.step:=by
 show(if m.outcome.isSome=true then m else M.runFor n m.step)=_
 rw[h];rfl
theorem V4 (T:Array Nat)(lim ls s:Nat)(s':Sre.Seen)(hs:s<lim)(ha:Db (T.getD s 0)=true):
  ∃s2,M.runFor 4 (mA T lim ls s 15 s s #[none,none] (-1) (-1) [Xj s] 1 none none s')=mA T lim ls s 31 (s+1) (s+1) #[some s,some (s+1)] 1 1 [Xj s] 1 (some true) none s2:=by
 have e1:(mA T lim ls s 15 s s #[none,none] (-1) (-1) [Xj s] 1 none none s').step=mA T lim ls s 17 s s #[some s,none] 0 (-1) [Xj s] 1 none none (s'.add 17):=rfl
 refine Af (dH (T.getD s 0) ((s'.add 17).add 13)) λs2 e=>?_
 have e2:(mA T lim ls s 17 s s #[some s,none] 0 (-1) [Xj s] 1 none none (s'.add 17)).step=mA T lim ls s 29 (s+1) s #[some s,none] 0 (-1) [Xj s] 1 none none s2:=by
  show ite (s>=lim) _ (match accepts Mj 17 (T.getD s 0) ((s'.add 17).add 13)with| .error _=>_| .ok (false,_)=>_| .ok (true,_)=>_)=_
  rw[if_neg (by exact not_le.2 (Ah hs)),show accepts Mj 17 (T.getD s 0) ((s'.add 17).add 13)=inSet Mj (T.getD s 0) (30+2) 19 true ((s'.add 17).add 13)from rfl,e,ha]
  rfl
 have e3:(mA T lim ls s 29 (s+1) s #[some s,none] 0 (-1) [Xj s] 1 none none s2).step=mA T lim ls s 31 (s+1) s #[some s,some (s+1)] 1 1 [Xj s] 1 none none (s2.add 17):=by
  show M.mark (mA T lim ls s 29 (s+1) s #[some s,none] 0 (-1) [Xj s] 1 none none (s2.add 17)) 1=_
  unfold M.mark
  simp[mA]
  decide
 have e4:(mA T lim ls s 31 (s+1) s #[some s,some (s+1)] 1 1 [Xj s] 1 none none (s2.add 17)).step=mA T lim ls s 31 (s+1) (s+1) #[some s,some (s+1)] 1 1 [Xj s] 1 (some true) none ((s2.add 17).add 1):=rfl
 refine⟨(s2.add 17).add 1,?_⟩
 rw[Ee 3 _ rfl,e1,Ee 2 _ rfl,e2,Ee 1 _ rfl,e3,Ee 0 _ rfl,e4]
 rfl
theorem V0 {T:Array Nat}{start lim:Nat}{must:Bool}:match Kg T start lim with
  |none=>(M.runFor 4 (forSearch Mj T 1 start lim must)).outcome=some .failed
  |some s=>(M.runFor 4 (forSearch Mj T 1 start lim must)).outcome=none/\∃m,M.runFor 4 (M.runFor 4 (forSearch Mj T 1 start lim must))=m/\m.outcome=some .matched/\m.start=s/\m.handed=s+1/\m.lastmark=1/\m.lastindex=1/\m.marks=#[some s,some (s+1)]:=by
 rw[V1]
 unfold Kg
 by_cases hb:start>lim\/lim-start<1
 ·have e:(decide (start>lim)||decide (lim-start<1))=true:=by
   rcases hb with hb|hb<;>simp[hb]
  rw[if_pos hb,e,if_pos rfl]
  rfl
 ·have e:(decide (start>lim)||decide (lim-start<1))=false:=by
   have h1:¬start>lim:=λq=>hb (.inl q)
   have h2:¬lim-start<1:=λq=>hb (.inr q)
   rw[decide_eq_false h1,decide_eq_false h2];rfl
  rw[if_neg hb,e,if_neg (by decide)]
  refine Af (Sd (m0 T start lim must lim) rfl (lim+1-start) start (m0 T start lim must lim).seen) λs' ea=>?_
  unfold M.attemptFrom
  rw[show(!(m0 T start lim must lim).hasFirstSet)=false from rfl,if_neg (by decide)]
  rw[show(m0 T start lim must lim).lim=lim from rfl,ea]
  rw[show(m0 T start lim must lim).text=T from rfl,show(m0 T start lim must lim).lim=lim from rfl]
  have hf:∀s,Fj T lim (lim+1-start) start=some s->s<lim/\Db (T.getD s 0)=true:=by
   intro s
   generalize lim+1-start=f
   generalize start=p
   induction f generalizing p with
   |zero=>intro h;cases h
   |succ f ih=>
    rw[Lr]
    by_cases h1:p>=lim
    ·rw[if_pos h1];intro h;cases h
    ·rw[if_neg h1]
     by_cases h2:Db (T.getD p 0)=true
     ·rw[if_pos h2];intro h;cases h;exact⟨by exact Ah (not_le.1 h1),h2⟩
     ·rw[if_neg h2];exact ih (p+1)
  cases hq:Fj T lim (lim+1-start) start with
  |none=>rfl
  |some s=>
   refine Ae (hf s hq) λhs ha=>?_
   refine Af (V4 T lim lim s s' hs ha) λs2 e2=>?_
   have e3:M.attemptAt {m0 T start lim must lim with mustAdvance:=false,seen:=s'} s true=mA T lim lim s 15 s s #[none,none] (-1) (-1) [Xj s] 1 none none s':=rfl
   show(M.runFor 4 (M.attemptAt {m0 T start lim must lim with mustAdvance:=false,seen:=s'} s true)).outcome=none/\∃m,M.runFor 4 (M.runFor 4 (M.attemptAt {m0 T start lim must lim with mustAdvance:=false,seen:=s'} s true))=m/\_
   rw[e3,e2]
   exact⟨rfl,_,rfl,rfl,rfl,rfl,rfl,rfl,rfl⟩
end
section
open PySem.Sre PySem.Builtin.Re
section
variable {Md:Model}{A:Around}{E:Value->Shared->Prop}{s:Shared}
theorem Fw {f:Nat->PUnit->Sem (ForInStep PUnit)}(hf:∀i u (Q:ForInStep PUnit->Shared->Prop) s,Q (.yield ⟨⟩) s->wpAny Md A (f i u) Q E s){Q:PUnit->Shared->Prop}:∀(l:List Nat) (s:Shared),Q ⟨⟩ s->wpAny Md A (forIn l ⟨⟩ f) Q E s
 |[],s,h=>by rw[List.forIn_nil];exact wpAny_pure h
 |i::l,s,h=>by
  rw[List.forIn_cons]
  exact wpAny_bind (hf i _ _ s (Fw hf l s h))
theorem Id {n:Nat}{m:M}{Q:M->Shared->Prop}(h:(m.runFor 4).outcome.isSome=true)(q:Q (m.runFor 4) s):wpAny Md A (reDrive (n+1) m) Q E s:=by
 show wpAny Md A (if(m.runFor 4).outcome.isSome=true then _ else _) Q E s
 rw[if_pos h]
 exact wpAny_pure q
theorem Ot {n:Nat}{m:M}{Q:M->Shared->Prop}(h:(m.runFor 4).outcome=none)(q:wpAny Md A (reDrive n (m.runFor 4)) Q E s):wpAny Md A (reDrive (n+1) m) Q E s:=by
 show wpAny Md A (if(m.runFor 4).outcome.isSome=true then _ else _) Q E s
 rw[if_neg (by rw[h];decide)]
 exact wpAny_bind (wpAny_rule q)
theorem kN:(2:Nat)^64=18446744073709551614+1+1:=by decide
theorem bU {t:ReTarget}{start:Nat}{must:Bool}{Q:Option M->Shared->Prop}(hc:t.code=Mj)(hg:t.groups=1)
  (h:match Kg t.text start t.lim with|none=>Q none s|some p=>∀m:M,m.start=p->m.handed=p+1->m.lastmark=1->m.lastindex=1->m.marks=#[some p,some (p+1)]->Q (some m) s):
  wpAny Md A (reNextFound t start must) Q E s:=by
 unfold reNextFound reRunToEnd
 rw[hc,hg,kN]
 have hs:=V0 (T:=t.text) (start:=start) (lim:=t.lim) (must:=must)
 cases hf:Kg t.text start t.lim with
 |none=>
  rw[hf]at hs h
  dsimp only at hs h
  refine wpAny_bind (Id (by rw[hs];rfl) ?_)
  refine wpAny_bind (Fw (λi u Q s q=>?_) _ _ ?_)
  ·split
   ·exact wpAny_bind (wpAny_rule (wpAny_pure q))
   ·exact wpAny_pure q
  ·rw[hs];exact wpAny_pure h
 |some p=>
  rw[hf]at hs h
  dsimp only at hs h
  refine Ae hs λh1 Z=>?_
  try clear hs
  refine aQ Z λm h2 h3 h4 h5 h6 h7 h8=>?_
  clear Z
  refine wpAny_bind (Ot h1 (Id (by rw[h2,h3];rfl) ?_))
  rw[h2]
  refine wpAny_bind (Fw (λi u Q s q=>?_) _ _ ?_)
  ·split
   ·exact wpAny_bind (wpAny_rule (wpAny_pure q))
   ·exact wpAny_pure q
  ·rw[h3];exact wpAny_pure (h m h4 h5 h6 h7 h8)
end
end
section
open PySem.Sre PySem.Builtin.Re
noncomputable def Ko (G:Gh) (p:Addr):Prop:=∃o fs tup ot vs n,G p=some o/\o.cls=.type "re.Pattern"/\o.data=.fields fs/\reRawNat (fs.getD 2 .none)=1/\fs.getD 5 .none=.ref tup/\reRawNat (fs.getD 6 .none)=0/\
 G tup=some ot/\ot.data=.seq vs n/\(vs.map reRawOf).map (·.toNat)=Mj
theorem Ko.mono {G G':Gh}{p:Addr}(h:Ko G p)(l:G.le G'):Ko G' p:=by
 refine nG h λo fs tup ot vs n h1 h2 h3 h4 h5 h6 h7 h8=>?_
 try clear h
 exact⟨o,fs,tup,ot,vs,n,l _ _ h1,h2,h3,h4,h5,h6,l _ _ h7,h8⟩
noncomputable def tgt (p:Addr) (x:Str) (t:Tok):ReTarget:={pattern:=.ref p,string:=.str x t,code:=Mj,text:=x.cps,kind:=0,groups:=1,pos:=0,lim:=x.cps.size}
section
variable {Md:Model}{A:Around}{E:Value->Shared->Prop}{s:Shared}{G:Gh}
theorem Qb {v:Addr}{ot:Obj}{vs:Array Value}{n:Nat}{Q:Array Int->Shared->Prop}(h:s.heap.get? v=some ot)(hd:ot.data=.seq vs n)(q:Q (vs.map reRawOf) s):wpAny Md A (reRawItems (.ref v)) Q E s:=by
 unfold reRawItems
 exact wpAny_bind (wpAny_seqItems h hd (wpAny_pure q))
theorem M4 {p:Addr}{x:Str}{t:Tok}{Q:ReTarget->Shared->Prop}(hin:∀a o,G a=some o->s.heap.get? a=some o)(h:Ko G p)(q:Q (tgt p x t) s):wpAny Md A (reWholeTarget (.ref p) (.str x t)) Q E s:=by
 refine fT h λo fs tup ot vs n h1 h2 h3 h4 h5 h6 h7 h8 h9=>?_
 try clear h
 unfold reWholeTarget
 refine wpAny_bind (wpAny_fieldsOf (hin _ _ h1) h3 ?_)
 refine wpAny_bind (m:=reTextOf (.str x t)) (wpAny_of_eq (a:=(x.cps,0)) rfl ?_)
 dsimp only
 rw[h6,h5]
 refine wpAny_bind (m:=reNoCollectionInside (.str x t) 0) (wpAny_of_eq (a:=()) rfl ?_)
 refine wpAny_bind (Qb (hin _ _ h7) h8 (wpAny_pure ?_))
 rw[h9,h4]
 exact q
noncomputable def Fh (p:Addr) (x:Str) (q:Nat) (G:Gh) (v:Value):Prop:=∃a o t tup ot n,v=.ref a/\G a=some o/\o.cls=.type "re.Match"/\o.dict=none/\o.slots=#[]/\o.data=.fields #[.str x t,.ref p,rawInt 0,rawInt x.cps.size,rawInt 1,.ref tup]/\Ko G p/\
 G tup=some ot/\ot.data=.seq #[rawInt q,rawInt (q+1:Nat),rawInt q,rawInt (q+1:Nat)] n
end
section
variable {α β γ δ:Type}{Γ:W}{K:Cw}{A:Around}{env:Env}{G G':Gh}{ι ι':List Addr}{σ:St}{s s':Shared}
theorem bV {α:Type}{M:Model}{c:Prop}[Decidable c]{a b:Sem α}{Q:α->Shared->Prop}{E:Value->Shared->Prop}(hc:¬c)(k:wpAny M A b Q E s):wpAny M A (if c then a else b) Q E s:=by rw[if_neg hc];exact k
theorem Qa (ok:Γ.Ok){p:Addr}{x:Str}{t:Tok}{m:M}{q:Nat}{Q:Value->Shared->Prop}{E:Value->Shared->Prop}(F:Aa Γ K env G ι σ s)(hp:Ko G p)(h1:m.start=q)(h2:m.handed=q+1)(h3:m.lastmark=1)(h4:m.lastindex=1)(h5:m.marks=#[some q,some (q+1)])
  (h:∀G' v s',G.le G'->Fh p x q G' v->Aa Γ K env G' ι σ s'->Q v s'):wpAny (model Γ.prog Γ.w) A (reNewMatch (.ref p) (.str x t) 1 0 x.cps.size m) Q E s:=by
 unfold reNewMatch
 rw[h1,h2,h3,h4,h5]
 have e2:((List.range 1).any λg=>match(#[some q,some (q+1)]:Array (Option Nat)).getD (2*g) none,(#[some q,some (q+1)]:Array (Option Nat)).getD (2*g+1) none with|some b,some e=>((2*g+1:Nat):Int)<=(1:Int)&&e<b|_,_=>false)=false:=by
  show((decide (((2*0+1:Nat):Int)<=(1:Int))&&decide (q+1<q))||false)=false
  rw[decide_eq_false (show¬q+1<q from not_lt.2 (le_succ q))];rfl
 show wpAny _ _ (if _=true then _ else(do let tup<-newTuple (rawInt (q:Nat)::rawInt (q+1:Nat)::[rawInt (q:Nat),rawInt (q+1:Nat)]);newFields "re.Match" [.str x t,.ref p,rawInt (0:Nat),rawInt (x.cps.size:Nat),rawInt 1,tup])) Q E s
 refine bV ?hn ?_
 case hn=>intro hh;exact Bool.noConfusion (e2.symm.trans hh)
 refine wpAny_bind (wpAny_newTuple ?_)
 refine Ae (F.alloc ok (o:={cls:=.type "tuple",data:=.seq (toArray [rawInt (q:Nat),rawInt (q+1:Nat),rawInt (q:Nat),rawInt (q+1:Nat)])}) rfl s.toks F.tk) λl1 F1=>?_
 unfold newFields
 refine wpAny_newObj_type ?_
 refine Ae (F1.alloc ok (o:={cls:=.type "re.Match",data:=.fields (toArray [.str x t,.ref p,rawInt (0:Nat),rawInt (x.cps.size:Nat),rawInt 1,.ref s.heap.objs.size])}) rfl s.toks F.tk) λl2 F2=>?_
 refine h _ _ _ (l1.trans l2) ⟨_,_,t,_,_,_,rfl,Gh.put_self _ _ _,rfl,rfl,rfl,rfl,hp.mono (l1.trans l2),l2 _ _ (Gh.put_self _ _ _),rfl⟩ F2
end
end
section
open PySem.Sre PySem.Builtin.Re
section
variable {α β γ δ:Type}{Γ:W}{K:Cw}{A:Around}{env:Env}{G G₀ G':Gh}{ι ι':List Addr}{σ:St}{s s':Shared}
theorem Ow {L:Addr}{k:Nat}{ds:List D}{v:Value}{d:D}{Q:Unit->Shared->Prop}{E:Value->Shared->Prop}(F:Aa Γ K env G ι σ s)(hk:ι[k]? =some L)(hl:σ.own[k]? =some ds)(r:Bb G ι d v)(hz:ds.length<sizeLine)
  (q:∀s',Aa Γ K env G ι {σ with own:=σ.own.set k (ds++[d])} s'->Q () s'):wpAny (model Γ.prog Γ.w) A (updateSeq L (·.push v)) Q E s:=by
 refine Ac (F.store.at_ k L ds hk hl) λvs Z rl=>?_
 refine Af Z λn ho=>?_
 clear Z
 have hzz:=rl.length
 refine wpAny_updateSeq ho rfl ?_ (by rw[size_toArray];exact Ah (add_le_add (le_of_eq hzz) hz)) (by rw[Array.size_push,size_toArray];exact Ah (add_le_add (le_of_eq hzz) hz))
 have e:vs.toArray.push v=(vs++[v]).toArray:=by simp
 refine q _ (F.setOwn hk (rl.snoc r) (h':=s.heap.update L (Obj.mapSeq (·.push v))) ?_ (Heap.SameBut.update _ _ _) s.toks F.tk)
 rw[<-e]
 exact⟨_,Heap.get?_update_self _ ho rfl⟩
noncomputable def B8 (xs:List Nat):List Nat:=xs.flatMap λc=>if Db c=true then[92,c]else[c]
noncomputable def oE (p:Addr) (xs:List Nat):Mine.Cf:=λds own Q=>∃q c,ds=[.sem (Fh p ⟨xs.toArray⟩ q)]/\xs[q]? =some c/\Q (.str [92,c]) own
noncomputable def Uh (p:Addr) (xs:List Nat) (t:Tok) (lam:Value) (n:Int) (pos:Nat) (must:Bool) (L:Addr):Args:=⟨[.ref p,.str ⟨xs.toArray⟩ t,lam,rawInt 1,rawInt 0,rawInt n,rawInt pos,rawInt pos,.bool must,.ref L,.bool false],[]⟩
theorem Ts:entryFor table "re.Pattern.sub.loop"=some Builtin.«re.Pattern.sub.loop»:=entryFor_of_fast (by kernel_rfl)
theorem H0:plainId "re.Pattern.sub.loop"=true:=by decide +kernel
theorem aC (xs:List Nat)(p:Nat):match Kg xs.toArray p xs.length with
  |none=>B8 (xs.drop p)=xs.drop p
  |some q=>p<=q/\∃c,xs[q]? =some c/\Db c=true/\B8 ((xs.drop p).take (q-p))=(xs.drop p).take (q-p):=by
 have hf:∀(f p:Nat),xs.length+1-p<=f->match Fj xs.toArray xs.length f p with
   |none=>B8 (xs.drop p)=xs.drop p
   |some q=>p<=q/\∃c,xs[q]? =some c/\Db c=true/\B8 ((xs.drop p).take (q-p))=(xs.drop p).take (q-p):=by
  intro f
  induction f with
  |zero=>
   intro p h
   have:xs.drop p=[]:=List.drop_eq_nil_iff.mpr (by exact Ah (add_le_add (Bp (xs.length+1) (p)) h))
   show B8 (xs.drop p)=_
   rw[this];rfl
  |succ f ih=>
   intro p h
   rw[Lr]
   by_cases hp:p>=xs.length
   ·rw[if_pos hp]
    have:xs.drop p=[]:=List.drop_eq_nil_iff.mpr hp
    show B8 (xs.drop p)=_
    rw[this];rfl
   ·rw[if_neg hp]
    have hp2:p<xs.length:=by exact Ah (not_le.1 hp)
    have hg:xs.toArray.getD p 0=xs[p]:=by simp[Array.getD,hp2]
    rw[hg]
    have hd:xs.drop p=xs[p]::xs.drop (p+1):=List.drop_eq_getElem_cons hp2
    by_cases ha:Db xs[p]=true
    ·rw[if_pos ha]
     exact⟨le_refl _,xs[p],List.getElem?_eq_getElem hp2,ha,by rw[sub_self];rfl⟩
    ·rw[if_neg ha]
     have:=ih (p+1) (by exact Ah (add_le_add (add_le_add (le_of_eq (sub_add_cancel (Ah (not_le.1 hp):p+1<=xs.length+1))) (Bp (xs.length+1) (p))) h))
     cases hq:Fj xs.toArray xs.length f (p+1)with
     |none=>
      rw[hq]at this
      show B8 (xs.drop p)=_
      rw[hd]
      unfold B8 at this⊢
      rw[flatMap_cons,if_neg ha,this];rfl
     |some q=>
      rw[hq]at this
      refine Ae this λh1 Z=>?_
      try clear this
      refine Ay Z λc h2 h3 h4=>?_
      clear Z
      refine⟨by exact Ah h1,c,h2,h3,?_⟩
      have e:q-p=(q-(p+1))+1:=by exact pG (Ah h1)
      rw[hd,e,List.take_succ_cons]
      unfold B8 at h4⊢
      rw[flatMap_cons,if_neg ha,h4];rfl
 unfold Kg
 by_cases hb:p>xs.length\/xs.length-p<1
 ·rw[if_pos hb]
  have:xs.drop p=[]:=List.drop_eq_nil_iff.mpr (hb.elim le_of_lt λh=>Nat.le_of_sub_eq_zero (Nat.lt_one_iff.1 h))
  show B8 (xs.drop p)=_
  rw[this];rfl
 ·rw[if_neg hb]
  exact hf _ _ (le_refl _)
theorem Dw (a b:List Nat):B8 (a++b)=B8 a++B8 b:=List.flatMap_append
theorem K5:∀xs:List Nat,(B8 xs).length<=2*xs.length:=by
 intro lq
 induction lq with
 |nil=>exact le_refl _
 |cons c xs ih=>
  have ih:=ih
  show(((if Db c=true then[92,c]else[c]):List Nat)++B8 xs).length<=_
  rw[length_append,length_cons]
  split
  ·simp only[length_cons,length_nil];exact Ah ih
  ·simp only[length_cons,length_nil];exact Ah ih
theorem cM {own:List (List D)}{k:Nat}{l:List D}(h:own[k]? =some l):own.set k l=own:=by
 refine Af (List.getElem?_eq_some_iff.mp h) λhk e=>?_
 rw[<-e,List.set_getElem_self]
theorem Vp (xs:List Nat){pos q:Nat}(h:pos<=q):xs.take q=xs.take pos++(xs.drop pos).take (q-pos):=by
 have:q=pos+(q-pos):=by exact Pv (Ah h)
 rw[this,List.take_add]
 simp
theorem Qc {α:Type}{M:Model}{c:Prop}[Decidable c]{a b:Sem α}{Q:α->Shared->Prop}{E:Value->Shared->Prop}(hc:c)(k:wpAny M A a Q E s):wpAny M A (if c then a else b) Q E s:=by rw[if_pos hc];exact k
theorem Rb {α:Type}{M:Model}{c:Prop}[Decidable c]{X:Sem Value}{L:Addr}{rest:Sem α}{Q:α->Shared->Prop}{E:Value->Shared->Prop}(I:Shared->Prop)
  (h1:c->∀R:Unit->Shared->Prop,(∀s1,I s1->R () s1)->wpAny M A (X>>=λv=>updateSeq L (·.push v)) R E s)(h2:¬c->I s)(h3:∀s1,I s1->wpAny M A rest Q E s1):
  wpAny M A (if c then(X>>=λv=>updateSeq L (·.push v)>>=λ_=>rest)else rest) Q E s:=by
 by_cases hc:c
 ·rw[if_pos hc]
  have:=wpAny_bind (f:=λ_=>rest) (h1 hc (λ_ s'=>wpAny M A rest Q E s') λs1 h=>h3 s1 h)
  simpa only[bind_assoc]using this
 ·rw[if_neg hc];exact h3 _ (h2 hc)
theorem cA (ok:Γ.Ok){p:Addr}{xs:List Nat}{t:Tok}{lam:Value}{L:Addr}{k:Nat}{R:Result->Shared->Prop}(hx:xs.length<=2000)
  (hl:∀args,Mh Γ (A.under (.builtin "re.Pattern.sub.loop" args)) G₀ lam (oE p xs)):
  ∀(f:Nat) (G:Gh) (ι:List Addr) (σ:St) (s:Shared) (pos:Nat) (n:Int) (must:Bool) (ps:List (List Nat)),xs.length-pos<f->pos<=xs.length->Aa Γ K env G ι σ s->Ko G p->G₀.le G->ι[k]? =some L->σ.own[k]? =some (ps.map D.str)->
   ps.flatten=B8 (xs.take pos)->ps.length<=2*pos->
   (∀G' ι' (ps':List (List Nat)) s' v,G.le G'->A1 ι ι'->Aa Γ K env G' ι' {σ with own:=σ.own.set k (ps'.map D.str)} s'->Bb G' ι' (.str (B8 xs)) v->R (.ok (.ret v)) s')->
   codeAny (model Γ.prog Γ.w) A (.builtin "re.Pattern.sub.loop" (Uh p xs t lam n pos must L)) R s:=by
 intro f
 induction f with
 |zero=>intro G ι σ s pos n must ps h;exact(oO h).elim
 |succ f ih=>
  intro G ι σ s pos n must ps hf hpos F hp hG hk hown hps hlen hR
  refine codeAny_builtin Ts ?_
  have hki:k<σ.own.length:=(List.getElem?_eq_some_iff.mp hown).1
  have F0:Aa Γ K env G ι {σ with own:=σ.own.set k (ps.map D.str)} s:=by rw[cM hown];exact F
  unfold Builtin.«re.Pattern.sub.loop» Uh
  refine wpAny_bind (M4 F.store.gin hp ?_)
  have hfi:=aC xs pos
  refine wpAny_bind (bU (t:=tgt p ⟨xs.toArray⟩ t) rfl rfl ?_)
  show match Kg xs.toArray pos xs.toArray.size with|none=>_|some p=>_
  rw[size_toArray]
  have slice:∀{α:Type} {b e:Nat} {c:Value->Sem α} {Q:α->Shared->Prop} {E:Value->Shared->Prop} {A':Around} {σ':St} {s1:Shared},Aa Γ K env G ι σ' s1->
    (∀v s2,Bb G ι (.str ((xs.drop b).take (e-b))) v->Aa Γ K env G ι σ' s2->wpAny (model Γ.prog Γ.w) A' (c v) Q E s2)->wpAny (model Γ.prog Γ.w) A' (reSlice (tgt p ⟨xs.toArray⟩ t).text (tgt p ⟨xs.toArray⟩ t).kind b e>>=c) Q E s1:=by
   intro α b e c Q E A' σ' s1 F1 h
   have ee:xs.toArray.extract b e=((xs.drop b).take (e-b)).toArray:=by simp
   refine wpAny_bind ?_
   show wpAny _ _ (mkStr ⟨xs.toArray.extract b e⟩) _ _ _
   rw[ee]
   exact wpAny_mkStr (h _ _ ⟨_,rfl⟩ (F1.toks _ (succ_pos _))) (by rw[Az];unfold sizeLine;simp;exact le_trans (Ah (add_le_add (add_le_add (min_le_right (e-b) (xs.length-b)) (sub_le (xs.length) (b))) hx)) b6)
  cases hq:Kg xs.toArray pos xs.length with
  |none=>
   rw[hq]at hfi
   dsimp only at hfi⊢
   refine Rb (λs1=>∃ps1:List (List Nat),Aa Γ K env G ι {σ with own:=σ.own.set k (ps1.map D.str)} s1/\ps1.flatten=B8 xs/\ps1.length<=2*xs.length+1) (λhc R hRR=>?_) (λhc=>?_) λs1 V=>Ay V λps1 F1 hp1 hl1=>?_
   ·refine slice F0 λv s2 rv F2=>Ow F2 hk (List.getElem?_set_self hki) rv ?_ λs3 F3=>hRR s3 ⟨ps++[(xs.drop pos).take (xs.length-pos)],?_,?_,?_⟩
    ·rw[length_map];unfold sizeLine;exact lt_of_le_of_lt (Ah (add_le_add (add_le_add hlen (mul_le_mul_left 2 hpos)) (mul_le_mul_left 2 hx))) b6
    ·have e0:(tgt p ⟨xs.toArray⟩ t).lim=xs.length:=size_toArray
     rw[e0]at F3
     simpa using F3
    ·rw[flatten_append,hps]
     have e1:(xs.drop pos).take (xs.length-pos)=xs.drop pos:=take_of_length_le (by simp)
     rw[e1,List.flatten_singleton]
     conv=>rhs;rw[<-take_append_drop pos xs,Dw,hfi]
    ·simp;exact Ah (add_le_add hlen (mul_le_mul_left 2 hpos))
   ·have hc2:¬pos<xs.length:=by simpa[tgt]using hc
    refine⟨ps,F0,?_,by exact Ah (add_le_add hlen (mul_le_mul_left 2 hpos))⟩
    rw[hps,take_of_length_le (by exact Ah (not_lt.1 hc2))]
   ·refine slice F1 λv s2 rv F2=>?_
    refine Ac (F2.store.at_ k L _ hk (List.getElem?_set_self hki)) λvs Z rl=>?_
    refine Af Z λnn ho=>?_
    clear Z
    refine wpAny_bind (wpAny_seqItems ho rfl ?_)
    have hzz:=rl.length
    rw[length_map]at hzz
    by_cases hv:((some vs.toArray).getD #[]).isEmpty=true
    ·rw[if_pos hv]
     have hps0:ps1=[]:=by
      have:vs=[]:=by simpa using hv
      subst this
      exact List.length_eq_zero_iff.mp hzz.symm
     subst hps0
     have e0:B8 xs=[]:=by rw[<-hp1];rfl
     exact wpAny_pure (hR G ι [] s2 v (Gh.le.refl _) (A1.refl _) F2 (by rw[e0];exact rv))
    ·rw[if_neg hv]
     have hsum:(ps1.map λx=>x.length+(cs "").length).sum<=sizeLine:=by
      have h5:(cs "").length=0:=by decide
      have h6:=K5 xs
      rw[<-hp1,length_flatten]at h6
      simp only[h5,Nat.add_zero]
      exact le_trans h6 (by unfold sizeLine;exact le_trans (Ah (mul_le_mul_left 2 hx)) b6)
     refine wpAny_bind (wpAny_mono (Nv F2 (d:=.str []) (ds:=[.obj k]) (Q:=λd σ'=>d=.str (B8 xs)/\σ'={σ with own:=σ.own.set k (ps1.map D.str)}) rv ⟨.ref L,[],rfl,⟨L,hk,rfl⟩,rfl⟩ ⟨[],_,ps1,rfl,rfl,List.getElem?_set_self hki,hsum,?_,rfl⟩) (λv' s3 U=>Eh U λG3 ι3 d3 σ3 l3 p3 r3 F3 e3 e4=>?_) λ_ _ x=>x.elim)
     ·rw[show Eg [] ps1=ps1.flatten from Fi _,hp1]
     ·subst e3 e4
      exact wpAny_pure (hR G3 ι3 ps1 s3 v' l3 p3 F3 r3)
  |some q=>
   rw[hq]at hfi
   refine Ae hfi λhpq Y=>?_
   try clear hfi
   refine Ay Y λc hc ha htk=>?_
   clear Y
   intro m h1 h2 h3 h4 h5
   dsimp only
   rw[h1]
   have hql:q<xs.length:=(List.getElem?_eq_some_iff.mp hc).1
   refine Rb (λs1=>∃ps1:List (List Nat),Aa Γ K env G ι {σ with own:=σ.own.set k (ps1.map D.str)} s1/\ps1.flatten=B8 (xs.take q)/\ps1.length<=2*q) (λhcc R hRR=>?_) (λhcc=>?_) λs1 z0=>Ay z0 λps1 F1 hp1 hl1=>?_
   ·have hcc:pos<q:=by simpa using hcc
    refine slice F0 λv s2 rv F2=>Ow F2 hk (List.getElem?_set_self hki) rv ?_ λs3 F3=>hRR s3 ⟨ps++[(xs.drop pos).take (q-pos)],?_,?_,?_⟩
    ·rw[length_map];unfold sizeLine;exact lt_of_le_of_lt (Ah (add_le_add (add_le_add hlen (mul_le_mul_left 2 hpos)) (mul_le_mul_left 2 hx))) b6
    ·simpa using F3
    ·rw[flatten_append,hps,List.flatten_singleton,Vp xs hpq,Dw,htk]
    ·simp;exact Ah (add_le_add hlen (mul_le_mul_left 2 hcc))
   ·have hcc:¬pos<q:=by simpa using hcc
    have:pos=q:=by exact le_antisymm (Ah hpq) (Ah (not_lt.1 hcc))
    subst this
    exact⟨ps,F0,hps,hlen⟩
   ·refine bV (by decide) (wpAny_bind (Qa (t:=t) ok F1 hp h1 h2 h3 h4 h5 λG2 v2 s2 l2 hm F2=>?_))
    refine wpAny_bind (wpAny_holding (Qc (by decide) (wpAny_mono (H5 (hl _) (hG.trans l2) F2 (ds:=[.sem (Fh p ⟨xs.toArray⟩ q)]) (Q:=λd σ'=>d=.str [92,c]/\σ'={σ with own:=σ.own.set k (ps1.map D.str)}) ⟨v2,[],rfl,⟨G2,Gh.le.refl _,hm⟩,rfl⟩ ⟨q,c,rfl,hc,rfl,rfl⟩) (λv3 s3 z1=>Eh z1 λG3 ι3 d3 σ3 l3 p3 r3 F3 e3 e4=>?_) λ_ _ x=>x.elim)))
    subst e3 e4
    have r3':=r3
    refine Af r3 λt3 z2=>?_
    try clear r3
    subst z2
    refine Qc rfl (wpAny_bind (Ow F3 (p3 _ _ hk) (List.getElem?_set_self hki) r3' (by rw[length_map];unfold sizeLine;exact lt_of_le_of_lt (Ah (add_le_add (add_le_add hl1 (mul_le_mul_left 2 hql)) (mul_le_mul_left 2 hx))) b6) λs4 F4=>?_))
    rw[h2]
    have hst:(σ.own.set k (ps1.map D.str)).set k (ps1.map D.str++[.str [92,c]])=σ.own.set k ((ps1++[[92,c]]).map D.str):=by simp
    rw[hst]at F4
    refine wpAny_pure ⟨plainId_quiet H0 _,ih G3 ι3 {σ with own:=σ.own.set k ((ps1++[[92,c]]).map D.str)} s4 (q+1) (n+1) (q+1==q) (ps1++[[92,c]]) (by exact Ah (add_le_add (add_le_add (add_le_add (le_of_eq (sub_add_cancel (Ah hql:q+1<=xs.length))) (Bp (xs.length) (pos))) hf) hpq)) (by exact Ah hql) F4 (hp.mono (l2.trans l3)) ((hG.trans l2).trans l3) (p3 _ _ hk) (List.getElem?_set_self hki) ?_ ?_ λG5 ι5 ps5 s5 v5 l5 p5 F5 r5=>?_⟩
    ·rw[flatten_append,hp1,List.flatten_singleton,take_add_one,hc,Dw]
     congr 1
     show[92,c]=B8 [c]
     unfold B8
     rw[flatMap_cons,if_pos ha];rfl
    ·simp;exact Ah hl1
    ·refine hR G5 ι5 ps5 s5 v5 ((l2.trans l3).trans l5) (p3.trans p5) ?_ r5
     simpa using F5
end
end
section
open PySem.Sre PySem.Builtin.Re
theorem Mt:PlainAttrs "re.Pattern":=
 ⟨⟨"object.__getattribute__",by rw[typeLookup_type,builtinLookup_eq_fast];kernel_rfl,by decide +kernel⟩,by rw[typeLookup_type,builtinLookup_eq_fast];kernel_rfl⟩
theorem Gc:Slot "re.Pattern" (ofString "sub") "re.Pattern.sub":=
 .of (owner:="re.Pattern") (n:="sub") (by rw[typeLookup_type,builtinLookup_eq_fast];kernel_rfl) (by decide +kernel) (by decide +kernel) (by decide +kernel)
  (by first|exact .inl (by decide +kernel)|exact .inr (by decide +kernel)) (by rw[isSubtype_type];kernel_rfl)
theorem Qf:typeOf (.builtin "re.Pattern.sub")=pure (.type "method_descriptor"):=by show builtinType _=_;rw[builtinType_eq_fast];kernel_rfl
theorem Pg:entryFor table "re.Pattern.sub"=some Builtin.«re.Pattern.sub»:=entryFor_of_fast (by kernel_rfl)
theorem R9 (a b c:Value):argsOk "re.Pattern.sub" ⟨[a,b,c],[]⟩:=by unfold argsOk;kernel_rfl
theorem Ms:PlainAttrs "re.Match":=
 ⟨⟨"object.__getattribute__",by rw[typeLookup_type,builtinLookup_eq_fast];kernel_rfl,by decide +kernel⟩,by rw[typeLookup_type,builtinLookup_eq_fast];kernel_rfl⟩
theorem Ha:Slot "re.Match" (ofString "group") "re.Match.group":=
 .of (owner:="re.Match") (n:="group") (by rw[typeLookup_type,builtinLookup_eq_fast];kernel_rfl) (by decide +kernel) (by decide +kernel) (by decide +kernel)
  (by first|exact .inl (by decide +kernel)|exact .inr (by decide +kernel)) (by rw[isSubtype_type];kernel_rfl)
theorem Mk:typeOf (.builtin "re.Match.group")=pure (.type "method_descriptor"):=by show builtinType _=_;rw[builtinType_eq_fast];kernel_rfl
theorem Lz:entryFor table "re.Match.group"=some Builtin.«re.Match.group»:=entryFor_of_fast (by kernel_rfl)
theorem M2 (a b:Value):argsOk "re.Match.group" ⟨[a,b],[]⟩:=by unfold argsOk;kernel_rfl
end
section
open PySem.Sre PySem.Builtin.Re
noncomputable def eL (p:Addr):Mine.Cf:=λds own Q=>∃(xs:List Nat) (q c:Nat),ds=[.sem (Fh p ⟨xs.toArray⟩ q)]/\xs[q]? =some c/\Q (.str [92,c]) own
noncomputable def Xg (Γ:W) (p:Addr) (G₀:Gh) (v:Value):Prop:=(∃a o,v=.ref a/\G₀ a=some o/\o.cls=.type "function")/\
 ∀A':Around,A'.handled=none->A'.depth+152<recursionLimit->A'.units+508<cLine->Mh Γ A' G₀ v (eL p)
theorem Wp:typeLookup (.type "function") (ofString "__call__")=pure (some (.builtin "function.__call__")):=by rw[typeLookup_type,builtinLookup_eq_fast];kernel_rfl
section
variable {α β γ δ:Type}{Γ:W}{K:Cw}{A:Around}{env:Env}{G G₀ G':Gh}{ι ι':List Addr}{σ:St}{s s':Shared}
theorem Xv (ok:Γ.Ok)(hA:Bi 1 A){p:Addr}{xs:List Nat}{vs:List Value}{Q:D->St->Prop}(hp:Ko G p)(hpt:∃o,G p=some o/\o.cls=.type "re.Pattern")(hx:xs.length<=2000)(F:Aa Γ K env G ι σ s)(r:RelL G ι [.sem (Xg Γ p),.str xs] vs)
  (q:∀ps:List (List Nat),Q (.str (B8 xs)) {σ with own:=σ.own++[ps.map D.str]}):wpAny (model Γ.prog Γ.w) A (call (.builtin "re.Pattern.sub") (.ref p::vs)) (As Γ K env VR G ι Q) (λ_ _=>False) s:=by
 refine Aj r λlam w z0 Z Y=>?_
 try clear r
 subst z0
 refine Ay Z λG₀ hG V hl=>?_
 clear Z
 refine Aj V λa o z1 ho hc=>?_
 clear V
 subst z1
 refine Aj Y λv2 w2 z2 U e=>?_
 clear Y
 subst z2
 refine Af U λt z3=>?_
 clear U
 subst z3
 obtain rfl:=Bs e
 refine Ac hpt λop hop hopc=>?_
 try clear hpt
 have hin:=F.store.gin
 refine wpAny_call (codeAny_call_builtin Gc.plain Pg (Gc.check _ _ _ _ _ _ _ _ ⟨op,hin _ _ hop,hopc⟩ (R9 _ _ _) ?_))
 unfold Builtin.«re.Pattern.sub» reSubstitute
 refine wpAny_bind (m:=reNamed "re.Pattern.sub" "sub" ["repl","string","count"] 2 [.ref a,.str ⟨xs.toArray⟩ t] []) (wpAny_of_eq (a:=[some (.ref a),some (.str ⟨xs.toArray⟩ t),none]) (by first|rfl|kernel_rfl!) ?_)
 refine wpAny_bind (wpAny_of_eq (a:=0) rfl ?_)
 refine wpAny_bind (wpAny_specialOf (T:="function") ⟨o,hin _ _ (hG _ _ ho),hc⟩ Wp ?_)
 refine Qc rfl (wpAny_bind (wpAny_pure (Qc rfl (wpAny_bind (wpAny_pure ?_)))))
 refine wpAny_bind (wpAny_holding (M4 hin hp (Qc rfl (wpAny_bind ?_))))
 unfold reNotHeld
 refine wpAny_bind (wpAny_isInstance (T:="str") (b:=false) rfl (by rw[isSubtype_type];kernel_rfl) (bV (by decide) (wpAny_pure ?_)))
 refine wpAny_bind (wpAny_newList ?_)
 have F1:=F.newOwn (ds:=[]) (vs:=[]) rfl 0 s.toks F.tk
 refine wpAny_pure ⟨plainId_quiet H0 _,?_⟩
 have hl2:∀args,Mh Γ (A.under (.builtin "re.Pattern.sub.loop" args)) G₀ (.ref a) (oE p xs):=λargs=>by
  rw[Around.under_plainId H0 args]
  exact(hl A.in1 hA.handled (by have:=hA.depth;show A.depth+152<recursionLimit;exact Ah this) (by have:=hA.units;show A.units+1+508<cLine;exact Ah this)).imp λds own Q h3_=>by refine Aj h3_ λq c h1 h2 h3=>?_;try clear h3_;exact⟨xs,q,c,h1,h2,h3⟩
 have hk:(ι++[s.heap.objs.size])[σ.own.length]? =some s.heap.objs.size:=by rw[<-F.store.len];simp
 refine cA ok hx hl2 (xs.length+1) G (ι++[s.heap.objs.size]) {σ with own:=σ.own++[[]]} _ 0 0 false [] (by exact Ah (sub_le (xs.length) (0))) (zero_le _) F1 hp hG hk (Ai _ _) rfl (zero_le _) λG' ι' ps' s' v l' p' F' r'=>?_
 have hst:(σ.own++[[]]).set σ.own.length (ps'.map D.str)=σ.own++[ps'.map D.str]:=B4 _ _ _
 have F'':Aa Γ K env G' ι' {σ with own:=σ.own++[ps'.map D.str]} s':=by rw[<-hst];exact F'
 exact(As.mk' (R:=VR) r' F'' (q ps')).up l' ((A1.append _ _).trans p')
end
end
section
open PySem.Sre PySem.Builtin.Re
section
variable {α β γ δ:Type}{Γ:W}{K:Cw}{A:Around}{env:Env}{G G₀ G':Gh}{ι ι':List Addr}{σ:St}{s s':Shared}
theorem Tm {p:Addr}{xs:List Nat}{q c:Nat}{v:Value}{vs:List Value}{Q:D->St->Prop}(F:Aa Γ K env G ι σ s)(r0:Bb G ι (.sem (Fh p ⟨xs.toArray⟩ q)) v)(r:RelL G ι [.int 1] vs)(hc:xs[q]? =some c)(hq:Q (.str [c]) σ):
  wpAny (model Γ.prog Γ.w) A (call (.builtin "re.Match.group") (v::vs)) (As Γ K env VR G ι Q) (λ_ _=>False) s:=by
 refine Aj r λw w2 V Z e=>?_
 try clear r
 subst V
 refine Af Z λt U=>?_
 clear Z
 subst U
 obtain rfl:=Bs e
 refine Ac r0 λG₀ hG Y=>?_
 try clear r0
 refine fT Y λa o tx tup ot n z0 h1 h2 hdict hslots h3 hre h4 h5=>?_
 clear Y
 subst z0
 have hin:=F.store.gin
 have hql:q<xs.length:=(List.getElem?_eq_some_iff.mp hc).1
 refine wpAny_call_entry Ha ⟨o,hin _ _ (hG _ _ h1),h2⟩ Lz ?_ (M2 _ _)
 unfold Builtin.«re.Match.group»
 refine wpAny_bind (wpAny_of_eq (a:=()) (by first|rfl|kernel_rfl!) ?_)
 refine wpAny_bind (wpAny_bind (wpAny_fieldsOf (hin _ _ (hG _ _ h1)) h3 (wpAny_bind (Qb (hin _ _ (hG _ _ h4)) h5 (wpAny_pure ?_)))))
 have hmap:Array.map reRawOf #[rawInt q,rawInt (q+1:Nat),rawInt q,rawInt (q+1:Nat)]=#[(q:Int),((q+1:Nat):Int),(q:Int),((q+1:Nat):Int)]:=by with_unfolding_all rfl
 rw[hmap]
 dsimp only
 refine wpAny_bind (wpAny_of_eq (a:=(1:Nat)) (by first|rfl|kernel_rfl!) ?_)
 unfold reGroupText
 dsimp only
 refine wpAny_bind (bV ?hn ?_)
 case hn=>
  show¬((decide ((q:Int)<0)||decide (((q+1:Nat):Int)<0))=true)
  rw[decide_eq_false (by exact Wl (n:=q) rfl),decide_eq_false (by exact Wl (n:=(q+1)) rfl)];decide
 refine wpAny_bind (m:=reTextOf (.str ⟨xs.toArray⟩ tx)) (wpAny_of_eq (a:=(xs.toArray,0)) rfl ?_)
 have hex:xs.toArray.extract q (q+1)=[c].toArray:=by
  have h6:(xs.drop q).take 1=[c]:=by
   rw[List.drop_eq_getElem_cons hql,List.take_succ_cons,List.take_zero]
   rw[List.getElem?_eq_getElem hql]at hc
   cases hc;rfl
  simp[h6]
 show wpAny _ _ (mkStr ⟨xs.toArray.extract q (q+1)⟩) _ _ _
 rw[hex]
 exact wpAny_mkStr (wpAny_pure ⟨_,rfl,(As.mk' (R:=VR) (b:=.str [c]) ⟨_,rfl⟩ (F.toks _ (succ_pos _)) hq)⟩) (by show 1<=sizeLine;decide)
theorem hM {o:Expr}{apos pos:Pos}{e:Expr}{T0:TT}{T:St->(List D->St->Prop)->Prop}(h0:Bm Γ A env o T0)(h:Ky Γ A env pos [e] T)(hs:starEach [e] env=(false,eval e env)::starEach [] env)
  (hbase:attributeBase o (ofString "group") env (eval o env)=eval o env)
  (hfew:((backTo pos (starEach [e] env)).all (λx=> !x.1)&&(backToKw pos (keywordEach [] env)).all (λx=>x.1.isSome)&&decide ([e].length+([]:List Keyword).length+(if([]:List Keyword).isEmpty then 0 else 1)<30))=true)
  (hline:(apos.endLine==pos.line)=true):
  Bm Γ A env (.Call (.Attribute o (ofString "group") apos) [e] [] pos) (λσ Q=>T0 σ λd σ=>(∃(p:Addr) (xs:List Nat) (q:Nat),d=.sem (Fh p ⟨xs.toArray⟩ q))/\T σ λds σ=>∃(p:Addr) (xs:List Nat) (q c:Nat),d=.sem (Fh p ⟨xs.toArray⟩ q)/\ds=[.int 1]/\xs[q]? =some c/\tV (.str [c]) σ Q):=
 Nh (ok:=λd _=>∃(p:Addr) (xs:List Nat) (q:Nat),d=.sem (Fh p ⟨xs.toArray⟩ q)) (S:=λd ds σ Q=>∃(p:Addr) (xs:List Nat) (q c:Nat),d=.sem (Fh p ⟨xs.toArray⟩ q)/\ds=[.int 1]/\xs[q]? =some c/\Q (.str [c]) σ)
  Ms Ha Mk (λF r Y=>Vc Y λp xs q e=>by
   subst e
   refine Ac r λG₀ hG Z=>?_
   try clear r
   refine nH Z λa o tx tup ot n V h1 h2 hdict _=>?_
   clear Z
   subst V
   have:=F.store.gin _ _ (hG _ _ h1)
   exact⟨⟨o,this,h2⟩,λb e=>by cases e;exact⟨o,this,hdict⟩⟩) (λF r rl h3_=>by refine Fp h3_ λp xs q c e1 e2 hc hq=>?_;try clear h3_;subst e1 e2;exact Tm F r rl hc hq) h0 h hs rfl hbase hfew hline
theorem gZ (ok:Γ.Ok)(hA:Bi 1 A){p:Addr}(hp:Ko (λa=>Γ.B.get? a) p)(hpt:∃o,Γ.B.get? p=some o/\o.cls=.type "re.Pattern"/\o.dict=none){o:Expr}{apos pos:Pos}{e:Expr}{es:List Expr}{T0:TT}{T:St->(List D->St->Prop)->Prop}(h0:Bm Γ A env o T0)(h:Ky Γ A env pos (e::es) T)
  (hs:starEach (e::es) env=(false,eval e env)::starEach es env)(hpp:(backTo pos (starEach es env)).any (·.1)=false)
  (hbase:attributeBase o (ofString "sub") env (eval o env)=eval o env)
  (hfew:((backTo pos (starEach (e::es) env)).all (λx=> !x.1)&&(backToKw pos (keywordEach [] env)).all (λx=>x.1.isSome)&&decide ((e::es).length+([]:List Keyword).length+(if([]:List Keyword).isEmpty then 0 else 1)<30))=true)
  (hline:(apos.endLine==pos.line)=true):
  Bm Γ A env (.Call (.Attribute o (ofString "sub") apos) (e::es) [] pos) (λσ Q=>T0 σ λd σ=>d=.raw (.ref p)/\T σ λds σ=>d=.raw (.ref p)/\∃xs:List Nat,ds=[.sem (Xg Γ p),.str xs]/\xs.length<=2000/\∀ps:List (List Nat),Q (.str (B8 xs)) {σ with own:=σ.own++[ps.map D.str]}):=
 Nh (ok:=λd _=>d=.raw (.ref p)) (S:=λd ds σ Q=>d=.raw (.ref p)/\∃xs:List Nat,ds=[.sem (Xg Γ p),.str xs]/\xs.length<=2000/\∀ps:List (List Nat),Q (.str (B8 xs)) {σ with own:=σ.own++[ps.map D.str]})
  Mt Gc Qf (λF r e=>by
   subst e;cases r
   refine Ay hpt λo ho h1 h2=>?_
   try clear hpt
   have:=F.store.gin _ _ (F.store.base _ _ ho)
   exact⟨⟨o,this,h1⟩,λb e=>by cases e;exact⟨o,this,h2⟩⟩) (λF r rl Z=>Ae Z λe Y=>Ay Y λxs e2 hx hq=>by
   subst e e2;cases r
   refine Ay hpt λo ho h1 h2=>?_
   try clear hpt
   exact Xv ok hA (hp.mono F.store.base) ⟨o,F.store.base _ _ ho,h1⟩ hx F rl hq) h0 h hs hpp hbase hfew hline
end
end
section
variable {α β γ δ:Type}{Γ:W}{K:Cw}{A:Around}{env:Env}{G G₀ G':Gh}{ι ι':List Addr}{σ:St}{s s':Shared}
theorem rY {A:Around}(ok:Γ.Ok){a:Addr}{fd:FuncData}{ps:List String}{fr:List (String×D)}(N:gJ Γ G₀ a fd ps fr)(h1:A.handled=none)(h2:A.depth+150<recursionLimit)(h3:A.units+500<cLine)(L:Addr):Ev Γ A (Bt fd L a) where
 ok:=ok
 kind:=N.kind
 glob:=N.glob
 bui:=N.bui
 handled:=h1
 depth:=h2
 units:=h3
noncomputable def O7 (p1 p2 p3 p4 p5 p6 p7 p8:Pos):Expr:=.BinOp (.Constant (.str (ofString "\\")) 0 p1) .Add (.BoolOp .Or [.Call (.Attribute (.Name (ofString "_m") p2) (ofString "group") p3) [.Constant (.int 1) 0 p4] [] p5,.Constant (.str (ofString "")) 0 p6] p7) p8
noncomputable def Td (p1:Pos):Arguments:=⟨[],[⟨ofString "_m",none,p1⟩],none,[],[],none,[]⟩
theorem iP (ok:Γ.Ok){p:Addr}{qual:Str}{pm v:Value}{scope:Scope}{p1 p2 p3 p4 p5 p6 p7 p8 p9:Pos}(hl:(p3.endLine==p5.line)=true)(hk:scope.names.lookup (ofString "_m")=some .local)(hnc:∀x∈scope.names,x.2≠ .cell)(hkd:scope.kind=.function)(hco:scope.isCoroutine=false)(hgn:scope.isGenerator=false)
  (h:Oa "<lambda>" qual (Td p9) (O7 p1 p2 p3 p4 p5 p6 p7 p8) scope [] pm G v):Xg Γ p G v:=by
 refine Cs h λa o cv ctv Y h1 h2 h3 h4=>?_
 try clear h
 subst Y
 refine⟨⟨a,o,rfl,h1,h2⟩,λA' e1 e2 e3=>?_⟩
 have N:gJ Γ G a (kla_fn "<lambda>" qual (Td p9) (O7 p1 p2 p3 p4 p5 p6 p7 p8) scope [] pm cv ctv) ["_m"] []:={
  obj:=⟨o,h1,h3⟩
  code:=h4
  glob:=rfl
  bui:=rfl
  bind:=λvs hv=>by
   refine Af (List.length_eq_one_iff.mp hv) λv V=>?_
   subst V
   first|rfl|kernel_rfl!
  kinds:=λq hq=>by rw[mem_singleton.mp hq];exact hk
  nodup:=by decide
  nocell:=hnc
  free:=λx d e=>nomatch e
  freeAll:=λx c e=>nomatch e
  kind:=hkd
  co:=hco
  gen:=hgn}
 refine'(mL ok N rfl (by exact Ah e2) (λL=>?w)).imp ?p
 case w=>
  have H:=rY (A:=A'.deeper (Bt (kla_fn "<lambda>" qual (Td p9) (O7 p1 p2 p3 p4 p5 p6 p7 p8) scope [] pm cv ctv) L a)) ok N e1 (by rw[depth_deeper];exact Ah e2) (by show A'.units+3+500<_;exact Ah e3) L
  exact Kl H Ig (lC (hM (Cb H (by decide) (by decide)) (B3 Hx Dc rfl) rfl rfl rfl hl) Ig)
 case p=>
  intro ds own Q Z
  refine Fq Z λxs q c U hc hq=>?_
  clear Z
  subst U
  refine⟨rfl,?_⟩
  refine sV (Ab rfl ⟨⟨p,xs,q,rfl⟩,sV ⟨p,xs,q,c,rfl,rfl,hc,⟨by show 1<2^62;decide,sT ⟨rfl,by show 1+1<=sizeLine;decide,?_⟩⟩⟩⟩)
  exact hq
end
section
variable {prog:Program}{w:World}{A:Around}
noncomputable def qH (C I ax:Addr)(N:Nat)(F:Nat->Value->Prop):Protocol:=λm s₀ v s kap=>
 (∃i,i+1+m=N/\F i v)/\(GenSince C [I] s₀ s/\s₀.toks<=s.toks)/\∀s'':Shared,(∀b∈[C,I,ax],∀o,s.heap.get? b=some o->s''.heap.get? b=some o)->0<s''.toks->kap (.send .none) s''
noncomputable def qI (C I:Addr):Nat->Shared->Result->Shared->Prop:=λn s₀ r s₁=>r=.ok .next/\(n=0/\(GenSince C [I] s₀ s₁/\s₀.toks<=s₁.toks))
noncomputable def Se (prog:Program) (w:World) (cenv:Env) (x:Str) (elt:Expr) (items:Array Value) (F:Nat->Value->Prop):Prop:=
 ∀(A':Around) E' i v (s₂:Shared) m₂,A'.handled=none->items[i]? =some v->0<s₂.toks->s₂.heap.Ns cenv.locals m₂->m₂ x=some v->wpAny (model prog w) A' (eval elt cenv) (λy s₃=>F i y/\Keeps s₂ s₃) E' s₂
theorem iV {elt iter:Expr}{x:Str}{px:Pos}{scope:Scope}{pos:Pos}{I ax:Addr}{items:Array Value}{cenv:Env}(hh:A.handled=none)(hne:ax≠I)(F:Nat->Value->Prop)
  (hx:cenv.kindOf x=some .local)(hp:(cenv.scope.kind== .class||(cenv.scope.kind== .module&&cenv.locals != cenv.globals))=false)(hco:cenv.scope.isCoroutine=false)(hCI:cenv.locals≠I)(hCx:cenv.locals≠ax)
  (hq:Se prog w cenv x elt items F):
  ∀(k i:Nat) (s₀ s:Shared) (m:Str->Option Value),i+k=items.size->s.heap.IsListIter I ax i->s.heap.IsList ax items->s.heap.Ns cenv.locals m->GenSince cenv.locals [I] s₀ s->s₀.toks<=s.toks->0<s.toks->
   Seg (model prog w) A (qI cenv.locals I) (qH cenv.locals I ax items.size F) k s₀
    (.compLoop (.GeneratorExp elt [⟨.Name x px,iter,[],0⟩] scope pos) 0 (.ref I) .none cenv)
    ((model prog w).den (.compLoop (.GeneratorExp elt [⟨.Name x px,iter,[],0⟩] scope pos) 0 (.ref I) .none cenv)) [] s:=by
 have hh':(A.over (.compLoop (.GeneratorExp elt [⟨.Name x px,iter,[],0⟩] scope pos) 0 (.ref I) .none cenv) []).handled=none:=hh
 have W₀:=λ{A':Around} (h:A'.handled=none)=>Walks.list (prog:=prog) (w:=w) h I ax hne items
 have hCf:cenv.locals∉[I,ax]:=by simp[hCI,hCx]
 have hCw:cenv.locals∉[I]:=by simp[hCI]
 intro k
 induction k with
 |zero=>
  intro i s₀ s m hk hit hl hn hsince htk hpos
  have hin:i=items.size:=by exact le_antisymm (Ah (le_of_eq hk)) (Ah (le_of_eq hk.symm))
  subst hin
  show Seg _ A _ _ _ s₀ _ ((compTurn (.GeneratorExp elt [⟨.Name x px,iter,[],0⟩] scope pos) 0 (.ref I) .none cenv).onRaise (leaving cenv)) [] s
  rw[compTurn_gen,Sem.onRaise_eq_wrap]
  refine seg_bind_wrap (wpAny_standAt ?_)
  refine seg_bind_wrap (wpAny_mono (A4 ((W₀ hh').done s (λr s'=>∃h' tk,r=none/\s'={s with heap:=h',toks:=tk}/\∀b o,b∉[I]->s.heap.get? b=some o->h'.get? b=some o) _ ⟨hit,hl⟩ λh' tk hk'=>⟨h',tk,rfl,rfl,hk'⟩)) (λr s' V=>Ae V λU hle=>Aj U λh' tk e1 e2 hk'=>?_) λ_ _ e=>e)
  subst e1 e2
  exact seg_end (.ok .next) ⟨rfl,rfl,hsince.step λb o _ hw e=>hk' b o hw e,le_trans htk hle⟩
 |succ k ih=>
  intro i s₀ s m hk hit hl hn hsince htk hpos
  have hlt:i<items.size:=by exact Ah (le_of_eq hk)
  show Seg _ A _ _ _ s₀ _ ((compTurn (.GeneratorExp elt [⟨.Name x px,iter,[],0⟩] scope pos) 0 (.ref I) .none cenv).onRaise (leaving cenv)) [] s
  rw[compTurn_gen,Sem.onRaise_eq_wrap]
  refine seg_bind_wrap (wpAny_standAt ?_)
  refine seg_bind_wrap (wpAny_mono (A4 ((W₀ hh').item i s (λr s'=>∃v h₁ tk₁,r=some v/\s'={s with heap:=h₁,toks:=tk₁}/\items[i]? =some v/\(h₁.IsListIter I ax (i+1)/\h₁.IsList ax items)/\∀b o,b∉[I]->s.heap.get? b=some o->h₁.get? b=some o) _ hlt ⟨hit,hl⟩
   λv h₁ tk₁ a b c=>⟨v,h₁,tk₁,rfl,rfl,a,b,c⟩)) (λr s' z0=>Ae z0 λz1 hle=>Iw z1 λv h₁ tk₁ e1 e2 hPv hst₁ hk₁=>?_) λ_ _ e=>e)
  subst e1 e2
  refine seg_bind_wrap (wpAny_of_eq (rfl:letOwnedTupleGo (.Name x px) (.ref I) v=pure ()) ?_)
  refine seg_bind_wrap (wpAny_assign_Name (wpAny_storeName_local hx (hn.at' λo e=>hk₁ _ o hCw e) (λh₂ hn₂ hs₂=>?_) hp))
  have up₂:∀b o,b≠cenv.locals->b∉[I]->s.heap.get? b=some o->h₂.get? b=some o:=λb o hbC hbw e=>hs₂.extBut b o hbC (hk₁ b o hbw e)
  have hst₂:h₂.IsListIter I ax (i+1)/\h₂.IsList ax items:=(W₀ hh').frame _ _ _ hst₁ λb hb o e=>hs₂.extBut b o (λh=>hCf (h▸hb)) e
  refine seg_bind_wrap (wpAny_pure ?_)
  simp only[if_true]
  have hy:∀v,yieldOut cenv v=yieldValue v:=λv=>by simp only[yieldOut,hco,Bool.false_eq_true,if_false]
  simp only[hy]
  rw[Sem.bind_eq_wrap',Sem.bind_eq_wrap',Sem.wrap_wrap,Sem.wrap_wrap]
  refine seg_wrap (wpAny_mono (A4 (hq _ _ i v _ _ hh' hPv (succ_pos _) hn₂ (by simp))) (λy s₄ h₄=>?_) λ_ _ e=>e)
  refine Ae h₄ λZ hle₄=>?_
  try clear h₄
  refine Ae Z λhFy Y=>?_
  clear Z
  refine A2 Y λh₄ tk₄ z2 hk₄=>?_
  clear Y
  subst z2
  refine seg_at (seg_yield rfl rfl rfl ⟨⟨i,by exact le_antisymm (Ah (le_of_eq hk)) (Ah (le_of_eq hk.symm)),hFy⟩,⟨hsince.step λb o hbC hbw e=>hk₄ b o (up₂ b o hbC hbw e),le_trans htk (le_trans hle (le_trans (le_succ _) hle₄))⟩,λs'' hal hpos''=>?_⟩)
  have hst'':=(W₀ hh').frame _ _ s''.heap hst₂ λb hb o e=>hal b (mem_cons_of_mem _ hb) o (hk₄ b o e)
  exact seg_again rfl (ih (i+1) s'' s'' _ (by exact le_antisymm (Ah (le_of_eq hk)) (Ah (le_of_eq hk.symm))) hst''.1 hst''.2 ((hn₂.keeps hk₄).at' λo e=>hal _ (mem_cons_self ..) o e) (GenSince.refl _ _ _) (le_refl _) hpos'')
theorem dJ {elt iter:Expr}{x:Str}{px:Pos}{scope:Scope}{pos:Pos}{I ax:Addr}{items:Array Value}{cenv:Env}(hh:A.handled=none)(hne:ax≠I)(F:Nat->Value->Prop)
  (hx:cenv.kindOf x=some .local)(hp:(cenv.scope.kind== .class||(cenv.scope.kind== .module&&cenv.locals != cenv.globals))=false)(hco:cenv.scope.isCoroutine=false)(hCI:cenv.locals≠I)(hCx:cenv.locals≠ax)
  (hq:Se prog w cenv x elt items F)(s:Shared)(m:Str->Option Value)(hit:s.heap.IsListIter I ax 0)(hl:s.heap.IsList ax items)(hn:s.heap.Ns cenv.locals m)(hpos:0<s.toks):
  Seg (model prog w) A (qI cenv.locals I) (qH cenv.locals I ax items.size F) items.size s
   (.compStart (.GeneratorExp elt [⟨.Name x px,iter,[],0⟩] scope pos) 0 (.ref I) .none cenv)
   ((model prog w).den (.compStart (.GeneratorExp elt [⟨.Name x px,iter,[],0⟩] scope pos) 0 (.ref I) .none cenv)) [] s:=by
 have hh':(A.over (.compStart (.GeneratorExp elt [⟨.Name x px,iter,[],0⟩] scope pos) 0 (.ref I) .none cenv) []).handled=none:=hh
 have loop:=iV (iter:=iter) (px:=px) (scope:=scope) (pos:=pos) hh hne F hx hp hco hCI hCx hq items.size 0 s s m (zero_add _) hit hl hn (GenSince.refl _ _ _) (le_refl _) hpos
 have W₀:=λ{A':Around} (h:A'.handled=none)=>Walks.list (prog:=prog) (w:=w) h I ax hne items
 show Seg _ A _ _ _ s _ ((compStart (.GeneratorExp elt [⟨.Name x px,iter,[],0⟩] scope pos) 0 (.ref I) .none cenv).onRaise (leaving cenv)) [] s
 unfold compStart
 rw[Sem.onRaise_eq_wrap]
 show Seg _ A _ _ _ s _ ((ask>>=_).wrap _ _ _ _) [] s
 refine seg_bind_wrap (wpAny_askSetting ?_)
 split
 ·exact seg_again rfl loop
 ·first
   |exact seg_bind_wrap (wpAny_rule (seg_bind_wrap (wpAny_standAt (seg_bind_wrap ((W₀ hh').self 0 s _ _ ⟨hit,hl⟩ (seg_again rfl loop))))))
   |(refine seg_bind_wrap (wpAny_rule ?_);show Seg _ A _ _ _ s _ ((standAt iter.pos>>=_).wrap _ _ _ _) [] s;exact seg_bind_wrap (wpAny_standAt (seg_bind_wrap ((W₀ hh').self 0 s _ _ ⟨hit,hl⟩ (seg_again rfl loop)))))
noncomputable def rB (prog:Program) (w:World) (A:Around) (a:Addr) (g:Nat) (C I ax:Addr) (N:Nat) (F:Nat->Value->Prop) (j:Nat) (s:Shared):Prop:=
 0<s.toks/\s.heap.IsGen a g/\s.heap.NoLimit/\∃gs,s.gens[g]? =some gs/\∀s'':Shared,(∀b∈[C,I,ax],∀o,s.heap.get? b=some o->s''.heap.get? b=some o)->0<s''.toks->
  gs.Goes (model prog w) A.in1 (qI C I) (qH C I ax N F) (N-j) (.send .none) s''
theorem dI (hh:A.handled=none)(a:Addr)(g:Nat)(C I ax:Addr)(N:Nat)(F:Nat->Value->Prop)(haC:a≠C)(haI:a≠I)(hax:a≠ax)(hroom:A.depth<recursionLimit)(hcC:cStatics≠C)(hcI:cStatics≠I):
  WalksS prog w A a [a,C,I,ax,cStatics] [C,I] (GenOnlyQ g) N F (rB prog w A a g C I ax N F) where
 sub:=λb hb=>by
  simp only[mem_cons,not_mem_nil,or_false]at hb⊢
  rcases hb with rfl|rfl<;>simp
 grefl:=λ_=>.inl rfl
 gtrans:=λ_ _ _ x y=>x.trans y
 frame:=λj s h' tk st hle hk=>
  ⟨lt_of_lt_of_le st.1 hle,(by refine B9 st.2.1 λo nm qn ho r=>?_;exact⟨o,nm,qn,hk a (by simp) o ho,r⟩),
   (by refine Ac st.2.2.1 λmc hns hnn=>?_;exact⟨mc,hns.at' λo e=>hk cStatics (by simp) o e,hnn⟩),
   (by refine Ac st.2.2.2 λgs hgs hgo=>?_;exact⟨gs,hgs,λs'' hal hp=>hgo s'' (λb hb o e=>hal b hb o (hk b (mem_cons_of_mem _ (by simp only[mem_cons,not_mem_nil,or_false]at hb⊢;rcases hb with rfl|rfl|rfl<;>simp)) o e)) hp⟩)⟩
 item:=λj s Q E hj st hQ=>by
  refine B7 st λhpos hg hl Z=>?_
  try clear st
  refine Ac Z λgs hgs hgo=>?_
  clear Z
  refine Af (show∃m,N-j=m+1 from⟨N-j-1,by exact cB (Ah hj)⟩) λm hm=>?_
  rw[hm]at hgo
  refine wpAny_pyNext_genexpQ (P:=λn s₀ s₁=>n=0/\(GenSince C [I] s₀ s₁/\s₀.toks<=s₁.toks)) hh hl hroom hg hgs (hgo _ (λ_ _ _ e=>e) hpos) (λv s₁ gs' hb hv=>?_) (λs₁ hp h' hk=>?_)
  ·refine A0 hv λY V hkap=>?_
   try clear hv
   refine Ac Y λi hi hF=>?_
   clear Y
   refine Ae V λU htk=>?_
   clear V
   refine A2 U λh₁ tk₁ z4 hk₁=>?_
   clear U
   subst z4
   have hij:i=j:=by
    have:m+1-1=m:=rfl
    exact le_antisymm (Ah (add_le_add (add_le_add (add_le_add (le_of_eq hi) (Bp (N) (j))) (le_of_eq hm)) (le_of_eq this.symm))) (Ah (add_le_add (add_le_add (add_le_add (le_of_eq (sub_add_cancel (Ah hj:j<=N))) (le_of_eq hi.symm)) (le_of_eq this)) (le_of_eq hm.symm)))
   subst hij
   have htk':s.toks<=tk₁:=htk
   refine hQ v _ hF ⟨lt_of_lt_of_le hpos htk',(by refine B9 hg λo nm qn ho r=>?_;try clear hg;exact⟨o,nm,qn,hk₁ a o haC (by simp[haI]) ho,r⟩),(by refine Ac hl λmc hns hnn=>?_;try clear hl;exact⟨mc,hns.at' λo e=>hk₁ cStatics o hcC (by simp[hcI]) e,hnn⟩),gs',setGen_self (gs:=.running) (setGen_self hgs),λs'' hal hp''=>?_⟩
    ⟨λb o hb e=>hk₁ b o (λh=>hb (h▸mem_cons_self ..)) (λh=>hb (mem_cons_of_mem _ h)) e,GenOnlyQ.of ((GenOnly.setGen s g .running).trans (GenOnly.setGen _ g gs')) (setGen_self (gs:=.running) (setGen_self hgs)) hb,rfl,rfl,htk'⟩
   have e:N-(i+1)=m:=by exact le_antisymm (Ah (add_le_add (add_le_add (le_of_eq (sub_add_cancel (Ah (le_of_eq hi):i+1<=N))) (le_of_eq hi.symm)) (le_of_eq (sub_add_cancel (by simp +arith only:1<=m+1))))) (Ah (add_le_add (add_le_add (Bp (m+1) (1)) (le_of_eq hi)) (Bp (N) (i+1))))
   rw[e]
   exact hkap s'' hal hp''
  ·exact absurd hp.1 (Nat.succ_ne_zero m)
 done:=λs Q E st hQ=>by
  refine B7 st λhpos hg hl z0=>?_
  try clear st
  refine Ac z0 λgs hgs hgo=>?_
  clear z0
  rw[sub_self]at hgo
  refine wpAny_pyNext_genexpQ (P:=λn s₀ s₁=>n=0/\(GenSince C [I] s₀ s₁/\s₀.toks<=s₁.toks)) hh hl hroom hg hgs (hgo _ (λ_ _ _ e=>e) hpos) (λv s₁ gs' hb hv=>?_) (λs₁ hp h' hk=>?_)
  ·refine A0 hv λ_ z1 hkap=>?_
   try clear hv
   refine Ae z1 λz2 htk=>?_
   clear z1
   refine A2 z2 λh₁ tk₁ z5 hk₁=>?_
   clear z2
   subst z5
   exact False.elim (hkap {s with heap:=h₁,toks:=tk₁} (λ_ _ _ e=>e) (lt_of_lt_of_le hpos htk))
  ·refine A0 hp λ_ z3 htk=>?_
   try clear hp
   refine A2 z3 λh₁ tk₁ z6 hk₁=>?_
   clear z3
   subst z6
   have htk':s.toks<=tk₁:=htk
   exact hQ _ ⟨λb o hb e=>hk b o (hk₁ b o (λh=>hb (h▸mem_cons_self ..)) (λh=>hb (mem_cons_of_mem _ h)) e),GenOnlyQ.of ((GenOnly.setGen s g .running).trans (GenOnly.setGen _ g .finished)) (setGen_self (gs:=.running) (setGen_self hgs)) rfl,rfl,rfl,htk'⟩
 self:=λ_ _ _ _ st hQ=>wpAny_pyIter_gen st.2.1 hQ
end
section
variable {α β γ δ:Type}{Γ:W}{K:Cw}{A:Around}{env:Env}{G G₀ G':Gh}{ι ι':List Addr}{σ:St}{s s':Shared}
theorem iX (H:Ev Γ A env){c P:Addr}{pos:Pos}{qual:Str}{scope:Scope}(hcode:env.code=.ref c)(hcP:(c,P)∈Γ.tabs)(mk:∀G cv pos',pos'.line=pos.line->pos'.col=pos.col->Bd G cv qual->Γ.codeOk P pos' G cv)
  (F:Aa Γ K env G ι σ s):wpAny (model Γ.prog Γ.w) A (genexprCode env pos qual scope) (λcode s₃=>∃G1,G.le G1/\Aa Γ K env G1 ι σ s₃/\(∀b o,b≠P->s.heap.get? b=some o->s₃.heap.get? b=some o)/\
   (∀b,b<s.heap.objs.size->G1 b=G b)/\s.heap.objs.size<=s₃.heap.objs.size/\s₃.gens=s.gens/\s₃.os=s.os) (λ_ _=>False) s:=by
 refine A0 (F.store.tabs _ hcP) λtP1 tP2 Z=>?_
 refine Ck Z λps t0 ic Y q=>?_
 clear Z
 refine Af Y λog eg=>?_
 clear Y
 have hP:s.heap.get? P=some (tabObj ps):=t0.2
 cases hf:codeAmong pos ps.toList with
 |none=>
  refine wpAny_mono (A4 (wpAny_genexprCodeX (E:=λ_ _=>False) (Q:=λv s'=>∃(c':Addr) (h':Heap) (tk:Nat) (oc:Obj),Heap.ExtBut P s.heap h'/\s.heap.objs.size<=c'/\c'<h'.objs.size/\h'.get? c'=some oc/\(∀G:Gh,G c'=some oc->Bd G (.ref c') qual)/\h'.get? P=some (tabObj (ps++#[rawInt pos.line,rawInt pos.col,.ref c']))/\
   v=.ref c'/\s'={s with heap:=h',toks:=tk}) hcode ic t0 hf ?_)) (λv s' V=>Ae V λU hle=>nK U λc' h' tk oc h1 h2 h2' h3 h4 h5 e1 e2=>?_) λ_ _ x=>x
  ·intro c' h' tk hx hge hlt _ hrec htb _
   refine Fp hrec λc2 oc vs t e h3 h4 h5=>?_
   try clear hrec
   cases e
   exact⟨c',h',tk,oc,hx,hge,hlt,h3,λG hG=>⟨c',oc,vs,t,rfl,hG,h4,h5⟩,htb.2,rfl,rfl⟩
  ·subst e1 e2
   refine Ae (F.growTab H.ok hcP hP h1 h2 h3 h5 (λpos' e1 e2=>mk _ _ pos' e1 e2 (h4 _ (Gh.put_self _ _ _))) tk (lt_of_lt_of_le F.tk hle)) λl1 F1=>?_
   exact⟨_,l1,F1,λb o hb e=>h1 b o hb e,λb hb=>Gh.put_ne (ne_of_lt (lt_of_lt_of_le hb h2)),le_trans h2 (le_of_lt h2'),rfl,rfl⟩
 |some cv=>exact wpAny_genexprCode_hit hcode ic hf ⟨G,Gh.le.refl _,F,λb o _ e=>e,λ_ _=>rfl,le_refl _,rfl,rfl⟩
theorem iU (H:Ev Γ A env){s₃ s5:Shared}{C I a ax:Addr}{vs:Array Value}{ys:List (List Nat)}{f:List Nat->List Nat}{sep:List Nat}{t:Tok}{elt iter:Expr}{x:Str}{px:Pos}{scope:Scope}{pos:Pos}{code:Value}{m:Str->Option Value}{G1:Gh}{Q:D->St->Prop}
  (F3:Aa Γ K env G1 ι σ s₃)(l1:G.le G1)(hI:∀b,(G1 b≠none\/b∈ι\/b∈Γ.tabs.map (·.2)\/Jz env b\/K.old b≠none)->b≠I)
  (hg5:s5.gens=s₃.gens.push (.fresh (.compStart (.GeneratorExp elt [⟨.Name x px,iter,[],0⟩] scope pos) 0 (.ref I) .none (genEnv scope [] C code builtinsNs env))))(ho5:s5.os=s₃.os)(hd5:s5.drawn=s₃.drawn)(ht5:s₃.toks<=s5.toks)
  (k5:∀b o,s₃.heap.get? b=some o->s5.heap.get? b=some o)(hgen:s5.heap.IsGen a s₃.gens.size)(hn':s5.heap.Ns C m)(hit3:s₃.heap.IsListIter I ax 0)(hl3:s₃.heap.IsList ax vs)
  (hne1:ax≠I)(hne2:C≠I)(hne3:C≠ax)(haC:a≠C)(haI:a≠I)(haax:a≠ax)(hsC:cStatics≠C)(hsI:cStatics≠I)(hfp:∀b∈[a,C,I,ax,cStatics],b<s5.heap.objs.size)(hnl3:s₃.heap.NoLimit)(hC3:C=s₃.heap.objs.size)(hlen:vs.size=ys.length)
  (hx:scope.names.lookup x=some .local)(hkind:scope.kind=.function)(hco:scope.isCoroutine=false)
  (hel:Se Γ.prog Γ.w (genEnv scope [] C code builtinsNs env) x elt vs (λi v=>∃z u,ys[i]? =some z/\v=.str ⟨(f z).toArray⟩ u))
  (hz:((ys.map f).map λx=>x.length+sep.length).sum<=sizeLine)(hn:ys.length<=sizeLine)(q:Q (.str (Eg sep (ys.map f))) σ):
  wpAny (model Γ.prog Γ.w) A (call (.builtin "str.join") [.str ⟨sep.toArray⟩ t,.ref a]) (As Γ K env VR G ι Q) (λ_ _=>False) s5:=by
 have hA:A.in1.in1.handled=none:=H.handled
 have W:=dI (prog:=Γ.prog) (w:=Γ.w) (A:=A.in1.in1) hA a s₃.gens.size C I ax vs.size (λi v=>∃z u,ys[i]? =some z/\v=.str ⟨(f z).toArray⟩ u) haC haI haax
  (by have:=H.depth;show A.depth<recursionLimit;exact Ah this) hsC hsI
 refine wpAny_mono (A4 (SC.joinGen (E:=λ_ _=>False) (x:=⟨sep.toArray⟩) (t:=t) (Q:=λv s''=>∃(s':Shared) (t':Tok) (tk:Nat),Moved [C,I] (GenOnlyQ s₃.gens.size) s5 s'/\v=.str (Txt.join ⟨sep.toArray⟩ ((ys.map f).map λx=>⟨x.toArray⟩)) t'/\s''={s' with toks:=tk}) W
  (λi s st=>st.2.1.typeIs) ?gst hfp (by simp) (λi v h2_=>by refine A2 h2_ λz u _ e=>?_;try clear h2_;exact⟨_,_,e⟩) (λs' l hm hacc=>?hq) (by rw[hlen];exact hn))) ?fin λ_ _ x=>x
 case gst=>
  refine⟨lt_of_lt_of_le F3.tk ht5,hgen,hnl3.keeps k5,.fresh (.compStart (.GeneratorExp elt [⟨.Name x px,iter,[],0⟩] scope pos) 0 (.ref I) .none (genEnv scope [] C code builtinsNs env)),by rw[hg5];simp,λs'' hal hp=>⟨rfl,?_⟩⟩
  exact dJ (A:=A.in1.in1.in1) (cenv:=genEnv scope [] C code builtinsNs env) H.handled hne1 _ hx (by simp[genEnv,hkind]) hco hne2 hne3 hel s'' _
   (by refine Ac hit3 λo e r=>?_;try clear hit3;exact⟨o,hal _ (by simp) _ (k5 _ _ e),r⟩) (by refine Ac hl3 λo e r=>?_;try clear hl3;exact⟨o,hal _ (by simp) _ (k5 _ _ e),r⟩) (hn'.at' λo e=>hal _ (by simp[genEnv]) o e) hp
 case hq=>
  have hl:l.map (·.1)=(ys.map f).map λx=>(⟨x.toArray⟩:Str):=by
   apply List.ext_getElem?
   intro j
   have hsz:l.length=ys.length:=by rw[<-hlen];simpa[strValues]using hacc.1
   by_cases hj:j<ys.length
   ·have hj':j<l.length:=hsz▸hj
    refine A2 (hacc.2 j (.str l[j].1 l[j].2) (by simp[strValues,List.getElem?_eq_getElem hj'])) λz u h1 h2=>?_
    injection h2 with h2 _
    rw[List.getElem?_map,List.getElem?_eq_getElem hj',List.getElem?_map,List.getElem?_map,h1]
    simp[h2]
   ·rw[List.getElem?_eq_none (by simpa[hsz]using le_of_not_lt hj),List.getElem?_eq_none (by simpa using le_of_not_lt hj)]
  rw[hl]
  exact⟨Zw hz,λt' k=>⟨s',t',k,hm,rfl,rfl⟩⟩
 case fin=>
  intro v s'' Z
  refine Ae Z λY hle=>?_
  clear Z
  refine Fq Y λs' t' tk hm e1 e2=>?_
  clear Y
  subst e1 e2
  have hin:∀b,(G1 b≠none\/b∈ι\/b∈Γ.tabs.map (·.2)\/Jz env b\/K.old b≠none)->b∉[C,I]:=λb hb hm=>by
   simp only[mem_cons,not_mem_nil,or_false]at hm
   rcases hm with e|e
   ·have:=F3.lt_own hb
    rw[e,hC3]at this;exact lt_irrefl _ this
   ·exact hI b hb e
  have F6:Aa Γ K env G1 ι σ ⟨s'.heap,s'.gens,s'.drawn,tk,s₃.os⟩:=F3.ext (λb o hb e=>hm.heap b o (hin b (by
   rcases hb with hb|hb|hb|hb|hb
   ·exact .inl (by rw[hb];exact Option.some_ne_none _)
   ·exact .inr (.inl hb)
   ·exact .inr (.inr (.inl hb))
   ·exact .inr (.inr (.inr (.inl hb)))
   ·exact .inr (.inr (.inr (.inr (by rw[hb];exact Option.some_ne_none _)))))) (k5 b o e)) (by
   have hgp:A5 s₃.gens s5.gens:=by rw[hg5];exact(A5.refl _).push rfl
   rcases hm.gens with e|⟨⟨e1,e2⟩,e3⟩
   ·rw[e];exact hgp
   ·refine⟨by rw[e1];exact hgp.1,λi hi=>(e2 i (ne_of_lt hi)).trans (hgp.2.1 i hi),λi y hi hy=>?_⟩
    by_cases hig:i=s₃.gens.size
    ·subst hig;exact e3 _ hy
    ·rw[e2 i hig]at hy;exact hgp.2.2 i y hi hy) (lt_of_lt_of_le (lt_of_lt_of_le F3.tk ht5) hle)
  have e6:({s' with toks:=tk}:Shared)=⟨s'.heap,s'.gens,s'.drawn,tk,s₃.os⟩:=by rw[<-ho5,<-hm.os]
  rw[e6]
  exact(Mv F6 (Rj _ _) q).up l1 (A1.refl _)
theorem iW (H:Ev Γ A env){c P:Addr}{pos px pc:Pos}{scope:Scope}{elt:Expr}{x y:String}{d:D}{ys:List (List Nat)}{f:List Nat->List Nat}{sep:List Nat}{t:Tok}{Q:D->St->Prop}(hcode:env.code=.ref c)(hcP:(c,P)∈Γ.tabs)
  (mk:∀G cv pos',pos'.line=pos.line->pos'.col=pos.col->Bd G cv (env.qual++"<genexpr>")->Γ.codeOk P pos' G cv)
  (hco:scope.isCoroutine=false)(hclos:closureFor scope env=pure [])(hcell:∀z∈scope.names,z.2≠ .cell)(h0:scope.names.lookup (".0":Str)=some NameKind.local)(hx:scope.names.lookup (ofString x)=some .local)(hkind:scope.kind=.function)
  (hd:(ofString y==("__debug__":Str))=false)(hc:(ofString y==("__classdict__":Str))=false)(hs:∀v,genFold (.Name (ofString y) pc) env v=pure v)
  (F:Aa Γ K env G ι σ s)(hy:σ.get y=some d)(hi:Al σ.own d=some (ys.map D.str))
  (helt:∀(C:Addr) (code:Value) (vs:Array Value),(∀(i:Nat) (v:Value),vs[i]? =some v->∃z u,ys[i]? =some z/\v=.str ⟨z.toArray⟩ u)->Se Γ.prog Γ.w (genEnv scope [] C code builtinsNs env) (ofString x) elt vs (λi v=>∃z u,ys[i]? =some z/\v=.str ⟨(f z).toArray⟩ u))
  (hz:((ys.map f).map λx=>x.length+sep.length).sum<=sizeLine)(hn:ys.length<=sizeLine)(q:Q (.str (Eg sep (ys.map f))) σ):
  wpAny (model Γ.prog Γ.w) A (eval (.GeneratorExp elt [⟨.Name (ofString x) px,.Name (ofString y) pc,[],0⟩] scope pos) env)
   (λv s5=>wpAny (model Γ.prog Γ.w) A (call (.builtin "str.join") [.str ⟨sep.toArray⟩ t,v]) (As Γ K env VR G ι Q) (λ_ _=>False) s5) (λ_ _=>False) s:=by
 refine wpAny_GeneratorExp_make hco hclos hcell h0 hkind (by have:=H.depth;exact Ah this) (wpAny_Name (D5 H F hy hc λv rv=>?_) hd) hs
 refine Aj (Bh F.store rv hi) λax vs U hl rl=>?_
 subst U
 have hB:∀b o,Γ.B.get? b=some o->s.heap.get? b=some o:=λb o e=>F.store.gin _ _ (F.store.base _ _ e)
 refine wpAny_pyIter_list hl ⟨((H.ok.nolimit.keeps hB).push _),?_⟩
 have F2:=F.push {cls:=.type "list_iterator",data:=.fields #[.ref ax,.int 0 0]} s.toks
 refine wpAny_mono (iX H hcode hcP mk F2) (λcode s₃ z0=>aQ z0 λG1 l1 F3 k3 g3 sz3 eg eo=>?_) λ_ _ x=>x
 have hB3:∀b o,Γ.B.get? b=some o->s₃.heap.get? b=some o:=λb o e=>F3.store.gin _ _ (F3.store.base _ _ e)
 refine aP H.ok.bm λbm ob hm1 hm2 hm3 hm4 hm5 hm6 hm7=>?_
 refine wpAny_builtinsFor (by rw[H.glob];exact H.ok.g.keeps hB3) hm1 hm2 (hB3 _ _ hm4) hm5 hm6 hm7 ?_
 intro h' hn' hs'
 have hsz:h'.objs.size=s₃.heap.objs.size+1:=by rw[hs'.1,Heap.size_push]
 refine A0 (F.store.tabs _ hcP) λtP1 tP2 Z=>?_
 refine Ck Z λps t0 ic Y qq=>?_
 clear Z
 refine Af Y λog egg=>?_
 clear Y
 have hPlt:P<s.heap.objs.size:=Heap.lt_size t0.2
 have hI2:(s.heap.push {cls:=.type "list_iterator",data:=.fields #[.ref ax,.int 0 0]}).objs.size=s.heap.objs.size+1:=Heap.size_push _ _
 have sz3':s.heap.objs.size+1<=s₃.heap.objs.size:=by have:=sz3;simp only[hI2]at this;exact this
 have haxlt:ax<s.heap.objs.size:=by refine Ac hl λ_ e _=>?_;try clear hl;exact Heap.lt_size e
 have haxP:ax≠P:=λe=>by
  refine Ay hl λo ho hcl _=>?_
  try clear hl
  rw[e,t0.2]at ho;cases ho;cases hcl
 have kC:∀b o,s₃.heap.get? b=some o->h'.get? b=some o:=λb o e=>hs'.extBut b o (ne_of_lt (Heap.lt_size e)) (Heap.get?_push_of_some _ e)
 have hit3:s₃.heap.IsListIter s.heap.objs.size ax 0:=⟨_,k3 _ _ (ne_of_gt hPlt) (Heap.get?_push_size _ rfl),rfl,rfl⟩
 have hl3:s₃.heap.IsList ax vs.toArray:=by
  refine Ac hl λo ho r=>?_
  try clear hl
  exact⟨o,k3 _ _ haxP (Heap.get?_push_of_some _ ho),r⟩
 have hnl3:s₃.heap.NoLimit:=H.ok.nolimit.keeps hB3
 have hclt:cStatics<s.heap.objs.size:=by
  refine Ac (H.ok.nolimit.keeps hB) λ_ hns _=>?_
  exact hns.lt
 generalize hg5:({cls:=Value.type "generator",data:=Data.fields #[Value.int (↑s₃.gens.size) 0,Value.str (ofString "<genexpr>") (s₃.toks+1),Value.str (env.qual++ofString "<genexpr>") (s₃.toks+1+1)]}:Obj)=og5
 have k5:∀b o,s₃.heap.get? b=some o->(h'.push og5).get? b=some o:=λb o e=>Heap.get?_push_of_some _ (kC b o e)
 have hvs:∀(i:Nat) (v:Value),vs.toArray[i]? =some v->∃z u,ys[i]? =some z/\v=.str ⟨z.toArray⟩ u:=λi v hv=>by
  have hv':vs[i]? =some v:=by simpa using hv
  have hlt:i<ys.length:=by
   have:=rl.length
   rw[length_map]at this
   rw[<-this];exact(List.getElem?_eq_some_iff.mp hv').1
  have hds:(ys.map D.str)[i]? =some (.str ys[i]):=by rw[List.getElem?_map,List.getElem?_eq_getElem hlt];rfl
  refine Ac (rl.getElem? hds) λv' e1 V=>?_
  refine Af V λu e2=>?_
  clear V
  rw[hv']at e1;cases e1
  exact⟨ys[i],u,List.getElem?_eq_getElem hlt,e2⟩
 have hel:=helt s₃.heap.objs.size code vs.toArray hvs
 have hne1:ax≠s.heap.objs.size:=ne_of_lt haxlt
 have hlt3:s.heap.objs.size<s₃.heap.objs.size:=sz3'
 have hne2:s₃.heap.objs.size≠s.heap.objs.size:=ne_of_gt hlt3
 have hne3:s₃.heap.objs.size≠ax:=ne_of_gt (lt_trans haxlt hlt3)
 have hlt5:s₃.heap.objs.size<h'.objs.size:=by rw[hsz];exact lt_succ_self _
 have hlen0:vs.toArray.size=ys.length:=by
  have:=rl.length
  rw[length_map]at this
  rw[size_toArray];exact this
 refine iU H (s₃:=s₃) (C:=s₃.heap.objs.size) (I:=s.heap.objs.size) (a:=h'.objs.size) (ax:=ax) (vs:=vs.toArray) (ys:=ys) (f:=f) (sep:=sep) (t:=t) (elt:=elt) (iter:=.Name (ofString y) pc) (x:=ofString x) (px:=px) (scope:=scope) (pos:=pos) (code:=code) F3 l1 (λb hb e=>?_) rfl rfl rfl (le_add_right _ 3) k5 ⟨_,_,_,Heap.get?_push_size _ (by rw[<-hg5];rfl),by rw[<-hg5],by rw[<-hg5],by rw[<-hg5]⟩ (hn'.push _) hit3 hl3 hne1 hne2 hne3 (ne_of_gt hlt5) (ne_of_gt (lt_trans hlt3 hlt5)) (ne_of_gt (lt_trans haxlt (lt_trans hlt3 hlt5)))
  (ne_of_lt (lt_trans hclt hlt3)) (ne_of_lt hclt) ?_ hnl3 rfl hlen0 hx hkind hco hel hz hn q
 ·subst e
  rcases hb with hb|hb|hb|hb|hb
  ·rw[g3 _ (by rw[hI2];exact lt_succ_self _)]at hb
   exact lt_irrefl _ (F.lt_own (.inl hb))
  ·exact lt_irrefl _ (F.lt_own (.inr (.inl hb)))
  ·exact lt_irrefl _ (F.lt_own (.inr (.inr (.inl hb))))
  ·exact lt_irrefl _ (F.lt_own (.inr (.inr (.inr (.inl hb)))))
  ·exact lt_irrefl _ (F.lt_own (.inr (.inr (.inr (.inr hb)))))
 ·intro b hb
  show b<(h'.push og5).objs.size
  rw[Heap.size_push]
  simp only[mem_cons,not_mem_nil,or_false]at hb
  rcases hb with rfl|rfl|rfl|rfl|rfl
  ·exact lt_succ_self _
  ·exact lt_succ_of_lt hlt5
  ·exact lt_succ_of_lt (lt_trans hlt3 hlt5)
  ·exact lt_succ_of_lt (lt_trans haxlt (lt_trans hlt3 hlt5))
  ·exact lt_succ_of_lt (lt_trans hclt (lt_trans hlt3 hlt5))
end
section
variable {prog:Program}{w:World}{A:Around}{E:Value->Shared->Prop}{s:Shared}
theorem Keeps.trans' {a b c:Shared}(x:Keeps a b)(y:Keeps b c):Keeps a c:=by
 refine A2 x λh t Z k=>?_
 try clear x
 subst Z
 refine A2 y λh' t' Y k'=>?_
 try clear y
 subst Y
 exact⟨h',t',rfl,λb o e=>k' b o (k b o e)⟩
theorem fN {cenv:Env}{o:Expr}{y z:String}{k1 k2:Nat}{apos pos p1 p2:Pos}{q:List Nat}(hpos:0<s.toks)(ho:wpAny (model prog w) A (eval o cenv) (λv s'=>(∃u,v=.str ⟨q.toArray⟩ u)/\Keeps s s') E s)
  (hs:starEach [.Constant (.str (ofString y)) k1 p1,.Constant (.str (ofString z)) k2 p2] cenv=(false,eval (.Constant (.str (ofString y)) k1 p1) cenv)::starEach [.Constant (.str (ofString z)) k2 p2] cenv)
  (hbase:attributeBase o (ofString "replace") cenv (eval o cenv)=eval o cenv)
  (hfew:((backTo pos (starEach [.Constant (.str (ofString y)) k1 p1,.Constant (.str (ofString z)) k2 p2] cenv)).all (λx=> !x.1)&&(backToKw pos (keywordEach [] cenv)).all (λx=>x.1.isSome)&&decide ([Expr.Constant (.str (ofString y)) k1 p1,.Constant (.str (ofString z)) k2 p2].length+([]:List Keyword).length+(if([]:List Keyword).isEmpty then 0 else 1)<30))=true)
  (hline:(apos.endLine==pos.line)=true)(hp:(backTo pos (starEach [.Constant (.str (ofString z)) k2 p2] cenv)).any (·.1)=false)(hne:(ofString y==ofString z)=false)(hb:q.length+(q.length+1)*(cs z).length<=16777216):
  wpAny (model prog w) A (eval (.Call (.Attribute o (ofString "replace") apos) [.Constant (.str (ofString y)) k1 p1,.Constant (.str (ofString z)) k2 p2] [] pos) cenv)
   (λv s'=>(∃u,v=.str ⟨(Bq q (cs y) (cs z)).toArray⟩ u)/\Keeps s s') E s:=by
 refine wpAny_Call_method_late hbase hfew hline rfl (wpAny_mono (A4 ho) (λv s0 Z=>Ae Z λY hle=>Ae Y λV hk=>Af V λt e=>?_) λ_ _ x=>x)
 subst e
 refine⟨"str",_,PySem.F.plainAttrs_str,PySem.F.slot_str_replace,PySem.F.type_str_replace,typeIs_str _ _ _,(λa e=>nomatch e),?_⟩
 refine callWith_method1 (wpAny_items_cons (wpAny_Constant_str (wpAny_items_cons (wpAny_Constant_str (wpAny_items_nil ?_))))) hs hp
 have tk:0<s0.toks:=lt_of_lt_of_le hpos hle
 refine SC.replace (s:={s0 with toks:=s0.toks+1+1}) (x:=⟨q.toArray⟩) (t:=t) (u:=s0.toks) (v:=s0.toks+1) (ne_of_gt tk) (Nat.succ_ne_zero _) (ne_of_lt (lt_succ_self _)) hne (by rw[Az,Fs,Az];exact hb) λt' k=>⟨⟨t',?_⟩,Keeps.trans' hk ⟨s0.heap,k,rfl,λ_ _ e=>e⟩⟩
 unfold Bq
 rw[<-Fs,<-Fs]
theorem V8 (x y z:List Nat):(Bq x y z).length<=x.length+(x.length+1)*z.length:=by
 have ho:=StrLaws.occ_length_le ⟨x.toArray⟩ ⟨y.toArray⟩ 0 x.length (x.length+1)
 have hx:=StrLaws.glued_between_self ⟨x.toArray⟩ ⟨y.toArray⟩ (x.length+1)
 have hl:=congrArg Str.length hx
 rw[size_glued,length_partsBetween,Nat.add_sub_cancel,Az,Az]at hl
 have hg:=size_glued ⟨z.toArray⟩ (Builtin.Str.partsBetween ⟨x.toArray⟩ (Builtin.Str.occurrences ⟨x.toArray⟩ ⟨y.toArray⟩ 0 x.length (x.length+1)) y.length)
 rw[length_partsBetween,Nat.add_sub_cancel,Az]at hg
 have h2:=mul_le_mul_right z.length ho
 have e1:∀t:Str,t.cps.toList.length=t.length:=λt=>by simp[Str.length]
 unfold Bq Txt.replace
 rw[Az,Az,e1]
 split
 ·rw[Az];exact le_add_right _ _
 ·rw[e1]at hg
  simp only[Az]at hg
  rw[hg]
  exact Ah (add_le_add (le_of_eq hl) h2)
theorem mK {env:Env}{scope:Scope}{C:Addr}{code:Value}{x y1 z1 y2 z2:String}{p0 a1 q1 a2 q2 r1 r2 r3 r4:Pos}{j1 j2 j3 j4:Nat}{ys:List (List Nat)}{vs:Array Value}(hkind:scope.kind=.function)(hx:scope.names.lookup (ofString x)=some .local)(hd:(ofString x==("__debug__":Str))=false)
  (hl1:(a1.endLine==q1.line)=true)(hl2:(a2.endLine==q2.line)=true)(hn1:(ofString y1==ofString z1)=false)(hn2:(ofString y2==ofString z2)=false)(hz1:(cs z1).length<=4)(hz2:(cs z2).length<=4)(hys:∀z∈ys,z.length<=1000)
  (hvs:∀(i:Nat) (v:Value),vs[i]? =some v->∃z u,ys[i]? =some z/\v=.str ⟨z.toArray⟩ u):
  Se prog w (genEnv scope [] C code builtinsNs env) (ofString x) (.Call (.Attribute (.Call (.Attribute (.Name (ofString x) p0) (ofString "replace") a1) [.Constant (.str (ofString y1)) j1 r1,.Constant (.str (ofString z1)) j2 r2] [] q1) (ofString "replace") a2) [.Constant (.str (ofString y2)) j3 r3,.Constant (.str (ofString z2)) j4 r4] [] q2) vs
   (λi v=>∃z u,ys[i]? =some z/\v=.str ⟨(Bq (Bq z (cs y1) (cs z1)) (cs y2) (cs z2)).toArray⟩ u):=by
 intro A' E' i v s₂ m₂ hA hv hpos hns hm
 refine A2 (hvs i v hv) λz u hz Y=>?_
 subst Y
 have hzl:=hys z (List.mem_of_getElem? hz)
 have h1:=V8 z (cs y1) (cs z1)
 have h2:(z.length+1)*(cs z1).length<=(z.length+1)*4:=mul_le_mul_left _ hz1
 have h3:((Bq z (cs y1) (cs z1)).length+1)*(cs z2).length<=((Bq z (cs y1) (cs z1)).length+1)*4:=mul_le_mul_left _ hz2
 have h4:(Bq z (cs y1) (cs z1)).length<=5004:=le_trans h1 (add_le_add hzl (le_trans h2 (mul_le_mul_right 4 (succ_le_succ hzl))))
 refine wpAny_mono (fN hpos (fN hpos (ldG hns hm ⟨⟨u,rfl⟩,s₂.heap,s₂.toks,rfl,λ_ _ e=>e⟩ hkind hx hd) rfl rfl rfl hl1 rfl hn1 (le_trans (add_le_add hzl (le_trans h2 (mul_le_mul_right 4 (succ_le_succ hzl)))) (by decide))) rfl rfl rfl hl2 rfl hn2 (le_trans (add_le_add h4 (le_trans h3 (mul_le_mul_right 4 (succ_le_succ h4)))) (by decide))) (λv s' h2_=>by refine Ae h2_ λZ hk=>?_;try clear h2_;refine Af Z λu' e=>?_;clear Z;exact⟨⟨z,u',hz,e⟩,hk⟩) λ_ _ x=>x
end
section
variable {α β γ δ:Type}{Γ:W}{K:Cw}{A:Around}{env:Env}{G G₀ G':Gh}{ι ι':List Addr}{σ:St}{s s':Shared}
theorem Us (H:Ev Γ A env){c P:Addr}{sep x y y1 z1 y2 z2:String}{pos px pc p0 a1 q1 a2 q2 r1 r2 r3 r4 apos cpos ps:Pos}{j0 j1 j2 j3 j4:Nat}{scope:Scope}(hcode:env.code=.ref c)(hcP:(c,P)∈Γ.tabs)
  (mk:∀G cv pos',pos'.line=pos.line->pos'.col=pos.col->Bd G cv (env.qual++"<genexpr>")->Γ.codeOk P pos' G cv)
  (hco:scope.isCoroutine=false)(hclos:closureFor scope env=pure [])(hcell:∀z∈scope.names,z.2≠ .cell)(h0:scope.names.lookup (".0":Str)=some NameKind.local)(hx:scope.names.lookup (ofString x)=some .local)(hkind:scope.kind=.function)
  (hd:(ofString y==("__debug__":Str))=false)(hc:(ofString y==("__classdict__":Str))=false)(hdx:(ofString x==("__debug__":Str))=false)(hs:∀v,genFold (.Name (ofString y) pc) env v=pure v)
  (hl1:(a1.endLine==q1.line)=true)(hl2:(a2.endLine==q2.line)=true)(hn1:(ofString y1==ofString z1)=false)(hn2:(ofString y2==ofString z2)=false)(hz1:(cs z1).length<=4)(hz2:(cs z2).length<=4)
  {ge:Expr}(hge:ge=.GeneratorExp (.Call (.Attribute (.Call (.Attribute (.Name (ofString x) p0) (ofString "replace") a1) [.Constant (.str (ofString y1)) j1 r1,.Constant (.str (ofString z1)) j2 r2] [] q1) (ofString "replace") a2) [.Constant (.str (ofString y2)) j3 r3,.Constant (.str (ofString z2)) j4 r4] [] q2) [⟨.Name (ofString x) px,.Name (ofString y) pc,[],0⟩] scope pos)
  (hst:starEach [ge] env=(false,eval ge env)::starEach [] env)
  (hbase:attributeBase (.Constant (.str (ofString sep)) j0 ps) (ofString "join") env (eval (.Constant (.str (ofString sep)) j0 ps) env)=eval (.Constant (.str (ofString sep)) j0 ps) env)
  (hfew:((backTo cpos (starEach [ge] env)).all (λx=> !x.1)&&(backToKw cpos (keywordEach [] env)).all (λx=>x.1.isSome)&&decide ([ge].length+([]:List Keyword).length+(if([]:List Keyword).isEmpty then 0 else 1)<30))=true)
  (hline:(apos.endLine==cpos.line)=true):
  Bm Γ A env (.Call (.Attribute (.Constant (.str (ofString sep)) j0 ps) (ofString "join") apos) [ge] [] cpos)
   (λσ Q=>∃(d:D) (ys:List (List Nat)),σ.get y=some d/\Al σ.own d=some (ys.map D.str)/\(∀z∈ys,z.length<=1000)/\ys.length<=sizeLine/\((ys.map λz=>Bq (Bq z (cs y1) (cs z1)) (cs y2) (cs z2)).map λx=>x.length+(cs sep).length).sum<=sizeLine/\
    Q (.str (Eg (cs sep) (ys.map λz=>Bq (Bq z (cs y1) (cs z1)) (cs y2) (cs z2)))) σ):=λK G ι σ s Q F Z=>Hh Z λd ys hy hi hys hn hz q=>by
 subst hge
 refine wpAny_Call_method_late hbase hfew hline rfl (wpAny_Constant_str ?_)
 have F1:=F.toks (s.toks+1)
 refine⟨"str",_,PySem.F.plainAttrs_str,PySem.F.slot_str_join,PySem.F.type_str_join,typeIs_str _ _ _,(λa e=>nomatch e),?_⟩
 have key:=iW (Q:=Q) (t:=s.toks) (sep:=cs sep) (f:=λz=>Bq (Bq z (cs y1) (cs z1)) (cs y2) (cs z2)) (c:=c) (P:=P) (pos:=pos) (px:=px) (pc:=pc) (scope:=scope) (x:=x) (y:=y) H hcode hcP mk hco hclos hcell h0 hx hkind hd hc hs F1 hy hi (λC code vs hvs=>mK (p0:=p0) (a1:=a1) (q1:=q1) (a2:=a2) (q2:=q2) (r1:=r1) (r2:=r2) (r3:=r3) (r4:=r4) (j1:=j1) (j2:=j2) (j3:=j3) (j4:=j4) hkind hx hdx hl1 hl2 hn1 hn2 hz1 hz2 hys hvs) hz hn q
 rw[<-Fs]at key
 refine callWith_method1 (wpAny_items_cons (wpAny_mono key (λv s5 h=>wpAny_items_nil ?_) λ_ _ x=>x)) hst rfl
 exact h
end
noncomputable def d8:DefRec:=Bk PySem.Challenge.pw_in0167_01 8
noncomputable def kD:Str:=(d8.name++".<locals>.")++"<lambda>"
theorem lD {Γ:W}{A:Around}{env:Env}(H:Ev Γ A env){c P:Addr}{params:Arguments}{body:Expr}{scope:Scope}{clos:List (Str×Addr)}{pos:Pos}{q:Str}(hq:env.qual++"<lambda>"=q)(hcode:env.code=.ref c)(hcP:(c,P)∈Γ.tabs)(hdef:defaultsOf params env=([],[]))(hcl:closureFor scope env=pure clos)
  (hit:∀G cv,Γ.codeOk P pos G cv->Bd G cv q)(mk:∀G cv pos',pos'.line=pos.line->pos'.col=pos.col->Bd G cv q->Γ.codeOk P pos' G cv):
  Bm Γ A env (.Lambda params body scope pos) (λσ Q=>∃P,(∀G v,Oa "<lambda>" q params body scope clos ((Γ.mg "__name__").getD .none) G v->P G v)/\Q (.sem P) σ):=by
 subst hq;exact pR H hcode hcP hdef hcl hit mk
theorem lB {Γ:W}{A:Around}{env:Env}(H:Ev Γ A env)(hA:Bi 1 A){p:Addr}(hp:Ko (λa=>Γ.B.get? a) p)(hpt:∃o,Γ.B.get? p=some o/\o.cls=.type "re.Pattern"/\o.dict=none){c P:Addr}{f x:String}{p0 apos lpos p2 pos:Pos}{params:Arguments}{body:Expr}{scope:Scope}{q:Str}
  (hk:env.kindOf (ofString f)=some .globalImplicit)(hv:Γ.mg (ofString f)=some (.ref p))(hq:env.qual++"<lambda>"=q)(hcode:env.code=.ref c)(hcP:(c,P)∈Γ.tabs)(hdef:defaultsOf params env=([],[]))(hcl:closureFor scope env=pure [])
  (hit:∀G cv,Γ.codeOk P lpos G cv->Bd G cv q)(mk:∀G cv pos',pos'.line=lpos.line->pos'.col=lpos.col->Bd G cv q->Γ.codeOk P pos' G cv)(hlam:∀pm G v,Oa "<lambda>" q params body scope [] pm G v->Xg Γ p G v)
  (hd:(ofString f==("__debug__":Str))=false)(hx:(ofString x==("__debug__":Str))=false)(hx2:(ofString x==("__classdict__":Str))=false)(hs:starEach [.Lambda params body scope lpos,.Name (ofString x) p2] env=(false,eval (.Lambda params body scope lpos) env)::starEach [.Name (ofString x) p2] env)
  (hs2:starEach [.Name (ofString x) p2] env=(false,eval (.Name (ofString x) p2) env)::starEach [] env)(hpp:(backTo pos (starEach [.Name (ofString x) p2] env)).any (·.1)=false)(hbase:attributeBase (.Name (ofString f) p0) (ofString "sub") env (eval (.Name (ofString f) p0) env)=eval (.Name (ofString f) p0) env)
  (hfew:((backTo pos (starEach [.Lambda params body scope lpos,.Name (ofString x) p2] env)).all (λx=> !x.1)&&(backToKw pos (keywordEach [] env)).all (λx=>x.1.isSome)&&decide ([Expr.Lambda params body scope lpos,.Name (ofString x) p2].length+([]:List Keyword).length+(if([]:List Keyword).isEmpty then 0 else 1)<30))=true)(hline:(apos.endLine==pos.line)=true):
  Bm Γ A env (.Call (.Attribute (.Name (ofString f) p0) (ofString "sub") apos) [.Lambda params body scope lpos,.Name (ofString x) p2] [] pos) (λσ Q=>Xu x σ λd σ=>∃xs,d=.str xs/\xs.length<=2000/\∀ps:List (List Nat),tV (.str (B8 xs)) {σ with own:=σ.own++[ps.map D.str]} Q):=λK G ι σ s Q F h=>
 gZ H.ok hA hp hpt (Ni H hk hv hd) (B3 (lD H hq hcode hcP hdef hcl hit mk) (B3 (Cb H hx hx2) Dc hs2) hs) hs hpp hbase hfew hline K G ι σ s Q F ⟨rfl,Xg Γ p,hlam _,Ac h λd e h=>Ay h λxs e2 hl hq=>⟨d,e,rfl,xs,by rw[e2],hl,hq⟩⟩
noncomputable def w8:{T:TS // ∀{Γ:W} {a p P cc:Addr} {pm doc:Value},Γ.Ok->Fn Γ a (docDef d8.name d8.params d8.body d8.scope pm (.ref cc) doc) ["pat","STAR","QUESTION_MARK"] d8.body->(cc,P)∈Γ.tabs->Γ.mg (ofString "_twin_re_1")=some (.ref p)->Ko (λa=>Γ.B.get? a) p->(∃o,Γ.B.get? p=some o/\o.cls=.type "re.Pattern"/\o.dict=none)->(∀G cv (pos':Pos) q,pos'.line=62->Bd G cv q->Γ.codeOk P pos' G cv)->(∀G cv (pos':Pos),pos'.line=63->Bd G cv kD->Γ.codeOk P pos' G cv)->(∀G cv (pos':Pos),pos'.line=63->Γ.codeOk P pos' G cv->Bd G cv kD)->Γ.mg (ofString "len")=none->Γ.mb (ofString "len")=some (.builtin "len")->Γ.mg (ofString "range")=none->Γ.mb (ofString "range")=some (.type "range")->∀A:Around,Bi 2 A->∀L,Py Γ (A.deeper (callEnvC (docDef d8.name d8.params d8.body d8.scope pm (.ref cc) doc) L a)) (callEnvC (docDef d8.name d8.params d8.body d8.scope pm (.ref cc) doc) L a) d8.body T}:=by
 refine'⟨?T,?w⟩
 case w=>
  intro Γ a p P cc pm doc ok N hcP hp1 hp hpt hmk1 hmk2 hhit len1 len2 ran1 ran2 A hA L
  have H:=H3 ok N (hA.deeper (callEnvC (docDef d8.name d8.params d8.body d8.scope pm (.ref cc) doc) L a)) L
  refine' Be ?_ ?_
  all_goals repeat' first
   |((with_reducible show _=_);first|assumption|rfl|decide)
   |((with_reducible show Ev _ _ _);assumption)
   |((with_reducible show Kd _ _ _);first|exact Kd.local (by rfl)|exact Kd.cell (by rfl) ⟨_,by rfl⟩)
   |((with_reducible show CE _ _ _ _);exact Cm (by rfl) (by rfl) (λ_=>by rfl) rfl)
   |((with_reducible show∀_,_=_);intro _;rfl)
   |((with_reducible show∀_ _,_=_);intro _ _;rfl)
   |((with_reducible show∀_ _ _,_=_);intro _ _ _;rfl)
   |((with_reducible show∀_ _,∃_,_);exact λ_ _=>⟨_,rfl⟩)
   |((with_reducible show Ar _ _ _ _);assumption)
   |((with_reducible show∃_,_/\_);assumption)
   |((with_reducible refine' Us ?h ?hcode ?hcP ?mk ?hco ?hclos ?hcell ?h0 ?hx ?hkind ?hd ?hc ?hdx ?hs ?hl1 ?hl2 ?hn1 ?hn2 ?hz1 ?hz2 ?hge ?hst ?hbase ?hfew ?hline);(case h=>assumption);(case hge=>rfl);(case hcode=>rfl);(case hcP=>assumption);(case mk=>(intro G cv pos' h1 h2 h3;solve_by_elim));(case hs=>intro _;rfl);(all_goals first|rfl|decide))
   |with_reducible refine' Ni _ _ (by assumption) ..
   |with_reducible exact Fu
   |with_reducible refine' Be ..
   |with_reducible refine' Co ..
   |with_reducible refine' Ue ..
   |with_reducible refine' kI ..
   |with_reducible refine' bS ..
   |with_reducible refine' pE ..
   |with_reducible refine' bQ ..
   |with_reducible refine' bO ..
   |with_reducible refine' Sh ..
   |with_reducible refine' Ft ..
   |with_reducible refine' K0 ..
   |with_reducible exact Xm
   |with_reducible refine' Ug ..
   |with_reducible exact Ig
   |with_reducible exact Hx
   |with_reducible exact Q9
   |with_reducible refine' Fe ..
   |with_reducible refine' S0 ..
   |with_reducible refine' Ur ..
   |with_reducible refine' Q4 ..
   |with_reducible refine' lG ..
   |with_reducible refine' Yz ..
   |with_reducible refine' Q7 _ (by decide) ..
   |with_reducible refine' fB ..
   |with_reducible refine' lF ..
   |with_reducible refine' fR ..
   |with_reducible exact nE
   |with_reducible refine' Kl ..
   |with_reducible refine' He ..
   |with_reducible refine' Hw ..
   |with_reducible exact Dc
   |with_reducible refine' B3 ..
   |with_reducible refine' Ov ..
   |with_reducible refine' Ou ..
   |with_reducible exact oI
   |with_reducible refine' Uv ..
   |with_reducible refine' Hy ..
   |with_reducible refine' Yv ..
   |with_reducible refine' Pr ..
   |with_reducible refine' jW ..
   |with_reducible refine' R8 ..
   |with_reducible exact Kx
   |with_reducible exact Pw
   |with_reducible refine' eK ..
   |with_reducible refine' oR ..
   |with_reducible refine' Xe ..
   |with_reducible refine' Dq ..
   |with_reducible refine' Cb ..
  all_goals try (refine' Us H (c:=cc) (P:=P) rfl hcP (λG cv pos' h1 h2 h3=>hmk1 G cv pos' _ h1 h3) ?_ ?_ ?_ ?_ ?_ ?_ ?_ ?_ ?_ (λ_=>rfl) ?_ ?_ ?_ ?_ ?_ ?_ ?_ ?_ ?_ ?_ ?_)
  all_goals try (refine' lB H (hA.deeper _) hp hpt (c:=cc) (P:=P) (q:=kD) rfl hp1 rfl rfl hcP rfl rfl (λG cv h=>hhit G cv _ rfl h) (λG cv pos' h1 h2 h3=>hmk2 G cv pos' h1 h3) (λpm G v h=>iP ok (by decide) (by decide) (by decide) rfl rfl rfl h) ?_ ?_ ?_ ?_ ?_ ?_ ?_ ?_ ?_)
  all_goals first|rfl|decide
section
open Builtin.Str (occurrences)
theorem Qz (x:List Nat):Bq x (cs "\\") (cs "\\\\")=StrLaws.dbl 92 x:=by
 have h1:cs "\\"=[92]:=by decide
 have h2:cs "\\\\"=[92,92]:=by decide
 unfold Bq
 rw[h1,h2]
 exact StrLaws.replace_double ⟨x.toArray⟩ 92
theorem V7 (x y:List Nat)(c:Nat)(h:c∉x):Bq x [c] y=x:=by
 unfold Bq Txt.replace
 have:occurrences ⟨x.toArray⟩ ⟨[c].toArray⟩ 0 (⟨x.toArray⟩:Str).length ((⟨x.toArray⟩:Str).length+1)=[]:=by
  rcases StrLaws.occ_head ⟨x.toArray⟩ ⟨#[c]⟩ ((⟨x.toArray⟩:Str).length+1) (by simp +arith only)with⟨e,_⟩|⟨i,r,e,ha,_⟩
  ·exact e
  ·have:=(StrLaws.subAt_one ⟨x.toArray⟩ c i).mp ha
   exact absurd (List.mem_of_getElem? this) (by simpa using h)
 rw[this]
 rfl
theorem aI (x:List Nat)(c i j:Nat)(hj:j<=x.length):
  (Ls x [c] i j= -1/\∀k,i<=k->k<j->x[k]? ≠some c)\/∃q,Ls x [c] i j=(q:Nat)/\i<=q/\q<j/\x[q]? =some c/\∀k,i<=k->k<q->x[k]? ≠some c:=by
 by_cases hi:i<=x.length
 ·have f1:fromIndex x.length (i:Int)=i:=by unfold fromIndex;rw[if_neg (by exact Wl (n:=i) rfl)];rfl
  have f2:fromIndex x.length (j:Int)=j:=by unfold fromIndex;rw[if_neg (by exact Wl (n:=j) rfl)];rfl
  have hmin:min j x.length=j:=min_eq_left hj
  have at_:∀k,StrLaws.At ⟨x.toArray⟩ ⟨#[c]⟩ j k↔k<j/\x[k]? =some c:=λk=>by
   have h1:=StrLaws.subAt_one ⟨x.toArray⟩ c k
   have hl:(⟨x.toArray⟩:Str).length=x.length:=Az x
   have h1':(⟨#[c]⟩:Str).length=1:=rfl
   unfold StrLaws.At
   rw[hl,h1']at h1
   rw[h1']
   constructor
   ·intro Z
    refine Ae Z λa b=>?_
    clear Z;exact⟨a,h1.mp ⟨by exact Ah (add_le_add a hj),b⟩⟩
   ·intro Y
    refine Ae Y λa b=>?_
    clear Y;exact⟨a,(h1.mpr b).2⟩
  unfold Ls
  rw[f1,f2,hmin]
  have e0:(⟨[c].toArray⟩:Str)=⟨#[c]⟩:=rfl
  rw[e0,StrLaws.occ_eq]
  rcases StrLaws.occ_first ⟨x.toArray⟩ ⟨#[c]⟩ j 1 (le_refl _) (List.range' i (j+1-i)) i (λk hk=>by have:=List.mem_range'_1.mp hk;exact Ah this.1)with⟨h0,hn⟩|⟨pr,a,post,e,h0,ha,hn⟩
  ·refine .inl ⟨by rw[h0],λk h1 h2 h3=>hn k (List.mem_range'_1.mpr (by exact⟨Ah h1,Ah (add_le_add h2 (Bp (j+1) (i)))⟩)) ((at_ k).mpr ⟨h2,h3⟩)⟩
  ·have hs:=StrLaws.range'_split_from e
   refine Ae ((at_ a).mp ha) λh1 h2=>?_
   refine .inr ⟨a,?_,hs.1,h1,h2,λk hk0 hk hx=>hn k (hs.2 k hk0 hk) ((at_ k).mpr ⟨by exact Ah (add_le_add hk h1),hx⟩)⟩
   generalize (forIn (List.range' i (j+1-i)) ((#[]:Array Nat),i) (StrLaws.occBody ⟨x.toArray⟩ ⟨#[c]⟩ j 1)).run.fst=arr at h0
   have h1:arr.toList[0]? =some a:=by simpa using h0
   cases hL:arr.toList with
   |nil=>rw[hL]at h1;cases h1
   |cons b t=>rw[hL]at h1;simp at h1;rw[h1]
 ·refine .inl ⟨?_,λk h1 h2=>absurd (le_trans h1 (le_trans (le_of_lt h2) hj)) hi⟩
  have f1:fromIndex x.length (i:Int)=i:=by unfold fromIndex;rw[if_neg (by exact Wl (n:=i) rfl)];rfl
  have f2:fromIndex x.length (j:Int)=j:=by unfold fromIndex;rw[if_neg (by exact Wl (n:=j) rfl)];rfl
  unfold Ls
  rw[f1,f2,min_eq_left hj,StrLaws.occ_eq,show j+1-i=0 from Nat.sub_eq_zero_of_le (lt_of_le_of_lt hj (not_le.1 hi))]
  rfl
noncomputable def Ak (cur:List Nat):List Pc->List (List Nat)
 |[]=>[cur]
 |p::r=>if p.lone=true then Ak (cur++[p.x]) r else(cur++[p.x])::Ak [p.y] r
theorem F7 {p:Pc}(h:p.lone=true)(cur:List Nat)(r:List Pc):Ak cur (p::r)=Ak (cur++[p.x]) r:=if_pos h
theorem Ga {p:Pc}(h:¬p.lone=true)(cur:List Nat)(r:List Pc):Ak cur (p::r)=(cur++[p.x])::Ak [p.y] r:=if_neg h
theorem Qo (cur:List Nat)(p:Pc)(r:List Pc):Ak cur (p::r)=if p.lone=true then Ak (cur++[p.x]) r else(cur++[p.x])::Ak [p.y] r:=rfl
theorem Dy (a b:List Nat):∀(ps:List Pc),∃h t,Ak b ps=h::t/\Ak (a++b) ps=(a++h)::t
 |[]=>⟨b,[],rfl,rfl⟩
 |p::r=>by
  by_cases hp:p.lone=true
  ·rw[F7 hp,F7 hp,append_assoc];exact Dy a (b++[p.x]) r
  ·rw[Ga hp,Ga hp,append_assoc];exact⟨_,_,rfl,rfl⟩
noncomputable def D6:List (List Nat)->List (List Nat)
 |[]=>[]
 |c::r=>match D6 r with
  |[]=>[c]
  |h::t=>if c.getLast?.getD 0>h.headD 0 then(c.dropLast++h.tail)::t else c::h::t
theorem O6 (c:List Nat)(r:List (List Nat)):D6 (c::r)=match D6 r with|[]=>[c]|h::t=>if c.getLast?.getD 0>h.headD 0 then(c.dropLast++h.tail)::t else c::h::t:=rfl
noncomputable def Ax (ps:List Pc):List Pc:=ps.filter λp=>decide (p.x<=p.y)
theorem Ke:∀(ps:List Pc) (cur:List Nat),(∀p∈ps,p.lone=true->p.x=p.y)->D6 (Ak cur ps)=Ak cur (Ax ps):=by
 intro lq
 induction lq with
 |nil=>intro cur _;exact rfl
 |cons p r ih=>
  intro cur h
  have hr:=λq hq=>h q (mem_cons_of_mem _ hq)
  by_cases hp:p.lone=true
  ·have hk:Ax (p::r)=p::Ax r:=by unfold Ax;rw[filter_cons_of_pos (by simp[h p mem_cons_self hp])]
   rw[hk,F7 hp,F7 hp]
   exact ih _ hr
  ·have e1:Ak cur (p::r)=(cur++[p.x])::Ak [p.y] r:=Ga hp _ _
   rw[e1,O6,ih [p.y] hr]
   refine A2 (Dy [p.y] [] (Ax r)) λhh t s1 s2=>?_
   rw[append_nil]at s2
   refine A2 (Dy cur [] (Ax r)) λhh2 t2 s3 s4=>?_
   rw[s1]at s3;cases s3
   rw[append_nil]at s4
   rw[s2]
   dsimp only
   have g1:(cur++[p.x]).getLast?.getD 0=p.x:=by simp
   have g2:([p.y]++hh).headD 0=p.y:=rfl
   rw[g1,g2]
   by_cases hc:p.x>p.y
   ·rw[if_pos hc]
    have hk:Ax (p::r)=Ax r:=by unfold Ax;rw[filter_cons_of_neg (by simp;exact Ah hc)]
    rw[hk,s4]
    simp
   ·rw[if_neg hc]
    have hk:Ax (p::r)=p::Ax r:=by unfold Ax;rw[filter_cons_of_pos (by simp;exact Ah (not_lt.1 hc))]
    rw[hk,Ga hp,s2]
noncomputable def Ag (ps:List Pc):List Nat:=(ps.map A6).flatten
theorem Tj (s x y:List Nat)(r:List (List Nat)):Eg s (x::y::r)=x++s++Eg s (y::r):=by
 have h:∀(r:List (List Nat)) (a b:List Nat),r.foldl (λacc p=>acc++s++p) (a++b)=a++r.foldl (λacc p=>acc++s++p) b:=by
  intro r
  induction r with
  |nil=>intro a b;rfl
  |cons z r ih=>intro a b;simp only[foldl_cons];rw[<-ih];simp
 show(y::r).foldl _ x=x++s++r.foldl _ y
 rw[foldl_cons,<-h]
theorem Qm (cur:List Nat)(ps:List Pc):Ak cur ps≠[]:=by
 refine A2 (Dy cur [] ps) λh t _ e=>?_
 rw[append_nil]at e
 rw[e];exact cons_ne_nil _ _
theorem Th (cur:List Nat):∀(ps:List Pc),Eg [45] ((Ak cur ps).map (StrLaws.dbl 92))=StrLaws.dbl 92 (cur++Ag ps):=by
 intro ps
 induction ps generalizing cur with
 |nil=>show Eg [45] [StrLaws.dbl 92 cur]=StrLaws.dbl 92 (cur++[]);rw[append_nil];rfl
 |cons p r ih=>
  rw[Qo]
  by_cases hp:p.lone=true
  ·rw[if_pos hp,ih]
   congr 1
   simp[Ag,A6,hp]
  ·rw[if_neg hp,map_cons]
   cases hs:(Ak [p.y] r).map (StrLaws.dbl 92)with
   |nil=>exact absurd (List.map_eq_nil_iff.mp hs) (Qm _ _)
   |cons a t=>
    rw[Tj,<-hs,ih]
    have:cur++Ag (p::r)=(cur++[p.x])++[45]++([p.y]++Ag r):=by simp[Ag,A6,hp]
    rw[this];simp only[StrLaws.dbl_append,StrLaws.dbl_free 92 [45] (by decide)]
end
theorem W2:∀(ps:List Pc) (cur:List Nat) (t:Nat),t+1<(Ak cur ps).length->∃c x y r,(Ak cur ps).drop t=(c++[x])::Ak [y] r/\(∀p∈r,p∈ps)/\r.length<=ps.length:=by
 intro lq
 induction lq with
 |nil=>intro cur t h;exact absurd (Nat.lt_of_succ_lt_succ h) (Nat.not_lt_zero _)
 |cons p r ih=>
  intro cur t h
  have e1:Ak cur (p::r)=if p.lone=true then Ak (cur++[p.x]) r else(cur++[p.x])::Ak [p.y] r:=rfl
  rw[e1]at h⊢
  by_cases hp:p.lone=true
  ·rw[if_pos hp]at h⊢
   refine Go (ih _ t h) λc x y r' e hr hl=>?_
   exact⟨c,x,y,r',e,λq hq=>mem_cons_of_mem _ (hr q hq),by rw[length_cons];exact Ah hl⟩
  ·rw[if_neg hp]at h⊢
   cases t with
   |zero=>exact⟨cur,p.x,p.y,r,rfl,λq hq=>mem_cons_of_mem _ hq,by rw[length_cons];simp +arith only⟩
   |succ t=>
    rw[length_cons]at h
    refine Go (ih [p.y] t (by exact Ah h)) λc x y r' e hr hl=>?_
    exact⟨c,x,y,r',by rw[List.drop_succ_cons];exact e,λq hq=>mem_cons_of_mem _ (hr q hq),by rw[length_cons];exact Ah hl⟩
theorem split_len:∀(ps:List Pc) (cur:List Nat),(Ak cur ps).length<=ps.length+1/\∀z∈Ak cur ps,z.length<=cur.length+ps.length+1:=by
 intro lq
 induction lq with
 |nil=>intro cur;exact⟨le_refl _,λz hz=>by rw[mem_singleton.mp hz];exact le_succ _⟩
 |cons p r ih=>
  intro cur
  rw[Qo]
  by_cases hp:p.lone=true
  ·rw[if_pos hp]
   have:=ih (cur++[p.x])
   refine⟨by rw[length_cons];exact Ah this.1,λz hz=>?_⟩
   have h2:=this.2 z hz
   simp only[length_append,length_cons,length_nil]at h2⊢
   exact Ah h2
  ·rw[if_neg hp]
   have:=ih [p.y]
   refine⟨by rw[length_cons,length_cons];exact Ah this.1,λz hz=>?_⟩
   rcases mem_cons.mp hz with rfl|hz
   ·simp only[length_append,length_cons,length_nil];simp +arith only
   ·have h2:=this.2 z hz
    simp only[length_cons,length_nil]at h2⊢
    exact Ah h2
theorem Wm {ps:List Pc}{cur:List Nat}{t:Nat}(ht:t+1<(Ak cur ps).length)(ho:∀p∈ps,p.lone=true->p.x=p.y):∃c x y h tl,(Ak cur ps).take (t+1)++D6 ((Ak cur ps).drop (t+1))=(Ak cur ps).take t++(c++[x])::(y::h)::tl/\
  (Ak cur ps).take t++D6 ((Ak cur ps).drop t)=(Ak cur ps).take t++(if x>y then(c++h)::tl else(c++[x])::(y::h)::tl)/\((Ak cur ps).take t).length=t/\(c++[x]).length<=cur.length+ps.length+1/\(y::h).length<=ps.length+2:=by
 refine Go (W2 ps cur t ht) λc x y r e hr hrl=>?_
 have hm:=Ke r [y] λp hp=>ho p (hr p hp)
 refine A2 (Dy [y] [] (Ax r)) λh tl _ s2=>?_
 rw[append_nil]at s2
 have ed:(Ak cur ps).drop (t+1)=Ak [y] r:=by
  have:(Ak cur ps).drop (t+1)=((Ak cur ps).drop t).drop 1:=by rw[drop_drop]
  rw[this,e];rfl
 have eg:(Ak cur ps)[t]? =some (c++[x]):=by
  have:((Ak cur ps).drop t)[0]? =some (c++[x]):=by rw[e];rfl
  rwa [List.getElem?_drop,Nat.add_zero]at this
 refine⟨c,x,y,h,tl,?_,?_,by rw[length_take];exact min_eq_left (Ah ht),(split_len ps cur).2 _ (List.mem_of_getElem? eg),?_⟩
 rotate_left 2
 ·have h1:=(split_len (Ax r) [y]).2 (y::h) (by rw[s2];exact mem_cons_self)
  have h2:(Ax r).length<=r.length:=length_filter_le _ _
  simp only[length_cons,length_nil]at h1⊢
  exact Ah (add_le_add (add_le_add h1 h2) hrl)
 ·rw[ed,hm,s2,take_add_one,eg];simp
 ·rw[e,O6,hm,s2]
  congr 1
  have g1:(c++[x]).getLast?.getD 0=x:=by simp
  have g2:([y]++h).headD 0=y:=rfl
  dsimp only
  rw[g1,g2]
  by_cases hc:x>y
  ·rw[if_pos hc,if_pos hc];simp
  ·rw[if_neg hc,if_neg hc];rfl
noncomputable def Hm (s:List Nat):List Nat:=match s with
 |[]=>cs "(?!)"
 |c::r=>if c::r=[33]then cs "." else 91::((if c=33 then 94::r else if c=94\/c=91 then 92::c::r else c::r)++[93])
theorem L5 {c:Nat}{r:List Nat}(h:c::r≠[33]):Hm (c::r)=91::((if c=33 then 94::r else if c=94\/c=91 then 92::c::r else c::r)++[93]):=if_neg h
abbrev Eb:=List Pc×Bool
noncomputable def Av (b:Bool):List Nat:=if b=true then[33]else[]
noncomputable def Cy (b:Eb):List Nat:=StrLaws.dbl 92 (Av b.2++Ag (Ax b.1))
noncomputable def Oz (b:Eb):List Nat:=Hm (B8 (Cy b))
noncomputable def oJ (c:Nat):Prop:=c≠45/\c≠93/\c≠33/\c<200
noncomputable def okP (p:Pc):Prop:=oJ p.x/\oJ p.y/\(p.lone=true->p.x=p.y)
noncomputable def lL (b:Eb):Prop:=b.1≠[]/\b.1.length<=3/\∀p∈b.1,okP p
noncomputable def Bx (bs:List Eb):List Nat:=(bs.map λb=>Ej b.1 b.2).flatten
noncomputable def S8:Mine.Cf:=λds own Q=>∃(bs:List Eb) (u v:D),ds=[.str (Bx bs),u,v]/\bs.length<=2/\(∀b∈bs,lL b)/\∀own' k,own<+:own'->own'[k]? =some ((bs.map Oz).map D.str)->Q (.obj k) own'
noncomputable def Cn (T:List Nat) (u v:D) (r:Nat) (i:Int):List (String×D):=[("pat",.str T),("STAR",u),("QUESTION_MARK",v),("res",.obj r),("add",.app r),("n",.int T.length),("i",.int i)]
theorem Sr (p:Pc):1<=(A6 p).length/\(A6 p).length<=3:=by unfold A6;split<;>simp
theorem Hs:∀ps:List Pc,ps.length<=(Ag ps).length/\(Ag ps).length<=3*ps.length:=by
 intro lq
 induction lq with
 |nil=>simp[Ag]
 |cons p r ih=>
  have h:=ih
  have h1:=Sr p
  have e:Ag (p::r)=A6 p++Ag r:=by simp[Ag]
  rw[e,length_append,length_cons]
  exact⟨Ah (add_le_add ih.1 h1.1),Ah (add_le_add h1.2 ih.2)⟩
theorem Vw (b:Eb):Ej b.1 b.2=91::((Av b.2++Ag b.1)++[93]):=by unfold Ej Av Ag;simp
theorem Ma (b:Bool):(Av b).length<=1:=by cases b<;>simp[Av]
theorem M7 (a b:List Eb):Bx (a++b)=Bx a++Bx b:=by simp[Bx]
theorem Hr (b:Eb)(r:List Eb):Bx (b::r)=91::((Av b.2++Ag b.1)++93::Bx r):=by
 have:Bx (b::r)=Ej b.1 b.2++Bx r:=by simp[Bx]
 rw[this,Vw];simp
theorem Vo:∀bs:List Eb,(∀b∈bs,lL b)->(Bx bs).length<=12*bs.length:=by
 intro lq
 induction lq with
 |nil=>intro _;simp[Bx]
 |cons b r ih=>
  intro h
  have h1:=ih λx hx=>h x (mem_cons_of_mem _ hx)
  have h2:=(h b mem_cons_self).2.1
  have h3:=(Hs b.1).2
  have h4:=Ma b.2
  rw[Hr]
  simp only[length_cons,length_append]
  exact Ah (add_le_add (add_le_add (add_le_add h4 h3) h1) (mul_le_mul_left 3 h2))
theorem Pb (own:List (List D))(x:List D)(g:List (List D)):(own++x::g)[own.length]? =some x:=by simp
theorem gN (own:List (List D))(x y:List D)(g:List (List D)):(own++x::g).set own.length y=own++y::g:=by
 rw[List.set_append_right _ _ (le_refl _),sub_self];rfl
theorem bW {l ext:List (String×D)}{own:List (List D)}(n:Nat):Ep n ⟨l++ext,own,[]⟩ ⟨l,own,[]⟩:=.inl ⟨rfl,rfl,λx d e=>by
 show(l++ext).lookup x=some d
 have e:l.lookup x=some d:=e
 rw[List.lookup_append,e];rfl⟩
theorem L1 {c d:Nat}{s:String}(hs:cs s=[d])(h:c≠d):decide ([c]=cs s)=false:=by rw[hs];exact decide_eq_false λe=>h (List.head_eq_of_cons_eq e)
theorem L2 {d:Nat}{s:String}(hs:cs s=[d]):decide ([d]=cs s)=true:=by rw[hs];simp
theorem Vg (l:List Nat)(a b:Nat)(hab:a<=b)(hb:b<=l.length):E4 l (some (a:Int)) (some (b:Int))=(l.drop a).take (b-a):=by
 unfold E4 kms_lo kms_hi
 dsimp only
 have h1:¬((a:Int)<0):=by exact Wl (n:=a) rfl
 have h2:¬((b:Int)<0):=by exact Wl (n:=b) rfl
 rw[if_neg h1,if_neg h2,show min (a:Int).toNat l.length=a from min_eq_left (le_trans hab hb),show min (b:Int).toNat l.length=b from min_eq_left hb]
theorem L3 (l:List Nat)(a:Nat)(ha:a<=l.length):E4 l (some (a:Int)) none=l.drop a:=by
 unfold E4 kms_lo kms_hi
 dsimp only
 have h1:¬((a:Int)<0):=by exact Wl (n:=a) rfl
 simp only[h1,if_false]
 rw[show min (a:Int).toNat l.length=a from min_eq_left ha,take_of_length_le (by simp)]
theorem bC (c:List Nat)(x:Nat):E4 (c++[x]) none (some (-1))=c:=by
 unfold E4 kms_lo kms_hi
 simp
theorem sS (x y:Nat):decide ([y]<[x])=decide (x>y):=decide_eq_decide.mpr (by rw[List.cons_lt_cons_iff];simp[List.not_lt_nil])
theorem kR {k j:Nat}{n:Int}{x:D}{l:List D}{σ:St}{Q:St->Prop}{own':List (List D)}(hl:σ.own[k]? =some l)(hw:B6 n)(hj:seqIndex? n l.length=some j)(e:σ.own.set k (l.set j x)=own')(h:Q {σ with own:=own'}):bA (.obj k) (.int n) x σ Q:=Yi hl hw hj (by rw[e];exact h)
theorem dV {k:Nat}(c:Nat):∀l:List Nat,k∈StrLaws.dbl c l->k∈l:=by
 intro lq
 induction lq with
 |nil=>intro h;simp[StrLaws.dbl]at h
 |cons a r ih=>
  intro h
  unfold StrLaws.dbl at h
  split at h
  ·rcases mem_cons.mp h with e|h
   ·exact e▸mem_cons_self
   ·rcases mem_cons.mp h with e|h
    ·exact e▸mem_cons_self
    ·exact mem_cons_of_mem _ (ih h)
  ·rcases mem_cons.mp h with e|h
   ·exact e▸mem_cons_self
   ·exact mem_cons_of_mem _ (ih h)
theorem Sm:∀(ps:List Pc) (cur:List Nat),45∉cur->(∀p∈ps,okP p)->∀z∈Ak cur ps,45∉z:=by
 intro lq
 induction lq with
 |nil=>
  intro cur hc _ z hz
  rw[show Ak cur []=[cur]from rfl]at hz
  rw[mem_singleton.mp hz];exact hc
 |cons p r ih=>
  intro cur hc ho z hz
  have e1:Ak cur (p::r)=if p.lone=true then Ak (cur++[p.x]) r else(cur++[p.x])::Ak [p.y] r:=rfl
  rw[e1]at hz
  have hp:=ho p mem_cons_self
  have hr:=λq hq=>ho q (mem_cons_of_mem _ hq)
  have hc2:45∉cur++[p.x]:=λh=>(mem_append.mp h).elim hc λh=>hp.1.1 (mem_singleton.mp h).symm
  split at hz
  ·exact ih _ hc2 hr z hz
  ·rcases mem_cons.mp hz with rfl|hz
   ·exact hc2
   ·exact ih _ (λh=>hp.2.1.1 (mem_singleton.mp h).symm) hr z hz
theorem bY (l:List (List Nat))(c m:Nat)(h:∀x∈l,x.length<=m):(l.map λx=>x.length+c).sum<=l.length*(m+c):=by
 induction l with
 |nil=>simp
 |cons x l ih=>
  have h1:=h x (by simp)
  have h2:=ih λy hy=>h y (mem_cons_of_mem _ hy)
  rw[map_cons,sum_cons,length_cons,add_mul,one_mul]
  exact Ah (add_le_add h1 h2)
theorem Vf (c:Nat):∀l:List Nat,(StrLaws.dbl c l).length<=2*l.length:=by
 intro lq
 induction lq with
 |nil=>simp[StrLaws.dbl]
 |cons k r ih=>
  unfold StrLaws.dbl
  split<;>simp only[length_cons]<;>exact Ah ih
theorem K6 {b:Eb}(h:b.1.length<=3):(Cy b).length<=20:=by
 unfold Cy
 refine le_trans (Vf _ _) ?_
 have h1:=(Hs (Ax b.1)).2
 have h2:(Ax b.1).length<=b.1.length:=length_filter_le _ _
 have h3:=Ma b.2
 rw[length_append]
 exact Ah (add_le_add (add_le_add (add_le_add (mul_le_mul_left 2 h3) (mul_le_mul_left 2 h1)) (mul_le_mul_left 6 h2)) (mul_le_mul_left 6 h))
theorem qT (c:Nat):([cs "^",cs "["]:List (List Nat)).any (·==[c])=decide (c=94\/c=91):=by
 rw[show cs "^"=[94]by decide,show cs "["=[91]by decide,Ps]
 congr 1
 simp
theorem Un {i j:Int}{σ:St}{Q:D->St->Prop}(h:Q (.int (i-j)) σ):Mz .Sub (.int i) (.int j) σ Q:=h
theorem Q2 (m:Nat)(h:m<=3):Builtin.Range.small (m:Int) 0 (-1)=true/\(Builtin.Range.rangeSize (m:Int) 0 (-1)).toNat=m:=by
 exact(by decide:∀m:Nat,m<4->Builtin.Range.small (m:Int) 0 (-1)=true/\(Builtin.Range.rangeSize (m:Int) 0 (-1)).toNat=m) m (Nat.lt_succ_of_le h)
theorem S5:∀L:List (List Nat),(D6 L).length<=L.length:=by
 intro lq
 induction lq with
 |nil=>exact le_refl _
 |cons c r ih=>
  have ih:=ih
  rw[O6]
  split
  ·simp
  ·rename_i h t e
   rw[e]at ih
   split<;>simp only[length_cons]at ih⊢ <;>exact Ah ih
theorem Pk (X B Y:List Nat){i j:Int}(hi:i=X.length)(hj:j=X.length+B.length):E4 (X++(B++Y)) (some i) (some j)=B:=by
 subst hi hj
 rw[show((X.length:Int)+B.length)=((X.length+B.length:Nat):Int)by rfl,Vg _ _ _ (by simp +arith only) (by simp)]
 simp
theorem Vx:∀(ps:List Pc),(∀p∈ps,okP p)->∀c∈Ag ps,c=45\/oJ c:=by
 intro lq
 induction lq with
 |nil=>intro _ c h;simp[Ag]at h
 |cons p r ih=>
  intro ho c h
  have e:Ag (p::r)=A6 p++Ag r:=by simp[Ag]
  rw[e]at h
  rcases mem_append.mp h with h|h
  ·have:=ho p mem_cons_self
   unfold A6 at h
   split at h
   ·rw[mem_singleton.mp h];exact .inr this.1
   ·simp only[mem_cons,not_mem_nil,or_false]at h
    rcases h with rfl|rfl|rfl
    ·exact .inr this.1
    ·exact .inl rfl
    ·exact .inr this.2.1
  ·exact ih (λq hq=>ho q (mem_cons_of_mem _ hq)) c h
theorem Qp {ps:List Pc}(hn:ps≠[])(ho:∀p∈ps,okP p):∃c r,Ag ps=c::r/\oJ c:=by
 cases ps with
 |nil=>exact absurd rfl hn
 |cons p r=>
  have:=ho p mem_cons_self
  have e:Ag (p::r)=A6 p++Ag r:=by simp[Ag]
  rw[e]
  unfold A6
  split
  ·exact⟨_,_,rfl,this.1⟩
  ·exact⟨_,_,rfl,this.1⟩
theorem So:∀ps:List Pc,(∀p∈ps,p.lone=true)\/∃l p r,ps=l++p::r/\(∀q∈l,q.lone=true)/\p.lone=false:=by
 intro lq
 induction lq with
 |nil=>exact .inl λ_ h=>nomatch h
 |cons p r ih=>
  cases hp:p.lone with
  |false=>exact .inr ⟨[],p,r,rfl,(λ_ h=>nomatch h),hp⟩
  |true=>
   rcases ih with h|⟨l,q,t,e,h,hq⟩
   ·refine .inl λq hq=>?_
    rcases mem_cons.mp hq with rfl|hq
    ·exact hp
    ·exact h q hq
   ·refine .inr ⟨p::l,q,t,by rw[e];rfl,λx hx=>?_,hq⟩
    rcases mem_cons.mp hx with rfl|hx
    ·exact hp
    ·exact h x hx
theorem C7:∀l:List Pc,(∀q∈l,q.lone=true)->Ag l=l.map (·.x):=by
 intro lq
 induction lq with
 |nil=>intro _;exact rfl
 |cons p r ih=>
  intro h
  have ih:=ih λq hq=>h q (mem_cons_of_mem _ hq)
  have e:Ag (p::r)=A6 p++Ag r:=by simp[Ag]
  rw[e,ih];unfold A6;rw[if_pos (h p mem_cons_self)];rfl
theorem J7:∀(l:List Pc) (cur:List Nat) (rest:List Pc),(∀q∈l,q.lone=true)->Ak cur (l++rest)=Ak (cur++l.map (·.x)) rest:=by
 intro lq
 induction lq with
 |nil=>intro cur rest _;simp
 |cons p r ih=>
  intro cur rest h
  rw[cons_append,F7 (h p mem_cons_self),ih _ _ λq hq=>h q (mem_cons_of_mem _ hq)]
  simp
theorem Ht (a b:List Pc):Ag (a++b)=Ag a++Ag b:=by simp[Ag]
theorem E8 (p:Pc)(r:List Pc)(h:p.lone=false):Ag (p::r)=p.x::45::p.y::Ag r:=by
 have e:Ag (p::r)=A6 p++Ag r:=by simp[Ag]
 rw[e];unfold A6;rw[if_neg (by rw[h];decide)];rfl
theorem U1 {l:List Pc}(h:∀q∈l,q.lone=true)(ho:∀q∈l,okP q):45∉Ag l:=by
 rw[C7 l h]
 intro hm
 refine Ac (mem_map.mp hm) λq hq e=>?_
 exact(ho q hq).1.1 e
theorem nA {T A cur post:List Nat}{rest:List Pc}(hT:T=A++(cur++(Ag rest++93::post)))(ho:∀p∈rest,okP p){i j:Int}(hi:i=A.length+cur.length+1)(hj:j=A.length+cur.length+(Ag rest).length):
  (Ls T (cs "-") i j= -1/\∀p∈rest,p.lone=true)\/∃l p r,rest=l++p::r/\(∀q∈l,q.lone=true)/\p.lone=false/\Ls T (cs "-") i j=A.length+cur.length+l.length+1:=by
 have hg:∀k,T[A.length+cur.length+k]? =(Ag rest++93::post)[k]? :=λk=>by
  rw[hT,List.getElem?_append_right (by simp +arith only),List.getElem?_append_right (by exact Ah (Bp (A.length+cur.length+k) (A.length)))]
  congr 1;rw[Nat.sub_sub,Nat.add_sub_cancel_left]
 have hl:T.length=A.length+cur.length+(Ag rest).length+1+post.length:=by rw[hT];simp<;>simp +arith only
 rw[show cs "-"=[45]by decide,hi,hj,show((A.length:Int)+cur.length+1)=((A.length+cur.length+1:Nat):Int)by rfl,show((A.length:Int)+cur.length+(Ag rest).length)=((A.length+cur.length+(Ag rest).length:Nat):Int)by rfl]
 have hf:=aI T 45 (A.length+cur.length+1) (A.length+cur.length+(Ag rest).length) (by exact Ah (le_of_eq hl.symm))
 rcases So rest with hlone|⟨l,p,r,e,hlone,hp⟩
 ·have hne:=U1 hlone ho
  refine .inl ⟨?_,hlone⟩
  rcases hf with⟨h,_⟩|⟨q,h,h1,h2,h3,_⟩
  ·exact h
  ·exfalso
   refine Af (show∃k,q=A.length+cur.length+k from⟨q-(A.length+cur.length),by exact Pv (Ah h1)⟩) λk Z=>?_
   subst Z
   rw[hg,List.getElem?_append_left (by exact Ah h2)]at h3
   exact hne (List.mem_of_getElem? h3)
 ·refine .inr ⟨l,p,r,e,hlone,hp,?_⟩
  have hol:∀q∈l,okP q:=λq hq=>ho q (by rw[e];exact List.mem_append_left _ hq)
  have hop:okP p:=ho p (by rw[e];simp)
  have hsl:(Ag l).length=l.length:=by rw[C7 l hlone,length_map]
  have hs:Ag rest=(Ag l++[p.x])++45::p.y::Ag r:=by rw[e,Ht,E8 p r hp];simp
  have h45:(Ag rest++93::post)[l.length+1]? =some 45:=by
   rw[hs,append_assoc,List.getElem?_append_right (by simp;exact Ah (le_of_eq hsl))]
   simp[hsl]
  have hlt:l.length+1<(Ag rest).length:=by rw[hs];simp[hsl]
  have hno:∀k,k<l.length+1->(Ag rest++93::post)[k]? ≠some 45:=λk hk hx=>by
   rw[hs,append_assoc,List.getElem?_append_left (by simp[hsl];exact Ah hk)]at hx
   rcases mem_append.mp (List.mem_of_getElem? hx)with hm|hm
   ·exact U1 hlone hol hm
   ·exact hop.1.1 (mem_singleton.mp hm).symm
  rcases hf with⟨_,h⟩|⟨q,h,h1,h2,h3,h4⟩
  ·exact absurd (by rw[hg];exact h45) (h (A.length+cur.length+(l.length+1)) (by simp +arith only) (by exact Ah hlt))
  ·refine Af (show∃k,q=A.length+cur.length+k from⟨q-(A.length+cur.length),by exact Pv (Ah h1)⟩) λk Y=>?_
   subst Y
   rw[hg]at h3
   have hk:k=l.length+1:=by
    rcases Nat.lt_trichotomy k (l.length+1)with hlt2|heq|hgt
    ·exact absurd h3 (hno k hlt2)
    ·exact heq
    ·exact absurd (by rw[hg];exact h45) (h4 (A.length+cur.length+(l.length+1)) (by simp +arith only) (by exact Ah hgt))
   rw[h,hk];rfl
theorem Zs {ps:List Pc}(ho:∀p∈ps,okP p)(h:45∉Ag ps):Ax ps=ps:=by
 unfold Ax
 rw[List.filter_eq_self]
 intro p hp
 have hl:p.lone=true:=by
  cases q:p.lone with
  |true=>rfl
  |false=>
   exfalso
   refine Gp (List.append_of_mem hp) λa b Z=>?_
   subst Z
   exact h (by rw[Ht,E8 p b q];simp)
 simp[(ho p hp).2.2 hl]
theorem mJ (x:List Nat):By (cs "-") x=decide (45∈x):=by
 unfold By
 rw[show cs "-"=[45]by decide]
 exact(StrLaws.found_one ⟨x.toArray⟩ 45).trans (by simp)
theorem jV (b:Bool):45∉Av b:=by cases b<;>simp[Av]
theorem oN {a b:Nat}{i:Int}(e:i=a)(h:a<b):decide (i<(b:Int))=true:=decide_eq_true (e▸Int.ofNat_lt.2 h)
theorem tD {a b:Nat}{i:Int}(e:i=a)(h:a<b):decide (i>=(b:Int))=false:=decide_eq_false (Int.not_le.2 (e▸Int.ofNat_lt.2 h))
theorem lT {X r:List (List Nat)}{x:List Nat}{t:Nat}(e:X.length=t):((X++x::r).map D.str)[t]? =some (.str x):=by rw[List.getElem?_map,Zl e];rfl
theorem lS {X r:List (List Nat)}{x y:List Nat}{t:Nat}(e:X.length=t):((X++x::y::r).map D.str)[t+1]? =some (.str y):=by rw[append_cons];exact lT (by rw[length_append,e];rfl)
theorem pJ {X r:List (List Nat)}{x y:List Nat}{t:Nat}(e:X.length=t):((X++x::r).map D.str).set t (.str y)=(X++y::r).map D.str:=by subst e;simp
theorem qL {X r:List (List Nat)}{x y:List Nat}{t:Nat}(e:X.length=t):((X++x::y::r).map D.str).eraseIdx (t+1)=(X++x::r).map D.str:=by subst e;rw[map_append,map_append,List.eraseIdx_append_of_length_le (by rw[length_map];exact le_succ _),length_map,Nat.add_sub_cancel_left];rfl
theorem pZ {T A1 B post:List Nat}{x y:Nat}(h:T=A1++(x::(B++y::post))):T.length=A1.length+1+B.length+1+post.length:=by
 rw[h,length_append,length_cons,length_append,length_cons];exact le_antisymm (by simp +arith only) (by simp +arith only)
theorem pT {T A1 S:List Nat}{x:Nat}(h:T=A1++(x::S))(k c:Nat)(e:S[k]? =some c):Fg T ((A1.length:Int)+1+k)=some c:=by
 rw[show((A1.length:Int)+1+k)=((A1.length+1+k:Nat):Int)by rfl]
 refine Di ?_
 rw[h,append_cons,List.getElem?_append_right (by rw[length_append];exact le_add_right _ _),length_append]
 exact(congrArg (S[·]?) (Nat.add_sub_cancel_left (A1.length+1) k)).trans e
theorem nZ (b:Bool)(c:Nat)(r Y:List Nat):(Av b++c::r++Y)[0]? =some (if b=true then 33 else c):=by cases b<;>rfl
theorem mC {α:Type}(a:List α){x:α}:(a++[x]).length=a.length+1:=length_append
theorem tW (A c M R P:List Nat):A++(c++(M++R++P))=A++((c++M)++(R++P)):=by simp only[append_assoc]
theorem mB (A c l:List Nat)(ps:List Pc)(x:Nat):(A.length:Int)+c.length+ps.length+1=A.length+((c++(ps.map (λq:Pc=>q.x)++[x])).length:Nat):=by
 rw[length_append,length_append,length_map,Int.natCast_add,Int.natCast_add,<-Int.add_assoc,<-Int.add_assoc];rfl
theorem To {Γ:W}{A:Around}{a p P cc:Addr}{pm doc:Value}(ok:Γ.Ok)(N:Fn Γ a (docDef d8.name d8.params d8.body d8.scope pm (.ref cc) doc) ["pat","STAR","QUESTION_MARK"] d8.body)(hcP:(cc,P)∈Γ.tabs)(hp1:Γ.mg (ofString "_twin_re_1")=some (.ref p))(hp:Ko (λa=>Γ.B.get? a) p)(hpt:∃o,Γ.B.get? p=some o/\o.cls=.type "re.Pattern"/\o.dict=none)(hmk1:∀G cv (pos':Pos) q,pos'.line=62->Bd G cv q->Γ.codeOk P pos' G cv)(hmk2:∀G cv (pos':Pos),pos'.line=63->Bd G cv kD->Γ.codeOk P pos' G cv)(hhit:∀G cv (pos':Pos),pos'.line=63->Γ.codeOk P pos' G cv->Bd G cv kD)(len1:Γ.mg (ofString "len")=none)(len2:Γ.mb (ofString "len")=some (.builtin "len"))(ran1:Γ.mg (ofString "range")=none)(ran2:Γ.mb (ofString "range")=some (.type "range"))(hA:Bi 2 A):Ar Γ A (.ref a) S8:=by
 refine(Dr ok N rfl (by have:=hA.depth;exact Ah this) (λL=>w8.2 ok N hcP hp1 hp hpt hmk1 hmk2 hhit len1 len2 ran1 ran2 A hA L)).imp ?_
 intro ds own Q Z
 refine Ds Z λbs u v z8 hb hok q=>?_
 clear Z
 subst z8
 refine⟨rfl,?_⟩
 have hlen:=Vo bs hok
 unfold w8
 dsimp only
 refine Aq ⟨by decide,B0 (Aq (Ab rfl ⟨_,_,rfl,Ai _ _,B0 (Aq ((Ab rfl ⟨_,rfl,eT (by exact Ah (add_le_add hlen (mul_le_mul_left 12 hb))) ⟨(by show(2:Nat)<=sizeLine;decide),_,rfl,rfl,?_⟩⟩)))⟩))⟩
 refine Ao (λσ=>∃g,σ=⟨Cn (Bx bs) u v own.length (Bx bs).length,own++(bs.map Oz).map D.str::g,[]⟩) (λ_ _=>False) ?_ ?_ (λ_ _ h=>h.elim)
 ·intro R h1 _
  refine⟨bs.length+1,?_⟩
  refine Dd (λm σ=>∃don rest g,bs=don++rest/\m=rest.length/\σ=⟨Cn (Bx bs) u v own.length (Bx don).length,own++(don.map Oz).map D.str::g,[]⟩) ?_ _ bs.length _ (lt_succ_self _) ⟨[],bs,[],rfl,rfl,rfl⟩
  intro m σ RR Y hn _
  refine Fq Y λdon rest g e z9 y0=>?_
  clear Y
  subst z9
  subst y0
  refine Ab rfl (Ab rfl (Mn ?_))
  cases rest with
  |nil=>
   rw[append_nil]at e
   subst e
   have e1:decide (((Bx bs).length:Int)<(Bx bs).length)=false:=decide_eq_false (Int.lt_irrefl _)
   exact Yj e1 (h1 _ ⟨g,rfl⟩)
  |cons b rest=>
   have hT:Bx bs=Bx don++(91::((Av b.2++Ag b.1)++93::Bx rest)):=by rw[e,M7,Hr]
   have hpl:(Bx don).length<(Bx bs).length:=by rw[hT,length_append];exact Nat.lt_add_of_pos_right (succ_pos _)
   refine Um (oN rfl hpl) ?_
   have hob:=hok b (by rw[e];exact mem_append_right _ mem_cons_self)
   have hw:∀k:Nat,k<=100->B6 (k:Int):=λk hk=>iw rfl (le_trans hk (by decide))
   refine A2 (Qp hob.1 hob.2.2) λc0 r0 hc0 hok0=>?_
   have hch:=Vx b.1 hob.2.2
   generalize hpre:Bx don=A1 at hT hpl⊢
   generalize hpost:Bx rest=post at hT
   generalize hTT:Bx bs=T at hT hpl hlen⊢
   generalize hO:(don.map Oz).map D.str=texts at*
   refine Aq (Ab rfl (Ab rfl (Gy (hw _ (by exact Ah (add_le_add (add_le_add hpl hlen) (mul_le_mul_left 12 hb)))) (Di (x:=91) (by rw[hT];exact Zl rfl)) (B0 (Aq (Ab rfl ((Hd (B0 (Ap (Ab rfl ((Qw ?_)))))))))))))
   refine Yj (by rw[show decide ([91]=cs "*")=false by decide]) (Ap (Ab rfl ((Qw ?_))))
   refine Yj (by rw[show decide ([91]=cs "?")=false by decide]) (Ap (Ab rfl ((Qw ?_))))
   refine Um (by rw[show decide ([91]=cs "[")=true by decide]) (Aq (Ab rfl (B0 ?_)))
   have at_:=pT hT
   have hat0:Fg T ((A1.length:Int)+1)=some (if b.2=true then 33 else c0):=by
    have:=at_ 0 (if b.2=true then 33 else c0) (by rw[hc0];exact nZ _ _ _ _)
    rwa [Int.natCast_zero,Int.add_zero]at this
   have hTl:T.length=A1.length+1+(Av b.2++Ag b.1).length+1+post.length:=pZ hT
   refine Ao (λσ=>σ=⟨Cn T u v own.length (A1.length+1)++[("c",.str [91]),("j",.int (A1.length+1+(Av b.2).length))],own++texts::g,[]⟩) (λ_ _=>False) ?_ ?_ (λ_ _ h=>h.elim)
   ·intro R r1 _
    refine Ab rfl (Ab rfl (Mn ?_))
    refine Um (oN (a:=A1.length+1) rfl (Ah (le_of_eq hTl.symm))) (Ab rfl (Ab rfl (Gy (iw (n:=A1.length+1) rfl (Ah (add_le_add (add_le_add (le_of_eq hTl.symm) hlen) (mul_le_mul_left 12 hb)))) hat0 ((Qw ?_)))))
    cases hb2:b.2 with
    |true=>
     exact Um (by rw[show(if true=true then 33 else c0)=33 from rfl,L2 (by decide)]) (sT (Ap (Ab rfl ((Hd (B0 (r1 _ (by rw[hb2];rfl))))))))
    |false=>
     refine Yj (by rw[show(if false=true then 33 else c0)=c0 from rfl,L1 (d:=33) (by decide) hok0.2.2.1]) (sF (r1 _ ?_))
     rw[hb2]
     show _=St.mk (Cn T u v own.length (A1.length+1)++[("c",.str [91]),("j",.int ((A1.length:Int)+1+(0:Nat)))]) _ _
     rw[Int.natCast_zero,Int.add_zero];rfl
   rintro σ rfl
   have hBl:(Av b.2).length+1<=(Av b.2++Ag b.1).length:=by rw[length_append,hc0];exact Nat.add_le_add_left (succ_le_succ (zero_le _)) _
   have hbl:=Ma b.2
   have hps:=hob.2.1
   have hBl3:(Av b.2++Ag b.1).length=(Av b.2).length+(Ag b.1).length:=length_append
   have hB0:(Av b.2++Ag b.1++93::post)[(Av b.2).length]? =some c0:=by
    rw[append_assoc,List.getElem?_append_right (le_refl _),sub_self,hc0];rfl
   refine Ao (λσ=>σ=⟨Cn T u v own.length (A1.length+1)++[("c",.str [91]),("j",.int (A1.length+1+(Av b.2).length))],own++texts::g,[]⟩) (λ_ _=>False) ?_ ?_ (λ_ _ h=>h.elim)
   ·intro R r1 _
    refine Ab rfl (Ab rfl (Mn ?_))
    refine Um (oN (a:=A1.length+1+(Av b.2).length) rfl (Ah (add_le_add (le_of_eq hTl.symm) hBl))) (Ab rfl (Ab rfl (Gy (iw (n:=A1.length+1+(Av b.snd).length) rfl (Ah (add_le_add (add_le_add (add_le_add (le_of_eq hTl.symm) hBl) hlen) (mul_le_mul_left 12 hb)))) (at_ _ _ hB0) ((Qw ?_)))))
    exact Yj (by rw[L1 (d:=93) (by decide) hok0.2.1]) (sF (r1 _ rfl))
   rintro σ rfl
   refine Ao (λσ=>σ=⟨Cn T u v own.length (A1.length+1)++[("c",.str [91]),("j",.int (A1.length+1+(Av b.2++Ag b.1).length))],own++texts::g,[]⟩) (λ_ _=>False) ?_ ?_ (λ_ _ h=>h.elim)
   ·intro R r1 _
    refine⟨(Av b.2++Ag b.1).length+1,?_⟩
    refine Dd (λm σ=>∃k,(Av b.2).length<=k/\k+m=(Av b.2++Ag b.1).length/\σ=⟨Cn T u v own.length (A1.length+1)++[("c",.str [91]),("j",.int (A1.length+1+k))],own++texts::g,[]⟩) ?_ _ ((Av b.2++Ag b.1).length - (Av b.2).length) _ (by exact Ah (sub_le ((Av b.snd++Ag b.fst).length) ((Av b.snd).length))) ⟨(Av b.2).length,le_refl _,by exact le_antisymm (Ah (le_of_eq (sub_add_cancel (Ah hBl:(Av b.snd).length<=(Av b.snd++Ag b.fst).length)))) (Ah (Bp ((Av b.snd++Ag b.fst).length) ((Av b.snd).length))),rfl⟩
    intro m σ RR2 V hn _
    refine Ay V λk hk1 hk2 y1=>?_
    clear V
    subst y1
    refine Ab rfl (Ab rfl (Mn ?_))
    refine Um (oN (a:=A1.length+1+k) rfl (Ah (add_le_add (le_of_eq hTl.symm) (le_of_eq hk2)))) ?_
    by_cases hk:k<(Av b.2++Ag b.1).length
    ·have hg:(Av b.2++Ag b.1++93::post)[k]? =some ((Av b.2++Ag b.1)[k]):=by rw[List.getElem?_append_left hk,List.getElem?_eq_getElem hk]
     have hne:(Av b.2++Ag b.1)[k]≠93:=by
      have hm:(Av b.2++Ag b.1)[k]∈Ag b.1:=by
       rw[List.getElem_append_right hk1];exact List.getElem_mem _
      rcases hch _ hm with h|h
      ·rw[h];decide
      ·exact h.2.1
     refine Ab rfl (Ab rfl (Gy (iw (n:=A1.length+1+k) rfl (Ah (add_le_add (add_le_add (add_le_add (le_of_eq hTl.symm) hk) hlen) (mul_le_mul_left 12 hb)))) (at_ _ _ hg) (?_)))
     refine kT (Um (by rw[L1 (d:=93) (by decide) hne];rfl) (sT (Ap (Ab rfl ((Hd (B0 (hn (m-1) _ _ (by exact Ah (le_of_eq (sub_add_cancel (Ah (add_le_add hk (le_of_eq hk2.symm)):1<=m)))) (Ep.refl _ _) ⟨k+1,by exact Ah hbl,by exact le_antisymm (Ah (add_le_add (le_of_eq hk2) (le_of_eq (sub_add_cancel (Ah (add_le_add hk (le_of_eq hk2.symm)):1<=m))))) (Ah (add_le_add (le_of_eq hk2.symm) (Bp (m) (1)))),?_⟩))))))))
     show St.mk (Cn T u v own.length (A1.length+1)++[("c",.str [91]),("j",.int ((A1.length:Int)+1+k+1))]) _ _=_
     rw[show(A1.length:Int)+1+k+1=A1.length+1+((k+1:Nat):Int)by rfl]
    ·have hk3:k=(Av b.2++Ag b.1).length:=by exact le_antisymm (Ah (le_of_eq hk2)) (Ah (not_lt.1 hk))
     subst hk3
     have hg:(Av b.2++Ag b.1++93::post)[(Av b.2++Ag b.1).length]? =some 93:=Zl rfl
     refine Ab rfl (Ab rfl (Gy (iw (n:=A1.length+1+(Av b.snd++Ag b.fst).length) rfl (Ah (add_le_add (add_le_add (le_of_eq hTl.symm) hlen) (mul_le_mul_left 12 hb)))) (at_ _ _ hg) (?_)))
     exact kT (Yj (by rw[L2 (by decide)];rfl) (sF (r1 _ rfl)))
   rintro σ rfl
   refine Ap (Ab rfl (Ab rfl ?_))
   refine pQ (Yj (tD (a:=A1.length+1+(Av b.2++Ag b.1).length) rfl (Ah (le_of_eq hTl.symm))) ?_)
   have hcut:E4 T (some ((A1.length:Int)+1)) (some ((A1.length:Int)+1+(Av b.2++Ag b.1).length))=Av b.2++Ag b.1:=by
    rw[hT,show A1++91::(Av b.2++Ag b.1++93::post)=(A1++[91])++((Av b.2++Ag b.1)++93::post)from append_cons _ _ _]
    exact Pk _ _ _ (by rw[length_append];rfl) (by rw[mC A1];rfl)
   refine Aq (Ab rfl (Ab rfl ⟨_,rfl,Ab rfl ⟨_,rfl,Qx (by exact Ah (add_le_add hlen (mul_le_mul_left 12 hb))) ?_⟩⟩))
   rw[hcut]
   refine B0 ?_
   refine Ao (λσ=>∃i' ext g',σ=⟨Cn T u v own.length i'++[("c",.str [91]),("j",.int (A1.length+1+(Av b.2++Ag b.1).length)),("stuff",.str (Cy b))]++ext,own++texts::g',[]⟩) (λ_ _=>False) ?_ ?_ (λ_ _ h=>h.elim)
   ·intro R r1 _
    refine(Ab rfl ?_)
    rw[gF,mJ]
    by_cases h45:45∈Av b.2++Ag b.1
    ·rw[decide_eq_true h45]
     generalize hJ:((A1.length:Int)+1+(Av b.2++Ag b.1).length)=J at r1⊢
     generalize hOO:own++texts::g=O at*
     refine sF (Aq ⟨by decide,B0 ?_⟩)
     refine Ao (λσ=>σ=⟨Cn T u v own.length (A1.length+1)++[("c",.str [91]),("j",.int J),("stuff",.str (Av b.2++Ag b.1)),("chunks",.obj O.length),("k",.int (A1.length+1+(Av b.2).length+1))],O++[[]],[]⟩) (λ_ _=>False) ?_ ?_ (λ_ _ h=>h.elim)
     ·intro R2 r2 _
      refine Ab rfl (Ab rfl (Gy (iw (n:=A1.length+1) rfl (Ah (add_le_add (add_le_add (le_of_eq hTl.symm) hlen) (mul_le_mul_left 12 hb)))) hat0 ((Qw ?_))))
      cases hb2:b.2 with
      |true=>
       refine Um (by rw[show(if true=true then 33 else c0)=33 from rfl,L2 (by decide)]) (Ab rfl ((Hd (B0 (r2 _ ?_)))))
       rw[hb2,show((A1.length:Int)+1+(Av true).length+1)=A1.length+1+2 by show(A1.length:Int)+1+1+1=_;rfl];rfl
      |false=>
       refine Yj (by rw[show(if false=true then 33 else c0)=c0 from rfl,L1 (d:=33) (by decide) hok0.2.2.1]) (Ab rfl ((Hd (B0 (r2 _ ?_)))))
       rw[hb2,show((A1.length:Int)+1+(Av false).length+1)=A1.length+1+1 by show(A1.length:Int)+1+0+1=_;rfl];rfl
     rintro σ rfl
     refine Ao (λσ=>∃A cur rest done,T=A++(cur++(Ag rest++93::post))/\J=A.length+cur.length+(Ag rest).length/\done++Ak cur rest=Ak (Av b.2) b.1/\(∀p∈rest,p.lone=true)/\(cur≠[]\/rest≠[])/\done.length<=3/\
      σ=⟨Cn T u v own.length A.length++[("c",.str [91]),("j",.int J),("stuff",.str (Av b.2++Ag b.1)),("chunks",.obj O.length),("k",.int (-1))],O++[done.map D.str],[]⟩) (λ_ _=>False) ?_ ?_ (λ_ _ h=>h.elim)
     ·intro R2 r2 _
      refine⟨b.1.length+1,?_⟩
      have e9:(A1++[91]).length=A1.length+1:=length_append
      refine Dd (λm σ=>∃A cur rest done,T=A++(cur++(Ag rest++93::post))/\J=A.length+cur.length+(Ag rest).length/\done++Ak cur rest=Ak (Av b.2) b.1/\(∀p∈rest,okP p)/\(cur≠[]\/rest≠[])/\m=rest.length/\m<=3/\done.length+m<=3/\
       σ=⟨Cn T u v own.length A.length++[("c",.str [91]),("j",.int J),("stuff",.str (Av b.2++Ag b.1)),("chunks",.obj O.length),("k",.int (A.length+cur.length+1))],O++[done.map D.str],[]⟩) ?_ _ b.1.length _ (lt_succ_self _)
       ⟨A1++[91],Av b.2,b.1,[],by rw[hT,append_cons,append_assoc (Av b.2)],by rw[<-hJ,e9,hBl3];exact congrArg Int.ofNat (Nat.add_assoc (A1.length+1) _ _).symm,rfl,hob.2.2,.inr hob.1,rfl,hps,by rw[length_nil,zero_add];exact hps,by rw[e9,Int.natCast_add];rfl⟩
      intro m σ RR3 U hn2 hb2
      refine N3 U λA cur rest done t1 t2 t3 t4 t5 y2 t6 t7 y3=>?_
      clear U
      subst y2
      subst y3
      refine(Cp (sT ?_))
      refine Aq (Ab rfl ⟨⟨_,rfl⟩,(Ab rfl (Ab rfl ⟨_,_,_,_,rfl,rfl,B0 ?_⟩))⟩)
      rcases nA t1 t4 (i:=(A.length:Int)+cur.length+1) (j:=J) rfl t2 with⟨f1,f2⟩|⟨l,p,r,f1,f2,f3,f4⟩
      ·rw[f1]
       refine Aq (Ab rfl ((Mn ?_)))
       exact Um (by rw[show decide ((-1:Int)<0)=true by decide]) (Ap (hb2 _ (r2 _ ⟨A,cur,rest,done,t1,t2,t3,f2,t5,by exact Ah t7,rfl⟩)))
      ·rw[f4]
       refine Aq (Ab rfl ((Mn ?_)))
       rw[show decide ((A.length:Int)+cur.length+l.length+1<0)=false from decide_eq_false (Wl (n:=A.length+cur.length+l.length+1) rfl)]
       have hsl:(Ag l).length=l.length:=by rw[C7 l f2,length_map]
       have hs:Ag rest=(Ag l++[p.x])++45::p.y::Ag r:=by rw[f1,Ht,E8 p r f3];exact append_cons _ _ _
       have hc2:E4 T (some (A.length:Int)) (some ((A.length:Int)+cur.length+l.length+1))=cur++(l.map (λq:Pc=>q.x)++[p.x]):=by
        rw[t1,hs,C7 l f2,tW]
        exact Pk _ _ _ rfl (mB _ _ [] _ _)
       have hdl:done.length<=3:=by exact Ah t7
       have hrl:rest.length=l.length+r.length+1:=by rw[f1,length_append];rfl
       have hsr:(Ag rest).length=l.length+3+(Ag r).length:=by rw[hs,length_append,length_append,hsl];exact le_antisymm (by simp +arith only[length_cons,length_nil]) (by simp +arith only[length_cons,length_nil])
       refine sF (Aq (Ab rfl (gR (Ai _ _) (Ab rfl (Ab rfl ⟨_,rfl,Ab rfl ⟨_,rfl,Qx (by exact Ah (add_le_add hlen (mul_le_mul_left 12 hb))) (Mp (Ai _ _) (by rw[length_map];exact le_trans hdl (by decide)) ?_)⟩⟩)))))
       rw[hc2]
       refine Aq (Ab rfl ((Hd (B0 (Ap (Ab rfl ((Hd (B0 (hn2 r.length _ _ (by exact Ah (le_of_eq hrl.symm)) (Ep.refl _ _) ⟨A++((cur++(l.map (λq:Pc=>q.x)++[p.x]))++[45]),[p.y],r,done++[cur++(l.map (λq:Pc=>q.x)++[p.x])],?_,?_,?_,?_,.inl (cons_ne_nil _ _),rfl,by exact Ah (add_le_add (le_of_eq hrl.symm) t6),by rw[length_append];show done.length+1+r.length<=_;exact Ah (add_le_add t7 (le_of_eq hrl.symm)),?_⟩))))))))))
       ·rw[t1,hs,C7 l f2];simp
       ·rw[t2,hsr];simp<;>simp +arith only
       ·rw[<-t3,f1,J7 l cur (p::r) f2,Ga (by rw[f3];decide)];simp
       ·exact λq hq=>t4 q (by rw[f1];exact mem_append_right _ (mem_cons_of_mem _ hq))
       ·have e1:(((A++((cur++(l.map (λq:Pc=>q.x)++[p.x]))++[45])).length:Nat):Int)=(A.length:Int)+cur.length+l.length+1+1:=by rw[length_append,length_append (bs:=[45]),Int.natCast_add,Int.natCast_add,<-Int.add_assoc,<-mB _ _ []];rfl
        have e2:(A.length:Int)+cur.length+l.length+1+1+([p.y].length:Nat)+1=(A.length:Int)+cur.length+l.length+1+3:=by rfl
        rw[e1,e2,map_append]
        exact congrArg (λo=>St.mk (Cn T u v own.length ((A.length:Int)+cur.length+l.length+1+1)++[("c",.str [91]),("j",.int J),("stuff",.str (Av b.2++Ag b.1)),("chunks",.obj O.length),("k",.int ((A.length:Int)+cur.length+l.length+1+3))]) o []) (B4 O _ _)
     intro σ z0
     refine U9 z0 λA cur rest done t1 t2 t3 t4 t5 t6 y4=>?_
     clear z0
     subst y4
     have hc3:E4 T (some (A.length:Int)) (some J)=cur++Ag rest:=by
      rw[t1,<-append_assoc cur]
      exact Pk _ _ _ rfl (by rw[t2,length_append];exact Int.add_assoc _ _ _)
     refine Aq (Ab rfl (Ab rfl ⟨_,rfl,Ab rfl ⟨_,rfl,Qx (by exact Ah (add_le_add hlen (mul_le_mul_left 12 hb))) ?_⟩⟩))
     rw[hc3]
     refine B0 ?_
     refine Ao (λσ=>∃i' ch,σ=⟨Cn T u v own.length i'++[("c",.str [91]),("j",.int J),("stuff",.str (Av b.2++Ag b.1)),("chunks",.obj O.length),("k",.int (-1)),("chunk",.str ch)],O++[(Ak (Av b.2) b.1).map D.str],[]⟩) (λ_ _=>False) ?_ ?_ (λ_ _ h=>h.elim)
     ·intro R2 r2 _
      have hne:cur++Ag rest≠[]:=by
       rcases t5 with h|h
       ·exact λe=>h (List.append_eq_nil_iff.mp e).1
       ·have:=(Hs rest).1
        intro e
        rw[(List.append_eq_nil_iff.mp e).2]at this
        exact h (List.length_eq_zero_iff.mp (by simpa using this))
      have hcl:(cur++Ag rest).length<=100:=by
       have:=congrArg List.length t1
       simp only[length_append,length_cons]at this⊢;exact Ah (add_le_add (add_le_add (le_of_eq this.symm) hlen) (mul_le_mul_left 12 hb))
      refine Ab rfl ⟨by exact lt_of_le_of_lt hcl (by decide),?_⟩
      refine Um (by rw[List.isEmpty_eq_false_iff.2 hne];rfl) (Ap (Ab rfl (gR (Ai _ _) (Ab rfl (Mp (Ai _ _) (by rw[length_map];exact le_trans t6 (by decide)) (r2 _ ⟨A.length,cur++Ag rest,?_⟩))))))
      have e1:Ak (Av b.2) b.1=done++[cur++Ag rest]:=by
       rw[<-t3,C7 rest t4]
       have:=J7 rest cur [] t4
       rw[append_nil]at this
       rw[this];rfl
      rw[e1,map_append]
      exact congrArg (λo=>St.mk (Cn T u v own.length A.length++[("c",.str [91]),("j",.int J),("stuff",.str (Av b.2++Ag b.1)),("chunks",.obj O.length),("k",.int (-1)),("chunk",.str (cur++Ag rest))]) o []) (B4 O _ _)
     intro σ z1
     refine Gp z1 λi' ch y5=>?_
     clear z1
     subst y5
     have hC:=split_len b.1 (Av b.2)
     have hCz:0<(Ak (Av b.2) b.1).length:=List.length_pos_iff.mpr (Qm _ _)
     have hom:∀p∈b.1,p.lone=true->p.x=p.y:=λp hp=>(hob.2.2 p hp).2.2
     have hmg:=Ke b.1 (Av b.2) hom
     have htn:=λt ht=>Wm (t:=t) (cur:=Av b.2) (ps:=b.1) ht hom
     refine Ao (λσ=>∃ext'',σ=⟨Cn T u v own.length i'++[("c",.str [91]),("j",.int J),("stuff",.str (Av b.2++Ag b.1)),("chunks",.obj O.length)]++ext'',O++[(Ak (Av b.2) (Ax b.1)).map D.str],[]⟩) (λ_ _=>False) ?_ ?_ (λ_ _ h=>h.elim)
     ·intro R2 r2 _
      rw[<-hmg]at r2
      generalize Ak (Av b.2) b.1=C at hC hCz htn r2⊢
      refine Af (show∃m,C.length=m+1 from⟨C.length-1,by exact le_antisymm (Ah (Bp (C.length) (1))) (Ah (le_of_eq (sub_add_cancel (Ah hCz:1<=C.length))))⟩) λm hm=>?_
      have hm3:m<=3:=by exact Ah (add_le_add (add_le_add (le_of_eq hm.symm) hC.1) hps)
      refine Ab rfl ⟨_,rfl,?_⟩
      rw[sW]
      refine⟨_,Ai _ _,by rw[length_map];exact lt_of_le_of_lt (Ah (add_le_add hC.1 hps)) oQ,(Un ((⟨1,rfl,_,_,_,rfl,by decide,?_⟩)))⟩
      rw[length_map,show((C.length:Int)-1)=(m:Int)by rw[hm];exact qC m]
      refine⟨⟨by decide,(Q2 m hm3).1⟩,?_⟩
      rw[(Q2 m hm3).2]
      refine E1 (λitems σ=>∃(t:Nat) (kk:Int),t<C.length/\items=Fd t (-1) t/\σ=⟨Cn T u v own.length i'++[("c",.str [91]),("j",.int J),("stuff",.str (Av b.2++Ag b.1)),("chunks",.obj O.length),("k",.int kk),("chunk",.str ch)],O++[(C.take t++D6 (C.drop t)).map D.str],[]⟩) ?_ ?_ _ _ ⟨m,-1,by exact Ah (le_of_eq hm.symm),rfl,?_⟩
      ·intro x rr σ R3 z2 hn3 _ _
       refine Aj z2 λt kk ht e2 y6=>?_
       clear z2
       subst y6
       cases t with
       |zero=>cases e2
       |succ t=>
        rw[Ge]at e2
        injection e2 with e3 e4
        subst e3 e4
        refine U8 (htn t ht) λc x y h tl m1 m2 m3 m4 m5=>?_
        refine⟨trivial,B0 (Ap ?_)⟩
        have hend:∀L:List (List Nat),L=C.take t++D6 (C.drop t)->R3 .next ⟨Cn T u v own.length i'++[("c",.str [91]),("j",.int J),("stuff",.str (Av b.2++Ag b.1)),("chunks",.obj O.length),("k",.int ((t+1:Nat):Int)),("chunk",.str ch)],O++[L.map D.str],[]⟩:=λL hL=>by
         subst hL
         exact hn3 _ _ (Ep.refl _ _) ⟨t,((t+1:Nat):Int),by exact Ah ht,by rw[show(((t+1:Nat):Int)+ -1)=(t:Int)by exact iQ _],rfl⟩
        rw[m2]at hend
        have hz:(C.take (t+1)++D6 (C.drop (t+1))).length<=100:=by
         have:=S5 (C.drop (t+1))
         rw[length_append,length_take];rw[length_drop]at this;exact Ah (add_le_add (add_le_add (add_le_add (add_le_add (min_le_left (t+1) (C.length)) this) (le_of_eq (sub_add_cancel (Ah ht:t+1<=C.length)))) hC.1) hps)
        rw[m1]at hz⊢
        generalize C.take t=X at m3 hend⊢
        have hg1:((X++(c++[x])::(y::h)::tl).map D.str)[t]? =some (.str (c++[x])):=lT m3
        have hg2:((X++(c++[x])::(y::h)::tl).map D.str)[t+1]? =some (.str (y::h)):=lS m3
        have ek:(((t+1:Nat):Int)-1)=(t:Int):=by exact iQ _
        have hcc:E4 (c++[x]) none (some (-1))=c:=bC c x
        have hch2:E4 (y::h) (some 1) none=h:=L3 (y::h) 1 (succ_le_succ (zero_le _))
        have hhl:h.length<=10:=by simp only[length_cons]at m5;exact Ah (add_le_add m5 hps)
        have hcl:c.length<=10:=by simp only[length_append,length_cons,length_nil]at m4;exact Ah (add_le_add (add_le_add m4 hbl) hps)
        refine Ab rfl (Ab rfl ((Un ?_)))
        rw[ek]
        refine Gd (Ai _ _) (hw _ (by exact Ah (add_le_add (add_le_add ht hC.1) hps))) (Di hg1) (⟨1,rfl,Gy (by constructor<;>decide) (Dl c x) (Ab rfl (Ab rfl (Gd (Ai _ _) (hw _ (by exact Ah (add_le_add (add_le_add ht hC.1) hps))) (Di hg2) ((Gy (hw 0 (by decide)) (Di (j:=0) (x:=y) rfl) ?_)))))⟩)
        refine pP ?_
        rw[sS]
        by_cases hxy:x>y
        ·rw[decide_eq_true hxy]
         rw[if_pos hxy]at hend
         refine sT (Aq (Ab rfl (Ab rfl ((Un ?_)))))
         rw[ek]
         refine Gd (Ai _ _) (hw _ (by exact Ah (add_le_add (add_le_add ht hC.1) hps))) (Di hg1) (⟨1,rfl,-1,rfl,Qx (by simp only[length_append,length_cons,length_nil];exact Ah hcl) (Ab rfl (Ab rfl (Gd (Ai _ _) (hw _ (by exact Ah (add_le_add (add_le_add ht hC.1) hps))) (Di hg2) (⟨1,rfl,Qx (by simp only[length_cons];exact Ah hhl) ⟨rfl,?_,Ab rfl (Ab rfl ((Un ?_)))⟩⟩))))⟩)
         ·rw[hcc,hch2];unfold sizeLine;exact le_trans (Ah (add_le_add hcl hhl)) b6
         ·rw[ek,hcc,hch2]
          have q1:seqIndex? (t:Int) ((X++(c++[x])::(y::h)::tl).map D.str).length=some t:=StrLaws.seqIndex_nonneg (lP (n:=t) rfl) (Int.ofNat_lt.2 (by rw[length_map,length_append,m3];exact Nat.lt_add_of_pos_right (succ_pos _)))
          have q2:seqIndex? ((t+1:Nat):Int) ((X++(c++h)::(y::h)::tl).map D.str).length=some (t+1):=StrLaws.seqIndex_nonneg (lP (n:=t+1) rfl) (Int.ofNat_lt.2 (by rw[length_map,length_append,m3];exact Nat.add_lt_add_left (Nat.succ_lt_succ (succ_pos _)) t))
          refine kR (j:=t) (own':=O++[(X++(c++h)::(y::h)::tl).map D.str]) (Ai _ _) (hw _ (by exact Ah (add_le_add (add_le_add ht hC.1) hps))) q1 ((congrArg (λl=>(O++[(X++(c++[x])::(y::h)::tl).map D.str]).set O.length l) (pJ m3)).trans (B4 _ _ _)) ?_
          refine Ap (Ab rfl (Ab rfl ⟨O.length,_,(X++(c++h)::(y::h)::tl).map D.str,t+1,rfl,rfl,Ai _ _,hw _ (by exact Ah (add_le_add (add_le_add ht hC.1) hps)),?_,q2,?_⟩))
          ·rw[length_map]
           simp only[length_append,length_cons]at hz⊢
           unfold sizeLine;exact le_trans (Ah (add_le_add (add_le_add (add_le_add (add_le_add (le_of_eq m3) hz) ht) hC.1) hps)) b6
          ·rw[qL m3]
           have e8:=hend _ rfl
           exact(B4 O ((X++(c++h)::(y::h)::tl).map D.str) ((X++(c++h)::tl).map D.str)).symm▸e8
        ·rw[decide_eq_false hxy]
         rw[if_neg hxy]at hend
         exact sF (hend _ rfl)
      ·intro σ z3
       refine Aj z3 λt kk ht e2 y7=>?_
       clear z3
       subst y7
       have:t=0:=by
        have:=congrArg List.length e2
        unfold Fd at this
        simpa using this.symm
       subst this
       exact⟨trivial,r2 _ ⟨[("k",.int kk),("chunk",.str ch)],rfl⟩⟩
      ·have h1:D6 (C.drop m)=C.drop m:=by
        have hl1:(C.drop m).length=1:=by rw[length_drop];exact le_antisymm (Ah (add_le_add (le_of_eq (sub_add_cancel (Ah (le_of_eq hm.symm):m<=C.length))) (le_of_eq hm))) (Ah (add_le_add (le_of_eq hm.symm) (Bp (C.length) (m))))
        refine Af (List.length_eq_one_iff.mp hl1) λz hz=>?_
        rw[hz];rfl
       rw[h1,take_append_drop]
     intro σ z4
     refine Af z4 λext'' y8=>?_
     clear z4
     subst y8
     have hC2:=split_len (Ax b.1) (Av b.2)
     have hkl:(Ax b.1).length<=b.1.length:=length_filter_le _ _
     have hmap:(Ak (Av b.2) (Ax b.1)).map (λz=>Bq (Bq z (cs "\\") (cs "\\\\")) (cs "-") (cs "\\-"))=(Ak (Av b.2) (Ax b.1)).map (StrLaws.dbl 92):=by
      refine map_congr_left λz hz=>?_
      rw[Qz,show cs "-"=[45]by decide]
      exact V7 _ _ 45 λh=>Sm _ _ (jV b.2) (λp hp=>hob.2.2 p (mem_filter.mp hp).1) z hz (dV _ _ h)
     have hsm:(((Ak (Av b.2) (Ax b.1)).map (StrLaws.dbl 92)).map λx=>x.length+(cs "-").length).sum<=sizeLine:=by
      have h5:(cs "-").length=1:=by decide
      rw[h5]
      refine le_trans (bY _ 1 40 λx hx=>?_) ?_
      ·refine Ac (mem_map.mp hx) λz hz y9=>?_
       subst y9
       exact le_trans (Vf 92 z) (mul_le_mul_left 2 (Ah (add_le_add (add_le_add (add_le_add (hC2.2 z hz) hbl) hkl) hps):z.length<=20))
      ·rw[length_map]
       have:(Ak (Av b.2) (Ax b.1)).length*(40+1)<=4*41:=mul_le_mul_right 41 (by exact Ah (add_le_add (add_le_add hC2.1 hkl) hps))
       unfold sizeLine;exact le_trans (Ah this) b6
     refine Ap ⟨_,Ak (Av b.2) (Ax b.1),rfl,Ai _ _,λz hz=>?_,?_,?_,B0 (r1 _ ⟨i',[("chunks",.obj O.length)]++ext'',g++[(Ak (Av b.2) (Ax b.1)).map D.str],?_⟩)⟩
     ·have:=hC2.2 z hz;exact Ah (add_le_add (add_le_add (add_le_add this hbl) hkl) hps)
     ·unfold sizeLine;exact le_trans (Ah (add_le_add (add_le_add hC2.1 hkl) hps)) b6
     ·rw[hmap];exact hsm
     ·rw[hmap,show cs "-"=[45]by decide,Th]
      exact congrArg (λo=>St.mk (Cn T u v own.length i'++[("c",.str [91]),("j",.int J),("stuff",.str (Cy b))]++([("chunks",.obj O.length)]++ext'')) o []) (by rw[<-hOO];exact append_assoc own (texts::g) _:O++[(Ak (Av b.2) (Ax b.1)).map D.str]=own++texts::(g++[(Ak (Av b.2) (Ax b.1)).map D.str]))
    ·rw[decide_eq_false h45]
     have hk:Ax b.1=b.1:=Zs hob.2.2 λh=>h45 (mem_append_right _ h)
     have h2:(cs "\\\\").length=2:=by decide
     refine sT (Ap (Ab rfl ⟨_,rfl,by rw[h2];exact le_trans (Ah (add_le_add (add_le_add (mul_le_mul_left 3 (le_of_eq hTl.symm)) (mul_le_mul_left 3 hlen)) (mul_le_mul_left 36 hb))) b6,B0 (r1 _ ⟨(A1.length:Int)+1,[],g,?_⟩)⟩))
     rw[Qz]
     unfold Cy
     rw[hk];rfl
   intro σ z5
   refine Vc z5 λi' ext g' w0=>?_
   clear z5
   subst w0
   have hsl:(Cy b).length<=20:=K6 hob.2.1
   refine Ao (λσ=>∃g',σ=⟨Cn T u v own.length i'++[("c",.str [91]),("j",.int (A1.length+1+(Av b.2++Ag b.1).length)),("stuff",.str (B8 (Cy b)))]++ext,own++texts::g',[]⟩) (λ_ _=>False) ?_ ?_ (λ_ _ h=>h.elim)
   ·intro R r1 _
    refine Ab rfl ⟨_,rfl,by exact le_trans hsl (by decide),λps=>B0 (r1 _ ⟨g'++[ps.map D.str],?_⟩)⟩
    exact congrArg (λo=>St.mk (Cn T u v own.length i'++[("c",.str [91]),("j",.int (A1.length+1+(Av b.2++Ag b.1).length)),("stuff",.str (B8 (Cy b)))]++ext) o []) (append_assoc own (texts::g') [ps.map D.str])
   intro σ z6
   refine Af z6 λg2 w1=>?_
   clear z6
   subst w1
   refine Aq (Ab rfl ((Hd (B0 ?_))))
   have fin:∀(loc:List (String×D)) (ext':List (String×D)) (o':List (List D)),loc=Cn T u v own.length (A1.length+1+(Av b.2++Ag b.1).length+1)++ext'->o'=own++(texts++[.str (Oz b)])::g2->RR .next ⟨loc,o',[]⟩:=by
    intro loc ext' o' e1 e2
    subst e1 e2
    refine hn rest.length _ _ (lt_succ_self _) (bW _) ⟨don++[b],rest,g2,by rw[e,append_cons],rfl,?_⟩
    have e3:(Bx [b]).length=(Av b.2++Ag b.1).length+2:=by rw[Hr];simp[Bx]<;>rfl
    have e4:((Bx (don++[b])).length:Int)=A1.length+1+(Av b.2++Ag b.1).length+1:=by rw[M7,length_append,e3,hpre];exact congrArg Int.ofNat (by simp +arith only:A1.length+((Av b.2++Ag b.1).length+2)=A1.length+1+(Av b.2++Ag b.1).length+1)
    rw[e4,map_append,map_append,hO,hTT]
    rfl
   have hob':Oz b=Hm (B8 (Cy b)):=rfl
   have hsz:=K5 (Cy b)
   generalize B8 (Cy b)=s at hob' hsz⊢
   have hadd:∀x:D,(own++texts::g2).set own.length (texts++[x])=own++(texts++[x])::g2:=λx=>gN _ _ _ _
   have htl:texts.length<=2:=by rw[<-hO,length_map,length_map];have:=congrArg List.length e;simp at this;exact Ah (add_le_add (le_of_eq this.symm) hb)
   cases s with
   |nil=>
    refine Ap (Ab rfl ⟨by decide,sT (Ap ⟨_,rfl,⟨_,_,rfl,Pb _ _ _,by unfold sizeLine;exact le_trans htl (by decide),fin _ ([("c",.str [91]),("j",.int (A1.length+1+(Av b.2++Ag b.1).length)),("stuff",.str [])]++ext) _ rfl ?_⟩⟩)⟩)
    exact(hadd _).trans (by rw[hob'];rfl)
   |cons c r=>
    refine Ap (Ab rfl ⟨by simp only[length_cons]at hsz⊢;exact lt_of_le_of_lt (Ah (add_le_add hsz (mul_le_mul_left 2 hsl))) oQ,sF (Ap (Ab rfl ((Qw ?_))))⟩)
    by_cases h33:c::r=[33]
    ·rw[h33]at hob'⊢
     refine Um (by rw[L2 (by decide)]) (Ap ⟨_,rfl,⟨_,_,rfl,Pb _ _ _,by unfold sizeLine;exact le_trans htl (by decide),fin _ ([("c",.str [91]),("j",.int (A1.length+1+(Av b.2++Ag b.1).length)),("stuff",.str [33])]++ext) _ rfl ?_⟩⟩)
     exact(hadd _).trans (by rw[hob'];rfl)
    ·rw[show decide (c::r=cs "!")=false from decide_eq_false (by rw[show cs "!"=[33]by decide];exact h33)]
     rw[L5 h33]at hob'
     refine sF (Ao (λσ=>σ=⟨Cn T u v own.length (A1.length+1+(Av b.2++Ag b.1).length+1)++[("c",.str [91]),("j",.int (A1.length+1+(Av b.2++Ag b.1).length)),("stuff",.str (if c=33 then 94::r else if c=94\/c=91 then 92::c::r else c::r))]++ext,own++texts::g2,[]⟩) (λ_ _=>False) ?_ ?_ (λ_ _ h=>h.elim))
     ·intro R r1 _
      refine Ab rfl ((Gy (hw 0 (by decide)) (Di (j:=0) (x:=c) rfl) ((Qw ?_))))
      by_cases hc33:c=33
      ·subst hc33
       refine Um (by rw[L2 (by decide)]) (Ap ((Ab rfl ⟨_,rfl,Qx (by exact Ah (add_le_add hsz (mul_le_mul_left 2 hsl))) ⟨rfl,?_,B0 (r1 _ ?_)⟩⟩)))
       ·have h1:=Kv (33::r) (some 1) none
        have h2:(cs "^").length=1:=by decide
        unfold sizeLine;exact le_trans (Ah (add_le_add (add_le_add (add_le_add (le_of_eq h2) h1) hsz) (mul_le_mul_left 2 hsl))) b6
       ·rw[show E4 (33::r) (some 1) none=r from L3 (33::r) 1 (succ_le_succ (zero_le _)),if_pos rfl]
        rfl
      ·rw[L1 (d:=33) (by decide) hc33]
       refine sF (Ap (Ab rfl ((Gy (hw 0 (by decide)) (Di (j:=0) (x:=c) rfl) ((⟨by decide,qP (ys:=[cs "^",cs "["]) ?_⟩))))))
       rw[qT]
       refine H6 (λhc=>?_) λhc=>?_
       ·have hc:=of_decide_eq_true hc
        refine Ap ((Ab rfl ⟨rfl,?_,B0 (r1 _ ?_)⟩))
        ·have h2:(cs "\\").length=1:=by decide
         unfold sizeLine;exact le_trans (Ah (add_le_add (add_le_add (le_of_eq h2) hsz) (mul_le_mul_left 2 hsl))) b6
        ·rw[if_neg hc33,if_pos hc];rfl
       ·have hc:=of_decide_eq_false hc
        refine r1 _ ?_
        rw[if_neg hc33,if_neg hc];rfl
     rintro σ rfl
     have hwz:(if c=33 then 94::r else if c=94\/c=91 then 92::c::r else c::r).length<=300:=by
      simp only[length_cons]at hsz
      split
      ·simp only[length_cons];exact Ah (add_le_add hsz (mul_le_mul_left 2 hsl))
      ·split<;>simp only[length_cons]<;>exact Ah (add_le_add hsz (mul_le_mul_left 2 hsl))
     generalize (if c=33 then 94::r else if c=94\/c=91 then 92::c::r else c::r)=w at hob' hwz⊢
     have cs1:(cs "[").length=1:=by decide
     have cs2:(cs "]").length=1:=by decide
     refine Ap ⟨_,rfl,⟨_,rfl,by decide,Ab rfl ⟨_,rfl,by unfold sizeLine;exact le_trans hwz (by decide),_,rfl,?_,⟨_,rfl,?_,?_,_,_,rfl,Pb _ _ _,by unfold sizeLine;exact le_trans htl (by decide),fin _ ([("c",.str [91]),("j",.int (A1.length+1+(Av b.2++Ag b.1).length)),("stuff",.str w)]++ext) _ rfl ?_⟩⟩⟩⟩
     ·simp only[nil_append,length_append];unfold sizeLine;exact le_trans (Ah (add_le_add (le_of_eq cs1) hwz)) b6
     ·simp only[nil_append,length_append];unfold sizeLine;exact le_trans (Ah (add_le_add (add_le_add (le_of_eq cs1) hwz) (le_of_eq cs2))) b6
     ·simp only[nil_append,length_append];unfold sizeLine;exact le_trans (Ah (add_le_add (add_le_add (le_of_eq cs1) hwz) (le_of_eq cs2))) b6
     exact(hadd _).trans (by rw[hob'];rfl)
 ·intro σ z7
  refine Af z7 λg w2=>?_
  clear z7
  subst w2
  refine Aq (Ab rfl (Ab rfl (Mo ⟨by simp,Ap (Ab rfl ?_)⟩)))
  exact q _ _ (prefix_append _ _) (Pb _ _ _)
noncomputable def d3:DefRec:=Bk PySem.Challenge.pw_in0167_01 3
noncomputable def Il (bs:List Eb):List Nat:=(bs.map Oz).flatten
theorem Xb (s:List Nat):(Hm s).length<=s.length+5:=by
 cases s with
 |nil=>decide
 |cons c r=>
  refine O8 (λl:List Nat=>l.length<=_) (λ_=>Nat.le_add_left _ _) λ_=>?_
  have h:(if c=33 then 94::r else if c=94\/c=91 then 92::c::r else c::r).length<=r.length+2:=
   O8 (λl:List Nat=>l.length<=r.length+2) (λ_=>le_succ _) λ_=>O8 (λl:List Nat=>l.length<=r.length+2) (λ_=>le_refl _) λ_=>le_succ _
  rw[length_cons,length_append,length_cons,length_cons,length_nil]
  exact Ah h
theorem Nr:∀bs:List Eb,(∀b∈bs,lL b)->(Il bs).length<=50*bs.length:=by
 intro lq
 induction lq with
 |nil=>intro _;simp[Il]
 |cons b r ih=>
  intro h
  have h1:=ih λx hx=>h x (mem_cons_of_mem _ hx)
  have h2:=K6 (h b mem_cons_self).2.1
  have h3:=K5 (Cy b)
  have h4:=Xb (B8 (Cy b))
  have e:Il (b::r)=Hm (B8 (Cy b))++Il r:=rfl
  rw[e,length_append,length_cons]
  exact Ah (add_le_add (add_le_add (add_le_add h4 h1) h3) (mul_le_mul_left 2 h2))
noncomputable def S3:Mine.Cf:=λds own Q=>∃bs:List Eb,ds=[.str (Bx bs)]/\bs.length<=2/\(∀b∈bs,lL b)/\∀own',own<+:own'->Q (.str (cs "(?s:"++Il bs++cs ")\\Z")) own'
theorem tB {Γ:W}(ok:Γ.Ok){A:Around}{a a8 a9:Addr}{pm code doc pm8 code8 doc8 pm9 code9 doc9:Value}(N:Fn Γ a (docDef d3.name d3.params d3.body d3.scope pm code doc) ["pat"] d3.body)(hA:Bi 3 A)
  (g8:Γ.mg (ofString "_translate")=some (.ref a8))(o8:∃o,Γ.B.get? a8=some o/\o.data=.func (docDef d8.name d8.params d8.body d8.scope pm8 code8 doc8))(f8:∀env,Ar Γ (A.deeper env) (.ref a8) S8)
  (g9:Γ.mg (ofString "_join_translated_parts")=some (.ref a9))(o9:∃o,Γ.B.get? a9=some o/\o.data=.func (docDef d9.name d9.params d9.body d9.scope pm9 code9 doc9))(f9:∀env,Ar Γ (A.deeper env) (.ref a9) S9)
  (ob1:Γ.mg (ofString "object")=none)(ob2:Γ.mb (ofString "object")=some (.type "object")):Ar Γ A (.ref a) S3:=by
 refine'(Dr ok N rfl (by have:=hA.depth;exact Ah this) (λL=>?w)).imp ?p
 case w=>
  have H:=H3 ok N (hA.deeper (callEnvC (docDef d3.name d3.params d3.body d3.scope pm code doc) L a)) L
  have F8:=f8 (callEnvC (docDef d3.name d3.params d3.body d3.scope pm code doc) L a)
  have F9:=f9 (callEnvC (docDef d3.name d3.params d3.body d3.scope pm code doc) L a)
  refine' Be ?_ ?_
  all_goals repeat' first
   |((with_reducible show _=_);first|assumption|rfl|decide)
   |((with_reducible show Ev _ _ _);assumption)
   |((with_reducible show Kd _ _ _);first|exact Kd.local (by rfl)|exact Kd.cell (by rfl) ⟨_,by rfl⟩)
   |((with_reducible show∀_,_=_);intro _;rfl)
   |((with_reducible show∀_ _,_=_);intro _ _;rfl)
   |((with_reducible show∀_ _,∃_,_);exact λ_ _=>⟨_,rfl⟩)
   |((with_reducible show Ar _ _ _ _);assumption)
   |((with_reducible show∃_,_/\_);assumption)
   |with_reducible exact Fu
   |with_reducible refine' Be ..
   |with_reducible refine' Co ..
   |with_reducible refine' Ft ..
   |with_reducible exact Ig
   |with_reducible refine' Q8 _ _ (by assumption) ..
   |with_reducible refine' cT ..
   |with_reducible exact Dc
   |with_reducible refine' B3 ..
   |with_reducible refine' Cb ..
 case p=>
  intro ds own Q Z
  refine Ck Z λbs Y hb hok q=>?_
  clear Z
  subst Y
  refine⟨rfl,?_⟩
  have hl:(Il bs).length<=50*bs.length:=Nr bs hok
  exact Aq (λa=>B0 (Aq (Ab rfl (Ab rfl (⟨bs,_,_,rfl,hb,hok,λown' k h1 h2=>B0 (Ap (Ab rfl (Ab rfl ⟨k,a,bs.map Oz,rfl,h2,by rw[length_map];exact le_trans hb (by decide),by unfold Il at hl;exact Ah (add_le_add hl (mul_le_mul_left 50 hb)),λown'' h3=>q _ (h1.trans h3)⟩)))⟩)))))
section
set_option genInjectivity false
set_option genSizeOf false
open PySem.W.X (postR postA postC postE tableObj y_call y_code y_start)
inductive Op where
 |n (i:Nat)
 |o (j:Nat)
 |t
 |p
 |s (j:Nat)
 |a (id:String)
inductive Xh (α:Type) where
 |top (k:Result->Sem α)
 |ret (c:Code) (hd:Option Value) (k:Result->Sem Fin) (κ:Xh α)
inductive Er (α:Type) where
 |top (t:Sem α)
 |inn (c:Code) (κ:Xh α) (t:Sem Fin)
structure SS where
 T:BT
 m:Nat
 i:Nat
 vs:Array Value
 L:List (Addr×Addr):=[]
 C:List (Code×Code):=[]
noncomputable def SS.Good (S:SS):Prop:=S.L.map (·.1)=S.L.map (·.2)/\S.C.map (·.1)=S.C.map (·.2)
structure qV where
 c:Code
 r:Result
 eff:SS->Option SS
structure XO where
 prog:Program
 w:World
 h₀:Heap
 n₁:Nat
 olds:List (Addr×Obj)
 P:Addr
 A:Around
 g:Array GenState
 d:Drawn
 t₀:Nat
 os:OsState
 sums:List qV:=[]
section
variable {α:Type}(V:XO)(Q:α->Shared->Prop)
noncomputable abbrev XO.M:Model:=model V.prog V.w
noncomputable def XO.ar:Xh α->Around
 | .top _=>V.A
 | .ret c hd _ κ=>((ar κ).under c).mark hd
noncomputable def XO.en:Xh α->Result->Shared->Prop
 | .top k=>postA V.prog V.w V.A Q (λ_ _=>False) k
 | .ret c _ k κ=>postR V.prog V.w (V.ar κ) c (postC V.prog V.w (V.ar κ) (en κ)) (postE (en κ)) k
noncomputable def XO.Means:Er α->Shared->Prop
 | .top t,s=>wpAny V.M V.A t Q (λ_ _=>False) s
 | .inn c κ t,s=>wpOwn V.M (V.ar κ) c t (postC V.prog V.w (V.ar κ) (V.en Q κ)) (postE (V.en Q κ)) s
noncomputable def XO.at (S:SS) (h:Heap):Shared:=⟨h,V.g,V.d,V.t₀+S.i,V.os⟩
structure XO.Rep (h:Heap)(S:SS):Prop where
 size:h.objs.size=V.n₁+S.m
 own:∀i o,S.T.get i=some o->i<S.m/\h.get? (V.n₁+i)=some o
 keep:∀b o,V.h₀.get? b=some o->b≠V.P->h.get? b=some o
 tab:h.get? V.P=some (tableObj S.vs)
 lt:V.P<V.n₁
structure XO.Ok0:Prop where
 size:V.h₀.objs.size=V.n₁
 olds:∀p∈V.olds,V.h₀.get? p.1=some p.2/\p.1≠V.P
noncomputable def XO.Told (X:qV):Prop:=∀A R S S' h,X.eff S=some S'->S'.L=S.L/\S'.C=S.C/\(V.Rep h S->(∀h',V.Rep h' S'->R X.r (V.at S' h'))->codeAny V.M A X.c R (V.at S h))
structure XO.Ok:Prop extends XO.Ok0 V where
 sums:∀X∈V.sums,V.Told X
noncomputable def Zh (ops:List Op) (S:SS) (a:Addr):Option (List Op×SS×Obj):=match ops with
 | .n j::ops=>(S.T.get j).map λo=>(ops,{S with L:=(a,V.n₁+j)::S.L},o)
 | .o j::ops=>V.olds[j]?.map λp=>(ops,{S with L:=(a,p.1)::S.L},p.2)
 | .t::ops=>some (ops,{S with L:=(a,V.P)::S.L},tableObj S.vs)
 |_=>none
noncomputable def eM (ops:List Op) (S:SS) (a:Addr) (f:Obj->Obj):Option (List Op×SS):=match ops with
 | .n j::ops=>match S.T.get j with
  |some o=>match(f o).isFreed with
   |true=>none
   |false=>some (ops,{S with L:=(a,V.n₁+j)::S.L,T:=S.T.set j f})
  |none=>none
 | .t::ops=>(PySem.W.X.tabOf (f (tableObj S.vs))).map λvs'=>(ops,{S with L:=(a,V.P)::S.L,vs:=vs'})
 |_=>none
noncomputable def Pu (S:SS) (o:Obj):Option SS:=match o.isFreed with
 |true=>none
 |false=>match(S.T.ins S.m o).get S.m with
  |some _=>some {S with T:=S.T.ins S.m o,m:=S.m+1}
  |none=>none
inductive kH (β:Type) where
 |pure (a:β)
 |raise (e:Value)
 |go (t:Sem β)
 |fresh (k:Tok->Sem β)
 |alloc (o:Obj) (k:Addr->Sem β)
 |load (a:Addr) (p:Option Value) (k:Obj->Sem β)
 |alive (a:Addr) (k:Option Obj->Sem β)
 |update (a:Addr) (p:Option Value) (f:Obj->Obj) (k:Unit->Sem β)
 |handled (k:Option Value->Sem β)
 |call (c:Code) (hd:Option Value) (g:Bool) (l:List Value) (k:Result->Sem β)
 |other
noncomputable def Pz {β:Type} (st:Setting) (t:Sem β):kH β:=match t with
 | .pure a=>.pure a
 | .raise e=>.raise e
 | .rule _ k=>.go (k ())
 | .at _ k=>.go (k ())
 | .point _ k=>.go (k ())
 | .ask k=>.go (k st)
 | .fresh k=>.fresh k
 | .alloc o k=>.alloc o k
 | .load a p k=>.load a p k
 | .loadIfAlive a k=>.alive a k
 | .update a p f k=>.update a p f k
 | .handled own k=>if own then .other else .handled k
 | .call c hd g l k=>.call c hd g l k
 |_=>.other
noncomputable def Hv (r:Result):Xh α->Er α
 | .top k=>.top (k r)
 | .ret c₁ _ k κ=>.inn c₁ κ (k r)
noncomputable def Pp (tb:String->Option Builtin) (ops:List Op) (S:SS) (c:Code) (inn:Xh α):Option (List Op×SS×Er α):=match ops with
 | .s j::ops=>match V.sums[j]? with
  |some X=>(X.eff S).map λS'=>(ops,{S' with C:=(c,X.c)::S'.C},Hv X.r inn)
  |none=>none
 |ops=>some (ops,S,.inn c inn (denote tb c))
noncomputable def nB (tb:String->Option Builtin) (ops:List Op) (S:SS) (κ:Xh α):Fin->Option (List Op×SS×Er α)
 | .done f=>some (ops,S,Hv (.ok f) κ)
 | .again c'=>match c'.quiet with
  |true=>some (ops,S,.inn c' κ (denote tb c'))
  |false=>none
noncomputable def Xx {β:Type} (wrap:Sem β->Er α) (ops:List Op) (S:SS) (hv:Option Value):kH β->Option (List Op×SS×Er α)
 | .go t=>some (ops,S,wrap t)
 | .fresh k=>some (ops,{S with i:=S.i+1},wrap (k (V.t₀+S.i)))
 | .alloc o k=>(Pu S o).map λS'=>(ops,S',wrap (k (V.n₁+S.m)))
 | .load a _ k=>(Zh V ops S a).map λr=>(r.1,r.2.1,wrap (k r.2.2))
 | .alive a k=>(Zh V ops S a).map λr=>(r.1,r.2.1,wrap (k (some r.2.2)))
 | .update a _ f k=>(eM V ops S a f).map λr=>(r.1,r.2,wrap (k ()))
 | .handled k=>some (ops,S,wrap (k hv))
 |_=>none
noncomputable def eO (tb:String->Option Builtin) (ops:List Op) (S:SS):kH α->Option (List Op×SS×Er α)
 | .call c hd _ _ k=>match hd with
  |none=>Pp V tb ops S c (.top k)
  |some _=>none
 |t=>Xx V .top ops S V.A.handled t
noncomputable def eP (tb:String->Option Builtin) (ops:List Op) (S:SS) (c:Code) (κ:Xh α):kH Fin->Option (List Op×SS×Er α)
 | .pure fin=>nB tb ops S κ fin
 | .raise e=>some (ops,S,Hv (.error e) κ)
 | .call c' hd _ _ k=>match PySem.W.X.okMark hd with
  |true=>Pp V tb ops S c' (.ret c hd k κ)
  |false=>none
 |t=>Xx V (.inn c κ) ops S ((V.ar κ).under c).handled t
noncomputable def Uk (tb:String->Option Builtin) (ops:List Op) (S:SS):Er α->Option (List Op×SS×Er α)
 | .top t=>eO V tb ops S (Pz ⟨V.prog,V.w.params⟩ t)
 | .inn c κ t=>eP V tb ops S c κ (Pz ⟨V.prog,V.w.params⟩ t)
noncomputable def qD:List Op->Bool
 | .p::_=>true
 |_=>false
noncomputable def Z1:Er α->Bool
 | .top t=>match Pz ⟨V.prog,V.w.params⟩ t with
  | .pure _=>true
  |_=>false
 | .inn .. =>false
noncomputable def Rg:Er α->Option (Code×Bool)
 | .top t=>match Pz ⟨V.prog,V.w.params⟩ t with
  | .call c hd _ _ _=>some (c,hd.isNone)
  |_=>none
 | .inn _ _ t=>match Pz ⟨V.prog,V.w.params⟩ t with
  | .call c hd _ _ _=>some (c,PySem.W.X.okMark hd)
  | .pure fin=>match fin with
   | .again c=>some (c,c.quiet)
   | .done _=>none
  |_=>none
noncomputable def Yp (r:Result):Er α->Er α
 | .top t=>match Pz ⟨V.prog,V.w.params⟩ t with
  | .call _ _ _ _ k=>.top (k r)
  |_=>.top t
 | .inn c κ t=>match Pz ⟨V.prog,V.w.params⟩ t with
  | .call _ _ _ _ k=>.inn c κ (k r)
  |_=>Hv r κ
noncomputable def sX (id:String):Code->Bool
 | .builtin i _=>i==id
 |_=>false
noncomputable def qS (ops:List Op) (x:Er α):Bool:=match ops with
 | .a id::_=>match Rg V x with
  |some p=>sX id p.1
  |none=>false
 |_=>false
noncomputable def Sv (tb:String->Option Builtin):Nat->List Op->SS->Er α->Option (SS×Er α)
 |0,_,_,_=>none
 |n+1,ops,S,x=>match qD ops||qS V ops x with
  |true=>some (S,x)
  |false=>match Z1 V x with
   |true=>some (S,x)
   |false=>match Uk V tb ops S x with
    |some (ops,S,x)=>Sv tb n ops S x
    |none=>none
end
end
section
open PySem.W.X (postR postA postC postE tableObj y_call y_code y_start)
section
variable {α β:Type}{V:XO}{Q:α->Shared->Prop}{h:Heap}{S S':SS}
theorem SS.Good.cons {S:SS}{p:Addr×Addr}{L:List (Addr×Addr)}(e:S.L=p::L)(g:S.Good):p.1=p.2/\SS.Good {S with L:=L}:=by
 refine Ae g λa b=>?_
 try clear g
 rw[e,map_cons,map_cons,List.cons.injEq]at a
 exact⟨a.1,a.2,b⟩
theorem XO.Ok0.old (O:V.Ok0){b:Addr}{o:Obj}(e:V.h₀.get? b=some o):b<V.n₁:=O.size▸Heap.lt_size e
theorem far {a n:Nat}(h:a<n)(j:Nat):a≠n+j:=λe=>by exact oO (add_le_add h (le_of_eq e.symm))
theorem XO.Rep.same (D:V.Rep h S){S':SS}(e1:S'.T=S.T)(e2:S'.m=S.m)(e3:S'.vs=S.vs):V.Rep h S':=
 ⟨e2▸D.size,λi o e=>e2▸D.own i o (e1▸e),D.keep,e3▸D.tab,D.lt⟩
theorem XO.Rep.alloc (D:V.Rep h S){o:Obj}(hf:o.isFreed=false)(hg:((S.T.ins S.m o).get S.m).isSome=true):V.Rep (h.push o) {S with T:=S.T.ins S.m o,m:=S.m+1}:=by
 refine⟨by rw[Heap.size_push,D.size];exact Nat.add_assoc ..,λi o' e=>?_,λb o' e q=>Heap.get?_push_of_some _ (D.keep b o' e q),Heap.get?_push_of_some _ D.tab,D.lt⟩
 have e:(S.T.ins S.m o).get i=some o':=e
 rw[BT.get_ins o S.T S.m hg]at e
 by_cases hi:i=S.m
 ·subst hi
  rw[if_pos rfl]at e
  cases e
  refine⟨lt_succ_self _,?_⟩
  rw[<-D.size];exact Heap.get?_push_size _ hf
 ·rw[if_neg hi]at e
  have z:=D.own i o' e
  exact⟨lt_succ_of_lt z.1,Heap.get?_push_of_some _ z.2⟩
theorem XO.Rep.update (O:V.Ok0)(D:V.Rep h S){j:Nat}{o:Obj}{f:Obj->Obj}(e:S.T.get j=some o)(hf:(f o).isFreed=false):V.Rep (h.update (V.n₁+j) f) {S with T:=S.T.set j f}:=by
 have z:=D.own _ _ e
 have hs:Heap.SameBut (V.n₁+j) h (h.update (V.n₁+j) f):=Heap.SameBut.update ..
 refine⟨by rw[hs.1,D.size],λi o' e'=>?_,λb o' e' q=>(hs.2 b (far (O.old e') j)).trans (D.keep b o' e' q),(hs.2 _ (far D.lt j)).trans D.tab,D.lt⟩
 have e':(S.T.set j f).get i=some o':=e'
 rw[BT.get_set]at e'
 by_cases hi:i=j
 ·subst hi
  rw[if_pos rfl,e]at e'
  cases e'
  exact⟨z.1,by first|exact Heap.get?_update_self f z.2 hf|exact Heap.get?_update_self _ z.2 hf⟩
 ·rw[if_neg hi]at e'
  have y:=D.own i o' e'
  exact⟨y.1,(hs.2 _ λx=>hi (Nat.add_left_cancel x)).trans y.2⟩
theorem XO.Rep.table (O:V.Ok0)(D:V.Rep h S){f:Obj->Obj}{vs':Array Value}(hn:f (tableObj S.vs)=tableObj vs'):V.Rep (h.update V.P f) {S with vs:=vs'}:=by
 have hs:Heap.SameBut V.P h (h.update V.P f):=Heap.SameBut.update ..
 have hf:(f (tableObj S.vs)).isFreed=false:=by rw[hn];rfl
 refine⟨by rw[hs.1,D.size],λi o' e'=>?_,λb o' e' q=>(hs.2 b q).trans (D.keep b o' e' q),?_,D.lt⟩
 ·have y:=D.own i o' e'
  exact⟨y.1,(hs.2 _ (far D.lt i).symm).trans y.2⟩
 ·show(h.update V.P f).get? V.P=some (tableObj vs')
  rw[<-hn]
  first|exact Heap.get?_update_self f D.tab hf|exact Heap.get?_update_self _ D.tab hf
variable (V Q) in
noncomputable def Kk (S:SS)(x:Er α)(S':SS)(x':Er α):Prop:=S'.Good->S.Good/\((∀h',V.Rep h' S'->V.Means Q x' (V.at S' h'))->∀h,V.Rep h S->V.Means Q x (V.at S h))
theorem Kk.trans {S S' S'':SS}{x x' x'':Er α}(a:Kk V Q S x S' x')(b:Kk V Q S' x' S'' x''):Kk V Q S x S'' x'':=λg=>
 have z:=b g
 have y:=a z.1
 ⟨y.1,λk=>y.2 (z.2 k)⟩
theorem Kc (O:V.Ok0){ops ops':List Op}{S S':SS}{a:Addr}{o:Obj}(e:Zh V ops S a=some (ops',S',o)):S'.Good->S.Good/\(∀h,V.Rep h S->V.Rep h S'/\h.get? a=some o)/\S'.i=S.i:=by
 intro g
 cases ops with
 |nil=>exact Sg e
 |cons op ops=>
  cases op with
  |n j=>
   refine Ac (Option.map_eq_some_iff.mp (show(S.T.get j).map _=_ from e)) λx e1 e2=>?_
   cases e2
   refine Ae (g.cons rfl) λq g=>?_
   exact⟨g,λh D=>⟨D.same rfl rfl rfl,by rw[show a=_ from q];exact(D.own _ _ e1).2⟩,rfl⟩
  |o j=>
   refine Ac (Option.map_eq_some_iff.mp (show V.olds[j]?.map _=_ from e)) λx e1 e2=>?_
   cases e2
   refine Ae (g.cons rfl) λq g=>?_
   refine Ae (O.olds x (List.mem_of_getElem? e1)) λy1 y2=>?_
   exact⟨g,λh D=>⟨D.same rfl rfl rfl,by rw[show a=_ from q];exact D.keep _ _ y1 y2⟩,rfl⟩
  |t=>
   cases (show some (_,_,_)=some _ from e)
   refine Ae (g.cons rfl) λq g=>?_
   exact⟨g,λh D=>⟨D.same rfl rfl rfl,by rw[show a=_ from q];exact D.tab⟩,rfl⟩
  |_=>exact Sg e
theorem Qe (O:V.Ok0){ops ops':List Op}{S S':SS}{a:Addr}{f:Obj->Obj}(e:eM V ops S a f=some (ops',S')):S'.Good->S.Good/\(∀h,V.Rep h S->V.Rep (h.update a f) S'/\∃o,h.get? a=some o)/\S'.i=S.i:=by
 intro g
 cases ops with
 |nil=>exact Sg e
 |cons op ops=>
  cases op with
  |n j=>
   have e:(match S.T.get j with|some o=>(match(f o).isFreed with|true=>none|false=>some (ops,{S with L:=(a,V.n₁+j)::S.L,T:=S.T.set j f}))|none=>none)=some (ops',S'):=e
   cases e1:S.T.get j with
   |none=>rw[e1]at e;exact Sg e
   |some o=>
    rw[e1]at e
    cases hf:(f o).isFreed with
    |true=>exact Sg ((congrArg (λb=>match b with|true=>none|false=>some (ops,{S with L:=(a,V.n₁+j)::S.L,T:=S.T.set j f})) hf).symm.trans e)
    |false=>
     cases (congrArg (λb=>match b with|true=>none|false=>some (ops,{S with L:=(a,V.n₁+j)::S.L,T:=S.T.set j f})) hf).symm.trans e
     refine Ae (g.cons rfl) λq g=>?_
     rw[show a=_ from q]
     exact⟨g,λh D=>⟨(D.update O e1 hf).same rfl rfl rfl,o,(D.own _ _ e1).2⟩,rfl⟩
  |t=>
   refine Ac (Option.map_eq_some_iff.mp (show(PySem.W.X.tabOf _).map _=_ from e)) λx e1 e2=>?_
   cases e2
   refine Ae (g.cons rfl) λq g=>?_
   rw[show a=_ from q]
   exact⟨g,λh D=>⟨(D.table O (PySem.W.X.tabOf_eq e1)).same rfl rfl rfl,_,D.tab⟩,rfl⟩
  |_=>exact Sg e
theorem M3 {S S':SS}{o:Obj}(e:Pu S o=some S'):(S'.Good->S.Good)/\(∀h,V.Rep h S->V.Rep (h.push o) S')/\S'.i=S.i:=by
 unfold Pu at e
 cases hf:o.isFreed with
 |true=>rw[hf]at e;exact Sg e
 |false=>
  rw[hf]at e
  cases e1:(S.T.ins S.m o).get S.m with
  |none=>rw[e1]at e;exact Sg e
  |some o'=>
   rw[e1]at e
   cases (show some _=some _ from e)
   exact⟨λg=>g,λh D=>D.alloc hf (by rw[e1];rfl),rfl⟩
noncomputable def jZ (M:Model) (t:Sem β):kH β->Prop
 | .pure a=>t=.pure a
 | .raise e=>t=.raise e
 | .go t'=>∀Γ p Q E s,(∀p',Sem.wp M Γ t' Q E p' s)->Sem.wp M Γ t Q E p s
 | .fresh k=>t=.fresh k
 | .alloc o k=>t=.alloc o k
 | .load a p k=>t=.load a p k
 | .alive a k=>t=.loadIfAlive a k
 | .update a p f k=>t=.update a p f k
 | .handled k=>t=.handled false k
 | .call c hd g l k=>t=.call c hd g l k
 | .other=>True
theorem eH (V:XO)(t:Sem β):jZ V.M t (Pz ⟨V.prog,V.w.params⟩ t):=by
 cases t with
 |handled own k=>cases own with
  |true=>trivial
  |false=>rfl
 |rule=>exact λΓ p Q E s h=>h p
 |«at» q k=>exact λΓ p Q E s h=>h q
 |point=>exact λΓ p Q E s h=>h p
 |ask=>exact λΓ p Q E s h=>h p
 |_=>first|rfl|trivial
noncomputable def bN (V:XO) (Q:α->Shared->Prop) (wrap:Sem β->Er α) (hv:Option Value):Prop:=∃C:Ctx->Prop,∃R:β->Shared->Prop,∃E:Value->Shared->Prop,
 (∀Γ,C Γ->∃A:Around,Γ.In A/\A.handled=hv)/\∀t s,V.Means Q (wrap t) s↔∀Γ p,C Γ->Sem.wp V.M Γ t (λa _ s'=>R a s') (λe _ s'=>E e s') p s
theorem Y1:bN V Q (Er.top:Sem α->Er α) V.A.handled:=⟨λΓ=>Γ.In V.A,Q,λ_ _=>False,λ_ h=>⟨_,h,rfl⟩,λt s=>Iff.rfl⟩
theorem Y5 (c:Code)(κ:Xh α):bN V Q (Er.inn c κ) ((V.ar κ).under c).handled:=
 ⟨λΓ=>Γ.code=c/\Γ.Below (V.ar κ),postC V.prog V.w (V.ar κ) (V.en Q κ),postE (V.en Q κ),λ_ h=>⟨_,h.1▸h.2.in,rfl⟩,λt s=>⟨λH Γ p h=>H Γ p h.1 h.2,λH Γ p h1 h2=>H Γ p ⟨h1,h2⟩⟩⟩
theorem hU {wrap:Sem β->Er α}{hv:Option Value}(W:bN V Q wrap hv){t t':Sem β}{s:Shared}(b:jZ V.M t (.go t'))(h:V.Means Q (wrap t') s):V.Means Q (wrap t) s:=by
 refine B9 W λC R E hC hW=>?_
 try clear W
 rw[hW]at h⊢
 exact λΓ p hp=>b Γ p _ _ s λp'=>h Γ p' hp
theorem Ew {γ:Type}{wrap:Sem β->Er α}{hv:Option Value}(W:bN V Q wrap hv){t:Sem γ}{k:γ->Sem β}{s:Shared}(h:∀A:Around,A.handled=hv->wpAny V.M A t (λa s'=>V.Means Q (wrap (k a)) s') (λ_ _=>False) s):V.Means Q (wrap (t>>=k)) s:=by
 refine B9 W λC R E hC hW=>?_
 try clear W
 rw[hW]
 intro Γ p hp
 refine Ac (hC Γ hp) λA hA hv=>?_
 have z:=h A hv Γ p hA
 rw[Sem.wp_bind']
 exact Sem.wp_mono _ _ t (λa p' s' x=>(hW _ _).mp x Γ p' hp) (λ_ _ _ x=>x.elim) p s z
theorem J2 (O:V.Ok0){wrap:Sem β->Er α}{hv:Option Value}(W:bN V Q wrap hv){ops ops':List Op}{S S':SS}{t:Sem β}{x:Er α}(d:kH β)(b:jZ V.M t d)(e:Xx V wrap ops S hv d=some (ops',S',x)):Kk V Q S (wrap t) S' x:=by
 intro g
 cases d with
 |go t'=>cases e;exact⟨g,λk h D=>hU W b (k h D)⟩
 |fresh k=>cases e;cases b;exact⟨g,λK h D=>Ew W (t:=fresh) (k:=k) λA _=>wpAny_fresh (K h (D.same rfl rfl rfl))⟩
 |alloc o k=>
  cases b
  refine Ac (Option.map_eq_some_iff.mp e) λS₁ e1 e2=>?_
  cases e2
  refine A0 (M3 (V:=V) e1) λy1 y2 y3=>?_
  refine⟨y1 g,λK h D=>Ew W (t:=PySem.alloc o) (k:=k) λA _=>wpAny_alloc ?_⟩
  have z:=K _ (y2 h D)
  unfold XO.at at z
  rw[y3,<-D.size]at z
  exact z
 |load a p k=>
  cases b
  refine Ac (Option.map_eq_some_iff.mp e) λr e1 e2=>?_
  cases e2
  refine A0 (Kc O (S':=r.2.1) (o:=r.2.2) (ops':=r.1) e1 g) λy1 y2 y3=>?_
  refine⟨y1,λK h D=>Ew W (t:=loadPart a p) (k:=k) λA _=>wpAny_loadPart (y2 h D).2 ?_⟩
  have z:=K h (y2 h D).1
  unfold XO.at at z
  rw[y3]at z
  exact z
 |alive a k=>
  cases b
  refine Ac (Option.map_eq_some_iff.mp e) λr e1 e2=>?_
  cases e2
  refine A0 (Kc O (S':=r.2.1) (o:=r.2.2) (ops':=r.1) e1 g) λy1 y2 y3=>?_
  refine⟨y1,λK h D=>Ew W (t:=.loadIfAlive a .pure) (k:=k) λA _ Γ p hΓ=>?_⟩
  have z:=K h (y2 h D).1
  unfold XO.at at z
  rw[y3,<-(y2 h D).2]at z
  exact z
 |update a p f k=>
  cases b
  refine Ac (Option.map_eq_some_iff.mp e) λr e1 e2=>?_
  cases e2
  refine A0 (Qe O (S':=r.2) (ops':=r.1) e1 g) λy1 y2 y3=>?_
  refine⟨y1,λK h D=>Ew W (t:=updatePart a p f) (k:=k) λA _=>wpAny_updatePart (y2 h D).2.choose_spec ?_⟩
  have z:=K _ (y2 h D).1
  unfold XO.at at z
  rw[y3]at z
  exact z
 |handled k=>
  cases e;cases b
  exact⟨g,λK h D=>Ew W (t:=handled) (k:=k) λA hA=>wpAny_handled (by rw[hA];exact K h D)⟩
 |_=>cases e
theorem Ef {r:Result}{κ:Xh α}{s:Shared}(h:V.Means Q (Hv r κ) s):V.en Q κ r s:=by
 cases κ<;>exact h
theorem I5 (O:V.Ok){ops ops':List Op}{S S':SS}{c:Code}{κ:Xh α}{x:Er α}(e:Pp V table ops S c κ=some (ops',S',x)):S'.Good->S.Good/\((∀h',V.Rep h' S'->V.Means Q x (V.at S' h'))->∀h,V.Rep h S->codeAny V.M (V.ar κ) c (V.en Q κ) (V.at S h)):=by
 intro g
 have pl:(ops,S,Er.inn c κ (denote table c))=(ops',S',x)->S'.Good->S.Good/\((∀h',V.Rep h' S'->V.Means Q x (V.at S' h'))->∀h,V.Rep h S->codeAny V.M (V.ar κ) c (V.en Q κ) (V.at S h)):=λe g=>by
  cases e
  exact⟨g,λK h D=>y_code _ _ _ _ _ _ (K h D)⟩
 cases ops with
 |nil=>exact pl (Option.some.inj e) g
 |cons op ops=>
  cases op with
  |s j=>
   have e:(match V.sums[j]? with|some X=>(X.eff S).map λS'=>(ops,{S' with C:=(c,X.c)::S'.C},Hv X.r κ)|none=>none)=some (ops',S',x):=e
   cases eX:V.sums[j]? with
   |none=>rw[eX]at e;exact Sg e
   |some X=>
   rw[eX]at e
   refine Ac (Option.map_eq_some_iff.mp e) λS₁ e1 e2=>?_
   cases e2
   refine A0 (O.sums X (List.mem_of_getElem? eX) (V.ar κ) (V.en Q κ) S S₁ default e1) λy1 y2 y3=>?_
   refine Ae g λg1 g2=>?_
   try clear g
   have g2:c=X.c/\S₁.C.map (·.1)=S₁.C.map (·.2):=by
    have:c::S₁.C.map (·.1)=X.c::S₁.C.map (·.2):=g2
    rw[List.cons.injEq]at this;exact this
   refine⟨⟨?_,?_⟩,λK h D=>?_⟩
   ·rw[<-y1];exact g1
   ·rw[<-y2];exact g2.2
   ·refine A0 (O.sums X (List.mem_of_getElem? eX) (V.ar κ) (V.en Q κ) S S₁ h e1) λ_ _ y3=>?_
    rw[g2.1]
    exact y3 D λh' D'=>Ef (K h' (D'.same rfl rfl rfl))
  |_=>exact pl (Option.some.inj e) g
theorem Ql (O:V.Ok){ops ops':List Op}{S S':SS}{x x':Er α}(e:Uk V table ops S x=some (ops',S',x')):Kk V Q S x S' x':=by
 cases x with
 |top t=>
  have b:=eH V t
  have e:eO V table ops S (Pz ⟨V.prog,V.w.params⟩ t)=_:=e
  generalize Pz ⟨V.prog,V.w.params⟩ t=d at b e
  cases d with
  |call c hd g l k=>
   cases hd with
   |some _=>cases e
   |none=>
    cases b
    intro g
    refine Ae (I5 O (Q:=Q) e g) λy1 y2=>?_
    exact⟨y1,λK h D=>y_start _ _ _ _ _ _ _ _ _ _ _ _ (λe=>nomatch e) (y2 K h D)⟩
  |_=>first|exact J2 O.toOk0 Y1 _ b e|cases e
 |inn c κ t=>
  have b:=eH V t
  have e:eP V table ops S c κ (Pz ⟨V.prog,V.w.params⟩ t)=_:=e
  generalize Pz ⟨V.prog,V.w.params⟩ t=d at b e
  cases d with
  |pure fin=>
   cases b
   cases fin with
   |done f=>cases e;exact λg=>⟨g,λK h D=>PySem.W.X.y_pure _ _ _ _ _ _ _ _ _ (PySem.W.X.y_done _ _ _ _ _ _ (Ef (K h D)))⟩
   |again c'=>
    have e:(match c'.quiet with|true=>some (ops,S,Er.inn c' κ (denote table c'))|false=>none)=some (ops',S',x'):=e
    cases q:c'.quiet with
    |false=>rw[q]at e;cases e
    |true=>
     rw[q]at e
     cases e
     exact λg=>⟨g,λK h D=>PySem.W.X.y_pure _ _ _ _ _ _ _ _ _ (PySem.W.X.y_again _ _ _ _ _ _ q (y_code _ _ _ _ _ _ (K h D)))⟩
  |raise v=>
   cases b;cases e
   exact λg=>⟨g,λK h D=>PySem.W.X.y_raise _ _ _ _ _ _ _ _ _ (PySem.W.X.y_err _ _ _ (Ef (K h D)))⟩
  |call c' hd g l k=>
   cases b
   have e:(match PySem.W.X.okMark hd with|true=>Pp V table ops S c' (.ret c hd k κ)|false=>none)=some (ops',S',x'):=e
   cases q:PySem.W.X.okMark hd with
   |false=>rw[q]at e;cases e
   |true=>
    rw[q]at e
    intro g
    refine Ae (I5 O (Q:=Q) e g) λy1 y2=>?_
    exact⟨y1,λK h D=>y_call _ _ _ _ _ _ _ _ _ _ _ _ _ (by rintro rfl;simp[PySem.W.X.okMark]at q) (y2 K h D)⟩
  |_=>first|exact J2 O.toOk0 (Y5 c κ) _ b e|cases e
theorem Su (O:V.Ok):∀n ops S (x:Er α) r,Sv V table n ops S x=some r->Kk V Q S x r.1 r.2:=by
 intro lq
 induction lq with
 |zero=>intro _ _ _ _ e;exact nomatch e
 |succ n ih=>
  intro ops S x r e
  have e:(match qD ops||qS V ops x with
   |true=>some (S,x)
   |false=>match Z1 V x with
    |true=>some (S,x)
    |false=>match Uk V table ops S x with
     |some (ops,S,x)=>Sv V table n ops S x
     |none=>none)=some r:=e
  have same:some (S,x)=some r->Kk V Q S x r.1 r.2:=λe=>by cases e;exact λg=>⟨g,λK=>K⟩
  cases q1:(qD ops||qS V ops x)with
  |true=>rw[q1]at e;exact same e
  |false=>
   rw[q1]at e
   cases q2:Z1 V x with
   |true=>rw[q2]at e;exact same e
   |false=>
    rw[q2]at e
    cases q:Uk V table ops S x with
    |none=>rw[q]at e;exact Sg e
    |some y=>
     rw[q]at e
     exact(Ql O q).trans (ih _ _ _ _ e)
theorem bD {x:Er α}{c:Code}{s:Shared}(hx:Rg V x=some (c,true))(h:∀A R,(∀r s',V.Means Q (Yp V r x) s'->R r s')->codeAny V.M A c R s):V.Means Q x s:=by
 cases x with
 |top t=>
  have b:=eH V t
  have hx:(match Pz ⟨V.prog,V.w.params⟩ t with| .call c hd _ _ _=>some (c,hd.isNone)|_=>none)=some (c,true):=hx
  have h:∀A R,(∀r s',V.Means Q (match Pz ⟨V.prog,V.w.params⟩ t with| .call _ _ _ _ k=>.top (k r)|_=>.top t) s'->R r s')->codeAny V.M A c R s:=h
  generalize Pz ⟨V.prog,V.w.params⟩ t=d at b hx h
  cases d with
  |call c' hd g l k=>
   cases b
   cases hd with
   |some _=>cases hx
   |none=>cases hx;exact y_start _ _ _ _ _ _ _ _ _ _ _ _ (λe=>nomatch e) (h _ _ λr s' x=>x)
  |_=>cases hx
 |inn c₀ κ t=>
  have b:=eH V t
  have hx:(match Pz ⟨V.prog,V.w.params⟩ t with| .call c hd _ _ _=>some (c,PySem.W.X.okMark hd)| .pure fin=>(match fin with| .again c=>some (c,c.quiet)| .done _=>none)|_=>none)=some (c,true):=hx
  have h:∀A R,(∀r s',V.Means Q (match Pz ⟨V.prog,V.w.params⟩ t with| .call _ _ _ _ k=>.inn c₀ κ (k r)|_=>Hv r κ) s'->R r s')->codeAny V.M A c R s:=h
  generalize Pz ⟨V.prog,V.w.params⟩ t=d at b hx h
  cases d with
  |call c' hd g l k=>
   cases b
   have q:PySem.W.X.okMark hd=true:=(Prod.mk.inj (Option.some.inj hx)).2
   have e:c'=c:=(Prod.mk.inj (Option.some.inj hx)).1
   subst e
   exact y_call _ _ _ _ _ _ _ _ _ _ _ _ _ (by rintro rfl;simp[PySem.W.X.okMark]at q) (h _ _ λr s' x=>x)
  |pure fin=>
   cases b
   cases fin with
   |done f=>cases hx
   |again c'=>
    have q:c'.quiet=true:=(Prod.mk.inj (Option.some.inj hx)).2
    have e:c'=c:=(Prod.mk.inj (Option.some.inj hx)).1
    subst e
    exact PySem.W.X.y_pure _ _ _ _ _ _ _ _ _ (PySem.W.X.y_again _ _ _ _ _ _ q (h _ _ λr s' x=>Ef x))
  |_=>cases hx
end
end
section
variable {α:Type}{V:XO}{Q:α->Shared->Prop}{h:Heap}{S:SS}
theorem pI (V:XO)(n:Nat)(ops:List Op)(S:SS)(x:Er α):Sv V table n ops S x=Sv V PySem.W.ZFast.tableZ n ops S x:=by rw[PySem.W.ZFast.tableZ_eq]
noncomputable def Ku (V:XO) (n:Nat) (ops:List Op) (S:SS) (x:Er α):SS×Er α:=(Sv V PySem.W.ZFast.tableZ n ops S x).getD (S,x)
noncomputable def Zf (V:XO) (n:Nat) (ops:List Op) (S:SS) (x:Er α):Bool:=(Sv V PySem.W.ZFast.tableZ n ops S x).isSome
theorem gT (O:V.Ok){n:Nat}{ops:List Op}{x:Er α}(hs:Zf V n ops S x=true)(g:(Ku V n ops S x).1.Good)(D:V.Rep h S)(k:∀h',V.Rep h' (Ku V n ops S x).1->V.Means Q (Ku V n ops S x).2 (V.at (Ku V n ops S x).1 h')):
  V.Means Q x (V.at S h):=by
 unfold Zf at hs
 refine Af (Option.isSome_iff_exists.mp hs) λr e=>?_
 have eg:Ku V n ops S x=r:=by unfold Ku;rw[e];rfl
 rw[eg]at g k
 exact((Su O n ops S x r (by rw[pI];exact e)) g).2 k h D
theorem XO.arEq {V V':XO}(hA:V.A=V'.A):∀κ:Xh α,V.ar κ=V'.ar κ
 | .top _=>hA
 | .ret c hd _ κ=>by show((V.ar κ).under c).mark hd=((V'.ar κ).under c).mark hd;rw[arEq hA κ]
theorem XO.enEq {V V':XO}(hp:V.prog=V'.prog)(hw:V.w=V'.w)(hA:V.A=V'.A):∀κ:Xh α,V.en Q κ=V'.en Q κ
 | .top k=>by show PySem.W.X.postA V.prog V.w V.A Q _ k=PySem.W.X.postA V'.prog V'.w V'.A Q _ k;rw[hp,hw,hA]
 | .ret c hd k κ=>by
  show PySem.W.X.postR V.prog V.w (V.ar κ) c (PySem.W.X.postC V.prog V.w (V.ar κ) (V.en Q κ)) (PySem.W.X.postE (V.en Q κ)) k=PySem.W.X.postR V'.prog V'.w (V'.ar κ) c (PySem.W.X.postC V'.prog V'.w (V'.ar κ) (V'.en Q κ)) (PySem.W.X.postE (V'.en Q κ)) k
  rw[hp,hw,arEq hA κ,enEq hp hw hA κ]
theorem XO.meansEq {V V':XO}(hp:V.prog=V'.prog)(hw:V.w=V'.w)(hA:V.A=V'.A)(x:Er α)(s:Shared):V.Means Q x s=V'.Means Q x s:=by
 cases x with
 |top t=>show wpAny (model V.prog V.w) V.A t Q _ s=wpAny (model V'.prog V'.w) V'.A t Q _ s;rw[hp,hw,hA]
 |inn c κ t=>
  show wpOwn (model V.prog V.w) (V.ar κ) c t (PySem.W.X.postC V.prog V.w (V.ar κ) (V.en Q κ)) (PySem.W.X.postE (V.en Q κ)) s=wpOwn (model V'.prog V'.w) (V'.ar κ) c t (PySem.W.X.postC V'.prog V'.w (V'.ar κ) (V'.en Q κ)) (PySem.W.X.postE (V'.en Q κ)) s
  rw[hp,hw,XO.arEq hA κ,XO.enEq hp hw hA κ]
theorem XO.Rep.to (D:V.Rep h S)(S':SS)(e1:S'.T=S.T)(e2:S'.m=S.m)(e3:S'.vs=S.vs)(e4:S'.i=S.i):V.Rep h S'/\V.at S h=V.at S' h:=⟨D.same e1 e2 e3,by unfold XO.at;rw[e4]⟩
noncomputable def oP (V:XO) (n:Nat) (ops:List Op) (S:SS) (x:Er α):SS:={(Ku V n ops S x).1 with L:=[],C:=[]}
theorem Gz (O:V.Ok){E:Value->Shared->Prop}{t:Sem α}(n:Nat)(ops:List Op)(a:α)(D:V.Rep h S)(hs:Zf V n ops S (.top t)=true)(ha:(Ku V n ops S (.top t)).2=.top (.pure a))(g1:(Ku V n ops S (.top t)).1.L.map (·.1)=(Ku V n ops S (.top t)).1.L.map (·.2))
  (g2:(Ku V n ops S (.top t)).1.C.map (·.1)=(Ku V n ops S (.top t)).1.C.map (·.2))(k:∀h',V.Rep h' (oP V n ops S (.top t))->Q a (V.at (oP V n ops S (.top t)) h')):wpAny V.M V.A t Q E (V.at S h):=by
 have:=gT (Q:=Q) O hs ⟨g1,g2⟩ D λh' D'=>by rw[ha];exact wpAny_pure (k h' (D'.same rfl rfl rfl))
 exact wpAny_mono this (λ_ _ x=>x) λ_ _ x=>x.elim
end
theorem Xn {α:Type}{M:Model}{A:Around}{c:Bool}{t u:Sem α}{Q:α->Shared->Prop}{E:Value->Shared->Prop}{s:Shared}(hc:c=false)(h:wpAny M A u Q E s):wpAny M A (if c=true then t else u) Q E s:=by rw[hc];exact h
noncomputable def en (hs:Int) (k:String) (t:Nat) (v:Value):DictEntry:=⟨hs,.str (ofString k) t,v⟩
noncomputable def Tw (hh:Nat->Int) (ct:Nat->Nat) (cv:Nat->Value) (n:Nat):Obj:={cls:=.none,data:=.dict #[en (hh 0) "\x69mport.loaded._sre" (ct 0) (cv 0),en (hh 1) "class._frozen_\x69mportlib.BuiltinImporter" (ct 1) (cv 1),en (hh 2) "watched.\x69mport" (ct 2) (cv 2),en (hh 3) "class._frozen_\x69mportlib.ModuleSpec" (ct 3) (cv 3),en (hh 4) "sys.modules.booked-epoch" (ct 4) (cv 4),en (hh 5) "\x69mport.later-laid._sre" (ct 5) (cv 5),en (hh 6) "watched.library" (ct 6) (cv 6),en (hh 7) "watched.library-objects" (ct 7) (cv 7),en (hh 8) "watched.library-deep._sre" (ct 8) (cv 8)] n}
theorem Rx {prog:Program}{w:World}{A:Around}{s:Shared}{R:Result->Shared->Prop}(it:Addr){T:String}{o:Obj}{items:Array Value}{n:Nat}(hT:T="list"\/T="tuple")
  (ho:s.heap.get? it=some o)(hc:o.cls=.type T)(hd:o.data=.seq items n)(hsz:items.size<=sizeLine)
  (hQ:R (.ok (.ret (.ref s.heap.objs.size))) {s with heap:=(s.heap.push {cls:=.type "list",data:=.seq #[]}).update s.heap.objs.size (Obj.mapSeq (·++items))}):
  codeAny (model prog w) A (.builtin "proto.collect" ⟨[.ref it],[]⟩) R s:=by
 refine codeAny_builtin PySem.F.entry_proto_collect ?_
 rw[Around.under_plainId PySem.F.plain_proto_collect _]
 show wpAny _ A.in1 (newList []>>=λl=>again (.builtin "list.__iadd__" ⟨[l,.ref it],[]⟩)) _ _ s
 refine wpAny_bind (wpAny_newObj_type ?_)
 refine wpAny_pure ⟨plainId_quiet PySem.F.plain_list_iadd _,codeAny_builtin PySem.F.entry_list_iadd ?_⟩
 rw[Around.under_plainId PySem.F.plain_list_iadd _]
 show wpAny _ A.in1 (Builtin.List.listExtendWith (.ref s.heap.objs.size) (.ref it) (.ref s.heap.objs.size)) _ _ _
 have hS:(s.heap.push {cls:=.type "list",data:=.seq ([]:List Value).toArray}).get? s.heap.objs.size=some {cls:=.type "list",data:=.seq #[] 0}:=Heap.get?_push_size _ rfl
 exact wpAny_extend_seq (hsz:=hsz) (A:=A) (R:=R) _ it _ 0 hT hS (Heap.get?_push_of_some _ ho) hc hd hQ
noncomputable def Ic (n₁ it:Nat) (items:Array Value):qV:=⟨.builtin "proto.collect" ⟨[.ref it],[]⟩,.ok (.ret (.ref n₁)),λS=>match S.m with
 |0=>match(S.T.ins 0 {cls:=.type "list",data:=.seq #[]}).get 0 with
  |some _=>some {S with T:=(S.T.ins 0 {cls:=.type "list",data:=.seq #[]}).set 0 (Obj.mapSeq (·++items)),m:=1}
  |none=>none
 |_=>none⟩
theorem Ml {V:XO}(O:V.Ok0){it:Nat}{items:Array Value}{n:Nat}(hi:V.h₀.get? it=some {cls:=.type "list",data:=.seq items n})(hp:it≠V.P)(hsz:items.size<=sizeLine):V.Told (Ic V.n₁ it items):=by
 intro A R S S' h e
 unfold Ic at e
 dsimp only at e
 split at e
 ·rename_i hm
  split at e
  ·rename_i o hg
   cases e
   refine⟨rfl,rfl,λD k=>Rx it (.inl rfl) (D.keep _ _ hi hp) rfl rfl hsz ?_⟩
   have D1:=D.alloc (o:={cls:=.type "list",data:=.seq #[]}) rfl (by rw[hm,hg];rfl)
   have e0:((S.T.ins S.m {cls:=.type "list",data:=.seq #[]}).get 0)=some {cls:=.type "list",data:=.seq #[]}:=by
    rw[hm,BT.get_ins _ _ _ (by rw[hg];rfl),if_pos rfl]
   have D2:=D1.update O (j:=0) (f:=Obj.mapSeq (·++items)) e0 rfl
   have hs:h.objs.size=V.n₁:=by rw[D.size,hm];rfl
   have z:=k _ (D2.same (S':={S with T:=(S.T.ins 0 {cls:=.type "list",data:=.seq #[]}).set 0 (Obj.mapSeq (·++items)),m:=1}) (by rw[hm]) (by show 1=S.m+1;rw[hm]) rfl)
   rw[show(V.at S h).heap.objs.size=V.n₁ from hs]
   exact z
  ·cases e
 ·cases e
theorem Xl {V:XO}{vs:Array Value}(hs:V.h₀.objs.size=V.n₁)(hP:V.h₀.get? V.P=some (PySem.W.X.tableObj vs)):V.Rep V.h₀ ⟨.nil,0,0,vs,[],[]⟩:=
 ⟨hs,λi o e=>(nomatch e),λ_ _ e _=>e,hP,hs▸Heap.lt_size hP⟩
section
variable {prog:Program}{w:World}{M:Model}{A:Around}{E:Value->Shared->Prop}{h:Heap}{g:Array GenState}{d:Drawn}{t:Nat}{os:OsState}
noncomputable def Jg:Obj:={cls:=.type "super",data:=.fields #[.none,.none,.none]}
noncomputable def Ek (i:Nat) (v:Value):Obj->Obj:=Obj.mapFields λx=>x.setIfInBounds i v
theorem dD {D:Addr}{oD:Obj}{cd:ClassData}(hD:h.get? D=some oD)(hDt:oD.data=.cls cd):Looks M h (mroOf (.ref D)) cd.mro:=λA Q E s k q=>by
 unfold mroOf classData
 refine wpAny_bind (wpAny_bind (wpAny_load (k _ _ hD) ?_))
 rw[hDt]
 exact wpAny_pure (wpAny_pure q)
theorem bZ {D:Addr}{oD:Obj}{cd:ClassData}(hD:h.get? D=some oD)(hDt:oD.data=.cls cd)(hm:cd.mro=[.ref D,.type "object"]):Looks M h (isSubtype (.ref D) (.ref D)) true:=λA Q E s k q=>by
 unfold isSubtype
 refine wpAny_bind ((dD hD hDt).keeps k |>.here ?_)
 rw[hm]
 refine wpAny_pure ?_
 have:([Value.ref D,Value.type "object"].contains (Value.ref D))=true:=by simp
 rw[this]
 exact q
theorem Xa {D:Addr}{oD:Obj}{cd:ClassData}{Q:Value->Shared->Prop}(hD:h.get? D=some oD)(hDt:oD.data=.cls cd)(hm:cd.mro=[.ref D,.type "object"])
  (hq:Q (.ref h.objs.size) ⟨(((h.push Jg).update h.objs.size (Ek 0 (.ref D))).update h.objs.size (Ek 1 (.ref D))).update h.objs.size (Ek 2 (.ref D)),g,d,t,os⟩):
  wpAny (model prog w) A (call (.type "super") [.ref D,.ref D]) Q E ⟨h,g,d,t,os⟩:=by
 refine ks_callType_codesW (Q₁:=λobj s₁=>obj=.ref h.objs.size/\s₁=⟨h.push {cls:=.type "super",data:=.fields #[.none,.none,.none]},g,d,t,os⟩) PySem.F.ks_called_super (ks_wpAny_checkTypeCall_super hD hDt) PySem.F.ks_entry_super_init
  (ks_code_super_new _ _ ⟨rfl,rfl⟩) λobj s₁ h₁=>?_
 refine Ae h₁ λZ Y=>?_
 try clear h₁
 subst Z
 subst Y
 have up:∀y o,h.get? y=some o->(h.push {cls:=.type "super",data:=.fields #[.none,.none,.none]}).get? y=some o:=λy o e=>Heap.get?_push_of_some _ e
 have hso:(h.push {cls:=.type "super",data:=.fields #[.none,.none,.none]}).get? h.objs.size=some {cls:=.type "super",dict:=none,data:=.fields #[.none,.none,.none],slots:=#[]}:=Heap.get?_push_at rfl rfl
 have hD':=up _ _ hD
 have hsub:=bZ (M:=model prog w) hD' hDt hm
 refine⟨⟨_,hso,rfl⟩,PySem.F.ks_initArgs_super _ _ _,?_⟩
 unfold Builtin.«super.__init__» noKeywords
 repeat (first|(with_reducible refine ks_wpAny_isType_cls hD' hDt ?_)|(with_reducible refine Looks.at hsub ?_)|wp_step)
 all_goals exact⟨rfl,hq⟩
noncomputable def fP (prog:Program) (w:World) (h:Heap) (b P:Nat) (A:Around) (g:Array GenState) (d:Drawn) (t₀:Nat) (os:OsState) (hh:Nat->Int) (ct:Nat->Nat) (cv:Nat->Value) (cn:Nat) (so C:Nat) (od:Option Addr) (cd:ClassData) (sl:Array (Option Value)):XO:=
 {prog,w,h₀:=h,n₁:=b+8,olds:=[(2,Tw hh ct cv cn),(so,{cls:=.type "super",dict:=none,data:=.fields #[.ref C,.ref C,.ref C],slots:=#[]}),(C,⟨.type "type",od,.cls {cd with mro:=[.ref C,.type "object"]},sl⟩)],P,A,g,d,t₀,os}
noncomputable def R0 (C:Nat):Obj:={cls:=.type "builtin_function_or_method",data:=.fields #[.builtin "object.__init_subclass__",.ref C]}
theorem aW {C:Addr}:([Value.ref C,.type "object"].dropWhile (λx=>x != .ref C)).drop 1=[.type "object"]:=by simp
theorem jQ {α:Type}(C:Addr)(x y:α):(if(Value.ref C==Value.ref C)=true then x else y)=x:=by simp
theorem dO {so C b P:Nat}{cd:ClassData}{od:Option Addr}{sl:Array (Option Value)}{Q:PySem.Fin->Shared->Prop}{tk cn:Nat}{hh:Nat->Int}{ct:Nat->Nat}{cv:Nat->Value}{vs:Array Value}
  (O:(fP prog w h b P A g d t os hh ct cv cn so (C+8) od cd sl).Ok)(D:(fP prog w h b P A g d t os hh ct cv cn so (C+8) od cd sl).Rep h ⟨.nil,0,0,vs,[],[]⟩)
  (hq:∀h',(fP prog w h b P A g d t os hh ct cv cn so (C+8) od cd sl).Rep h' ⟨.node (R0 (C+8)) .nil .nil,1,0,vs,[],[]⟩->Q (.done (.ret (.ref (b+8)))) ⟨h',g,d,t,os⟩):
  wpAny (model prog w) A (Builtin.«super.__getattribute__» ⟨[.ref so,.str (ofString "__init_subclass__") tk],[]⟩) Q E ((fP prog w h b P A g d t os hh ct cv cn so (C+8) od cd sl).at ⟨.nil,0,0,vs,[],[]⟩ h):=by
 refine wpAny_bind (Gz O 100 [] (some (ofString "__init_subclass__")) D (by kernel_rfl) (by kernel_rfl) (by kernel_rfl) (by kernel_rfl) λh D=>?_)
 refine wpAny_bind (Gz O 100 [] (some (ofString "__init_subclass__")) D (by kernel_rfl) (by kernel_rfl) (by kernel_rfl) (by kernel_rfl) λh D=>?_)
 refine wpAny_bind (Gz O 100 [.o 1] (Value.ref (C+8)) D (by kernel_rfl) (by kernel_rfl) (by kernel_rfl) (by kernel_rfl) λh D=>?_)
 refine wpAny_bind (Gz O 100 [.o 1] (Value.ref (C+8)) D (by kernel_rfl) (by kernel_rfl) (by kernel_rfl) (by kernel_rfl) λh D=>?_)
 refine wpAny_bind (Gz O 100 [.o 1] (Value.ref (C+8)) D (by kernel_rfl) (by kernel_rfl) (by kernel_rfl) (by kernel_rfl) λh D=>?_)
 refine Xn (by kernel_rfl) ?_
 refine wpAny_bind (Gz O 100 [.o 0] () D (by kernel_rfl) (by kernel_rfl) (by kernel_rfl) (by kernel_rfl) λh D=>?_)
 refine Xn (by kernel_rfl) ?_
 refine wpAny_bind (Gz O 100 [.o 2] [Value.ref (C+8),Value.type "object"] D (by kernel_rfl) (by kernel_rfl) (by kernel_rfl) (by kernel_rfl) λh D=>?_)
 rw[aW]
 rw[jQ]
 refine wpAny_bind (Gz O 2000 [.o 2,.o 2] (some (.done (.ret (.ref (b+8)))),()) D (by kernel_rfl) (by kernel_rfl) (by kernel_rfl) (by kernel_rfl) λh D=>?_)
 refine Ae (D.to ⟨.node (R0 (C+8)) .nil .nil,1,0,vs,[],[]⟩ (by kernel_rfl) (by kernel_rfl) (by kernel_rfl) (by kernel_rfl)) λD e=>?_
 rw[e]
 exact wpAny_pure (hq _ D)
end
section
variable {α:Type}{V:XO}{Q:Value->Shared->Prop}{E:Value->Shared->Prop}{h:Heap}{S:SS}
theorem XO.Rep.join {V2:XO}{o:Obj}{h':Heap}(D:V.Rep h S)(e1:V2.h₀=h)(e2:V2.n₁=V.n₁+S.m)(e3:V2.P=V.P)(hg:((S.T.ins S.m o).get S.m).isSome=true)(D2:V2.Rep h' ⟨.node o .nil .nil,1,0,S.vs,[],[]⟩):V.Rep h' {S with T:=S.T.ins S.m o,m:=S.m+1}:=by
 refine⟨by rw[D2.size,e2];exact Nat.add_assoc ..,λi o' e=>?_,λb o' e q=>D2.keep b o' (by rw[e1];exact D.keep b o' e q) (by rw[e3];exact q),by rw[<-e3];exact D2.tab,D.lt⟩
 have e:(S.T.ins S.m o).get i=some o':=e
 rw[BT.get_ins o S.T S.m hg]at e
 by_cases hi:i=S.m
 ·subst hi
  rw[if_pos rfl]at e
  cases e
  refine⟨lt_succ_self _,?_⟩
  have z:=(D2.own 0 o rfl).2
  rw[e2]at z
  exact z
 ·rw[if_neg hi]at e
  have z:=D.own i o' e
  exact⟨lt_succ_of_lt z.1,D2.keep _ _ (by rw[e1];exact z.2) (by rw[e3];exact(far D.lt i).symm)⟩
theorem bX {c:Nat}(O:V.Ok)(D:V.Rep h S)(hc:S.m=c){cd:ClassData}{od:Option Addr}{sl:Array (Option Value)}(e:S.T.get 2=some ⟨.type "type",od,.cls cd,sl⟩)(hm:cd.mro=[.ref (V.n₁+2),.type "object"])(hg:((S.T.ins S.m Jg).get S.m).isSome=true)
  (k:∀h',V.Rep h' {S with T:=(((S.T.ins S.m Jg).set S.m (Ek 0 (.ref (V.n₁+2)))).set S.m (Ek 1 (.ref (V.n₁+2)))).set S.m (Ek 2 (.ref (V.n₁+2))),m:=S.m+1}->
   Q (.ref (V.n₁+c)) (V.at {S with T:=(((S.T.ins S.m Jg).set S.m (Ek 0 (.ref (V.n₁+2)))).set S.m (Ek 1 (.ref (V.n₁+2)))).set S.m (Ek 2 (.ref (V.n₁+2))),m:=S.m+1} h')):
  wpAny V.M V.A (call (.type "super") [.ref (V.n₁+2),.ref (V.n₁+2)]) Q E (V.at S h):=by
 subst hc
 refine Xa (D.own _ _ e).2 rfl hm ?_
 have D1:=D.alloc (o:=Jg) rfl hg
 have g1:(S.T.ins S.m Jg).get S.m=some Jg:=by rw[BT.get_ins _ _ _ hg,if_pos rfl]
 have D2:=D1.update O.toOk0 (f:=Ek 0 (.ref (V.n₁+2))) g1 rfl
 have g2:((S.T.ins S.m Jg).set S.m (Ek 0 (.ref (V.n₁+2)))).get S.m=some (Ek 0 (.ref (V.n₁+2)) Jg):=by rw[BT.get_set,if_pos rfl,g1];rfl
 have D3:=D2.update O.toOk0 (f:=Ek 1 (.ref (V.n₁+2))) g2 rfl
 have g3:(((S.T.ins S.m Jg).set S.m (Ek 0 (.ref (V.n₁+2)))).set S.m (Ek 1 (.ref (V.n₁+2)))).get S.m=some (Ek 1 (.ref (V.n₁+2)) (Ek 0 (.ref (V.n₁+2)) Jg)):=by rw[BT.get_set,if_pos rfl,g2];rfl
 have D4:=D3.update O.toOk0 (f:=Ek 2 (.ref (V.n₁+2))) g3 rfl
 rw[D.size]
 exact k _ D4
theorem iZ (O:V.Ok)(D:V.Rep h S){b c:Nat}(hn:V.n₁=b+8)(hmm:S.m=c){cd:ClassData}{od:Option Addr}{sl:Array (Option Value)}{cn:Nat}{hh:Nat->Int}{ct:Nat->Nat}{cv:Nat->Value}(e:S.T.get 2=some ⟨.type "type",od,.cls {cd with mro:=[.ref (b+2+8),.type "object"]},sl⟩)
  (hc:V.h₀.get? 2=some (Tw hh ct cv cn))(hP:V.P≠2)(e4:S.T.get 4=some {cls:=.type "super",dict:=none,data:=.fields #[.ref (b+2+8),.ref (b+2+8),.ref (b+2+8)],slots:=#[]})(hg:((S.T.ins S.m (R0 (b+2+8))).get S.m).isSome=true)
  (k:∀h',V.Rep h' {S with T:=S.T.ins S.m (R0 (b+2+8)),m:=S.m+1,i:=S.i+1}->Q (.ref (V.n₁+c)) (V.at {S with T:=S.T.ins S.m (R0 (b+2+8)),m:=S.m+1,i:=S.i+1} h')):
  wpAny V.M V.A (getAttr (.ref (V.n₁+4)) (ofString "__init_subclass__")) Q E (V.at S h):=by
 subst hmm
 have hso:=(D.own _ _ e4).2
 have hT:∀t',(⟨h,V.g,V.d,t',V.os⟩:Shared).TypeIs (.ref (V.n₁+4)) "super":=λ_=>⟨_,hso,rfl⟩
 have hlk:=PySem.F.ks_slot_super_ga.lookup
 show wpAny _ _ _ _ _ ⟨h,V.g,V.d,V.t₀+S.i,V.os⟩
 unfold getAttr getAttrBy
 refine wpAny_bind (wpAny_mkText (wpAny_holding (wpAny_bind (wpAny_typeOf (hT _) (wpAny_bind (wpAny_of_eq hlk ?_))))))
 show wpAny _ _ (getAttrByItsOwn (.ref (V.n₁+4)) (.str _ _) (.type "super") (.builtin "super.__getattribute__") true false) _ _ _
 unfold getAttrByItsOwn hookBefore callGetattribute boundAndCalled
 refine wpAny_bind (wpAny_of_eq (show(if onTheHeap (.type "super")then typeLookup (.type "super") "__getattr__" else pure none)=pure none from rfl) ?_)
 refine wpAny_bind (wpAny_attempt (wpAny_holding ?_))
 show wpAny _ _ (bindSpecial (.builtin "super.__getattribute__") (.ref (V.n₁+4))>>=_) _ _ _
 refine wpAny_bind (wpAny_of_eq (PySem.F.ks_slot_super_ga.bind _) ?_)
 have hb:(V.n₁+S.m)=(b+S.m)+8:=by exact le_antisymm (Ah (le_of_eq hn)) (Ah (le_of_eq hn.symm))
 have O2:∀A',(fP V.prog V.w h (b+S.m) V.P A' V.g V.d (V.t₀+S.i+1) V.os hh ct cv cn (V.n₁+4) (b+2+8) od cd sl).Ok:=by
  intro A'
  refine⟨⟨D.size.trans hb,λq hq=>?_⟩,λ_ h=>nomatch h⟩
  simp only[fP,mem_cons,not_mem_nil,or_false]at hq
  have h2:b+2+8=V.n₁+2:=by exact le_antisymm (Ah (le_of_eq hn.symm)) (Ah (le_of_eq hn))
  rcases hq with rfl|rfl|rfl
  ·exact⟨D.keep _ _ hc (Ne.symm hP),Ne.symm hP⟩
  ·exact⟨hso,(far D.lt 4).symm⟩
  ·refine⟨?_,?_⟩
   ·have z:=(D.own _ _ e).2
    rw[<-h2]at z
    exact z
   ·show b+2+8≠V.P
    rw[h2]
    exact(far D.lt 2).symm
 refine wpAny_mono (Q:=λv s'=>∃h',v=.ref (b+S.m+8)/\(fP V.prog V.w h (b+S.m) V.P V.A V.g V.d (V.t₀+S.i+1) V.os hh ct cv cn (V.n₁+4) (b+2+8) od cd sl).Rep h' ⟨.node (R0 (b+2+8)) .nil .nil,1,0,S.vs,[],[]⟩/\s'=⟨h',V.g,V.d,V.t₀+S.i+1,V.os⟩) (E:=λ_ _=>False)
  (wpAny_call_entry PySem.F.ks_slot_super_ga (hT _) PySem.F.ks_entry_super_ga (dO (O2 _) (Xl (D.size.trans hb) D.tab) λh' D'=>⟨_,rfl,h',rfl,⟨D'.size,D'.own,D'.keep,D'.tab,D'.lt⟩,rfl⟩) (PySem.F.ks_gaArgs_super _ _)) (λv s' hv=>?_) λ_ _ z=>z.elim
 refine Ay hv λh' Z D' Y=>?_
 try clear hv
 subst Z
 subst Y
 refine wpAny_pure ?_
 have:=k h' ((D.join (V2:=fP V.prog V.w h (b+S.m) V.P V.A V.g V.d (V.t₀+S.i+1) V.os hh ct cv cn (V.n₁+4) (b+2+8) od cd sl) rfl hb.symm rfl hg D').same rfl rfl rfl)
 rw[hb]at this
 exact this
end
structure KP where
 bT:Nat
 lst:Nat
 ns:Nat
 st:Nat
 f1:Nat
 f2:Nat
 f3:Nat
 f4:Nat
 f5:Nat
 f6:Nat
 hs:Nat->Int
 tk:Nat->Nat
 nn:Nat->Nat
 e:Nat->Data
 ss:Array Value
 ch:Nat->Int
 ct:Nat->Nat
 cv:Nat->Value
 cn:Nat
noncomputable def KP.ents (p:KP):Array DictEntry:=#[en (p.hs 0) "__module__" (p.tk 0) (.str (ofString "cpy313.functools") (p.tk 1)),en (p.hs 1) "__qualname__" (p.tk 2) (.str (ofString "cmp_to_key.<locals>.K") (p.tk 3)),
 en (p.hs 2) "__firstlineno__" (p.tk 4) (.int 152 (p.tk 5)),en (p.hs 3) "__slots__" (p.tk 6) (.ref p.lst),en (p.hs 4) "__init__" (p.tk 7) (.ref p.f1),en (p.hs 5) "__lt__" (p.tk 8) (.ref p.f2),en (p.hs 6) "__gt__" (p.tk 9) (.ref p.f3),
 en (p.hs 7) "__eq__" (p.tk 10) (.ref p.f4),en (p.hs 8) "__le__" (p.tk 11) (.ref p.f5),en (p.hs 9) "__ge__" (p.tk 12) (.ref p.f6),en (p.hs 10) "__hash__" (p.tk 13) .none,en (p.hs 11) "__static_attributes__" (p.tk 14) (.ref p.st)]
noncomputable def fM (p:KP):List (Addr×Obj):=[
 (2,Tw p.ch p.ct p.cv p.cn),
 (p.bT,{cls:=.type "tuple",data:=.seq #[.type "object"] (p.nn 0)}),
 (p.lst,{cls:=.type "list",data:=.seq #[.str (ofString "obj") (p.tk 15)] (p.nn 1)}),
 (p.ns+2,{cls:=.type "dict",data:=.dict p.ents (p.nn 2)}),
 (p.f1,{cls:=.type "function",data:=p.e 0}),(p.f2,{cls:=.type "function",data:=p.e 1}),(p.f3,{cls:=.type "function",data:=p.e 2}),
 (p.f4,{cls:=.type "function",data:=p.e 3}),(p.f5,{cls:=.type "function",data:=p.e 4}),(p.f6,{cls:=.type "function",data:=p.e 5}),
 (p.st,{cls:=.type "tuple",data:=.seq p.ss (p.nn 3)})]
noncomputable def kV (prog:Program) (w:World) (h₀:Heap) (b P:Nat) (A:Around) (g:Array GenState) (d:Drawn) (t₀:Nat) (os:OsState) (p:KP):XO:=
 {prog,w,h₀,n₁:=b+8,olds:=fM p,P,A,g,d,t₀,os,sums:=[Ic (b+8) p.lst #[.str (ofString "obj") (p.tk 15)]]}
noncomputable def Uy (w:World) (x:String):Int:=if(ofString x).cps.isEmpty=true then 0 else reduceHash (w.params.strHash (ofString x).cps)
noncomputable def dG (w:World) (p:KP) (a t₀:Nat):Array DictEntry:=#[en (p.hs 0) "__module__" (p.tk 0) (.str (ofString "cpy313.functools") (p.tk 1)),
 en (p.hs 2) "__firstlineno__" (p.tk 4) (.int 152 (p.tk 5)),en (p.hs 3) "__slots__" (p.tk 6) (.ref p.lst),en (p.hs 4) "__init__" (p.tk 7) (.ref p.f1),en (p.hs 5) "__lt__" (p.tk 8) (.ref p.f2),en (p.hs 6) "__gt__" (p.tk 9) (.ref p.f3),
 en (p.hs 7) "__eq__" (p.tk 10) (.ref p.f4),en (p.hs 8) "__le__" (p.tk 11) (.ref p.f5),en (p.hs 9) "__ge__" (p.tk 12) (.ref p.f6),en (p.hs 10) "__hash__" (p.tk 13) .none,en (p.hs 11) "__static_attributes__" (p.tk 14) (.ref p.st),
 en (Uy w "obj") "obj" (t₀+1) (.ref (a+1)),en (Uy w "__doc__") "__doc__" (t₀+2) .none]
noncomputable def kE (w:World) (p:KP) (a t₀ n:Nat):Obj:={cls:=.type "dict",data:=.dict (dG w p a t₀) n}
noncomputable def oK (a nsA:Nat):ClassData:={name:=ofString "K",bases:=[.type "object"],mro:=[.ref a,.type "object"],ns:=nsA,qualname:=ofString "cmp_to_key.<locals>.K",hasDict:=false,slotNames:=[ofString "obj"]}
noncomputable def mF (p:KP):Array (Option Value):=#[some (.ref p.bT),none,some (.str (ofString "K") (p.tk 16)),some (.str (ofString "cmp_to_key.<locals>.K") (p.tk 3)),some (.builtin "object.__new__"),some (.bool false)]
noncomputable def Ri (p:KP) (a nsA:Nat):Obj:=⟨.type "type",none,.cls (oK a nsA),mF p⟩
noncomputable def kF (a t₀:Nat):Obj:={cls:=.type "member_descriptor",data:=.fields #[.str (ofString "obj") t₀,.ref a,.builtin "proto.slot",.builtin "proto.slot#set",rawInt 0]}
theorem aJ (C:Addr):List.filter (λx=>x != Value.ref C) [Value.ref C,.type "object"]=[.type "object"]:=by simp
section
variable {α β:Type}{V:XO}{S:SS}
noncomputable def Mc (V:XO)(S:SS)(t:Sem α)(Q:α->Shared->Prop)(E:Value->Shared->Prop):Prop:=∀h,V.Rep h S->wpAny V.M V.A t Q E (V.at S h)
theorem An (O:V.Ok){Q:β->Shared->Prop}{E:Value->Shared->Prop}{t:Sem α}{k:α->Sem β}(n:Nat)(ops:List Op)(a:α)(hs:Zf V n ops S (.top t)=true)(ha:(Ku V n ops S (.top t)).2=.top (.pure a))
  (g1:(Ku V n ops S (.top t)).1.L.map (·.1)=(Ku V n ops S (.top t)).1.L.map (·.2))(g2:(Ku V n ops S (.top t)).1.C.map (·.1)=(Ku V n ops S (.top t)).1.C.map (·.2))(r:Mc V (oP V n ops S (.top t)) (k a) Q E):Mc V S (t>>=k) Q E:=
 λ_ D=>wpAny_bind (Gz O n ops a D hs ha g1 g2 λh' D'=>r h' D')
theorem Xy {Q:β->Shared->Prop}{E:Value->Shared->Prop}{t:Sem α}{k:α->Sem β}(r:Mc V S t (λv s=>wpAny V.M V.A (k v) Q E s) E):Mc V S (t>>=k) Q E:=λh D=>wpAny_bind (r h D)
theorem cG (O:V.Ok){Q:β->Shared->Prop}{E E':Value->Shared->Prop}{t:Sem α}{k:α->Sem β}(n:Nat)(ops:List Op)(a:α)(hs:Zf V n ops S (.top t)=true)(ha:(Ku V n ops S (.top t)).2=.top (.pure a))
  (g1:(Ku V n ops S (.top t)).1.L.map (·.1)=(Ku V n ops S (.top t)).1.L.map (·.2))(g2:(Ku V n ops S (.top t)).1.C.map (·.1)=(Ku V n ops S (.top t)).1.C.map (·.2))(r:Mc V (oP V n ops S (.top t)) (k a) Q E):Mc V S t (λv s=>wpAny V.M V.A (k v) Q E s) E':=
 λ_ D=>Gz O n ops a D hs ha g1 g2 λh' D'=>r h' D'
theorem Et {Q:α->Shared->Prop}{E:Value->Shared->Prop}{vs:List Value}{t:Sem α}(r:Mc V S t Q E):Mc V S (holding vs t) Q E:=λh D=>wpAny_holding (r h D)
theorem Ec {c:Bool}{t u:Sem α}{Q:α->Shared->Prop}{E:Value->Shared->Prop}(hc:c=false)(r:Mc V S u Q E):Mc V S (if c=true then t else u) Q E:=λh D=>Xn hc (r h D)
theorem Fz {Q:β->Shared->Prop}{E:Value->Shared->Prop}{a:α}{k:α->Sem β}(r:Mc V S (k a) Q E):Mc V S (pure a>>=k) Q E:=λh D=>wpAny_bind (wpAny_pure (r h D))
theorem cE {Q:β->Shared->Prop}{E:Value->Shared->Prop}{vs:List Value}{t:Sem α}{c:Value->Sem α}{k:α->Sem β}(r:∀E',Mc V S t (λv s=>wpAny V.M V.A (k v) Q E s) E'):Mc V S (tryCatch (holding vs t) c>>=k) Q E:=λh D=>wpAny_bind (wpAny_tryCatch (wpAny_holding (r _ h D)))
theorem cF {Q:β->Shared->Prop}{E:Value->Shared->Prop}{k:Value->Sem β}{c:Nat}(O:V.Ok)(hc:S.m=c){cd:ClassData}{od:Option Addr}{sl:Array (Option Value)}(e:S.T.get 2=some ⟨.type "type",od,.cls cd,sl⟩)(hm:cd.mro=[.ref (V.n₁+2),.type "object"])(hg:((S.T.ins S.m Jg).get S.m).isSome=true)
  (r:Mc V {S with T:=(((S.T.ins S.m Jg).set S.m (Ek 0 (.ref (V.n₁+2)))).set S.m (Ek 1 (.ref (V.n₁+2)))).set S.m (Ek 2 (.ref (V.n₁+2))),m:=S.m+1} (k (.ref (V.n₁+c))) Q E):
  Mc V S (call (.type "super") [.ref (V.n₁+2),.ref (V.n₁+2)]>>=k) Q E:=λh D=>wpAny_bind (bX O D hc e hm hg λh' D'=>r h' D')
theorem gM {Q:β->Shared->Prop}{E:Value->Shared->Prop}{vs:List Value}{k:Value->Sem β}(O:V.Ok){b c:Nat}(hn:V.n₁=b+8)(hmm:S.m=c){cd:ClassData}{od:Option Addr}{sl:Array (Option Value)}{cn:Nat}{hh:Nat->Int}{ct:Nat->Nat}{cv:Nat->Value}(e:S.T.get 2=some ⟨.type "type",od,.cls {cd with mro:=[.ref (b+2+8),.type "object"]},sl⟩)
  (hc:V.h₀.get? 2=some (Tw hh ct cv cn))(hP:V.P≠2)(e4:S.T.get 4=some {cls:=.type "super",dict:=none,data:=.fields #[.ref (b+2+8),.ref (b+2+8),.ref (b+2+8)],slots:=#[]})(hg:((S.T.ins S.m (R0 (b+2+8))).get S.m).isSome=true)
  (r:Mc V {S with T:=S.T.ins S.m (R0 (b+2+8)),m:=S.m+1,i:=S.i+1} (k (.ref (V.n₁+c))) Q E):Mc V S (holding vs (getAttr (.ref (V.n₁+4)) (ofString "__init_subclass__"))>>=k) Q E:=
 λh D=>wpAny_bind (wpAny_holding (iZ O D hn hmm e hc hP e4 hg λh' D'=>r h' D'))
theorem cH {Q:β->Shared->Prop}{E E':Value->Shared->Prop}{a:α}{k:α->Sem β}(r:Mc V S (k a) Q E):Mc V S (pure a) (λv s=>wpAny V.M V.A (k v) Q E s) E':=λh D=>wpAny_pure (r h D)
end
theorem kO {prog:Program}{w:World}{h₀:Heap}{b P:Nat}{A:Around}{g:Array GenState}{d:Drawn}{t₀:Nat}{os:OsState}{p:KP}(O:(kV prog w h₀ b P A g d t₀ os p).Ok)(hP:P≠2){h:Heap}{vs:Array Value}
  (D:(kV prog w h₀ b P A g d t₀ os p).Rep h ⟨.nil,0,0,vs,[],[]⟩){Q:PySem.Fin->Shared->Prop}{E:Value->Shared->Prop}
  (k:∀h' S',(kV prog w h₀ b P A g d t₀ os p).Rep h' S'->S'.m=6/\S'.i=4/\S'.vs=vs/\S'.T.get 1=some (kE w p (b+10) t₀ 3)/\S'.T.get 2=some (Ri p (b+10) (b+9))/\S'.T.get 3=some (kF (b+10) t₀)->
   Q (.done (.ret (.ref (b+10)))) ((kV prog w h₀ b P A g d t₀ os p).at S' h')):
  wpAny (model prog w) A (Builtin.«type.__new__» ⟨[.type "type",.str (ofString "K") (p.tk 16),.ref p.bT,.ref (p.ns+2)],[]⟩) Q E ((kV prog w h₀ b P A g d t₀ os p).at ⟨.nil,0,0,vs,[],[]⟩ h):=by
 refine(show Mc (kV prog w h₀ b P A g d t₀ os p) ⟨.nil,0,0,vs,[],[]⟩ (Builtin.«type.__new__» ⟨[.type "type",.str (ofString "K") (p.tk 16),.ref p.bT,.ref (p.ns+2)],[]⟩) Q E from ?_) h D
 refine An O 100 [] (some (ofString "K")) (by kernel_rfl) (by kernel_rfl) (by kernel_rfl) (by kernel_rfl) ?_
 refine An O 100 [.o 1] true (by kernel_rfl) (by kernel_rfl) (by kernel_rfl) (by kernel_rfl) ?_
 refine An O 100 [.o 3] true (by kernel_rfl) (by kernel_rfl) (by kernel_rfl) (by kernel_rfl) ?_
 refine An O 100 [.o 1] (some #[Value.type "object"]) (by kernel_rfl) (by kernel_rfl) (by kernel_rfl) (by kernel_rfl) ?_
 refine An O 100 [] PUnit.unit (by kernel_rfl) (by kernel_rfl) (by kernel_rfl) (by kernel_rfl) ?_
 refine An O 100 [] (Value.type "type") (by kernel_rfl) (by kernel_rfl) (by kernel_rfl) (by kernel_rfl) ?_
 refine An O 100 [] () (by kernel_rfl) (by kernel_rfl) (by kernel_rfl) (by kernel_rfl) ?_
 refine An O 100 [] (Value.type "object") (by kernel_rfl) (by kernel_rfl) (by kernel_rfl) (by kernel_rfl) ?_
 refine An O 100 [.o 3] p.ents (by kernel_rfl) (by kernel_rfl) (by kernel_rfl) (by kernel_rfl) ?_
 refine An O 100 [.o 3] (some (.builtin "dict.__iter__")) (by kernel_rfl) (by kernel_rfl) (by kernel_rfl) (by kernel_rfl) ?_
 refine An O 100 [] (p.ents,([]:List Value)) (by kernel_rfl) (by kernel_rfl) (by kernel_rfl) (by kernel_rfl) ?_
 refine An O 1000 [.o 2,.s 0,.n 0] {names:=[ofString "obj"],dict:=false,weak:=false,inherited:=[]:Builtin.Slots.Plan} (by kernel_rfl) (by kernel_rfl) (by kernel_rfl) (by kernel_rfl) ?_
 refine An O 100 [] (Value.ref (b+8+1)) (by kernel_rfl) (by kernel_rfl) (by kernel_rfl) (by kernel_rfl) ?_
 refine Ec (by kernel_rfl) ?_
 refine An O 100 [] () (by kernel_rfl) (by kernel_rfl) (by kernel_rfl) (by kernel_rfl) ?_
 refine Ec (by kernel_rfl) ?_
 refine An O 100 [.n 1] (some (Value.str (ofString "cmp_to_key.<locals>.K") (p.tk 3))) (by kernel_rfl) (by kernel_rfl) (by kernel_rfl) (by kernel_rfl) ?_
 refine An O 100 [.n 1] (some (Value.str (ofString "cmp_to_key.<locals>.K") (p.tk 3))) (by kernel_rfl) (by kernel_rfl) (by kernel_rfl) (by kernel_rfl) ?_
 refine An O 100 [] (some (ofString "cmp_to_key.<locals>.K")) (by kernel_rfl) (by kernel_rfl) (by kernel_rfl) (by kernel_rfl) ?_
 refine An O 100 [] (ofString "cmp_to_key.<locals>.K") (by kernel_rfl) (by kernel_rfl) (by kernel_rfl) (by kernel_rfl) ?_
 refine An O 100 [.n 1] none (by kernel_rfl) (by kernel_rfl) (by kernel_rfl) (by kernel_rfl) ?_
 refine An O 100 [] (b+8+2) (by kernel_rfl) (by kernel_rfl) (by kernel_rfl) (by kernel_rfl) ?_
 refine An O 100 [.n 2] () (by kernel_rfl) (by kernel_rfl) (by kernel_rfl) (by kernel_rfl) ?_
 refine An O 100 [.n 2] () (by kernel_rfl) (by kernel_rfl) (by kernel_rfl) (by kernel_rfl) ?_
 refine An O 100 [.n 2] () (by kernel_rfl) (by kernel_rfl) (by kernel_rfl) (by kernel_rfl) ?_
 refine An O 100 [.n 1,.n 1] true (by kernel_rfl) (by kernel_rfl) (by kernel_rfl) (by kernel_rfl) ?_
 refine An O 100 [.n 1] none (by kernel_rfl) (by kernel_rfl) (by kernel_rfl) (by kernel_rfl) ?_
 refine An O 100 [.n 1,.n 1] PUnit.unit (by kernel_rfl) (by kernel_rfl) (by kernel_rfl) (by kernel_rfl) ?_
 refine An O 100 [.n 1] none (by kernel_rfl) (by kernel_rfl) (by kernel_rfl) (by kernel_rfl) ?_
 refine An O 100 [.n 1] none (by kernel_rfl) (by kernel_rfl) (by kernel_rfl) (by kernel_rfl) ?_
 refine An O 100 [] none (by kernel_rfl) (by kernel_rfl) (by kernel_rfl) (by kernel_rfl) ?_
 refine An O 100 [] [Value.type "object"] (by kernel_rfl) (by kernel_rfl) (by kernel_rfl) (by kernel_rfl) ?_
 refine Fz ?_
 refine Xy ?_
 rw[aJ]
 refine cG O 100 [] false (by kernel_rfl) (by kernel_rfl) (by kernel_rfl) (by kernel_rfl) ?_
 refine An O 100 [.n 2,.n 2,.n 2] () (by kernel_rfl) (by kernel_rfl) (by kernel_rfl) (by kernel_rfl) ?_
 refine An O 100 [] (some "object.__new__") (by kernel_rfl) (by kernel_rfl) (by kernel_rfl) (by kernel_rfl) ?_
 refine An O 100 [.n 2] () (by kernel_rfl) (by kernel_rfl) (by kernel_rfl) (by kernel_rfl) ?_
 refine An O 100 [.n 2,.n 2,.n 2,.n 1] () (by kernel_rfl) (by kernel_rfl) (by kernel_rfl) (by kernel_rfl) ?_
 refine An O 1000 [.n 1,.n 1,.n 1,.n 1,.n 2,.n 2,.n 2] () (by kernel_rfl) (by kernel_rfl) (by kernel_rfl) (by kernel_rfl) ?_
 refine An O 100 [] false (by kernel_rfl) (by kernel_rfl) (by kernel_rfl) (by kernel_rfl) ?_
 refine An O 100 [.n 2] () (by kernel_rfl) (by kernel_rfl) (by kernel_rfl) (by kernel_rfl) ?_
 refine An O 100 [.n 1] none (by kernel_rfl) (by kernel_rfl) (by kernel_rfl) (by kernel_rfl) ?_
 refine An O 100 [.n 1,.n 1] () (by kernel_rfl) (by kernel_rfl) (by kernel_rfl) (by kernel_rfl) ?_
 refine An O 100 [.n 1] (some (.ref p.f4)) (by kernel_rfl) (by kernel_rfl) (by kernel_rfl) (by kernel_rfl) ?_
 refine An O 100 [.n 1] (some .none) (by kernel_rfl) (by kernel_rfl) (by kernel_rfl) (by kernel_rfl) ?_
 refine An O 100 [] PUnit.unit (by kernel_rfl) (by kernel_rfl) (by kernel_rfl) (by kernel_rfl) ?_
 refine cE λE2=>?_
 refine An O 100 [.n 1] (dG w p (b+10) t₀) (by kernel_rfl) (by kernel_rfl) (by kernel_rfl) (by kernel_rfl) ?_
 refine An O 100 [] false (by kernel_rfl) (by kernel_rfl) (by kernel_rfl) (by kernel_rfl) ?_
 refine An O 100 [.n 1] (dG w p (b+10) t₀) (by kernel_rfl) (by kernel_rfl) (by kernel_rfl) (by kernel_rfl) ?_
 refine An O 3000 [.o 2,.o 4,.o 5,.o 6,.o 7,.o 8,.o 9,.o 10,.n 3] PUnit.unit (by kernel_rfl) (by kernel_rfl) (by kernel_rfl) (by kernel_rfl) ?_
 refine cF (c:=4) (cd:=oK (b+10) (b+9)) (od:=none) (sl:=mF p) O (by kernel_rfl) (by kernel_rfl) (by kernel_rfl) (by kernel_rfl) ?_
 refine gM (b:=b) (c:=5) (cd:=oK (b+10) (b+9)) (od:=none) (sl:=mF p) O rfl (by kernel_rfl) (by kernel_rfl) (O.olds _ (mem_cons_self ..)).1 hP (by kernel_rfl) (by kernel_rfl) ?_
 refine An O 2000 [.n 5,.n 2,.n 2,.n 2,.n 2,.n 2,.n 2,.n 2] Value.none (by kernel_rfl) (by kernel_rfl) (by kernel_rfl) (by kernel_rfl) ?_
 exact cH λh D=>wpAny_pure (k _ _ D ⟨by kernel_rfl,by kernel_rfl,by kernel_rfl,by kernel_rfl,by kernel_rfl,by kernel_rfl⟩)
theorem Ly:entryFor table "type.__new__"=some Builtin.«type.__new__»:=entryFor_of_tree (by kernel_rfl)
theorem rS {prog:Program}{w:World}{h:Heap}{b P:Nat}{A:Around}{g:Array GenState}{d:Drawn}{t₀:Nat}{os:OsState}{p:KP}(O:(kV prog w h b P A g d t₀ os p).Ok0):(kV prog w h b P A g d t₀ os p).Ok:=⟨O,λX hX=>by
 have hX:X∈[Ic (b+8) p.lst #[.str (ofString "obj") (p.tk 15)]]:=hX
 rw[mem_singleton.mp hX]
 refine Ae (O.olds (p.lst,{cls:=.type "list",data:=.seq #[.str (ofString "obj") (p.tk 15)] (p.nn 1)}) (.tail _ (.tail _ (.head _)))) λe1 e2=>?_
 exact Ml O e1 e2 (by show 1<=_;decide)⟩
structure Made (w:World)(p:KP)(b P t₀:Nat)(vs:Array Value)(h h':Heap):Prop where
 keep:∀a o,a≠P->h.get? a=some o->h'.get? a=some o
 tab:h'.get? P=some (PySem.W.X.tableObj vs)
 size:b+14<=h'.objs.size
 ns:h'.get? (b+9)=some (kE w p (b+10) t₀ 3)
 cls:h'.get? (b+10)=some (Ri p (b+10) (b+9))
 md:h'.get? (b+11)=some (kF (b+10) t₀)
noncomputable def mE (prog:Program) (w:World) (h:Heap) (b P:Nat) (A:Around) (g:Array GenState) (d:Drawn) (t₀:Nat) (os:OsState) (p:KP):XO:=
 {prog,w,h₀:=h,n₁:=b+14,olds:=[(b+10,Ri p (b+10) (b+9))],P,A,g,d,t₀:=t₀+4,os}
theorem bF {prog:Program}{w:World}{h:Heap}{b P:Nat}{A:Around}{g:Array GenState}{d:Drawn}{t₀:Nat}{os:OsState}{p:KP}(O0:(kV prog w h b P A g d t₀ os p).Ok0)(hP:P≠2){vs:Array Value}(hT:h.get? P=some (PySem.W.X.tableObj vs))
  {Q:Value->Shared->Prop}{E:Value->Shared->Prop}(k:∀h',Made w p b P t₀ vs h h'->Q (.ref (b+10)) ⟨h',g,d,t₀+4,os⟩):
  wpAny (model prog w) A (call (.type "type") [.str (ofString "K") (p.tk 16),.ref p.bT,.ref (p.ns+2)]) Q E ⟨h,g,d,t₀,os⟩:=by
 have O:=rS O0
 refine wpAny_mono (Q:=Q) (E:=λ_ _=>False) ?_ (λ_ _ x=>x) λ_ _ x=>x.elim
 have D0:(kV prog w h b P A g d t₀ os p).Rep h ⟨.nil,0,0,vs,[],[]⟩:=Xl O.size hT
 refine gT (Q:=Q) O (n:=2000) (ops:=[.a "type.__new__"]) (x:=.top (call (.type "type") [.str (ofString "K") (p.tk 16),.ref p.bT,.ref (p.ns+2)])) (by kernel_rfl) ⟨by kernel_rfl,by kernel_rfl⟩ D0 λh1 D1=>?_
 refine Ae (D1.to ⟨.nil,0,0,vs,[],[]⟩ (by kernel_rfl) (by kernel_rfl) (by kernel_rfl) (by kernel_rfl)) λD1 e1=>?_
 rw[e1]
 refine bD (c:=.builtin "type.__new__" ⟨[.type "type",.str (ofString "K") (p.tk 16),.ref p.bT,.ref (p.ns+2)],[]⟩) (by kernel_rfl) λA' R hR=>?_
 refine codeAny_builtin Ly ?_
 refine kO (A:=A'.under (.builtin "type.__new__" ⟨[.type "type",.str (ofString "K") (p.tk 16),.ref p.bT,.ref (p.ns+2)],[]⟩)) (rS ⟨O.size,O.olds⟩) hP ⟨D1.size,D1.own,D1.keep,D1.tab,D1.lt⟩ ?_
 intro h' S' D' ⟨em,ei,ev,e1,e2,e3⟩
 refine hR _ _ ?_
 have g1:=(D'.own _ _ e1).2
 have g2:=(D'.own _ _ e2).2
 have g3:=(D'.own _ _ e3).2
 have hz:h'.objs.size=b+14:=D'.size.trans (by rw[em];rfl)
 have hP':P<b+8:=D'.lt
 have D3:=Xl (V:=mE prog w h' b P A g d t₀ os p) (vs:=vs) (hz.trans rfl) (by rw[<-ev];exact D'.tab)
 have O3:(mE prog w h' b P A g d t₀ os p).Ok:=⟨⟨hz.trans rfl,λq hq=>by
  have hq:q∈[(b+10,Ri p (b+10) (b+9))]:=hq
  rw[mem_singleton.mp hq]
  exact⟨g2,(far hP' 2).symm⟩⟩,λ_ x=>nomatch x⟩
 have es:(kV prog w h b P (A'.under (.builtin "type.__new__" ⟨[.type "type",.str (ofString "K") (p.tk 16),.ref p.bT,.ref (p.ns+2)],[]⟩)) g d t₀ os p).at S' h'=(mE prog w h' b P A g d t₀ os p).at ⟨.nil,0,0,vs,[],[]⟩ h':=by
  unfold XO.at;rw[ei];rfl
 rw[XO.meansEq (V:=kV prog w h b P A g d t₀ os p) (V':=mE prog w h' b P A g d t₀ os p) rfl rfl rfl,show(kV (kV prog w h b P A g d t₀ os p).prog (kV prog w h b P A g d t₀ os p).w h b P (A'.under (.builtin "type.__new__" ⟨[.type "type",.str (ofString "K") (p.tk 16),.ref p.bT,.ref (p.ns+2)],[]⟩)) g d t₀ os p).at S' h'=_ from es]
 refine gT (Q:=Q) O3 (n:=2000) (ops:=[.o 0,.o 0,.o 0,.o 0,.o 0,.o 0]) (by kernel_rfl) ⟨by kernel_rfl,by kernel_rfl⟩ D3 λh4 D4=>?_
 refine Ae (D4.to ⟨.nil,0,0,vs,[],[]⟩ (by kernel_rfl) (by kernel_rfl) (by kernel_rfl) (by kernel_rfl)) λD4 e4=>?_
 rw[e4,show(Ku (mE prog w h' b P A g d t₀ os p) 2000 [.o 0,.o 0,.o 0,.o 0,.o 0,.o 0] ⟨.nil,0,0,vs,[],[]⟩ (Yp (kV prog w h b P A g d t₀ os p) (Except.ok (Flow.ret (Value.ref (b+10))))
   (Ku (kV prog w h b P A g d t₀ os p) 2000 [Op.a "type.__new__"] {T:=BT.nil,m:=0,i:=0,vs:=vs} (Er.top (call (Value.type "type") [Value.str (ofString "K") (p.tk 16),Value.ref p.bT,Value.ref (p.ns+2)]))).snd)).2=.top (.pure (.ref (b+10)))by kernel_rfl]
 refine wpAny_pure (k h4 ⟨λa o na e=>D4.keep _ _ (D'.keep _ _ e na) na,D4.tab,by rw[D4.size];exact le_refl _,?_,D4.keep _ _ g2 (far hP' 2).symm,?_⟩)
 ·exact D4.keep _ _ g1 (far hP' 1).symm
 ·exact D4.keep _ _ g3 (far hP' 3).symm
noncomputable def jS:DefRec:=Bk PySem.Challenge.pw_in0167_01 15
noncomputable def U2 {α:Type} (z:α) (f:List Stmt->Scope->List Str->Pos->α):α:=match jS.body with
 | .ClassDef _ _ _ body _ _ scope _ _ statics pos::_=>f body scope statics pos
 |_=>z
noncomputable def Gm:List Stmt:=U2 [] λb _ _ _=>b
noncomputable def Jt:Scope:=U2 jS.scope λ_ s _ _=>s
noncomputable def Ey:List Str:=U2 [] λ_ _ s _=>s
noncomputable def Wt:Pos:=U2 ⟨0,0,0,0⟩ λ_ _ _ p=>p
noncomputable def jA (hh:Nat->Int) (ct:Nat->Nat) (cv:Nat->Value) (rest:List DictEntry) (n:Nat):Obj:={cls:=.type "dict",data:=.dict ⟨en (hh 0) "__name__" (ct 0) (cv 0)::en (hh 1) "__doc__" (ct 1) (cv 1)::en (hh 2) "__package__" (ct 2) (cv 2)::
 en (hh 3) "__loader__" (ct 3) (cv 3)::en (hh 4) "__spec__" (ct 4) (cv 4)::en (hh 5) "__annotations__" (ct 5) (cv 5)::en (hh 6) "__builtins__" (ct 6) (.ref 4)::rest⟩ n}
noncomputable def lR:Obj:={cls:=.type "module",dict:=some builtinsNs}
noncomputable def gE (kt:Nat->Nat) (x8 x12 x13 x14 x15 x16:Value) (P:Nat):Obj:={cls:=.type "code",data:=.fields #[.str (ofString "cmp_to_key") (kt 0),.str (ofString "cmp_to_key") (kt 1),.str (ofString "/claim/cut.py") (kt 2),.int 150 0,.int 1 0,.int 0 0,.int 0 0,.int 3 0,x8,.bool true,.int 276 0,.ref P,x12,x13,x14,x15,x16,.int 150 0,.str (ofString "/claim/cut.py") (kt 3)]}
noncomputable def oL (cc:Nat) (pm doc:Value):FuncData:=docDef jS.name jS.params jS.body jS.scope pm (.ref cc) doc
structure FP where
 L:Nat
 a:Nat
 cc:Nat
 P:Nat
 pm:Value
 doc:Value
 hh:Nat->Int
 ct:Nat->Nat
 cv:Nat->Value
 gn:Nat
 rest:List DictEntry
 kt:Nat->Nat
 x:Nat->Value
 ch:Nat->Int
 ct2:Nat->Nat
 cv2:Nat->Value
 cn:Nat
noncomputable def aL (f:FP):List (Addr×Obj):=[(2,Tw f.ch f.ct2 f.cv2 f.cn),(3,jA f.hh f.ct f.cv f.rest f.gn),(4,lR),(f.cc,gE f.kt (f.x 0) (f.x 1) (f.x 2) (f.x 3) (f.x 4) (f.x 5) f.P)]
noncomputable def Iu (f:FP):Env:=callEnvC (oL f.cc f.pm f.doc) f.L f.a
noncomputable def fV (prog:Program) (w:World) (h:Heap) (b:Nat) (A:Around) (g:Array GenState) (d:Drawn) (t₀:Nat) (os:OsState) (f:FP):XO:=
 {prog,w,h₀:=h,n₁:=b+8,olds:=aL f,P:=f.P,A,g,d,t₀,os}
theorem fI {V:XO}{h:Heap}{S:SS}(D:V.Rep h S)(hl:V.h₀.NoLimit)(hP:V.P≠2):h.NoLimit:=by
 refine Ac hl λmc Z hn=>?_
 try clear hl
 refine B9 Z λo es ep e r=>?_
 clear Z
 exact⟨mc,⟨o,es,ep,D.keep _ _ e (Ne.symm hP),r⟩,hn⟩
theorem bL {V:XO}{h:Heap}{S:SS}{Q:Value->Shared->Prop}{E:Value->Shared->Prop}(D:V.Rep h S)(p:KP)(b5 i:Nat)(vs:Array Value)(hn:V.n₁+S.m=b5+8)(hi:S.i=i)(hv:S.vs=vs)(hP:V.P≠2)(ho:∀q∈fM p,(∃j,S.T.get j=some q.2/\q.1=V.n₁+j)\/(V.h₀.get? q.1=some q.2/\q.1≠V.P))
  (k:∀h',Made V.w p b5 V.P (V.t₀+i) vs h h'->Q (.ref (b5+10)) ⟨h',V.g,V.d,V.t₀+i+4,V.os⟩):
  wpAny V.M V.A (call (.type "type") [.str (ofString "K") (p.tk 16),.ref p.bT,.ref (p.ns+2)]) Q E (V.at S h):=by
 subst hi hv
 refine bF (b:=b5) (P:=V.P) (p:=p) ⟨D.size.trans hn,λq hq=>?_⟩ hP D.tab k
 rcases ho q hq with⟨j,e1,e2⟩|⟨e1,e2⟩
 ·rw[e2]
  exact⟨(D.own _ _ e1).2,(far D.lt j).symm⟩
 ·exact⟨D.keep _ _ e1 e2,e2⟩
noncomputable def Gk (i:Nat):Str×Arguments×List Stmt×Scope:=((Hk Gm[i+2]?).name,(Hk Gm[i+2]?).params,(Hk Gm[i+2]?).body,(Hk Gm[i+2]?).scope)
noncomputable def N0 (i code:Nat) (clt pm:Value) (cm:Nat):FuncData:={name:=(Gk i).1,qualname:=ofString "cmp_to_key.<locals>.K."++(Gk i).1,params:=(Gk i).2.1,body:=.stmts (Gk i).2.2.1,scope:=(Gk i).2.2.2,globals:=mainGlobals,closure:=(match i with|0=>[]|_=>[(ofString "mycmp",cm)]),defaults:=.none,kwdefaults:=.none,doc:=.none,pyModule:=pm,code:=.ref code,closureTuple:=clt,builtins:=builtinsNs}
noncomputable def Zv:List String:=["__module__","__qualname__","__firstlineno__","__slots__","__init__","__lt__","__gt__","__eq__","__le__","__ge__","__hash__","__static_attributes__"]
noncomputable def pM (w:World) (f:FP) (b t₀:Nat):KP:={bT:=b+8,lst:=b+15,ns:=b+8,st:=b+63,f1:=b+22,f2:=b+30,f3:=b+38,f4:=b+46,f5:=b+54,f6:=b+62,hs:=λi=>Uy w (Zv.getD i ""),tk:=λi=>t₀+[8,13,10,9,12,11,16,24,33,42,51,60,69,70,72,15,0].getD i 0,nn:=λi=>[0,0,12,0].getD i 0,e:=λi=>.func (N0 i (b+21+8*i) (match i with|0=>.none|i+1=>.ref (b+23+8*i)) (f.cv 0) (f.L+1)),ss:=#[.str (ofString "obj") (t₀+71)],ch:=f.ch,ct:=f.ct2,cv:=f.cv2,cn:=f.cn}
noncomputable def lW (i:Nat):Pos:=(Hk Gm[i+2]?).pos
noncomputable def nU (x:Nat->Value) (tb ft:Nat):Obj:={cls:=.type "code",data:=.fields #[x 0,x 1,x 2,x 3,x 4,x 5,x 6,.int 0 0,x 7,.bool true,.int 276 0,.ref tb,x 8,x 9,x 10,x 11,x 12,x 13,.str (ofString "/claim/cut.py") ft]}
noncomputable def Wo (k:Nat->Nat) (i:Nat):List Value:=[rawInt (lW i).line,rawInt (lW i).col,.ref (k i)]
noncomputable def Zo (k:Nat->Nat):Array Value:=⟨Wo k 0++Wo k 1++Wo k 2++Wo k 3++Wo k 4++Wo k 5⟩
noncomputable def Gj (i:Nat):Str:=ofString "cmp_to_key.<locals>.K."++(Gk i).1
noncomputable def El (o:Option Obj):Option Value:=match o with
 |some o=>match o.data with
  | .fields vs=>vs[1]?
  |_=>none
 |none=>none
theorem Y0 {V:XO}{h:Heap}{S:SS}(D:V.Rep h S)(j:Nat)(v:Value)(e:El (S.T.get j)=some v):∃o,h.get? (V.n₁+j)=some o/\El (some o)=some v:=by
 cases q:S.T.get j with
 |none=>rw[q]at e;cases e
 |some o=>rw[q]at e;exact⟨o,(D.own _ _ q).2,e⟩
structure oF (w:World)(f:FP)(b5:Nat)(p:KP)(t₁:Nat)(vs:Array Value)(cc tb ft:Nat)(x:Nat->Value)(k:Nat->Nat)(h h':Heap):Prop where
 keep:∀a o,a≠f.P->h.get? a=some o->h'.get? a=some o
 tab:h'.get? f.P=some (PySem.W.X.tableObj vs)
 size:b5+14<=h'.objs.size
 ns:h'.get? (b5+9)=some (kE w p (b5+10) t₁ 3)
 cls:h'.get? (b5+10)=some (Ri p (b5+10) (b5+9))
 md:h'.get? (b5+11)=some (kF (b5+10) t₁)
 f1:h'.get? p.f1=some {cls:=.type "function",data:=.func (N0 0 (k 0) .none (f.cv 0) (f.L+1))}
 f2:∃clt,h'.get? p.f2=some {cls:=.type "function",data:=.func (N0 1 (k 1) clt (f.cv 0) (f.L+1))}
 cc:h'.get? cc=some (nU x tb ft)
 tb:h'.get? tb=some (PySem.W.X.tableObj (Zo k))
 q0:∃t,El (h'.get? (k 0))=some (.str (Gj 0) t)
 q1:∃t,El (h'.get? (k 1))=some (.str (Gj 1) t)
noncomputable def xM (b t₀:Nat) (i:Nat):Value:=[.str (ofString "K") (t₀+2),.str (ofString "cmp_to_key.<locals>.K") (t₀+3),.str (ofString "/claim/cut.py") (t₀+4),.int 152 0,.int 0 0,.int 0 0,.int 0 0,.ref (b+11),.none,.none,.none,.none,rawInt (t₀+6:Nat),.int 152 0].getD i .none
theorem jU {prog:Program}{w:World}{h₀:Heap}{b:Nat}{A:Around}{g:Array GenState}{d:Drawn}{t₀:Nat}{os:OsState}{f:FP}(O:(fV prog w h₀ b A g d t₀ os f).Ok)(hlim:h₀.NoLimit)(hP:f.P≠2)(hA:A.depth<recursionLimit){h:Heap}
  (D:(fV prog w h₀ b A g d t₀ os f).Rep h ⟨.nil,0,0,#[],[],[]⟩){Q:Value->Shared->Prop}{E:Value->Shared->Prop}
  (k:∀h',oF w f (b+56) (pM w f b t₀) (t₀+73) #[rawInt 152,rawInt 4,.ref (b+13)] (b+13) (b+12) (t₀+7) (xM b t₀) (λi=>b+21+8*i) h₀ h'->Q (.ref (b+66)) ⟨h',g,d,t₀+77,os⟩):
  wpAny (model prog w) A (buildClass (ofString "K") (ofString "cmp_to_key.<locals>.K") [.type "object"] [] Gm Jt Ey 152 (Iu f) Wt none) Q E ((fV prog w h₀ b A g d t₀ os f).at ⟨.nil,0,0,#[],[],[]⟩ h):=by
 refine(show Mc (fV prog w h₀ b A g d t₀ os f) ⟨.nil,0,0,#[],[],[]⟩ (buildClass (ofString "K") (ofString "cmp_to_key.<locals>.K") [.type "object"] [] Gm Jt Ey 152 (Iu f) Wt none) Q E from ?_) h D
 unfold buildClass
 refine An O 200 [] (.ref (b+8)) (by kernel_rfl) (by kernel_rfl) (by kernel_rfl) (by kernel_rfl) ?_
 refine An O 200 [] ([Value.type "object"],false) (by kernel_rfl) (by kernel_rfl) (by kernel_rfl) (by kernel_rfl) ?_
 refine An O 200 [] (Value.type "type") (by kernel_rfl) (by kernel_rfl) (by kernel_rfl) (by kernel_rfl) ?_
 refine An O 200 [] true (by kernel_rfl) (by kernel_rfl) (by kernel_rfl) (by kernel_rfl) ?_
 refine An O 200 [] (Value.type "type") (by kernel_rfl) (by kernel_rfl) (by kernel_rfl) (by kernel_rfl) ?_
 refine An O 200 [] (.str (ofString "K") t₀) (by kernel_rfl) (by kernel_rfl) (by kernel_rfl) (by kernel_rfl) ?_
 refine An O 200 [] (Value.ref (b+8)) (by kernel_rfl) (by kernel_rfl) (by kernel_rfl) (by kernel_rfl) ?_
 refine Et ?_
 refine An O 2000 [] (some (Value.ref (b+9))) (by kernel_rfl) (by kernel_rfl) (by kernel_rfl) (by kernel_rfl) ?_
 refine An O 2000 [.n 1] (Value.ref (b+10)) (by kernel_rfl) (by kernel_rfl) (by kernel_rfl) (by kernel_rfl) ?_
 refine An O 200 [] () (by kernel_rfl) (by kernel_rfl) (by kernel_rfl) (by kernel_rfl) ?_
 refine An O 200 [.n 2] (some (Value.builtin "dict.__getitem__")) (by kernel_rfl) (by kernel_rfl) (by kernel_rfl) (by kernel_rfl) ?_
 refine Ec (by kernel_rfl) ?_
 refine Et ?_
 refine Ec (by kernel_rfl) ?_
 refine Fz ?_
 refine Ec (by kernel_rfl) ?_
 refine Fz ?_
 refine An O 2000 [.o 3,.t,.t,.t,.t] (Value.ref (b+13)) (by kernel_rfl) (by kernel_rfl) (by kernel_rfl) (by kernel_rfl) ?_
 refine An O 200 [.o 1,.o 2] builtinsNs (by kernel_rfl) (by kernel_rfl) (by kernel_rfl) (by kernel_rfl) ?_
 refine An O 200 [.o 1] (b+14) (by kernel_rfl) (by kernel_rfl) (by kernel_rfl) (by kernel_rfl) ?_
 refine An O 200 [] [(ofString "mycmp",f.L+1)] (by kernel_rfl) (by kernel_rfl) (by kernel_rfl) (by kernel_rfl) ?_
 refine Et ?_
 intro h D
 refine wpAny_bind (wpAny_enterFrame (fI D hlim hP) hA ?_)
 refine wpAny_bind (Gz O 3000 [.n 2,.n 2,.o 1,.n 2,.n 2,.n 2,.n 2,.n 2,.n 2,.n 2,.n 2,.n 2] () D (by kernel_rfl) (by kernel_rfl) (by kernel_rfl) (by kernel_rfl) λh D=>?_)
 refine wpAny_bind (Gz O 6000 [.n 2,.n 2,.n 2,.n 2,.n 2,.n 2,.n 5,.n 4,.n 4,.n 4,.n 4,.o 1,.o 2,.o 1,.n 2,.n 2,.n 2,.n 5,.n 4,.n 4,.n 4,.n 4,.o 1,.o 2,.o 1,.n 2,.n 2,.n 2,.n 5,.n 4,.n 4,.n 4,.n 4,.o 1,.o 2,.o 1,.n 2,.n 2,.n 2,.n 5,.n 4,.n 4,.n 4,.n 4,.o 1,.o 2,.o 1,.n 2,.n 2,.n 2,.n 5,.n 4,.n 4,.n 4,.n 4,.o 1,.o 2,.o 1,.n 2,.n 2,.n 2,.n 5,.n 4,.n 4,.n 4,.n 4,.o 1,.o 2,.o 1,.n 2,.n 2,.n 2,.n 2,.n 2,.n 2] Flow.next D (by kernel_rfl) (by kernel_rfl) (by kernel_rfl) (by kernel_rfl) λh D=>?_)
 refine wpAny_bind (Gz O 1000 [.n 2,.n 2,.n 2] () D (by kernel_rfl) (by kernel_rfl) (by kernel_rfl) (by kernel_rfl) λh D=>?_)
 refine wpAny_bind (bL D (pM w f b t₀) (b+56) 73 #[rawInt 152,rawInt 4,.ref (b+13)] (by kernel_rfl) (by kernel_rfl) (by kernel_rfl) hP ?_ ?_)
 ·intro q hq
  have hq:q∈[_,_,_,_,_,_,_,_,_,_,_]:=hq
  simp only[mem_cons,not_mem_nil,or_false]at hq
  rcases hq with rfl|rfl|rfl|rfl|rfl|rfl|rfl|rfl|rfl|rfl|rfl
  ·exact .inr (O.olds _ (mem_cons_self ..))
  ·exact .inl ⟨0,by kernel_rfl,rfl⟩
  ·exact .inl ⟨7,by kernel_rfl,rfl⟩
  ·exact .inl ⟨2,by kernel_rfl,rfl⟩
  ·exact .inl ⟨14,by kernel_rfl,rfl⟩
  ·exact .inl ⟨22,by kernel_rfl,rfl⟩
  ·exact .inl ⟨30,by kernel_rfl,rfl⟩
  ·exact .inl ⟨38,by kernel_rfl,rfl⟩
  ·exact .inl ⟨46,by kernel_rfl,rfl⟩
  ·exact .inl ⟨54,by kernel_rfl,rfl⟩
  ·exact .inl ⟨55,by kernel_rfl,rfl⟩
 intro h' M
 refine wpAny_pure (k h' ?_)
 have N:=D.lt
 have e4:=(D.own 4 (PySem.W.X.tableObj (Zo λi=>b+21+8*i)) (by kernel_rfl)).2
 have e5:=(D.own 5 (nU (xM b t₀) (b+12) (t₀+7)) (by kernel_rfl)).2
 have e14:=(D.own 14 {cls:=.type "function",data:=.func (N0 0 (b+21+8*0) .none (f.cv 0) (f.L+1))} (by kernel_rfl)).2
 have e22:=(D.own 22 {cls:=.type "function",data:=.func (N0 1 (b+21+8*1) (.ref (b+23+8*0)) (f.cv 0) (f.L+1))} (by kernel_rfl)).2
 refine Ac (Y0 D 13 (.str (Gj 0) (t₀+18)) (by kernel_rfl)) λo13 qM q13=>?_
 refine Ac (Y0 D 21 (.str (Gj 1) (t₀+26)) (by kernel_rfl)) λo21 e21 q21=>?_
 exact⟨λa o na e=>M.keep a o na (D.keep a o e na),M.tab,M.size,M.ns,M.cls,M.md,M.keep _ _ (far N 14).symm e14,⟨_,M.keep _ _ (far N 22).symm e22⟩,M.keep _ _ (far N 5).symm e5,M.keep _ _ (far N 4).symm e4,
  ⟨_,by rw[show h'.get? (b+21+8*0)=some o13 from M.keep _ _ (far N 13).symm qM];exact q13⟩,⟨_,by rw[show h'.get? (b+21+8*1)=some o21 from M.keep _ _ (far N 21).symm e21];exact q21⟩⟩
structure CP where
 t1:Nat
 t2:Nat
 rest:List Value
 cc:Nat
 tb:Nat
 ft:Nat
 x:Nat->Value
 k:Nat->Nat
noncomputable def hV (prog:Program) (w:World) (h:Heap) (b:Nat) (A:Around) (g:Array GenState) (d:Drawn) (t₀:Nat) (os:OsState) (f:FP) (c:CP):XO:=
 {prog,w,h₀:=h,n₁:=b+8,olds:=aL f++[(c.cc,nU c.x c.tb c.ft),(c.tb,PySem.W.X.tableObj (Zo c.k))],P:=f.P,A,g,d,t₀,os}
noncomputable def pH (w:World) (f:FP) (c:CP) (b t₀:Nat):KP:={bT:=b+8,lst:=b+12,ns:=b+8,st:=b+24,f1:=b+13,f2:=b+15,f3:=b+17,f4:=b+19,f5:=b+21,f6:=b+23,hs:=λi=>Uy w (Zv.getD i ""),tk:=λi=>t₀+[2,7,4,3,6,5,10,11,12,13,14,15,16,17,19,9,0].getD i 0,nn:=λi=>[0,0,12,0].getD i 0,e:=λi=>.func (N0 i (c.k i) (match i with|0=>.none|i+1=>.ref (b+14+2*i)) (f.cv 0) (f.L+1)),ss:=#[.str (ofString "obj") (t₀+18)],ch:=f.ch,ct:=f.ct2,cv:=f.cv2,cn:=f.cn}
noncomputable def Wy (c:CP):Array Value:=⟨.int 152 c.t1:: .int 4 c.t2:: .ref c.cc::c.rest⟩
theorem nY {prog:Program}{w:World}{h₀:Heap}{b:Nat}{A:Around}{g:Array GenState}{d:Drawn}{t₀:Nat}{os:OsState}{f:FP}{c:CP}(O:(hV prog w h₀ b A g d t₀ os f c).Ok)(hlim:h₀.NoLimit)(hP:f.P≠2)(hA:A.depth<recursionLimit){h:Heap}
  (D:(hV prog w h₀ b A g d t₀ os f c).Rep h ⟨.nil,0,0,Wy c,[],[]⟩)(hq0:∃t,El (h₀.get? (c.k 0))=some (.str (Gj 0) t))(hq1:∃t,El (h₀.get? (c.k 1))=some (.str (Gj 1) t))(hk:∀i,i<2->c.k i≠f.P){Q:Value->Shared->Prop}{E:Value->Shared->Prop}
  (k:∀h',oF w f (b+17) (pH w f c b t₀) (t₀+20) (Wy c) c.cc c.tb c.ft c.x c.k h₀ h'->Q (.ref (b+27)) ⟨h',g,d,t₀+24,os⟩):
  wpAny (model prog w) A (buildClass (ofString "K") (ofString "cmp_to_key.<locals>.K") [.type "object"] [] Gm Jt Ey 152 (Iu f) Wt none) Q E ((hV prog w h₀ b A g d t₀ os f c).at ⟨.nil,0,0,Wy c,[],[]⟩ h):=by
 refine(show Mc (hV prog w h₀ b A g d t₀ os f c) ⟨.nil,0,0,Wy c,[],[]⟩ (buildClass (ofString "K") (ofString "cmp_to_key.<locals>.K") [.type "object"] [] Gm Jt Ey 152 (Iu f) Wt none) Q E from ?_) h D
 unfold buildClass
 refine An O 200 [] (.ref (b+8)) (by kernel_rfl) (by kernel_rfl) (by kernel_rfl) (by kernel_rfl) ?_
 refine An O 200 [] ([Value.type "object"],false) (by kernel_rfl) (by kernel_rfl) (by kernel_rfl) (by kernel_rfl) ?_
 refine An O 200 [] (Value.type "type") (by kernel_rfl) (by kernel_rfl) (by kernel_rfl) (by kernel_rfl) ?_
 refine An O 200 [] true (by kernel_rfl) (by kernel_rfl) (by kernel_rfl) (by kernel_rfl) ?_
 refine An O 200 [] (Value.type "type") (by kernel_rfl) (by kernel_rfl) (by kernel_rfl) (by kernel_rfl) ?_
 refine An O 200 [] (.str (ofString "K") t₀) (by kernel_rfl) (by kernel_rfl) (by kernel_rfl) (by kernel_rfl) ?_
 refine An O 200 [] (Value.ref (b+8)) (by kernel_rfl) (by kernel_rfl) (by kernel_rfl) (by kernel_rfl) ?_
 refine Et ?_
 refine An O 2000 [] (some (Value.ref (b+9))) (by kernel_rfl) (by kernel_rfl) (by kernel_rfl) (by kernel_rfl) ?_
 refine An O 2000 [.n 1] (Value.ref (b+10)) (by kernel_rfl) (by kernel_rfl) (by kernel_rfl) (by kernel_rfl) ?_
 refine An O 200 [] () (by kernel_rfl) (by kernel_rfl) (by kernel_rfl) (by kernel_rfl) ?_
 refine An O 200 [.n 2] (some (Value.builtin "dict.__getitem__")) (by kernel_rfl) (by kernel_rfl) (by kernel_rfl) (by kernel_rfl) ?_
 refine Ec (by kernel_rfl) ?_
 refine Et ?_
 refine Ec (by kernel_rfl) ?_
 refine Fz ?_
 refine Ec (by kernel_rfl) ?_
 refine Fz ?_
 refine An O 2000 [.o 3,.t] (Value.ref c.cc) (by kernel_rfl) (by kernel_rfl) (by kernel_rfl) (by kernel_rfl) ?_
 refine An O 200 [.o 1,.o 2] builtinsNs (by kernel_rfl) (by kernel_rfl) (by kernel_rfl) (by kernel_rfl) ?_
 refine An O 200 [.o 1] (b+11) (by kernel_rfl) (by kernel_rfl) (by kernel_rfl) (by kernel_rfl) ?_
 refine An O 200 [] [(ofString "mycmp",f.L+1)] (by kernel_rfl) (by kernel_rfl) (by kernel_rfl) (by kernel_rfl) ?_
 refine Et ?_
 intro h D
 refine wpAny_bind (wpAny_enterFrame (fI D hlim hP) hA ?_)
 refine wpAny_bind (Gz O 3000 [.n 2,.n 2,.o 1,.n 2,.n 2,.n 2,.n 2,.n 2,.n 2,.n 2,.n 2,.n 2] () D (by kernel_rfl) (by kernel_rfl) (by kernel_rfl) (by kernel_rfl) λh D=>?_)
 refine wpAny_bind (Gz O 6000 [.n 2,.n 2,.n 2,.n 2,.n 2,.n 2,.o 4,.o 5,.o 1,.o 2,.o 1,.n 2,.n 2,.n 2,.o 4,.o 5,.o 1,.o 2,.o 1,.n 2,.n 2,.n 2,.o 4,.o 5,.o 1,.o 2,.o 1,.n 2,.n 2,.n 2,.o 4,.o 5,.o 1,.o 2,.o 1,.n 2,.n 2,.n 2,.o 4,.o 5,.o 1,.o 2,.o 1,.n 2,.n 2,.n 2,.o 4,.o 5,.o 1,.o 2,.o 1,.n 2,.n 2,.n 2,.n 2,.n 2,.n 2] Flow.next D (by kernel_rfl) (by kernel_rfl) (by kernel_rfl) (by kernel_rfl) λh D=>?_)
 refine wpAny_bind (Gz O 1000 [.n 2,.n 2,.n 2] () D (by kernel_rfl) (by kernel_rfl) (by kernel_rfl) (by kernel_rfl) λh D=>?_)
 refine wpAny_bind (bL D (pH w f c b t₀) (b+17) 20 (Wy c) (by kernel_rfl) (by kernel_rfl) (by kernel_rfl) hP ?_ ?_)
 ·intro q hq
  have hq:q∈[_,_,_,_,_,_,_,_,_,_,_]:=hq
  simp only[mem_cons,not_mem_nil,or_false]at hq
  rcases hq with rfl|rfl|rfl|rfl|rfl|rfl|rfl|rfl|rfl|rfl|rfl
  ·exact .inr (O.olds _ (mem_cons_self ..))
  ·exact .inl ⟨0,by kernel_rfl,rfl⟩
  ·exact .inl ⟨4,by kernel_rfl,rfl⟩
  ·exact .inl ⟨2,by kernel_rfl,rfl⟩
  ·exact .inl ⟨5,by kernel_rfl,rfl⟩
  ·exact .inl ⟨7,by kernel_rfl,rfl⟩
  ·exact .inl ⟨9,by kernel_rfl,rfl⟩
  ·exact .inl ⟨11,by kernel_rfl,rfl⟩
  ·exact .inl ⟨13,by kernel_rfl,rfl⟩
  ·exact .inl ⟨15,by kernel_rfl,rfl⟩
  ·exact .inl ⟨16,by kernel_rfl,rfl⟩
 intro h' M
 refine wpAny_pure (k h' ?_)
 have N:=D.lt
 have e14:=(D.own 5 {cls:=.type "function",data:=.func (N0 0 (c.k 0) .none (f.cv 0) (f.L+1))} (by kernel_rfl)).2
 have e22:=(D.own 7 {cls:=.type "function",data:=.func (N0 1 (c.k 1) (.ref (b+14+2*0)) (f.cv 0) (f.L+1))} (by kernel_rfl)).2
 have up:∀a o,a≠f.P->h₀.get? a=some o->h'.get? a=some o:=λa o na e=>M.keep a o na (D.keep a o e na)
 refine Af hq0 λt0 q0=>?_
 try clear hq0
 refine Af hq1 λt1 q1=>?_
 try clear hq1
 have old:∀i v,i<2->El (h₀.get? (c.k i))=some v->El (h'.get? (c.k i))=some v:=λi v hi e=>by
  cases q:h₀.get? (c.k i)with
  |none=>rw[q]at e;cases e
  |some o=>rw[q]at e;rw[up _ _ (hk i hi) q];exact e
 have o4:=O.olds (c.cc,nU c.x c.tb c.ft) (.tail _ (.tail _ (.tail _ (.tail _ (.head _)))))
 have o5:=O.olds (c.tb,PySem.W.X.tableObj (Zo c.k)) (.tail _ (.tail _ (.tail _ (.tail _ (.tail _ (.head _))))))
 exact⟨up,M.tab,M.size,M.ns,M.cls,M.md,M.keep _ _ (far N 5).symm e14,⟨_,M.keep _ _ (far N 7).symm e22⟩,up _ _ o4.2 o4.1,up _ _ o5.2 o5.1,⟨_,old 0 _ (by decide) q0⟩,⟨_,old 1 _ (by decide) q1⟩⟩
noncomputable def Ob (G:Gh) (v:Value):Prop:=∃(c tb ft:Nat) (x:Nat->Value) (k:Nat->Nat),v=.ref c/\G c=some (nU x tb ft)/\G tb=some (PySem.W.X.tableObj (Zo k))/\Bd G (.ref (k 0)) (Gj 0)/\Bd G (.ref (k 1)) (Gj 1)
theorem Bd.mono {G G':Gh}{v:Value}{q:Str}(h:Bd G v q)(l:G.le G'):Bd G' v q:=by refine Fp h λc o vs t e a b d=>?_;try clear h;exact⟨c,o,vs,t,e,l _ _ a,b,d⟩
theorem Ob.mono {G G':Gh}{v:Value}(h:Ob G v)(l:G.le G'):Ob G' v:=by refine U8 h λc tb ft x k e a b d d'=>?_;try clear h;exact⟨c,tb,ft,x,k,e,l _ _ a,l _ _ b,d.mono l,d'.mono l⟩
structure oG (Γ:W)(f:FP):Prop where
 e2:Γ.B.get? 2=some (Tw f.ch f.ct2 f.cv2 f.cn)
 e3:Γ.B.get? 3=some (jA f.hh f.ct f.cv f.rest f.gn)
 e4:Γ.B.get? 4=some lR
 ec:Γ.B.get? f.cc=some (gE f.kt (f.x 0) (f.x 1) (f.x 2) (f.x 3) (f.x 4) (f.x 5) f.P)
 tab:(f.cc,f.P)∈Γ.tabs
 big:8<=f.cc
 out:∀pos G c,Γ.codeOk f.P pos G c->pos.line=152/\pos.col=4/\Ob G c
 inn:∀pos G c,pos.line=152->pos.col=4->Ob G c->Γ.codeOk f.P pos G c
 bc:Γ.mb "__build_class__"=some (.builtin "__build_class__")
 obn:Γ.mg (ofString "object")=none
 obb:Γ.mb (ofString "object")=some (.type "object")
structure Px (w:World)(P:Gh->Value->Prop)(G:Gh)(p:KP)(b5 t₁:Nat)(k:Nat->Nat)(clt cv0:Value)(cm:Nat):Prop where
 ns:G (b5+9)=some (kE w p (b5+10) t₁ 3)
 cls:G (b5+10)=some (Ri p (b5+10) (b5+9))
 md:G (b5+11)=some (kF (b5+10) t₁)
 f1:G p.f1=some {cls:=.type "function",data:=.func (N0 0 (k 0) .none cv0 cm)}
 f2:G p.f2=some {cls:=.type "function",data:=.func (N0 1 (k 1) clt cv0 cm)}
 c0:Bd G (.ref (k 0)) (Gj 0)
 c1:Bd G (.ref (k 1)) (Gj 1)
 cell:∃o u,G cm=some o/\o.data=.cell (some u)/\∃G₀:Gh,G₀.le G/\P G₀ u
noncomputable def Xk (w:World) (P:Gh->Value->Prop) (G:Gh) (v:Value):Prop:=∃(p:KP) (b5 t₁:Nat) (k:Nat->Nat) (clt cv0:Value) (cm:Nat),v=.ref (b5+10)/\Px w P G p b5 t₁ k clt cv0 cm
theorem fD {G:Gh}{a:Nat}{q:Str}{h:Heap}(e:∃t,El (h.get? a)=some (.str q t))(hG:G a=h.get? a):Bd G (.ref a) q:=by
 refine Af e λt Z=>?_
 try clear e
 revert Z
 intro e
 cases ho:h.get? a with
 |none=>rw[ho]at e;exact Sg e
 |some o=>
  rw[ho]at e
  have e:(match o.data with| .fields vs=>vs[1]? |_=>none)=_:=e
  cases hd:o.data with
  |fields vs=>rw[hd]at e;exact⟨a,o,vs,t,rfl,hG.trans ho,hd,e⟩
  |_=>rw[hd]at e;exact Sg e
theorem fQ {G:Gh}{a:Nat}{q:Str}{h:Heap}(c:Bd G (.ref a) q)(hG:∀a o,G a=some o->h.get? a=some o):∃t,El (h.get? a)=some (.str q t):=by
 refine Fp c λa' o vs t e g d z=>?_
 try clear c
 cases e
 exact⟨t,by rw[hG _ _ g];show(match o.data with| .fields vs=>vs[1]? |_=>none)=_;rw[d];exact z⟩
section
variable {Γ:W}{K:Cw}{A:Around}{env:Env}{G G':Gh}{ι ι':List Addr}{σ:St}{s s':Shared}
theorem Xt {l:List Value}(h:TriplesOk l):l=[]\/∃a t b u c r,l=.int a t:: .int b u::c::r:=by
 match l,h with
 |[],_=>exact .inl rfl
 | .int a t:: .int b u::c::r,_=>exact .inr ⟨a,t,b,u,c,r,rfl⟩
theorem jT {f:FP}(H:Ev Γ A (Iu f))(X:oG Γ f)(F:Aa Γ K (Iu f) G ι σ s){P:Gh->Value->Prop}(hm:∃o u,G (f.L+1)=some o/\o.data=.cell (some u)/\∃G₀:Gh,G₀.le G/\P G₀ u){Q:Value->Shared->Prop}
  (k:∀G' v s',G.le G'->Xk Γ.w P G' v->Aa Γ K (Iu f) G' ι σ s'->Q v s'):
  wpAny (model Γ.prog Γ.w) A (buildClass (ofString "K") (ofString "cmp_to_key.<locals>.K") [.type "object"] [] Gm Jt Ey 152 (Iu f) Wt none) Q (λ_ _=>False) s:=by
 refine A0 (F.store.tabs _ X.tab) λtP1 tP2 Z=>?_
 refine Ck Z λps t0 ic Y q=>?_
 clear Z
 refine Af Y λog eg=>?_
 clear Y
 have hin:=F.store.gin
 have hB:∀b o,Γ.B.get? b=some o->s.heap.get? b=some o:=λb o e=>hin _ _ (F.store.base _ _ e)
 have hlim:s.heap.NoLimit:=H.ok.nolimit.keeps hB
 have hps:s.heap.get? f.P=some (tabObj ps):=t0.2
 have ht:TriplesOk ps.toList:=by
  refine Ix ic λ_ _ _ _ _ _ _ _ _ op _ _ _ _ _ _ _ b1 b2 b3 _=>?_
  try clear ic
  rw[hps]at b1;cases b1;cases b2;exact b3
 have neP:∀b o,Γ.B.get? b=some o->b≠f.P:=λb o e h=>by
  have:=F.store.base _ _ e
  rw[h,tP1]at this;cases this
 refine Af (show∃b,s.heap.objs.size=b+8 from⟨s.heap.objs.size-8,by have h1:f.cc<s.heap.objs.size:=Heap.lt_size (hB _ _ X.ec);have h2:=X.big;exact le_antisymm (Ah (Bp (s.heap.objs.size) (8))) (Ah (le_of_eq (sub_add_cancel (Ah (add_le_add h2 h1):8<=s.heap.objs.size))))⟩) λb hb=>?_
 have ltP:f.P<b+8:=hb▸Heap.lt_size hps
 have ltG:∀a o,G a=some o->a<b+8:=λa o e=>hb▸Heap.lt_size (hin _ _ e)
 have hP2:f.P≠2:=(neP _ _ X.e2).symm
 have hd:A.depth<recursionLimit:=by have:=H.depth;exact Ah this
 have olds:∀p∈aL f,s.heap.get? p.1=some p.2/\p.1≠f.P:=λp hp=>by
  have hp:p∈[_,_,_,_]:=hp
  simp only[mem_cons,not_mem_nil,or_false]at hp
  rcases hp with rfl|rfl|rfl|rfl
  ·exact⟨hB _ _ X.e2,neP _ _ X.e2⟩
  ·exact⟨hB _ _ X.e3,neP _ _ X.e3⟩
  ·exact⟨hB _ _ X.e4,neP _ _ X.e4⟩
  ·exact⟨hB _ _ X.ec,neP _ _ X.ec⟩
 have up:∀{h':Heap},(∀a o,a≠f.P->s.heap.get? a=some o->h'.get? a=some o)->∀a o,G a=some o->h'.get? a=some o:=λkk a o e=>kk a o (λz=>by subst z;rw[tP1]at e;cases e) (hin _ _ e)
 rcases Xt ht with e|⟨n1,u1,n2,u2,c,r,e⟩
 ·have ep:ps=#[]:=by rw[<-Array.toArray_toList (xs:=ps),e]
  subst ep
  refine jU (b:=b) (t₀:=s.toks) ⟨⟨hb,olds⟩,λ_ h=>nomatch h⟩ hlim hP2 hd (h:=s.heap) ⟨hb,λi o e=>(nomatch e),λ_ _ e _=>e,hps,ltP⟩ λh' R=>?_
  have le:G.le (G.upto (b+8) h'):=Gh.upto_le ltG
  have nw:∀a,b+8<=a->G.upto (b+8) h' a=h'.get? a:=λa ha=>Gh.upto_at ha
  have c0:=fD R.q0 (nw _ (by show b+8<=b+21+8*0;simp +arith only))
  have c1:=fD R.q1 (nw _ (by show b+8<=b+21+8*1;simp +arith only))
  have F':Aa Γ K (Iu f) (G.upto (b+8) h') ι σ ⟨h',s.gens,s.drawn,s.toks+77,s.os⟩:=F.grow H.ok X.tab hps (pos:=⟨152,4,0,0⟩) (λa o n e=>R.keep a o n e) le (Gh.upto_in (up R.keep))
   (λa ha=>Gh.upto_new (by have:a<b+8:=hb▸ha;exact this)) R.tab (λpos' e1 e2=>X.inn _ _ _ e1 e2 ⟨_,_,_,_,_,rfl,(nw _ (by simp +arith only)).trans R.cc,(nw _ (by simp +arith only)).trans R.tb,c0,c1⟩) (s.toks+77) (succ_pos _)
  refine Af R.f2 λclt f2=>?_
  refine Aj hm λo u m1 m2 V=>?_
  try clear hm
  refine Ac V λG₀ m3 m4=>?_
  clear V
  exact k _ _ _ le ⟨_,b+56,_,λi=>b+21+8*i,_,_,_,rfl,(nw _ (by simp +arith only)).trans R.ns,(nw _ (by simp +arith only)).trans R.cls,(nw _ (by simp +arith only)).trans R.md,(nw _ (by show b+8<=b+22;simp +arith only)).trans R.f1,(nw _ (by show b+8<=b+30;simp +arith only)).trans f2,c0,c1,o,u,le _ _ m1,m2,G₀,m3.trans le,m4⟩ F'
 ·refine A0 (show 0<=n1/\0<=n2/\Uc r from by have:=q.2;rw[e]at this;exact this) λz1 z2 _=>?_
  refine A0 (X.out ⟨n1.toNat,n2.toNat,0,0⟩ G c (q.1 _ _ (by
   rw[e];unfold codeAmong
   rw[if_pos (by simp only[Bool.and_eq_true,beq_iff_eq];exact⟨(Int.toNat_of_nonneg z1).symm,(Int.toNat_of_nonneg z2).symm⟩)]))) λw1 w2 U=>?_
  refine U8 U λcc tb ft x kk z3 y1 y2 y3 y4=>?_
  clear U
  subst z3
  dsimp only at w1 w2
  obtain rfl:n1=152:=tn (k:=151) w1
  obtain rfl:n2=4:=tn (k:=3) w2
  have ep:ps=Wy ⟨u1,u2,r,cc,tb,ft,x,kk⟩:=by rw[<-Array.toArray_toList (xs:=ps),e];rfl
  subst ep
  have nP:∀a o,G a=some o->a≠f.P:=λa o e z=>by subst z;rw[tP1]at e;cases e
  have nk:∀i,i<2->kk i≠f.P:=λi hi=>by
   match i,hi with
   |0,_=>refine Go y3 λa o _ _ e g _=>?_;try clear y3;cases e;exact nP _ _ g
   |1,_=>refine Go y4 λa o _ _ e g _=>?_;try clear y4;cases e;exact nP _ _ g
  refine nY (b:=b) (t₀:=s.toks) (c:=⟨u1,u2,r,cc,tb,ft,x,kk⟩) ⟨⟨hb,λp hp=>(mem_append.mp hp).elim (olds p) λhp=>?_⟩,λ_ h=>nomatch h⟩ hlim hP2 hd (h:=s.heap) ⟨hb,λi o e=>(nomatch e),λ_ _ e _=>e,hps,ltP⟩ (fQ y3 hin) (fQ y4 hin) nk λh' R=>?_
  ·simp only[mem_cons,not_mem_nil,or_false]at hp
   rcases hp with rfl|rfl
   ·exact⟨hin _ _ y1,nP _ _ y1⟩
   ·exact⟨hin _ _ y2,nP _ _ y2⟩
  have le:G.le (G.upto (b+8) h'):=Gh.upto_le ltG
  have nw:∀a,b+8<=a->G.upto (b+8) h' a=h'.get? a:=λa ha=>Gh.upto_at ha
  have kp:∀a o,s.heap.get? a=some o->h'.get? a=some o:=λa o e=>by
   by_cases ha:a=f.P
   ·subst ha
    rw[show s.heap.get? f.P=_ from hps]at e;cases e;exact R.tab
   ·exact R.keep a o ha e
  have F':Aa Γ K (Iu f) (G.upto (b+8) h') ι σ ⟨h',s.gens,s.drawn,s.toks+24,s.os⟩:=F.freezeNew H.ok kp le (Gh.upto_in (up R.keep)) (λa ha=>Gh.upto_new (by have:a<b+8:=hb▸ha;exact this)) (s.toks+24) (succ_pos _)
  refine Af R.f2 λclt f2=>?_
  refine Aj hm λo u m1 m2 z0=>?_
  try clear hm
  refine Ac z0 λG₀ m3 m4=>?_
  clear z0
  exact k _ _ _ le ⟨_,b+17,_,kk,_,_,_,rfl,(nw _ (by simp +arith only)).trans R.ns,(nw _ (by simp +arith only)).trans R.cls,(nw _ (by simp +arith only)).trans R.md,(nw _ (by show b+8<=b+13;simp +arith only)).trans R.f1,(nw _ (by show b+8<=b+15;simp +arith only)).trans f2,y3.mono le,y4.mono le,o,u,le _ _ m1,m2,G₀,m3.trans le,m4⟩ F'
theorem W0 {M:Model}{A:Around}{E:Value->Shared->Prop}{s:Shared}{f:Value}{x:Sem Value}{rest:List (Bool×Sem Value)}{Q:Args->Shared->Prop}
  (h:wpAny M A (spliced ((false,x)::rest)) (λvs s'=>Q ⟨vs,[]⟩ s') E s):wpAny M A (evalArgs f false ((false,x)::rest) []) Q E s:=by
 unfold evalArgs
 show wpAny M A (spliced ((false,x)::rest)>>=_) Q E s
 refine wpAny_bind (wpAny_mono h (λvs s' h'=>?_) λ_ _ x=>x)
 refine wpAny_holding ?_
 exact wpAny_bind (wpAny_pure (wpAny_bind (wpAny_pure (wpAny_pure h'))))
theorem bR {f:FP}(H:Ev Γ A (Iu f))(X:oG Γ f){p:Pos}{ts:Option Scope}:Oc Γ A (Iu f) (.ClassDef (ofString "K") [.Name (ofString "object") p] [] Gm [] [] Jt ts (ofString "K") Ey Wt)
  (λσ Q=>∃P,σ.get "mycmp"=some (.sem P)/\"mycmp"∉σ.ro/\eQ false "K" (.sem (Xk Γ.w P)) {σ with ro:="mycmp"::σ.ro} (Q .next)):=λK G ι σ s Q F Z=>Ay Z λP hg hro hq=>by
 rw[arm_exec_ClassDef]
 refine wpAny_bind (wpAny_pure (a:=([]:List Value)) (wpAny_bind (wpAny_standAt (wpAny_bind ?_))))
 unfold buildClassGuard
 refine wpAny_bind (wpAny_nsGet (H.ok.b.keeps λb o e=>F.store.gin _ _ (F.store.base _ _ e)) ?_)
 rw[X.bc]
 refine wpAny_pure ?_
 refine wpAny_bind (wpAny_holding ?_)
 have hk:(Iu f).kindOf (ofString "mycmp")=some .cell:=by kernel_rfl
 have hc:(Iu f).cells.lookup (ofString "mycmp")=some (f.L+1):=by kernel_rfl
 refine wpAny_bind (W0 (Calls.spliced_cons (wpAny_mono (Hz H (by kernel_rfl) X.obn X.obb (by decide) K G ι σ s (λd σ'=>d=.raw (.type "object")/\σ'=σ) F ⟨rfl,rfl⟩) (λv s1 Y=>Eh Y λG1 ι1 d1 σ1 l1 p1 r1 F1 e1 e2=>Calls.spliced_nil ?_) λ_ _ x=>x)))
 subst e1 e2
 obtain rfl:v=.type "object":=r1
 refine wpAny_bind (wpAny_standAt (wpAny_holding ?_))
 refine Ac F1.ns λm _ n=>?_
 refine Aj (show∃o u,s1.heap.get? (f.L+1)=some o/\o.data=.cell (some u)/\Bb G1 ι1 (.sem P) u from by
  rcases n "mycmp" _ hg with⟨k,_⟩|⟨_,c,v,e,⟨o,ho,hd⟩,r⟩|⟨k,_⟩
  ·exact(Kt k hk (by decide)).elim
  ·rw[hc]at e;cases e;exact⟨o,v,ho,hd,r⟩
  ·exact(Kt k hk (by decide)).elim) λo u ho hd hr=>?_
 refine Ae (F1.roCell H.ok hk hc hro ho) λl2 F2=>?_
 refine Ac hr λG₀ l3 hp=>?_
 try clear hr
 refine jT H X F2 ⟨o,u,Gh.put_self _ _ _,hd,G₀,l3.trans l2,hp⟩ λG3 v s3 l4 hv F3=>?_
 show wpAny _ _ (decorate [] v>>=_) _ _ _
 refine wpAny_bind (wpAny_pure (wpAny_bind (wpAny_standAt (wpAny_bind (wpAny_bindName (Jh H (.inl (by kernel_rfl)) F3 (show Bb G3 ι1 (.sem (Xk Γ.w P)) v from⟨G3,Gh.le.refl _,hv⟩) λs4 F4=>wpAny_pure ?_))))))
 exact(As.mk' (R:=FR) (b:=.next) rfl F4 hq.2).up ((l1.trans l2).trans l4) p1
end
structure Mg (X:Frag)(w:World)(p:KP)(b5 t₁:Nat)(k:Nat->Nat)(clt cv0:Value)(cm:Nat):Prop where
 ns:X.lookup (b5+9)=some (kE w p (b5+10) t₁ 3)
 cls:X.lookup (b5+10)=some (Ri p (b5+10) (b5+9))
 md:X.lookup (b5+11)=some (kF (b5+10) t₁)
 f1:X.lookup p.f1=some {cls:=.type "function",data:=.func (N0 0 (k 0) .none cv0 cm)}
 f2:X.lookup p.f2=some {cls:=.type "function",data:=.func (N0 1 (k 1) clt cv0 cm)}
theorem lU {a:Nat}{o:Obj}:∀{l:Frag},l.lookup a=some o->(a,o)∈l
 |[],h=>nomatch h
 |(y,e)::r,h=>by
  rw[lookup_cons]at h
  split at h
  ·rename_i q;cases h;rw[beq_iff_eq.mp q];exact mem_cons_self
  ·exact mem_cons_of_mem _ (lU h)
section
variable {w:World}{P:Gh->Value->Prop}{G:Gh}{p:KP}{b5 t₁:Nat}{k:Nat->Nat}{clt cv0:Value}{cm:Nat}{X:Frag}
theorem Px.frag (h:Px w P G p b5 t₁ k clt cv0 cm):∃X:Frag,Mg X w p b5 t₁ k clt cv0 cm/\∀h:Heap,(∀a o,G a=some o->h.get? a=some o)->X.In h:=by
 have ne:∀{a b:Nat} {o o':Obj},G a=some o->G b=some o'->o≠o'->(a==b)=false:=λe e' n=>by
  rw[beq_eq_false_iff_ne];intro z;subst z;rw[e]at e';cases e';exact n rfl
 have q1:=ne h.f1 h.cls (by intro z;have:=congrArg Obj.cls z;revert this;show Value.type _=Value.type _->False;decide)
 have q2:=ne h.f1 h.ns (by intro z;have:=congrArg Obj.cls z;revert this;show Value.type _=Value.type _->False;decide)
 have q3:=ne h.f1 h.md (by intro z;have:=congrArg Obj.cls z;revert this;show Value.type _=Value.type _->False;decide)
 have q4:=ne h.f2 h.cls (by intro z;have:=congrArg Obj.cls z;revert this;show Value.type _=Value.type _->False;decide)
 have q5:=ne h.f2 h.ns (by intro z;have:=congrArg Obj.cls z;revert this;show Value.type _=Value.type _->False;decide)
 have q6:=ne h.f2 h.md (by intro z;have:=congrArg Obj.cls z;revert this;show Value.type _=Value.type _->False;decide)
 have q7:=ne h.f2 h.f1 (by
  intro z
  have:=congrArg (λo=>match o.data with| .func fd=>fd.name|_=>"") z
  revert this
  show(Gk 1).1=(Gk 0).1->False
  decide +kernel)
 refine⟨[(b5+10,Ri p (b5+10) (b5+9)),(b5+9,kE w p (b5+10) t₁ 3),(b5+11,kF (b5+10) t₁),(p.f1,{cls:=.type "function",data:=.func (N0 0 (k 0) .none cv0 cm)}),(p.f2,{cls:=.type "function",data:=.func (N0 1 (k 1) clt cv0 cm)})],⟨?_,?_,?_,?_,?_⟩,λhh hin a o e=>?_⟩
 ·simp only[lookup_cons,show(b5+9==b5+10)=false by simp,beq_self_eq_true]
 ·simp only[lookup_cons,beq_self_eq_true]
 ·simp only[lookup_cons,show(b5+11==b5+10)=false by simp,show(b5+11==b5+9)=false by simp,beq_self_eq_true]
 ·simp only[lookup_cons,q1,q2,q3,beq_self_eq_true]
 ·simp only[lookup_cons,q4,q5,q6,q7,beq_self_eq_true]
 ·have:=lU e
  simp only[mem_cons,not_mem_nil,or_false,Prod.mk.injEq]at this
  rcases this with⟨rfl,rfl⟩|⟨rfl,rfl⟩|⟨rfl,rfl⟩|⟨rfl,rfl⟩|⟨rfl,rfl⟩
  ·exact hin _ _ h.cls
  ·exact hin _ _ h.ns
  ·exact hin _ _ h.md
  ·exact hin _ _ h.f1
  ·exact hin _ _ h.f2
variable (F:Mg X w p b5 t₁ k clt cv0 cm)
include F
theorem Mg.find (name:Str):findIn X (.ref (b5+10)) name=match(dG w p (b5+10) t₁).toList.find? (·.key.isStr name)with
  |some e=>some (some e.val)
  |none=>if(dG w p (b5+10) t₁).toList.any (·.refKey)then none else alongIn [] name [.type "object"]:=by
 unfold findIn
 dsimp only
 rw[F.cls]
 show alongIn X name [.ref (b5+10),.type "object"]=_
 unfold alongIn ownIn
 dsimp only
 rw[F.cls]
 show(match nsIn X (b5+9) name with|some (some v)=>some (some v)|some none=>alongIn X name [.type "object"]|none=>none)=_
 unfold nsIn
 rw[F.ns]
 show(match(match(dG w p (b5+10) t₁).toList.find? (·.key.isStr name)with|some e=>some (some e.val)|none=>if(dG w p (b5+10) t₁).toList.any (·.refKey)=true then none else some none)with|some (some v)=>some (some v)|some none=>alongIn X name [.type "object"]|none=>none)=_
 cases (dG w p (b5+10) t₁).toList.find? (·.key.isStr name)with
 |some e=>rfl
 |none=>
  dsimp only
  cases (dG w p (b5+10) t₁).toList.any (·.refKey)<;>rfl
theorem Mg.cd:clsIn X (b5+10)=some (oK (b5+10) (b5+9)):=by unfold clsIn;rw[F.cls];rfl
theorem Mg.init:findIn X (.ref (b5+10)) "__init__"=some (some (.ref p.f1)):=(F.find _).trans (by kernel_rfl)
theorem Mg.lt:findIn X (.ref (b5+10)) "__lt__"=some (some (.ref p.f2)):=(F.find _).trans (by kernel_rfl)
theorem Mg.obj:findIn X (.ref (b5+10)) "obj"=some (some (.ref (b5+11))):=(F.find _).trans (by kernel_rfl)
theorem Mg.geta:findIn X (.ref (b5+10)) "__getattribute__"=some (some (.builtin "object.__getattribute__")):=(F.find _).trans (by kernel_rfl)
theorem Mg.getn:findIn X (.ref (b5+10)) "__getattr__"=some none:=(F.find _).trans (by kernel_rfl)
theorem Mg.seta:findIn X (.ref (b5+10)) "__setattr__"=some (some (.builtin "object.__setattr__")):=(F.find _).trans (by kernel_rfl)
theorem Mg.tC:typeIn X (.ref (b5+10))=some (.type "type"):=by unfold typeIn;dsimp only;rw[F.cls];rfl
theorem Mg.tM:typeIn X (.ref (b5+11))=some (.type "member_descriptor"):=by unfold typeIn;dsimp only;rw[F.md];rfl
theorem Mg.t1:typeIn X (.ref p.f1)=some (.type "function"):=by unfold typeIn;dsimp only;rw[F.f1];rfl
theorem Mg.t2:typeIn X (.ref p.f2)=some (.type "function"):=by unfold typeIn;dsimp only;rw[F.f2];rfl
theorem Mg.mget:specialIn X (.ref (b5+11)) "__get__"=some (some (.builtin "member_descriptor.__get__")):=by unfold specialIn;rw[F.tM];kernel_rfl
theorem Mg.mset:takesIn X (.ref (b5+11))=some true:=by unfold takesIn specialIn;rw[F.tM];kernel_rfl
theorem Mg.taker:takerIn X (b5+10) "obj"=some (some (.ref (b5+11))):=by unfold takerIn;rw[F.obj,Option.bind_some];dsimp only;rw[F.mset];rfl
theorem Mg.slot:slotIn X (b5+11) (b5+10)=some 0:=by
 have h1:recIn X (b5+11) "member_descriptor"=some [.str (ofString "obj") t₁,.ref (b5+10),.builtin "proto.slot",.builtin "proto.slot#set",rawInt 0]:=by unfold recIn;rw[F.md];rfl
 unfold slotIn
 rw[h1,F.cd]
 show(if(("proto.slot"=="proto.slot"&&"proto.slot#set"=="proto.slot#set"&& !([Value.ref (b5+10),.type "object"]:List Value).isEmpty&&([Value.ref (b5+10),.type "object"]:List Value).contains (.ref (b5+10))&&decide (Int.toNat 0<1))=true)then some (1-1-Int.toNat 0)else none)=some 0
 rw[if_pos (by simp)]
 rfl
theorem Mg.over:plainOver X (b5+10)=true:=by unfold plainOver;rw[F.cd];kernel_rfl
theorem Mg.plain:plainGet X (b5+10) "obj"=true:=by unfold plainGet;rw[F.geta,F.getn];kernel_rfl
theorem Mg.isC:isClsIn X (b5+10)=true:=by unfold isClsIn;rw[F.cd];rfl
theorem Mg.makes:makesIn X (b5+10)=true:=by
 unfold makesIn
 rw[F.cls]
 show(!false&& !false&&((mF p).toList[4]?).join==some (.builtin "object.__new__")&& !([Value.ref (b5+10),.type "object"]:List Value).isEmpty&&([Value.ref (b5+10),.type "object"]:List Value).contains (.ref (b5+10))&&([Value.ref (b5+10),.type "object"]:List Value).contains (.type "object")&&
   specialIn X (.ref (b5+10)) "__call__"==some (some (.builtin "type.__call__"))&&instIn X (.ref (b5+10)) (.type "type")==some true)=true
 have h1:specialIn X (.ref (b5+10)) "__call__"=some (some (.builtin "type.__call__")):=by unfold specialIn;rw[F.tC];kernel_rfl
 have h2:instIn X (.ref (b5+10)) (.type "type")=some true:=by unfold instIn;rw[F.tC];kernel_rfl
 rw[h1,h2]
 simp[mF]
end
theorem dB:∀x∈(Gk 0).2.2.2.names,x.2≠ .cell:=by decide +kernel
noncomputable def Ny (C dx:Addr) (v:Value):Obj:={cls:=.ref C,dict:=some dx,data:=.plain,slots:=#[some v]}
theorem aM {M:Model}{A:Around}{s:Shared}{env:Env}{Q:Flow->Shared->Prop}{E:Value->Shared->Prop}{p1 p2 p3 p4:Pos}{m:Str->Option Value}{a v:Value}(hk:env.scope.kind=.function)(k1:env.kindOf (ofString "self")=some .local)(k2:env.kindOf (ofString "obj")=some .local)
  (hn:s.heap.Ns env.locals m)(e1:m (ofString "self")=some a)(e2:m (ofString "obj")=some v)(h:wpAny M A (setAttr a (ofString "obj") v) (λ_=>Q .next) E s):
  wpAny M A (execs [.Assign [.Attribute (.Name (ofString "self") p1) (ofString "obj") p2] (.Name (ofString "obj") p3) p4] env) Q E s:=
 wpAny_execs_cons (plainObj_wpAny_Assign_Attribute (wpAny_Name (wpAny_loadName_local hk k2 hn e2 (wpAny_Name (wpAny_loadName_local hk k1 hn e1 (wpAny_mono h (λ_ s' q=>wpAny_execs_nil q) λ_ _ x=>x)) (by decide))) (by decide)) rfl)
section
variable {prog:Program}{w w0:World}{A:Around}{p:KP}{b5 t₁:Nat}{k:Nat->Nat}{clt cv0:Value}{cm:Nat}{X:Frag}{s:Shared}{R:Result->Shared->Prop}
theorem lV {v:Value}(F:Mg X w p b5 t₁ k clt cv0 cm)(I:X.In s.heap)(hl:s.heap.NoLimit)(hc:s.heap.CodeRec (.ref (k 0)) (Gj 0))(hd:A.depth+1<recursionLimit)
  (hk:∀x dx h' tk,(∀b o,s.heap.get? b=some o->h'.get? b=some o)->s.heap.objs.size<=x->s.heap.objs.size<=dx->h'.get? x=some (Ny (b5+10) dx v)->h'.get? dx=some emptyDict->s.toks<=tk->R (.ok (.ret (.ref x))) ⟨h',s.gens,s.drawn,tk,s.os⟩):
  codeAny (model prog w0) A (.call (.ref (b5+10)) ⟨[v],[]⟩) R s:=by
 refine make_core (makes_of I F.makes) (looks_findIn I F.init) (λself=>bind_fn I self F.t1) (.inl rfl) ?_
 have kp:∀b o,s.heap.get? b=some o->((s.heap.push emptyDict).push (instObj (b5+10) s.heap.objs.size)).get? b=some o:=λb o e=>Heap.get?_push_of_some _ (Heap.get?_push_of_some _ e)
 have I2:=I.keeps kp
 refine codeAny_call_function (body:=(Gk 0).2.2.1) (fd:=N0 0 (k 0) .none cv0 cm) (by show(A.under _).depth<_;exact hd) (I2 _ _ F.f1) rfl (by kernel_rfl) (by kernel_rfl) rfl (hc.keeps kp) ?_
 rw[show bindArgs (N0 0 (k 0) .none cv0 cm) ⟨[.ref (s.heap.objs.size+1),v],[]⟩=pure [(ofString "self",.ref (s.heap.objs.size+1)),(ofString "obj",v)]by kernel_rfl]
 refine wpAny_pure (wpAny_newFunctionEnv dB (λx hx=>?_) (λh' hns hsb=>?_) (by kernel_rfl))
 ·simp only[mem_cons,not_mem_nil,or_false]at hx
  rcases hx with rfl|rfl<;>kernel_rfl
 have hsz:((s.heap.push emptyDict).push (instObj (b5+10) s.heap.objs.size)).objs.size=s.heap.objs.size+2:=by rw[Heap.size_push,Heap.size_push]
 have kp3:∀b o,((s.heap.push emptyDict).push (instObj (b5+10) s.heap.objs.size)).get? b=some o->h'.get? b=some o:=λb o e=>hsb.extBut b o (ne_of_lt (Heap.lt_size e)) (Heap.get?_push_of_some _ e)
 have kp2:∀b o,s.heap.get? b=some o->h'.get? b=some o:=λb o e=>kp3 _ _ (kp _ _ e)
 dsimp only at hns
 rw[hsz]at hns
 have g1:h'.get? (s.heap.objs.size+1)=some (instObj (b5+10) s.heap.objs.size):=kp3 _ _ (by heap_get)
 have g2:h'.get? s.heap.objs.size=some emptyDict:=kp3 _ _ (by heap_get)
 refine⟨(hl.keeps kp2),codeAny_func ?_⟩
 refine aM (a:=.ref (s.heap.objs.size+1)) (v:=v) (m:=λx=>List.lookup x [(ofString "self",.ref (s.heap.objs.size+1)),(ofString "obj",v)].reverse) (by kernel_rfl) (by kernel_rfl) (by kernel_rfl) (show h'.Ns ((s.heap.push emptyDict).push (instObj (b5+10) s.heap.objs.size)).objs.size _ by rw[hsz];exact hns) (by kernel_rfl) (by kernel_rfl) ?_
 refine set_slot (K:=X) (C:=b5+10) (p:=b5+11) (i:=0) (h₀:=s.heap) (L:=s.heap.objs.size+2) (od:=emptyDict) (news:=[(s.heap.objs.size+1,instObj (b5+10) s.heap.objs.size),(s.heap.objs.size,emptyDict)]) (ox:=instObj (b5+10) s.heap.objs.size) (ox':=Ny (b5+10) s.heap.objs.size v) ⟨hns,kp2,by simp +arith only⟩ I ?_ ⟨g1,rfl,rfl,g2⟩ F.seta F.over F.taker F.tM F.slot (by decide) rfl rfl (.head λq hq=>?_) λh4 F4 N4=>?_
 ·intro q hq
  simp only[mem_cons,not_mem_nil,or_false]at hq
  rcases hq with rfl|rfl
  ·exact⟨g1,ne_of_lt (lt_succ_self (s.heap.objs.size+1)),Heap.get?_none_of_le (le_succ _)⟩
  ·exact⟨g2,ne_of_lt (Nat.lt_add_of_pos_right (by decide)),Heap.get?_none_of_le (le_refl _)⟩
 ·obtain rfl:=mem_singleton.mp hq
  exact ne_of_lt (lt_succ_self _)
 ·exact⟨rfl,hk _ _ _ _ F4.keep (le_succ _) (le_refl _) (N4 _ (.head _)).1 (N4 _ (.tail _ (.head _))).1 (by dsimp only;simp +arith only)⟩
end
noncomputable def Ct (w:World) (P:Gh->Value->Prop) (C:Value) (d:D) (G:Gh) (v:Value):Prop:=∃(p:KP) (b5 t₁:Nat) (k:Nat->Nat) (clt cv0:Value) (cm x dx:Nat) (u:Value),v=.ref x/\C=.ref (b5+10)/\Px w P G p b5 t₁ k clt cv0 cm/\G x=some (Ny (b5+10) dx u)/\G dx=some emptyDict/\Bb G [] d u
noncomputable def Kz (Γ:W) (n:Nat) (S:Mine.Cf) (G:Gh) (v:Value):Prop:=(∃a o fd,v=.ref a/\G a=some o/\o.data=.func fd)/\∀A':Around,Bi n A'->Mh Γ A' G v S
theorem Px.mono {w:World}{P:Gh->Value->Prop}{G G':Gh}{p:KP}{b5 t₁:Nat}{k:Nat->Nat}{clt cv0:Value}{cm:Nat}(h:Px w P G p b5 t₁ k clt cv0 cm)(l:G.le G'):Px w P G' p b5 t₁ k clt cv0 cm:=
 ⟨l _ _ h.ns,l _ _ h.cls,l _ _ h.md,l _ _ h.f1,l _ _ h.f2,h.c0.mono l,h.c1.mono l,(by refine Aj h.cell λo u a b Z=>?_;refine Ac Z λG₀ c d=>?_;clear Z;exact⟨o,u,l _ _ a,b,G₀,c.trans l,d⟩)⟩
noncomputable def Dz:D->Bool
 | .raw _=>false
 | .sem _=>false
 |_=>true
theorem Wx {G:Gh}{ι:List Addr}{d:D}{u:Value}(r:Bb G ι d u)(h:Dz d=true):handedIn u=true:=by
 cases d with
 |none=>cases r;rfl
 |bool b=>cases r;rfl
 |int i=>refine Af r λt Z=>?_;try clear r;subst Z;rfl
 |str l=>refine Af r λt Y=>?_;try clear r;subst Y;rfl
 |tup l=>refine A2 r λa vs V _=>?_;try clear r;subst V;rfl
 |lst l=>refine A2 r λa vs U _=>?_;try clear r;subst U;rfl
 |obj k=>refine Ac r λa _ z0=>?_;try clear r;subst z0;rfl
 |raw v=>cases h
 |app k=>refine Aj r λm a _ z1 _=>?_;try clear r;subst z1;rfl
 |rng a b c=>refine Va r λm _ _ _ z2 _=>?_;try clear r;subst z2;rfl
 |sem P=>cases h
section
variable {Γ:W}{K:Cw}{A:Around}{env:Env}{G G₀ G':Gh}{ι ι':List Addr}{σ:St}{s s':Shared}
theorem eZ (H:Ev Γ A env){o:Expr}{pos:Pos}{T0:TT}(h0:Bm Γ A env o T0)(hbase:attributeBase o (ofString "obj") env (eval o env)=eval o env):
  Bm Γ A env (.Attribute o (ofString "obj") pos) (λσ Q=>T0 σ λd σ=>∃P C d',d=.sem (Ct Γ.w P C d')/\Dz d'=true/\Q d' σ):=λK G ι σ s Q F q=>by
 rw[arm_eval_Attribute,hbase]
 refine wpAny_bind (A8 h0 F q λG1 ι1 d v σ1 s1 l1 p1 r1 F1 Y=>Fq Y λP C d' e hpl q1=>?_)
 subst e
 refine Ac r1 λG₀ l2 Z=>?_
 try clear r1
 refine aR Z λp b5 t₁ k clt cv0 cm x dx u V eC hc hx hdx hr=>?_
 clear Z
 subst V
 refine Ac ((hc.mono l2).frag) λX FX hX=>?_
 have I:=hX _ F1.store.gin
 have inst:InstAt s1.heap x (Ny (b5+10) dx u) (b5+10) (some emptyDict):=⟨F1.store.gin _ _ (l2 _ _ hx),rfl,rfl,F1.store.gin _ _ (l2 _ _ hdx)⟩
 have ru:Bb G1 ι1 d' u:=hr.mono l2 λk a e=>(nomatch e)
 refine wpAny_bind (wpAny_standAt (wpAny_bind (wpAny_holding ?_)))
 refine get_bind (K:=X) (C:=b5+10) (a:=.ref (b5+11)) I inst (plainGet_of FX.plain).1 (findObj_data FX.isC FX.obj FX.mget FX.mset) (plainGet_of (name:="obj") FX.plain).2
   (wpAny_call (slot_get (s:={s1 with toks:=s1.toks+1}) (i:=0) I inst FX.slot rfl (handed_on (Wx ru hpl) ?_)))
 exact wpAny_bind (wpAny_letTemporaryGo (wpAny_pure ((Mu ru (F1.toks _ (succ_pos _)) q1).up l1 p1)))
theorem hN (H:Ev Γ A env){n:Nat}(hA:Bi n A){f:String}{e:Expr}{es:List Expr}{p pos:Pos}{T:St->(List D->St->Prop)->Prop}{S:Mine.Cf}(hd:(ofString f==("__debug__":Str))=false)(hc:(ofString f==("__classdict__":Str))=false)
  (h:Ky Γ A env pos (e::es) T)(hs:starEach (e::es) env=(false,eval e env)::starEach es env):
  Bm Γ A env (.Call (.Name (ofString f) p) (e::es) [] pos) (λσ Q=>σ.get f=some (.sem (Kz Γ n S))/\T σ λds σ=>S ds σ.own λd own'=>Q d {σ with own:=own'}):=λK G ι σ s Q F Y=>Ae Y λhx q=>
 wpAny_Call_NameR (wpAny_Name (D5 H F hx hc λv r=>by
  refine Ay r λG₀ l0 Z hf=>?_
  try clear r
  refine Fq Z λa o fd V ho hd=>?_
  clear Z
  subst V
  exact Calls.callWith_function (o:=o) (fd:=fd) (Ho hs (A8 h F q λG1 ι1 ds vs σ1 s1 l1 p1 r1 F1 q1=>
   ⟨⟨F1.store.gin _ _ (l1 _ _ (l0 _ _ ho)),hd⟩,wpAny_mono (H5 (hf A hA) (l0.trans l1) F1 r1 q1) (λ_ _ p=>p.up l1 p1) λ_ _ x=>x⟩))) hd)
noncomputable def iN (p1 p2 p3 p4 p5 p6 p7 p8 p9:Pos):List Stmt:=[.Return (some (.Compare (.Call (.Name (ofString "mycmp") p1) [.Attribute (.Name (ofString "self") p2) (ofString "obj") p3,.Attribute (.Name (ofString "other") p4) (ofString "obj") p5] [] p6) [.Lt] [.Constant (.int 0) 0 p7] p8)) p9]
theorem dA:∀x∈(Gk 1).2.2.2.names,x.2≠ .cell:=by decide +kernel
theorem pW {S:Mine.Cf}{n:Nat}{p:KP}{b5 t₁:Nat}{k:Nat->Nat}{clt cv0:Value}{cm:Nat}(hc:Px Γ.w (Kz Γ n S) G p b5 t₁ k clt cv0 cm):gJ Γ G p.f2 (N0 1 (k 1) clt cv0 cm) ["self","other"] [("mycmp",.sem (Kz Γ n S))] where
 obj:=⟨_,hc.f2,rfl⟩
 code:=hc.c1
 glob:=rfl
 bui:=rfl
 bind:=λvs hv=>by
  refine Gp (Xo hv) λa b e=>?_
  subst e
  kernel_rfl
 kinds:=λq hq=>by
  simp only[mem_cons,not_mem_nil,or_false]at hq
  rcases hq with rfl|rfl<;>kernel_rfl
 nodup:=by decide
 nocell:=dA
 free:=λx d e=>by
  rw[lookup_cons]at e
  split at e
  ·rename_i hx
   obtain rfl:=beq_iff_eq.mp hx
   cases e
   refine Aj hc.cell λo u h1 h2 Z=>?_
   refine Ac Z λG₀ h3 h4=>?_
   clear Z
   exact⟨by kernel_rfl,cm,o,u,by kernel_rfl,h1,h2,G₀,h3,h4⟩
  ·cases e
 freeAll:=λx c e=>by
  refine A2 hc.cell λo u h1 _=>?_
  have e:([(ofString "mycmp",cm)]:List (Str×Addr)).lookup x=some c:=e
  rw[lookup_cons]at e
  split at e
  ·cases e;exact⟨o,h1⟩
  ·cases e
 kind:=by kernel_rfl
 co:=by kernel_rfl
 gen:=by kernel_rfl
theorem lY (ok:Γ.Ok){S:Mine.Cf}(hS:∀ds own Q Q',(∀d o,Q d o->Q' d o)->S ds own Q->S ds own Q'){n:Nat}{p:KP}{b5 t₁:Nat}{k:Nat->Nat}{clt cv0:Value}{cm:Nat}(hc:Px Γ.w (Kz Γ n S) G p b5 t₁ k clt cv0 cm)(hA:Bi (n+1) A):
  Mh Γ A G (.ref p.f2) (λds own Q=>∃P1 C1 d1 P2 C2 d2,ds=[.sem (Ct Γ.w P1 C1 d1),.sem (Ct Γ.w P2 C2 d2)]/\Dz d1=true/\Dz d2=true/\S [d1,d2] own λr own'=>∃i,r=.int i/\Q (.bool (decide (i<0))) own'):=by
 have N:=pW hc
 have r1:=hA.depth
 have r2:=hA.units
 refine'(qJ ok N (body:=iN _ _ _ _ _ _ _ _ _) rfl (by exact Ah r1) (λL=>?w)).imp ?p
 case w=>
  have hA':Bi n (A.deeper (Bt (N0 1 (k 1) clt cv0 cm) L p.f2)):=⟨hA.handled,by rw[depth_deeper];exact Ah r1,by show A.units+3+500+16*n<_;exact Ah r2⟩
  have H:Ev Γ (A.deeper (Bt (N0 1 (k 1) clt cv0 cm) L p.f2)) (Bt (N0 1 (k 1) clt cv0 cm) L p.f2):=⟨ok,N.kind,rfl,rfl,hA.handled,by rw[depth_deeper];exact Ah r1,by show A.units+3+500<_;exact Ah r2⟩
  exact Be (Ft (Q6 H (hN (S:=S) H hA' (by decide) (by decide) (B3 (eZ H (Cb H (by decide) (by decide)) rfl) (B3 (eZ H (Cb H (by decide) (by decide)) rfl) Dc rfl) rfl) rfl) Hx rfl)) Fu
 case p=>
  intro ds own Q Z
  refine nI Z λP1 C1 d1 P2 C2 d2 Y h1 h2 q=>?_
  clear Z
  subst Y
  refine⟨rfl,rfl,⟨_,rfl,_,_,_,rfl,h1,⟨_,rfl,_,_,_,rfl,h2,?_⟩⟩⟩
  refine hS _ _ _ _ (λd o h=>?_) q
  refine Ac h λi V U=>?_
  try clear h
  revert U
  intro h
  subst V
  exact h
theorem qB (ok:Γ.Ok){S:Mine.Cf}(hS:∀ds own Q Q',(∀d o,Q d o->Q' d o)->S ds own Q->S ds own Q'){n:Nat}(hA:Bi (n+1) A)(F:Aa Γ K env G ι σ s){P2:Gh->Value->Prop}{C1 C2:Value}{d1 d2:D}{v1 v2:Value}(r1:Bb G ι (.sem (Ct Γ.w (Kz Γ n S) C1 d1)) v1)(r2:Bb G ι (.sem (Ct Γ.w P2 C2 d2)) v2)
  (h1:Dz d1=true)(h2:Dz d2=true){Q:Bool->St->Prop}(q:S [d1,d2] σ.own λr own'=>∃i,r=.int i/\Q (decide (i<0)) {σ with own:=own'}):
  wpAny (model Γ.prog Γ.w) A (keyLt' oneType' v1 v2) (λb s'=>∃G' ι' σ',G.le G'/\A1 ι ι'/\Aa Γ K env G' ι' σ' s'/\Q b σ') (λ_ _=>False) s:=by
 have r1':=r1
 refine Ac r1' λG₀ l2 Z=>?_
 try clear r1'
 refine aR Z λp b5 t₁ k clt cv0 cm x dx u V eC hc hx hdx hr=>?_
 clear Z
 subst V
 have hc':=hc.mono l2
 refine Ac hc'.frag λX FX hX=>?_
 have I:=hX _ F.store.gin
 have inst:InstAt s.heap x (Ny (b5+10) dx u) (b5+10) (some emptyDict):=⟨F.store.gin _ _ (l2 _ _ hx),rfl,rfl,F.store.gin _ _ (l2 _ _ hdx)⟩
 rw[keyLt'_oneType,oneLt'_eq]
 rw[if_pos rfl]
 refine wpAny_bind (wpAny_cRoomFor (by have:=hA.units;exact Ah this) ?_)
 refine wpAny_bind (ifBound_K I inst FX.lt (by unfold isFn;rw[FX.t2];rfl) (wpAny_mono (H5 (Q:=λd σ'=>∃b,d=.bool b/\Q b σ') (lY ok hS hc' hA) (Gh.le.refl _) F (ds:=[.sem (Ct Γ.w (Kz Γ n S) C1 d1),.sem (Ct Γ.w P2 C2 d2)]) ⟨_,_,rfl,r1,_,_,rfl,r2,rfl⟩ ⟨_,_,_,_,_,_,rfl,h1,h2,hS _ _ _ _ (λd o h=>?_) q⟩) (λv s' hv=>?_) λ_ _ e=>e))
 ·refine Ac h λi e U=>?_
  try clear h
  revert U
  intro h
  exact⟨i,e,_,rfl,h⟩
 ·refine Cs hv λG' ι' d σ' l pr rf F' Y=>?_
  try clear hv
  refine Ac Y λb z0 hq=>?_
  clear Y
  subst z0
  cases rf
  exact wpAny_truthy_bool ⟨G',ι',σ',l,pr,F',hq⟩
end
mutual
theorem Os {G:Gh}{ι κ:List Addr}:∀(n:Nat) (d:D) (v:Value),Io n d=true->Bb G ι d v->Bb G κ d v
 |_,.none,_,_,h=>h
 |_,.bool _,_,_,h=>h
 |_,.int _,_,_,h=>h
 |_,.str _,_,_,h=>h
 |0,.tup l,_,k,_=>absurd k Bool.false_ne_true
 |0,.lst l,_,k,_=>absurd k Bool.false_ne_true
 |n+1,.tup l,v,k,⟨a,vs,e,s,r⟩=>⟨a,vs,e,s,relL_off n l vs k r⟩
 |n+1,.lst l,v,k,⟨a,vs,e,s,r⟩=>⟨a,vs,e,s,relL_off n l vs k r⟩
 |n,.obj _,_,k,_=>by cases n<;>exact absurd k Bool.false_ne_true
 |n,.raw _,_,k,_=>by cases n<;>exact absurd k Bool.false_ne_true
 |n,.app _,_,k,_=>by cases n<;>exact absurd k Bool.false_ne_true
 |n,.rng _ _ _,_,k,_=>by cases n<;>exact absurd k Bool.false_ne_true
 |n,.sem _,_,k,_=>by cases n<;>exact absurd k Bool.false_ne_true
theorem relL_off {G:Gh}{ι κ:List Addr}:∀(n:Nat) (ds:List D) (vs:List Value),okDs n ds=true->RelL G ι ds vs->RelL G κ ds vs
 |_,[],_,_,h=>h
 |n,d::r,_,k,⟨v,w,e,x,t⟩=>by
  exact⟨v,w,e,Os n d v (Gv k).1 x,relL_off n r w (Gv k).2 t⟩
end
theorem Wi {n:Nat}{d:D}(h:Io n d=true):Dz d=true:=by
 cases d<;>first|rfl|(cases n<;>exact absurd h Bool.false_ne_true)
section
variable {Γ:W}{K:Cw}{A:Around}{env:Env}{G G₀ G':Gh}{ι ι':List Addr}{σ:St}{s s':Shared}
theorem mG (ok:Γ.Ok)(hA:A.depth+2<recursionLimit)(F:Aa Γ K env G ι σ s){P:Gh->Value->Prop}{d:D}{vt v:Value}(rt:Bb G ι (.sem (Xk Γ.w P)) vt){n:Nat}(hd:Io n d=true)(r:Bb G ι d v):
  wpAny (model Γ.prog Γ.w) A (call vt [v]) (λv' s'=>∃G',G.le G'/\Aa Γ K env G' ι σ s'/\Bb G' ι (.sem (Ct Γ.w P vt d)) v') (λ_ _=>False) s:=by
 refine Ac rt λG₀ l0 Z=>?_
 try clear rt
 refine fS Z λp b5 t₁ k clt cv0 cm Y hc=>?_
 clear Z
 subst Y
 have hc':=hc.mono l0
 refine Ac hc'.frag λX FX hX=>?_
 have I:=hX _ F.store.gin
 have hB:∀b o,Γ.B.get? b=some o->s.heap.get? b=some o:=λb o e=>F.store.gin _ _ (F.store.base _ _ e)
 refine Fp hc'.c0 λc oc ws t e1 e2 e3 e4=>?_
 refine wpAny_call (codeAny_mono (lV (R:=λr s'=>∃v',r=.ok (.ret v')/\∃G',G.le G'/\Aa Γ K env G' ι σ s'/\Bb G' ι (.sem (Ct Γ.w P (.ref (b5+10)) d)) v') FX I (ok.nolimit.keeps hB) ⟨c,oc,ws,t,e1,F.store.gin _ _ e2,e3,e4⟩ (by exact Ah hA) λx dx h' tk kp hx hdx g1 g2 ht=>⟨_,rfl,?_⟩) λr s' h2_=>by refine Ac h2_ λv' e h=>?_;try clear h2_;subst e;exact h)
 have ltG:∀a o,G a=some o->a<s.heap.objs.size:=λa o e=>Heap.lt_size (F.store.gin _ _ e)
 have le:G.le (G.upto s.heap.objs.size h'):=Gh.upto_le ltG
 refine⟨_,le,F.freezeNew ok kp le (Gh.upto_in λa o e=>kp _ _ (F.store.gin _ _ e)) (λa ha=>Gh.upto_new ha) tk (lt_of_lt_of_le F.tk ht),_,Gh.le.refl _,p,b5,t₁,k,clt,cv0,cm,x,dx,v,rfl,rfl,hc'.mono le,(Gh.upto_at hx).trans g1,(Gh.upto_at hdx).trans g2,?_⟩
 exact(Os n d v hd r:Bb G [] d v).mono le (A1.refl _)
end
noncomputable def Gw {α:Type} (lt:Nat->Nat->Bool):KasT α->α
 | .ret a=>a
 | .ask i j k=>Gw lt (k (lt i j))
noncomputable def My {α:Type} (n:Nat):KasT α->Bool
 | .ret _=>true
 | .ask i j k=>decide (i<n)&&decide (j<n)&&My n (k true)&&My n (k false)
theorem Zu {α:Type}{n i j:Nat}{k:Bool->KasT α}(h:My n (.ask i j k)=true):i<n/\j<n/\My n (k true)=true/\My n (k false)=true:=by
 have h:(decide (i<n)&&decide (j<n)&&My n (k true)&&My n (k false))=true:=h
 rw[Bool.and_eq_true,Bool.and_eq_true,Bool.and_eq_true,decide_eq_true_eq,decide_eq_true_eq]at h
 exact⟨h.1.1.1,h.1.1.2,h.1.2,h.2⟩
theorem Zt {α:Type}{cmp:Nat->Nat->(Bool->Shared->Prop)->Shared->Prop}{I:Shared->Prop}{lt:Nat->Nat->Bool}{n:Nat}(h:∀i j (C:Bool->Shared->Prop) s,i<n->j<n->I s->(∀s',I s'->C (lt i j) s')->cmp i j C s){Q:α->Shared->Prop}:
  ∀(t:KasT α) (s:Shared),My n t=true->I s->(∀s',I s'->Q (Gw lt t) s')->t.kasWp cmp Q s:=by
 intro t
 induction t with
 |ret a=>exact λs _ hI q=>q s hI
 |ask i j k ih=>
  intro s hb hI q
  have hb:=Zu hb
  refine h i j _ s hb.1 hb.2.1 hI λs' hI'=>ih (lt i j) s' ?_ hI' q
  cases lt i j with
  |true=>exact hb.2.2.1
  |false=>exact hb.2.2.2
theorem Tg (n:Nat)(h:n<=4):My n (kas_sort n)=true:=
 all_eq_true.mp (show([0,1,2,3,4].all λn=>My n (kas_sort n))=true by kernel_rfl) n (List.elem_iff.mp ((by decide:∀n<5,[0,1,2,3,4].elem n=true) n (Nat.lt_succ_of_le h)))
noncomputable def Gb (c:D->D->Int) (ds:List D):List D:=if ds.length<2 then ds else(Gw (λi j=>decide (c (ds.getD i .none) (ds.getD j .none)<0)) (kas_sort ds.length)).toList.map λi=>ds.getD i .none
section
variable {Γ:W}{K:Cw}{A:Around}{env:Env}{G G₀ G':Gh}{ι ι':List Addr}{σ:St}{s s':Shared}
theorem iA {ι ι':List Addr}(p:A1 ι ι')(h:ι.length=ι'.length):ι'=ι:=by
 refine List.ext_getElem? λk=>?_
 by_cases hk:k<ι.length
 ·rw[List.getElem?_eq_getElem hk]
  exact p k _ (List.getElem?_eq_getElem hk)
 ·rw[List.getElem?_eq_none (by exact Ah (add_le_add (le_of_eq h.symm) (not_lt.1 hk))),List.getElem?_eq_none (by exact Ah (not_lt.1 hk))]
theorem qA (ok:Γ.Ok){S:Mine.Cf}(hS:∀ds own Q Q',(∀d o,Q d o->Q' d o)->S ds own Q->S ds own Q'){n:Nat}(hA:Bi (n+1) A)(F:Aa Γ K env G ι σ s){P2:Gh->Value->Prop}{C1 C2:Value}{d1 d2:D}{v1 v2:Value}(r1:Bb G ι (.sem (Ct Γ.w (Kz Γ n S) C1 d1)) v1)(r2:Bb G ι (.sem (Ct Γ.w P2 C2 d2)) v2)
  (h1:Dz d1=true)(h2:Dz d2=true){c:Int}(q:∀Q:D->List (List D)->Prop,Q (.int c) σ.own->S [d1,d2] σ.own Q):
  wpAny (model Γ.prog Γ.w) A (keyLt' oneType' v1 v2) (λb s'=>∃G',G.le G'/\Aa Γ K env G' ι σ s'/\b=decide (c<0)) (λ_ _=>False) s:=by
 refine wpAny_mono (qB ok hS hA F r1 r2 h1 h2 (Q:=λb σ'=>b=decide (c<0)/\σ'=σ) (q _ ⟨c,rfl,rfl,rfl⟩)) (λb s' Z=>Iw Z λG' ι' σ' l pr F' e1 e2=>?_) λ_ _ x=>x
 subst e2
 have:ι'=ι:=iA pr (by rw[F.store.len,F'.store.len])
 subst this
 exact⟨G',l,F',e1⟩
end
section
variable {α:Type}{Γ:W}{K:Cw}{A:Around}{env:Env}{G G₀ G':Gh}{ι ι':List Addr}{σ:St}{s s':Shared}
theorem Rw {X:Addr->Prop}{R:Gh->α->Prop}{t:Sem α}{Q:α->Shared->Prop}(F:Aa Γ K env G ι σ s)(hX:Bw Γ K env G ι X)(hin:∀a,X a->s.heap.get? a≠none)
  (h:∀K',Aa Γ K' env G ι σ s->wpAny (model Γ.prog Γ.w) A t (λv s'=>∃G',G.le G'/\Aa Γ K' env G' ι σ s'/\R G' v) (λ_ _=>False) s)
  (k:∀G' v s',G.le G'->Aa Γ K env G' ι σ s'->Bw Γ K env G' ι X->(∀a o,X a->s.heap.get? a=some o->s'.heap.get? a=some o)->R G' v->Q v s'):wpAny (model Γ.prog Γ.w) A t Q (λ_ _=>False) s:=
 wpAny_mono (h _ (F.cover hX)) (λv s' h2_=>by refine Ay h2_ λG' l F' r=>?_;try clear h2_;exact by refine B7 (F.uncover hX hin F' l) λu1 u2 u3 _=>?_;exact k G' v s' l u1 u2 u3 r) λ_ _ x=>x
theorem Aa.putAt (F:Aa Γ K env G ι σ s){X:Addr->Prop}(hX:Bw Γ K env G ι X){a:Addr}(ha:X a){h':Heap}(hs:Heap.SameBut a s.heap h'):Aa Γ K env G ι σ {s with heap:=h'}:=
 F.ext (λb o h e=>(hs.2 b (λz=>O5 hX h (z▸ha))).trans e) (ht:=F.tk)
noncomputable def SI (Γ:W) (K:Cw) (env:Env) (G:Gh) (ι:List Addr) (σ:St) (a kS e1:Nat) (l:List D) (s':Shared):Prop:=∃(G':Gh) (kA:Array Value) (e:Nat),G.le G'/\Aa Γ K env G' ι σ s'/\Bw Γ K env G' ι (λb=>b=a\/b=kS)/\
 s'.heap.get? a=some (seqObj "list" #[] e1)/\s'.heap.get? kS=some (seqObj "list" kA e)/\RelL G' ι l kA.toList
theorem gX {ds:List D}{vs:List Value}(r:RelL G ι ds vs)(i:Nat):Bb G ι (ds.getD i .none) (vs.getD i Value.none):=by
 by_cases h:i<ds.length
 ·refine Ac (r.getElem? (List.getElem?_eq_getElem h)) λv e q=>?_
  rw[List.getD_eq_getElem?_getD,List.getD_eq_getElem?_getD,e,List.getElem?_eq_getElem h]
  exact q
 ·rw[List.getD_eq_getElem?_getD,List.getD_eq_getElem?_getD,List.getElem?_eq_none (by exact Ah (not_lt.1 h)),List.getElem?_eq_none (by rw[r.length];exact Ah (not_lt.1 h))]
  rfl
theorem gW {ds:List D}{vs:List Value}(r:RelL G ι ds vs):∀l:List Nat,RelL G ι (l.map λi=>ds.getD i .none) (l.map λi=>vs.getD i Value.none):=by
 intro lq
 induction lq with
 |nil=>exact rfl
 |cons i l ih=>exact⟨_,_,rfl,gX r i,ih⟩
theorem Od (ks vs:List Value)(h:ks.length=vs.length)(i:Nat):kas_item (ks.toArray.zip vs.toArray) i=(ks.getD i Value.none,vs.getD i Value.none):=by
 unfold kas_item
 by_cases hi:i<vs.length
 ·have h1:i<(ks.toArray.zip vs.toArray).size:=by simp;exact Nat.lt_min.2 ⟨h▸hi,hi⟩
  have e:(ks.toArray.zip vs.toArray).getD i (Value.none,Value.none)=(ks.toArray.zip vs.toArray)[i]:=by simp only[Array.getD];rw[dif_pos h1];rfl
  rw[e]
  simp[hi,h▸hi,List.getD_eq_getElem?_getD]
 ·have h1:¬i<(ks.toArray.zip vs.toArray).size:=by simp;exact Ah (add_le_add (min_le_right (ks.length) (vs.length)) (not_lt.1 hi))
  have e:(ks.toArray.zip vs.toArray).getD i (Value.none,Value.none)=(Value.none,Value.none):=by simp only[Array.getD];rw[dif_neg h1]
  rw[e,List.getD_eq_getElem?_getD,List.getD_eq_getElem?_getD,List.getElem?_eq_none (by exact Ah (add_le_add (le_of_eq h) (not_lt.1 hi))),List.getElem?_eq_none (by exact Ah (not_lt.1 hi))]
  rfl
theorem Yr:∀{ds:List D} {vs:List Value},RelL G ι ds vs->∀{v:Value},v∈vs->∃d∈ds,Bb G ι d v
 |[],_,h,v,hv=>by obtain rfl:=Bs h;cases hv
 |d::ds,_,⟨u,w,e,x,t⟩,v,hv=>by
  subst e
  rcases mem_cons.mp hv with rfl|hv
  ·exact⟨d,mem_cons_self,x⟩
  ·refine Ac (Yr t hv) λd' h1 h2=>?_
   exact⟨d',mem_cons_of_mem _ h1,h2⟩
theorem aA {f:D->D}{ds:List D}{i:Nat}(h:i<ds.length):(ds.map f).getD i .none=f (ds.getD i .none):=by
 rw[List.getD_eq_getElem?_getD,List.getD_eq_getElem?_getD,List.getElem?_map,List.getElem?_eq_getElem h];rfl
theorem Pd {ds:List D}{i:Nat}(h:i<ds.length):ds.getD i .none∈ds:=by
 rw[List.getD_eq_getElem?_getD,List.getElem?_eq_getElem h];exact List.getElem_mem h
theorem Qr {a kS e1:Nat}{l ds':List D}{st:SortSt}{P:PySem.Fin->Shared->Prop}(hka:kS≠a)(I:SI Γ K env G ι σ a kS e1 l s)(hl:l.length<=4){vs':List Value}(hv:(arrOf st).map (·.2)=vs'.toArray)(hv4:vs'.length<=4)(hf:failedOf st=none)(hr:RelL G ι ds' vs')
  (k:∀G' s' m,G.le G'->Aa Γ K env G' ι σ s'->Bw Γ K env G' ι (λb=>b=a)->s'.heap.get? a=some (seqObj "list" vs'.toArray m)->RelL G' ι ds' vs'->P (.done (.ret .none)) s'):wpAny (model Γ.prog Γ.w) A (ksk_tail a false e1 (.ref kS) st) P (λ_ _=>False) s:=by
 refine Hg I λG' kA e le F hp ga gk r=>?_
 try clear I
 have hz:kA.size<=4:=by have:=r.length;rw[Array.length_toList]at this;exact Ah (add_le_add (le_of_eq this) hl)
 have s1:=Heap.SameBut.update s.heap kS (Obj.mapSeq λ_=>(#[]:Array Value))
 have ga1:=(s1.2 a hka.symm).trans ga
 have s2:=Heap.SameBut.update (s.heap.update kS (Obj.mapSeq λ_=>(#[]:Array Value))) a (Obj.mapSeq λ_=>(arrOf st).map (·.2))
 have ga2:=get?_update_seq ga1 λ_=>(arrOf st).map (·.2)
 have F2:=(F.putAt hp (.inr rfl) s1).putAt hp (.inl rfl) s2
 unfold ksk_tail
 dsimp only
 refine wpAny_bind (listUpdate_at gk rfl ?_ (by rw[sizeLine_eq];exact le_trans hz (by decide)) (zero_le _))
 refine wpAny_bind (wpAny_letGo ?_)
 refine wpAny_bind (seqEpoch_at ga1 rfl ?_)
 rw[if_neg Bool.false_ne_true]
 refine wpAny_bind (listUpdate_at ga1 rfl ?_ (zero_le _) (by rw[hv,sizeLine_eq];simp only[size_toArray];exact le_trans hv4 (by decide)))
 rw[hf,bne_self_eq_false,if_neg Bool.false_ne_true]
 rw[hv]at ga2 F2⊢
 exact wpAny_pure (k G' _ _ le F2 (λb hb=>hp b (.inl hb)) ga2 (hr.mono le (A1.refl _)))
theorem cJ (ok:Γ.Ok){S:Mine.Cf}(hS:∀ds own Q Q',(∀d o,Q d o->Q' d o)->S ds own Q->S ds own Q'){n:Nat}(hA:Bi (n+1) A){a kS e1:Nat}{ds:List D}{vs:List Value}{C:Value}{c:D->D->Int}{kA:Array Value}{P:PySem.Fin->Shared->Prop}(hka:kS≠a)
  (hl:ds.length<=4)(r:RelL G ι ds vs)(hok:∀x∈ds,Dz x=true)(hc:∀x∈ds,∀y∈ds,∀Q:D->List (List D)->Prop,Q (.int (c x y)) σ.own->S [x,y] σ.own Q)
  (F:Aa Γ K env G ι σ s)(hp:Bw Γ K env G ι (λb=>b=a\/b=kS))(ga:s.heap.get? a=some (seqObj "list" #[] e1)){e:Nat}(gk:s.heap.get? kS=some (seqObj "list" kA e))(rk:RelL G ι (ds.map λd=>.sem (Ct Γ.w (Kz Γ n S) C d)) kA.toList)
  (k:∀G' s' vs' m,G.le G'->Aa Γ K env G' ι σ s'->Bw Γ K env G' ι (λb=>b=a)->s'.heap.get? a=some (seqObj "list" (toArray vs') m)->RelL G' ι (Gb c ds) vs'->P (.done (.ret .none)) s'):wpAny (model Γ.prog Γ.w) A (ksk_end a false vs.toArray e1 (.ref kS) kA) P (λ_ _=>False) s:=by
 have hvs:vs.length=ds.length:=r.length
 have hks:kA.toList.length=ds.length:=by rw[rk.length,length_map]
 have I0:SI Γ K env G ι σ a kS e1 (ds.map λd=>.sem (Ct Γ.w (Kz Γ n S) C d)) s:=⟨G,kA,e,Gh.le.refl _,F,hp,ga,gk,rk⟩
 have eKA:kA=kA.toList.toArray:=(Array.toArray_toList (xs:=kA)).symm
 unfold ksk_end
 dsimp only
 rw[if_neg Bool.false_ne_true]
 by_cases h2:vs.toArray.size<2
 ·rw[if_pos h2,if_pos h2]
  rw[size_toArray]at h2
  refine wpAny_bind (wpAny_pure ?_)
  rw[StateT.run_pure]
  refine wpAny_bind (wpAny_pure ?_)
  dsimp only
  refine Qr hka I0 (by rw[length_map];exact hl) (vs':=vs) (ds':=ds) ?_ (by exact Ah h2) rfl r λG' s' m l F' hp' g' r'=>k G' s' vs m l F' hp' g' ?_
  ·show(kA.zip vs.toArray).map (·.2)=vs.toArray
   rw[eKA]
   apply Array.toList_inj.mp
   rw[Array.toList_map,ksk_zip]
   exact List.map_snd_zip (by first|exact le_of_eq (hvs.trans hks.symm)|(rw[List.toList_toArray];exact le_of_eq (hvs.trans hks.symm)))
  ·unfold Gb
   rw[if_pos (by exact Ah (add_le_add (le_of_eq hvs.symm) h2))]
   exact r'
 ·rw[if_neg h2,if_neg h2]
  rw[size_toArray]at h2
  have inst:∀v∈kA.toList,∃x b5 dx u,v=.ref x/\C=.ref (b5+10)/\G x=some (Ny (b5+10) dx u):=λv hv=>by
   refine Ac (Yr rk hv) λd' hd hr=>?_
   refine Ac (mem_map.mp hd) λd _ V=>?_
   subst V
   refine Ac hr λG₀ l0 Z=>?_
   try clear hr
   refine jN Z λp b5 t₁ kk clt cv0 cm x dx u e1 e2 _ hx _=>?_
   clear Z
   exact⟨x,b5,dx,u,e1,e2,l0 _ _ hx⟩
  have hC:(C != Value.type "tuple")=true:=by
   have:0<kA.toList.length:=by rw[hks,<-hvs];exact lt_of_lt_of_le (by decide) (le_of_not_lt h2)
   refine Go (inst _ (List.getElem_mem this)) λx b5 dx u _ e2 _=>?_
   subst e2;rfl
  have hd2:2<=ds.length:=by rw[<-hvs];exact le_of_not_lt h2
  have hk2:2<=kA.toList.length:=by rw[hks];exact hd2
  have hkv:kA.toList.length=vs.length:=by rw[hks,hvs]
  rw[eKA]
  refine wpAny_bind (kas_kind (vs:=kA.toList) (T:=C) hk2 (λv hv=>?_) hC (by simp) ?_)
  ·refine Go (inst v hv) λx b5 dx u U z0 hx=>?_
   subst U
   subst z0
   exact(Looks.ld (F.store.gin _ _ hx)).andThen .now
  have hzs:(kA.toList.toArray.zip vs.toArray).size=ds.length:=by rw[Array.size_zip,size_toArray,size_toArray,hks,hvs,Nat.min_self]
  have est:SortSt.mk' oneType' (kA.toList.toArray.zip vs.toArray) #[] 7 none=kas_st oneType' (kA.toList.toArray.zip vs.toArray) (toArray (List.range ds.length)):=by
   have e:=kas_range (kA.toList.toArray.zip vs.toArray)
   rw[hzs]at e
   show _=SortSt.mk' oneType' ((toArray (List.range ds.length)).map (kas_item (kA.toList.toArray.zip vs.toArray))) #[] 7 none
   rw[e]
  have ask:(kas_sort ds.length).kasWp (kas_cmp Γ.prog Γ.w A oneType' (kA.toList.toArray.zip vs.toArray)) (λp s'=>p=Gw (λi j=>decide (c (ds.getD i .none) (ds.getD j .none)<0)) (kas_sort ds.length)/\SI Γ K env G ι σ a kS e1 (ds.map λd=>.sem (Ct Γ.w (Kz Γ n S) C d)) s') s:=by
   refine Zt (I:=SI Γ K env G ι σ a kS e1 (ds.map λd=>.sem (Ct Γ.w (Kz Γ n S) C d))) (n:=ds.length) (λi j C' s1 hi hj I1 hk=>?_) _ _ (Tg _ hl) I0 λs' hI=>⟨rfl,hI⟩
   refine Hg I1 λG1 kA1 e' le F1 hp1 ga1 gk1 rk1=>?_
   try clear I1
   unfold kas_cmp
   rw[Od _ _ hkv,Od _ _ hkv]
   have ri:=gX rk i
   have rj:=gX rk j
   rw[aA hi]at ri
   rw[aA hj]at rj
   refine Rw (R:=λ_ b=>b=decide (c (ds.getD i .none) (ds.getD j .none)<0)) F1 hp1 (λb hb=>?_) (λK' F'=>qA ok hS hA F' (ri.mono le (A1.refl _)) (rj.mono le (A1.refl _)) (hok _ (Pd hi)) (hok _ (Pd hj)) λQ q=>hc _ (Pd hi) _ (Pd hj) Q q) λG2 b s2 l F2 hp2 keep e=>?_
   ·rcases hb with rfl|rfl
    ·rw[ga1];exact Option.some_ne_none _
    ·rw[gk1];exact Option.some_ne_none _
   ·subst e
    exact hk _ ⟨G2,kA1,e',le.trans l,F2,hp2,keep _ _ (.inl rfl) ga1,keep _ _ (.inr rfl) gk1,rk1.mono l (A1.refl _)⟩
  have run:=kas_runs (E:=λ_ _=>False) (Q:=λ_ st' s'=>∃p:Array Nat,p.size=ds.length/\arrOf st'=p.map (kas_item (kA.toList.toArray.zip vs.toArray))/\failedOf st'=none/\p=Gw (λi j=>decide (c (ds.getD i .none) (ds.getD j .none)<0)) (kas_sort ds.length)/\SI Γ K env G ι σ a kS e1 (ds.map λd=>.sem (Ct Γ.w (Kz Γ n S) C d)) s')
   hd2 (lt_of_le_of_lt hl (by decide)) (λp' st' s' a1 a2 a3 a4=>⟨p',a1,a2,a3,a4⟩) ask
  rw[<-est]at run
  refine wpAny_bind (wpAny_mono run ?_ λ_ _ e=>e)
  intro z1 s' Y
  obtain⟨⟨⟩,st'⟩:=z1
  refine Lv Y λp hps har hf ep I=>?_
  clear Y
  dsimp only
  have hpl:p.toList.length=ds.length:=by rw[Array.length_toList];exact hps
  refine Qr hka I (by rw[length_map];exact hl) (vs':=p.toList.map λi=>vs.getD i Value.none) (ds':=p.toList.map λi=>ds.getD i .none) ?_ (by rw[length_map,hpl];exact hl) hf (gW r _) λG' s' m l F' hp' g' r'=>k G' s' _ m l F' hp' g' ?_
  ·apply Array.toList_inj.mp
   rw[har,Array.map_map,Array.toList_map]
   exact map_congr_left λi _=>by show(kas_item _ i).2=_;rw[Od _ _ hkv]
  ·unfold Gb
   rw[if_neg (not_lt.mpr hd2),<-ep]
   exact r'
end
section
variable {α:Type}{Γ:W}{K:Cw}{A:Around}{env:Env}{G G₀ G':Gh}{ι ι':List Addr}{σ:St}{s s':Shared}
theorem X4 (ok:Γ.Ok){S:Mine.Cf}(hS:∀ds own Q Q',(∀d o,Q d o->Q' d o)->S ds own Q->S ds own Q'){n:Nat}(hA:Bi (n+1) A){a:Nat}{ds:List D}{vs:List Value}{C:Value}{c:D->D->Int}{P:PySem.Fin->Shared->Prop}
  (hl:ds.length<=4)(r:RelL G ι ds vs){z:Nat}(hok:∀x∈ds,Io z x=true)(hc:∀x∈ds,∀y∈ds,∀Q:D->List (List D)->Prop,Q (.int (c x y)) σ.own->S [x,y] σ.own Q)
  (F:Aa Γ K env G ι σ s)(hp:Bw Γ K env G ι (λb=>b=a)){m:Nat}(ho:s.heap.get? a=some (seqObj "list" vs.toArray m))(rt:Bb G ι (.sem (Xk Γ.w (Kz Γ n S))) C)
  (k:∀G' s' vs' m,G.le G'->Aa Γ K env G' ι σ s'->Bw Γ K env G' ι (λb=>b=a)->s'.heap.get? a=some (seqObj "list" (toArray vs') m)->RelL G' ι (Gb c ds) vs'->P (.done (.ret .none)) s'):wpAny (model Γ.prog Γ.w) A (ksk_tree a C false) P (λ_ _=>False) s:=by
 have hdep:A.depth+2<recursionLimit:=by have:=hA.depth;exact Ah this
 have hvs:vs.length=ds.length:=r.length
 have hpl:∀x∈ds,Dz x=true:=λx hx=>Wi (hok x hx)
 have ha:a<s.heap.objs.size:=Heap.lt_size ho
 have s1:=Heap.SameBut.update s.heap a (Obj.mapSeq λ_=>(#[]:Array Value))
 refine Af (show∃e1,(s.heap.update a (Obj.mapSeq λ_=>(#[]:Array Value))).get? a=some (seqObj "list" #[] e1)from⟨_,get?_update_seq ho λ_=>#[]⟩) λe1 ho1=>?_
 have F1:=F.putAt hp rfl s1
 have F2:=F1.push (seqObj "tuple" vs.toArray 0) s.toks F.tk
 have hkS:((s.heap.update a (Obj.mapSeq λ_=>(#[]:Array Value))).push (seqObj "tuple" vs.toArray 0)).objs.size=s.heap.objs.size+1:=by rw[size_push',Heap.size_update]
 have hka:((s.heap.update a (Obj.mapSeq λ_=>(#[]:Array Value))).push (seqObj "tuple" vs.toArray 0)).objs.size≠a:=by rw[hkS];exact ne_of_gt (lt_succ_of_lt ha)
 have hp2:Bw Γ K env G ι (λb=>b=a\/b=((s.heap.update a (Obj.mapSeq λ_=>(#[]:Array Value))).push (seqObj "tuple" vs.toArray 0)).objs.size):=S1 F2 hp λb hb=>hb.imp id λe=>by rw[e];exact Heap.get?_none_of_le (le_refl _)
 have F3:=F2.push (seqObj "list" #[] 0) s.toks F.tk
 have ga3:(((s.heap.update a (Obj.mapSeq λ_=>(#[]:Array Value))).push (seqObj "tuple" vs.toArray 0)).push (seqObj "list" #[] 0)).get? a=some (seqObj "list" #[] e1):=Heap.get?_push_of_some _ (Heap.get?_push_of_some _ ho1)
 have gk3:(((s.heap.update a (Obj.mapSeq λ_=>(#[]:Array Value))).push (seqObj "tuple" vs.toArray 0)).push (seqObj "list" #[] 0)).get? ((s.heap.update a (Obj.mapSeq λ_=>(#[]:Array Value))).push (seqObj "tuple" vs.toArray 0)).objs.size=some (seqObj "list" #[] 0):=Heap.get?_push_size _ rfl
 unfold ksk_tree
 refine wpAny_bind (listItems_at ho rfl ?_)
 refine wpAny_bind (listUpdate_at ho rfl ?_ (by rw[size_toArray,sizeLine_eq];exact le_trans (Ah (add_le_add (le_of_eq hvs) hl)) b6) (zero_le _))
 refine wpAny_bind (seqEpoch_at ho1 rfl ?_)
 refine wpAny_bind (wpAny_newTuple ?_ (by show vs.length<=_;rw[sizeLine_eq];exact le_trans (Ah (add_le_add (le_of_eq hvs) hl)) b6))
 refine wpAny_bind (wpAny_newList ?_ (zero_le _))
 refine wpAny_holding ?_
 generalize ((s.heap.update a (Obj.mapSeq λ_=>(#[]:Array Value))).push (seqObj "tuple" vs.toArray 0)).objs.size=kS at hka hp2 gk3⊢
 unfold ksk_rest
 refine wpAny_bind (wpAny_rule ?_)
 rw[List.forIn_toArray]
 refine wpAny_bind (ksk_fold (λi s'=>SI Γ K env G ι σ a kS e1 ((ds.take i).map λd=>.sem (Ct Γ.w (Kz Γ n S) C d)) s') vs 0 _ ⟨G,#[],0,Gh.le.refl _,F3,hp2,ga3,gk3,rfl⟩ ?step ?done)
 case step=>
  intro j x s' hx Z
  refine Hg Z λG1 kA e le F' hp' ga gk rk=>?_
  clear Z
  rw[zero_add]at rk⊢
  have hj:j<ds.length:=by rw[<-hvs];exact(List.getElem?_eq_some_iff.mp hx).1
  refine Ac (r.getElem? (List.getElem?_eq_getElem hj)) λv hv rd=>?_
  rw[hx]at hv;cases hv
  have hz:kA.size<=4:=by have:=rk.length;rw[Array.length_toList,length_map,length_take]at this;exact Ah (add_le_add (add_le_add (le_of_eq this) (min_le_right (j) (ds.length))) hl)
  have run:wpAny (model Γ.prog Γ.w) A (call C [x]) (λv' s2=>∃G2,G1.le G2/\Aa Γ K env G2 ι σ s2/\Bw Γ K env G2 ι (λb=>b=a\/b=kS)/\(∀b o,(b=a\/b=kS)->s'.heap.get? b=some o->s2.heap.get? b=some o)/\Bb G2 ι (.sem (Ct Γ.w (Kz Γ n S) C ds[j])) v') (λ_ _=>False) s':=by
   refine Rw (R:=λG2 v'=>Bb G2 ι (.sem (Ct Γ.w (Kz Γ n S) C ds[j])) v') F' hp' (λb hb=>?_) (λK' F4=>mG ok hdep F4 (rt.mono le (A1.refl _)) (hok _ (List.getElem_mem hj)) (rd.mono le (A1.refl _))) λG2 v' s2 l F4 hp4 keep rv=>⟨G2,l,F4,hp4,keep,rv⟩
   rcases hb with rfl|rfl
   ·rw[ga];exact Option.some_ne_none _
   ·rw[gk];exact Option.some_ne_none _
  refine wpAny_bind (wpAny_attempt (wpAny_mono run (λv' s2 V=>Lv V λG2 l F4 hp4 keep rv=>?_) λ_ _ x=>x.elim))
  ·dsimp only
   have gk4:=keep _ _ (.inr rfl) gk
   have ga4:=keep _ _ (.inl rfl) ga
   have s5:=Heap.SameBut.update s2.heap kS (Obj.mapSeq (·.push v'))
   refine wpAny_bind (listUpdate_at gk4 rfl ?_ (by rw[sizeLine_eq];exact le_trans hz (by decide)) (le_trans (le_of_eq (Array.size_push ..)) (by rw[sizeLine_eq];exact le_trans (Ah hz) (by decide:5000000<=16777216+1))))
   refine wpAny_pure ⟨rfl,G2,kA.push v',_,le.trans l,F4.putAt hp4 (.inr rfl) s5,hp4,(s5.2 a hka.symm).trans ga4,get?_update_seq gk4 (·.push v'),?_⟩
   have et:(ds.take (0+j+1)).map (λd=>D.sem (Ct Γ.w (Kz Γ n S) C d))=(ds.take j).map (λd=>D.sem (Ct Γ.w (Kz Γ n S) C d))++[.sem (Ct Γ.w (Kz Γ n S) C ds[j])]:=by
    rw[zero_add,take_add_one,List.getElem?_eq_getElem hj,map_append];rfl
   have ea:(kA.push v').toList=kA.toList++[v']:=by simp
   first
    |(rw[et,ea];exact(rk.mono l (A1.refl _)).snoc rv)
    |(rw[zero_add]at et;rw[et,ea];exact(rk.mono l (A1.refl _)).snoc rv)
 case done=>
  intro s' Y
  refine Hg Y λG1 kA e le F' hp' ga gk rk=>?_
  clear Y
  rw[zero_add,hvs,List.take_length]at rk
  refine wpAny_bind (listItems_at gk rfl ?_)
  exact cJ ok hS hA hka hl (r.mono le (A1.refl _)) hpl hc F' hp' ga gk rk λG2 s2 vs' m l F2 hp2 g2 r2=>k G2 s2 vs' m (le.trans l) F2 hp2 g2 r2
end
section
variable {α:Type}{Γ:W}{K:Cw}{A:Around}{env:Env}{G G₀ G':Gh}{ι ι':List Addr}{σ:St}{s s':Shared}
theorem Qy {n:Nat}(h:Bi (n+1) A):Bi n A.in1:=⟨h.handled,by have:=h.depth;show A.depth+150+4*n<_;exact Ah this,by have:=h.units;show A.units+1+500+16*n<_;exact Ah this⟩
theorem Qq (ok:Γ.Ok){S:Mine.Cf}(hS:∀ds own Q Q',(∀d o,Q d o->Q' d o)->S ds own Q->S ds own Q'){n:Nat}(hA:Bi (n+3) A){d:D}{ds:List D}{v C:Value}{c:D->D->Int}(hi:Al σ.own d=some ds)(hl:ds.length<=4){z:Nat}(hok:∀x∈ds,Io z x=true)
  (hc:∀x∈ds,∀y∈ds,∀Q:D->List (List D)->Prop,Q (.int (c x y)) σ.own->S [x,y] σ.own Q)(F:Aa Γ K env G ι σ s)(rv:Bb G ι d v)(rt:Bb G ι (.sem (Xk Γ.w (Kz Γ n S))) C){Q:D->St->Prop}(q:Q (.lst (Gb c ds)) σ):
  wpAny (model Γ.prog Γ.w) A (call (.builtin "sorted") [v] [(ofString "key",C)]) (As Γ K env VR G ι Q) (λ_ _=>False) s:=by
 refine Aj (Bh F.store rv hi) λl vs Y hl1 r=>?_
 subst Y
 have hvs:vs.length=ds.length:=r.length
 have hA2:Bi (n+1) A.in1.in1:=Qy (Qy hA)
 obtain⟨qa,rfl⟩:∃qa,C=.ref qa:=by
  refine Ac rt λ_ _ Z=>?_
  try clear rt
  refine fS Z λ_ b5 _ _ _ _ _ e _=>?_
  clear Z
  exact⟨_,e⟩
 refine call_function_entry_kw kind_sorted plain_sorted entry_sorted (ksk_s1 _ _) ?_
 unfold Builtin.«sorted»
 refine wpAny_bind (m:=checkCount "sorted" 1 1 _) (wpAny_pure ?_)
 refine wpAny_bind (collect_list hl1 ?_ (by rw[sizeLine_eq];exact le_trans (Ah (add_le_add (le_of_eq hvs) hl)) b6))
 refine wpAny_bind (wpAny_newList ?_ (by rw[sizeLine_eq];exact le_trans (Ah (add_le_add (le_of_eq hvs) hl)) b6))
 have hsz:((s.heap.push (seqObj "list" #[] 0)).update s.heap.objs.size (Obj.mapSeq (·++vs.toArray))).objs.size=s.heap.objs.size+1:=by
  rw[Heap.size_update,size_push']
 have hoL:(((s.heap.push (seqObj "list" #[] 0)).update s.heap.objs.size (Obj.mapSeq (·++vs.toArray))).push (seqObj "list" vs.toArray 0)).get? (s.heap.objs.size+1)=some (seqObj "list" vs.toArray 0):=by
  rw[<-hsz];exact Heap.get?_push_size _ rfl
 have keep:∀b o,s.heap.get? b=some o->(((s.heap.push (seqObj "list" #[] 0)).update s.heap.objs.size (Obj.mapSeq (·++vs.toArray))).push (seqObj "list" vs.toArray 0)).get? b=some o:=λb o q=>by
  have hlt:b<s.heap.objs.size:=Heap.lt_size q
  rw[Heap.get?_push_ne _ _ _ (by rw[hsz];exact ne_of_lt (lt_succ_of_lt hlt)),Heap.get?_update_ne _ _ _ _ (ne_of_lt hlt),Heap.get?_push_ne _ _ _ (ne_of_lt hlt)]
  exact q
 have hp:Bw Γ K env G ι (λb=>b=s.heap.objs.size+1):=Ii F λb hb=>by rw[hb];exact Heap.get?_none_of_le (le_succ _)
 have F1:=F.keepsTo keep s.toks F.tk
 show wpAny _ _ _ _ _ {s with heap:=((s.heap.push (seqObj "list" #[] 0)).update s.heap.objs.size (Obj.mapSeq (·++vs.toArray))).push (seqObj "list" vs.toArray 0)}
 rw[hsz]
 refine wpAny_bind (wpAny_holding (wpAny_call_entry_kw slot_list_sort ⟨_,hoL,rfl⟩ entry_list_sort ?body (ksk_l1 _ _)))
 case body=>
  rw[ksk_t1]
  refine X4 ok hS hA2 hl r hok hc F1 hp hoL rt λG' s' vs' m le F' hp' g' r'=>⟨_,rfl,wpAny_pure ⟨_,rfl,?_⟩⟩
  refine Ae (F'.putPriv ok hp' g') λl2 F2=>?_
  exact(Mu (d:=.lst (Gb c ds)) ⟨_,vs',rfl,⟨_,Gh.put_self _ _ _,rfl,m,rfl⟩,r'.mono l2 (A1.refl _)⟩ F2 q).up (le.trans l2) (A1.refl _)
theorem cS (H:Ev Γ A env){n:Nat}(hA:Bi (n+3) A){e kx:Expr}{p pos kp:Pos}{T1 T2:TT}(hk:env.kindOf (ofString "sorted")=some .globalImplicit)(hn:Γ.mg (ofString "sorted")=none)(hv:Γ.mb (ofString "sorted")=some (.builtin "sorted"))
  (h1:Bm Γ A env e T1)(h2:Bm Γ A env kx T2)(hs:starEach [e] env=(false,eval e env)::starEach [] env):
  Bm Γ A env (.Call (.Name (ofString "sorted") p) [e] [⟨some (ofString "key"),kx,kp⟩] pos) (λσ Q=>T1 σ λd σ=>T2 σ λt σ=>∃(S:Mine.Cf) (ds:List D) (c:D->D->Int) (z:Nat),(∀ds own Q Q',(∀d o,Q d o->Q' d o)->S ds own Q->S ds own Q')/\t=.sem (Xk Γ.w (Kz Γ n S))/\
   Al σ.own d=some ds/\ds.length<=4/\(∀x∈ds,Io z x=true)/\(∀x∈ds,∀y∈ds,∀Q:D->List (List D)->Prop,Q (.int (c x y)) σ.own->S [x,y] σ.own Q)/\Q (.lst (Gb c ds)) σ):=λK G ι σ s Q F q=>by
 have hbs:backTo pos (starEach [e] env)=(false,eval e env)::backTo pos (starEach [] env):=by rw[hs];rfl
 refine wpAny_Call_Name_kw (wpAny_mono (Hz H hk hn hv (by decide) K G ι σ s (λd σ'=>d=.raw (.builtin "sorted")/\σ'=σ) F ⟨rfl,rfl⟩) (λv s0 Z=>Eh Z λG0 ι0 d0 σ0 l0 p0 r0 F0 e0 e1=>?_) λ_ _ x=>x)
 subst e0 e1
 obtain rfl:v=.builtin "sorted":=r0
 refine callWith_kw ?_ hbs (by rw[hbs];rfl) rfl rfl
 rw[hbs]
 refine Calls.spliced_cons (A8 h1 F0 q λG1 ι1 d v σ1 s1 l1 p1 r1 F1 q1=>Calls.spliced_nil (kws_cons (A8 h2 F1 q1 λG2 ι2 t vt σ2 s2 l2 p2 r2 F2 q2=>kws_nil ?_)))
 refine U9 q2 λS ds c z hS Y hi hl hok hc hq=>?_
 try clear q2
 subst Y
 exact wpAny_mono (Qq H.ok hS hA hi hl hok hc F2 (r1.mono l2 p2) r2 hq) (λ_ _ h=>h.up ((l0.trans l1).trans l2) ((p0.trans p1).trans p2)) λ_ _ x=>x
end
section
variable {α:Type}{Γ:W}{K:Cw}{A:Around}{env:Env}{G G₀ G':Gh}{ι ι':List Addr}{σ:St}{s s':Shared}
theorem oM (ok:Γ.Ok){f:FP}(X:oG Γ f){a:Addr}(N:Fn Γ a (oL f.cc f.pm f.doc) ["mycmp"] jS.body)(hA:Bi 1 A):
  Ar Γ A (.ref a) (λds own Q=>∃P,ds=[.sem P]/\Q (.sem (Xk Γ.w P)) own):=by
 have r1:=hA.depth
 have r2:=hA.units
 refine'(Dr ok N (by kernel_rfl) (by exact Ah r1) (λL=>?w)).imp ?p
 case w=>
  have H:Ev Γ (A.deeper (callEnvC (oL f.cc f.pm f.doc) L a)) (callEnvC (oL f.cc f.pm f.doc) L a):=⟨ok,N.kind,rfl,rfl,hA.handled,by rw[depth_deeper];exact Ah r1,by show A.units+3+500<_;exact Ah r2⟩
  have X':oG Γ {f with L:=L,a:=a}:=⟨X.e2,X.e3,X.e4,X.ec,X.tab,X.big,X.out,X.inn,X.bc,X.obn,X.obb⟩
  exact Be (bR (f:={f with L:=L,a:=a}) H X') (Be (Ft (Cb H (x:="K") (by decide) (by decide))) Fu)
 case p=>
  intro ds own Q Z
  refine Ac Z λP Y q=>?_
  clear Z
  subst Y
  exact⟨rfl,P,rfl,not_mem_nil,nofun,⟨_,rfl,q⟩⟩
end
noncomputable def Ud (name qual:Str) (params:Arguments) (body:Expr) (scope:Scope) (x:String) (d:D) (pm:Value) (G:Gh) (v:Value):Prop:=∃(cw:Addr) (o:Obj) (u:Value),Oa name qual params body scope [(ofString x,cw)] pm G v/\G cw=some o/\o.data=.cell (some u)/\Bb G [] d u
section
variable {α:Type}{Γ:W}{K:Cw}{A:Around}{env:Env}{G G₀ G':Gh}{ι ι':List Addr}{σ:St}{s s':Shared}
theorem lE (H:Ev Γ A env){c P:Addr}{params:Arguments}{body:Expr}{scope:Scope}{pos:Pos}{x:String}{cw:Addr}(hcode:env.code=.ref c)(hcP:(c,P)∈Γ.tabs)(hdef:defaultsOf params env=([],[]))(hkx:env.kindOf (ofString x)=some .cell)(hcx:env.cells.lookup (ofString x)=some cw)
  (hcl:closureFor scope env=pure [(ofString x,cw)])(hit:∀G cv,Γ.codeOk P pos G cv->Bd G cv (env.qual++"<lambda>"))(mk:∀G cv pos',pos'.line=pos.line->pos'.col=pos.col->Bd G cv (env.qual++"<lambda>")->Γ.codeOk P pos' G cv):
  Bm Γ A env (.Lambda params body scope pos) (λσ Q=>∃P d n,σ.get x=some d/\x∉σ.ro/\Io n d=true/\(∀G v,Ud "<lambda>" (env.qual++"<lambda>") params body scope x d ((Γ.mg "__name__").getD .none) G v->P G v)/\Q (.sem P) {σ with ro:=x::σ.ro}):=λK G ι σ s Q F Z=>Iw Z λP' d n hg hro hok hP' q=>by
 obtain⟨o,u,ho,hd,hr⟩:∃o u,s.heap.get? cw=some o/\o.data=.cell (some u)/\Bb G ι d u:=by
  refine Ac F.ns λm _ ns=>?_
  rcases ns x _ hg with⟨k,_⟩|⟨_,c,v,e,⟨o,ho,hd⟩,r⟩|⟨k,_⟩
  ·exact(Kt k hkx (by decide)).elim
  ·rw[hcx]at e;cases e;exact⟨o,v,ho,hd,r⟩
  ·exact(Kt k hkx (by decide)).elim
 refine Ae (F.roCell H.ok hkx hcx hro ho) λl1 F1=>?_
 have h1:(G.put cw o) cw=some o:=Gh.put_self _ _ _
 refine kla_eval hdef (fJ H hcode hcP hcl hit mk F1 λG' v s' l hL F'=>?_)
 exact(As.mk' (R:=VR) (b:=.sem P') ⟨G',Gh.le.refl _,hP' _ _ ⟨cw,o,u,hL,l _ _ h1,hd,(Os n d u hok hr:Bb G [] d u).mono (l1.trans l) (A1.refl _)⟩⟩ F' q).up (l1.trans l) (A1.refl _)
theorem rT:B6 3:=by constructor<;>decide
noncomputable def K3 (p1 p2 p3 p4 p5 p6 p7 p8 p9:Pos):Expr:=.BinOp (.Name (ofString "way") p1) .Mult (.BinOp (.Subscript (.Name (ofString "one") p2) (.Constant (.int 3) 0 p3) p4) .Sub (.Subscript (.Name (ofString "two") p5) (.Constant (.int 3) 0 p6) p7) p8) p9
noncomputable def Oh (p1 p2:Pos):Arguments:=⟨[],[⟨ofString "one",none,p1⟩,⟨ofString "two",none,p2⟩],none,[],[],none,[]⟩
noncomputable def Kj (w:Int):Mine.Cf:=λds own Q=>∃l1 l2 i j,ds=[.tup l1,.tup l2]/\Fg l1 3=some (.int i)/\Fg l2 3=some (.int j)/\i.natAbs<=10/\j.natAbs<=10/\Q (.int (w*(i-j))) own
theorem Kj.mono {w:Int}:∀ds own Q Q',(∀d o,Q d o->Q' d o)->Kj w ds own Q->Kj w ds own Q':=λds own Q Q' h h5_=>by refine Eh h5_ λl1 l2 i j e a b c d q=>?_;try clear h5_;exact⟨l1,l2,i,j,e,a,b,c,d,h _ _ q⟩
theorem dF (ok:Γ.Ok){qual:Str}{pm v:Value}{scope:Scope}{p1 p2 p3 p4 p5 p6 p7 p8 p9 q1 q2:Pos}{w:Int}(hw:w.natAbs<=10)(hk1:scope.names.lookup (ofString "one")=some .local)(hk2:scope.names.lookup (ofString "two")=some .local)(hk3:scope.names.lookup (ofString "way")=some .free)
  (hnc:∀x∈scope.names,x.2≠ .cell)(hkd:scope.kind=.function)(hco:scope.isCoroutine=false)(hgn:scope.isGenerator=false)
  (h:Ud "<lambda>" qual (Oh q1 q2) (K3 p1 p2 p3 p4 p5 p6 p7 p8 p9) scope "way" (.int w) pm G v):Kz Γ 1 (Kj w) G v:=by
 refine Ds h λcw oc u Z g1 g2 g3=>?_
 try clear h
 refine Cs Z λa o cv ctv V h1 h2 h3 h4=>?_
 clear Z
 subst V
 refine⟨⟨a,o,_,rfl,h1,h3⟩,λA' hA=>?_⟩
 have N:gJ Γ G a (kla_fn "<lambda>" qual (Oh q1 q2) (K3 p1 p2 p3 p4 p5 p6 p7 p8 p9) scope [(ofString "way",cw)] pm cv ctv) ["one","two"] [("way",.int w)]:={
  obj:=⟨o,h1,h3⟩
  code:=h4
  glob:=rfl
  bui:=rfl
  bind:=λvs hv=>by
   refine Gp (Xo hv) λx y e=>?_
   subst e
   first|rfl|kernel_rfl
  kinds:=λq hq=>by
   simp only[mem_cons,not_mem_nil,or_false]at hq
   rcases hq with rfl|rfl
   ·exact hk1
   ·exact hk2
  nodup:=by decide
  nocell:=hnc
  free:=λx d e=>by
   rw[lookup_cons]at e
   split at e
   ·rename_i hx
    obtain rfl:=beq_iff_eq.mp hx
    cases e
    exact⟨hk3,cw,oc,u,by kernel_rfl,g1,g2,g3⟩
   ·cases e
  freeAll:=λx c e=>by
   have e:([(ofString "way",cw)]:List (Str×Addr)).lookup x=some c:=e
   rw[lookup_cons]at e
   split at e
   ·cases e;exact⟨oc,g1⟩
   ·cases e
  kind:=hkd
  co:=hco
  gen:=hgn}
 have e1:=hA.handled
 have e2:=hA.depth
 have e3:=hA.units
 refine'(mL ok N rfl (by exact Ah e2) (λL=>?w)).imp ?p
 case w=>
  have H:=rY (A:=A'.deeper (Bt (kla_fn "<lambda>" qual (Oh q1 q2) (K3 p1 p2 p3 p4 p5 p6 p7 p8 p9) scope [(ofString "way",cw)] pm cv ctv) L a)) ok N e1 (by rw[depth_deeper];exact Ah e2) (by show A'.units+3+500<_;exact Ah e3) L
  exact Kl H (Cb H (by decide) (by decide)) (Kl H (Ou (Cb H (by decide) (by decide)) Hx (λ_ _=>rfl)) (Ou (Cb H (by decide) (by decide)) Hx (λ_ _=>rfl)))
 case p=>
  intro ds own Q Y
  refine Eh Y λl1 l2 i j U a1 a2 b1 b2 hq=>?_
  clear Y
  subst U
  refine⟨rfl,?_⟩
  refine Ab rfl (Ab rfl (sV ⟨rT,_,a1,Ab rfl (sV ⟨rT,_,a2,?_⟩)⟩))
  show((-(2^64)<w/\w<2^64)/\Q (.int (w*(i-j))) own)
  exact⟨sB hw,hq⟩
end
noncomputable def Jb:DefRec:=Bk PySem.Challenge.pw_in0167_01 26
theorem hH {Γ:W}{A:Around}{env:Env}(H:Ev Γ A env){c P:Addr}{params:Arguments}{body:Expr}{scope:Scope}{pos:Pos}{x:String}{cw:Addr}{q:Str}(hq:env.qual++"<lambda>"=q)(hcode:env.code=.ref c)(hcP:(c,P)∈Γ.tabs)(hdef:defaultsOf params env=([],[]))(hkx:env.kindOf (ofString x)=some .cell)(hcx:env.cells.lookup (ofString x)=some cw)
  (hcl:closureFor scope env=pure [(ofString x,cw)])(hit:∀G cv,Γ.codeOk P pos G cv->Bd G cv q)(mk:∀G cv pos',pos'.line=pos.line->pos'.col=pos.col->Bd G cv q->Γ.codeOk P pos' G cv):
  Bm Γ A env (.Lambda params body scope pos) (λσ Q=>∃P d n,σ.get x=some d/\x∉σ.ro/\Io n d=true/\(∀G v,Ud "<lambda>" q params body scope x d ((Γ.mg "__name__").getD .none) G v->P G v)/\Q (.sem P) {σ with ro:=x::σ.ro}):=by
 subst hq;exact lE H hcode hcP hdef hkx hcx hcl hit mk
theorem Yw {Γ:W}{A:Around}{env:Env}(H:Ev Γ A env){f:String}{a:Addr}{fd:FuncData}{e:Expr}{p1 p2 pos pos':Pos}{T:St->(List D->St->Prop)->Prop}(N:Ja Γ a fd)(hk:env.kindOf (ofString "list")=some .globalImplicit)(hn:Γ.mg (ofString "list")=none)(hv:Γ.mb (ofString "list")=some (.type "list"))
  (hkf:env.kindOf (ofString f)=some .globalImplicit)(hvf:Γ.mg (ofString f)=some (.ref a))(hdf:(ofString f==("__debug__":Str))=false)(h:Ky Γ A env pos' [e] T)(hs:starEach [e] env=(false,eval e env)::starEach [] env)
  (hs2:starEach [.Call (.Name (ofString f) p2) [e] [] pos'] env=(false,eval (.Call (.Name (ofString f) p2) [e] [] pos') env)::starEach [] env):
  Bm Γ A env (.Call (.Name (ofString "list") p1) [.Call (.Name (ofString f) p2) [e] [] pos'] [] pos) (λσ Q=>T σ λds σ=>∃xs,ds=[.str xs]/\xs.length+3<=sizeLine/\xs.length+3<=sizeLine/\Q (.obj σ.own.length) {σ with own:=σ.own++[(A9 0 false xs).map Gr]}):=λK G ι σ s Q F q=>by
 refine wpAny_Call_NameR (wpAny_mono (Hz H hk hn hv (by decide) K G ι σ s (λd σ'=>d=.raw (.type "list")/\σ'=σ) F ⟨rfl,rfl⟩) (λv s0 Z=>Eh Z λG0 ι0 d0 σ0 l0 p0 r0 F0 e0 e1=>?_) λ_ _ x=>x)
 subst e0 e1;cases r0
 refine PyProof.Rows.callWith_type (Jn hs2 rfl) (Ho hs2 ?_)
 rw[hs2]
 refine Calls.spliced_cons (gD H N hkf hvf hdf h hs F0 (R:=λxs σ=>xs.length+3<=sizeLine/\Q (.obj σ.own.length) {σ with own:=σ.own++[(A9 0 false xs).map Gr]}) q λxs G1 ι1 σ1 s1 ga X g l1 p1 hR F1 hX hP hK hG=>Calls.spliced_nil ?_)
 exact wpAny_mono (Rz H F1 hX hP hK hG (le_trans (Gq xs 0 false) (le_trans (le_add_right _ 3) hR.1)) hR.2) (λ_ _ p=>p.up (l0.trans l1) (p0.trans p1)) λ_ _ x=>x
noncomputable def Wd:Str:=(Jb.name++".<locals>.")++"<lambda>"
noncomputable def rD (Γ:W) (a24:Addr):
  {T:TS // ∀{a P cc a3 a15 a17 a20 a22 a23 a25 a13 a11:Addr} {pm doc:Value} {fd3 fd15 Rr fd20 fd22 fd23 fd25 fd13 fd11:FuncData},Γ.Ok->Fn Γ a (docDef Jb.name Jb.params Jb.body Jb.scope pm (.ref cc) doc) ["brackets","way"] Jb.body->Γ.mg (ofString "translate")=some (.ref a3)->(∃o,Γ.B.get? a3=some o/\o.data=.func fd3)->Γ.mg (ofString "_check_parenthesis")=some (.ref a13)->(∃o,Γ.B.get? a13=some o/\o.data=.func fd13)->Γ.mg (ofString "_law_closes")=some (.ref a25)->(∃o,Γ.B.get? a25=some o/\o.data=.func fd25)->Γ.mg (ofString "_law_places")=some (.ref a23)->(∃o,Γ.B.get? a23=some o/\o.data=.func fd23)->Γ.mg (ofString "_law_spelled")=some (.ref a20)->(∃o,Γ.B.get? a20=some o/\o.data=.func fd20)->Γ.mg (ofString "_law_units")=some (.ref a22)->(∃o,Γ.B.get? a22=some o/\o.data=.func fd22)->Γ.mg (ofString "reduce")=some (.ref a17)->(∃o,Γ.B.get? a17=some o/\o.data=.func Rr)->Γ.mg (ofString "_law_step")=some (.ref a24)->Γ.mg (ofString "cmp_to_key")=some (.ref a15)->(∃o,Γ.B.get? a15=some o/\o.data=.func fd15)->(cc,P)∈Γ.tabs->(∀G cv (pos':Pos),pos'.line=241->Bd G cv Wd->Γ.codeOk P pos' G cv)->(∀G cv (pos':Pos),pos'.line=241->Γ.codeOk P pos' G cv->Bd G cv Wd)->Γ.mg (ofString "_iter_escaped_chars")=some (.ref a11)->Ja Γ a11 fd11->Γ.mg (ofString "list")=none->Γ.mb (ofString "list")=some (.type "list")->Γ.mg (ofString "sorted")=none->Γ.mb (ofString "sorted")=some (.builtin "sorted")->∀(A:Around) (L:Addr),Ev Γ A (callEnvC (docDef Jb.name Jb.params Jb.body Jb.scope pm (.ref cc) doc) L a)->Bi (1+3) A->Ar Γ A (.ref a3) S3->Ar Γ A (.ref a13) oY->Ar Γ A (.ref a25) oS->Ar Γ A (.ref a23) oT->Ar Γ A (.ref a20) oV->Ar Γ A (.ref a22) oU->Ar Γ A (.ref a17) (oX a24)->Ar Γ A (.ref a15) (λds own Q=>∃P,ds=[.sem P]/\Q (.sem (Xk Γ.w P)) own)->Py Γ A (callEnvC (docDef Jb.name Jb.params Jb.body Jb.scope pm (.ref cc) doc) L a) Jb.body T}:=by
 refine'⟨?T,?w⟩
 case w=>
  intro a P cc a3 a15 a17 a20 a22 a23 a25 a13 a11 pm doc fd3 fd15 Rr fd20 fd22 fd23 fd25 fd13 fd11 ok N g3 o3 g13 o13 g25 o25 g23 o23 g20 o20 g22 o22 g17 o17 g24 g15 o15 hcP hmk hhit g11 e11 li1 li2 so1 so2 A L H HA f3 f13 f25 f23 f20 f22 f17 oM
  refine' Be ?_ ?_
  all_goals repeat' first
   |((with_reducible show _=_);first|assumption|rfl|decide)
   |((with_reducible show Ev _ _ _);assumption)
   |((with_reducible show Kd _ _ _);first|exact Kd.local (by rfl)|exact Kd.cell (by rfl) ⟨_,by rfl⟩)
   |((with_reducible show CE _ _ _ _);exact Cm (by rfl) (by rfl) (λ_=>by rfl) rfl)
   |((with_reducible show∀_,_=_);intro _;rfl)
   |((with_reducible show∀_ _,_=_);intro _ _;rfl)
   |((with_reducible show∀_ _ _,_=_);intro _ _ _;rfl)
   |((with_reducible show∀_ _,∃_,_);exact λ_ _=>⟨_,rfl⟩)
   |((with_reducible show Ar _ _ _ _);assumption)
   |((with_reducible show∃_,_/\_);assumption)
   |with_reducible refine' cS (n:=1) _ (by assumption) _ (by assumption) (by assumption) ..
   |with_reducible refine' Yw _ (by assumption) _ (by assumption) (by assumption) ..
   |with_reducible refine' Ni _ _ (by assumption) ..
   |((with_reducible refine' Dn (cap:=["turn"]) ..);any_goals ((with_reducible show CE _ _ _ _);exact Cm (by rfl) (by rfl) (λ_=>by rfl) rfl))
   |((with_reducible refine' Cv (cap:=["weights"]) ..);any_goals ((with_reducible show CE _ _ _ _);exact Cm (by rfl) (by rfl) (λ_=>by rfl) rfl))
   |((with_reducible refine' Jk (cap:=["pieces"]) ..);any_goals ((with_reducible show CE _ _ _ _);exact Cm (by rfl) (by rfl) (λ_=>by rfl) rfl))
   |with_reducible exact Fu
   |((with_reducible refine' Dn (cap:=[]) ..);any_goals ((with_reducible show CE _ _ _ _);exact Cm (by rfl) (by rfl) (λ_=>by rfl) rfl))
   |((with_reducible refine' Cv (cap:=[]) ..);any_goals ((with_reducible show CE _ _ _ _);exact Cm (by rfl) (by rfl) (λ_=>by rfl) rfl))
   |((with_reducible refine' Jk (cap:=[]) ..);any_goals ((with_reducible show CE _ _ _ _);exact Cm (by rfl) (by rfl) (λ_=>by rfl) rfl))
   |((with_reducible refine' Dn (cap:=[_]) ..);any_goals ((with_reducible show CE _ _ _ _);exact Cm (by rfl) (by rfl) (λ_=>by rfl) rfl))
   |((with_reducible refine' Cv (cap:=[_]) ..);any_goals ((with_reducible show CE _ _ _ _);exact Cm (by rfl) (by rfl) (λ_=>by rfl) rfl))
   |((with_reducible refine' Jk (cap:=[_]) ..);any_goals ((with_reducible show CE _ _ _ _);exact Cm (by rfl) (by rfl) (λ_=>by rfl) rfl))
   |((with_reducible refine' Dn (cap:=[_,_]) ..);any_goals ((with_reducible show CE _ _ _ _);exact Cm (by rfl) (by rfl) (λ_=>by rfl) rfl))
   |((with_reducible refine' Cv (cap:=[_,_]) ..);any_goals ((with_reducible show CE _ _ _ _);exact Cm (by rfl) (by rfl) (λ_=>by rfl) rfl))
   |((with_reducible refine' Jk (cap:=[_,_]) ..);any_goals ((with_reducible show CE _ _ _ _);exact Cm (by rfl) (by rfl) (λ_=>by rfl) rfl))
   |((with_reducible refine' Dn (cap:=[_,_,_]) ..);any_goals ((with_reducible show CE _ _ _ _);exact Cm (by rfl) (by rfl) (λ_=>by rfl) rfl))
   |((with_reducible refine' Cv (cap:=[_,_,_]) ..);any_goals ((with_reducible show CE _ _ _ _);exact Cm (by rfl) (by rfl) (λ_=>by rfl) rfl))
   |((with_reducible refine' Jk (cap:=[_,_,_]) ..);any_goals ((with_reducible show CE _ _ _ _);exact Cm (by rfl) (by rfl) (λ_=>by rfl) rfl))
   |((with_reducible refine' Dn (cap:=[_,_,_,_]) ..);any_goals ((with_reducible show CE _ _ _ _);exact Cm (by rfl) (by rfl) (λ_=>by rfl) rfl))
   |((with_reducible refine' Cv (cap:=[_,_,_,_]) ..);any_goals ((with_reducible show CE _ _ _ _);exact Cm (by rfl) (by rfl) (λ_=>by rfl) rfl))
   |((with_reducible refine' Jk (cap:=[_,_,_,_]) ..);any_goals ((with_reducible show CE _ _ _ _);exact Cm (by rfl) (by rfl) (λ_=>by rfl) rfl))
   |((with_reducible show∀_:Addr,Ev _ _ _->_);intro C hC)
   |with_reducible exact iT
   |with_reducible refine' mI ..
   |with_reducible refine' Be ..
   |with_reducible refine' Co ..
   |with_reducible refine' bO ..
   |with_reducible refine' Ft ..
   |with_reducible exact Ig
   |with_reducible exact Hx
   |with_reducible exact Q9
   |with_reducible refine' Q5 ..
   |with_reducible refine' Q8 _ _ (by assumption) ..
   |with_reducible refine' Kl ..
   |with_reducible refine' Q6 ..
   |with_reducible refine' He ..
   |with_reducible refine' Hw ..
   |with_reducible exact Dc
   |with_reducible refine' B3 ..
   |with_reducible refine' Ou ..
   |with_reducible refine' Hy ..
   |with_reducible refine' Pr ..
   |with_reducible refine' R8 ..
   |with_reducible exact Pw
   |with_reducible refine' oR ..
   |with_reducible refine' Dq ..
   |with_reducible refine' I7 ..
   |with_reducible exact Sc
   |with_reducible refine' Mb ..
   |with_reducible refine' Cb ..
  all_goals try (refine' hH H (c:=cc) (P:=P) (x:="way") (q:=Wd) ?hq ?hcode hcP ?hdef ?hkx ?hcx ?hcl ?hit ?mk;(case hq=>rfl);(case hcode=>rfl);(case hdef=>rfl);(case hkx=>rfl);(case hcx=>rfl);(case hcl=>rfl);(case hit=>exact λG cv h=>hhit G cv _ rfl h);(case mk=>exact λG cv pos' h1 h2 h3=>hmk G cv pos' h1 h3))
noncomputable def Pj:DefRec:=Bk PySem.Challenge.pw_in0167_01 27
noncomputable def rC (S26:Mine.Cf):
  {T:TS // ∀{Γ:W} {a a19 a26:Addr} {pm code doc:Value} {fd19 fd26:FuncData},Γ.Ok->Fn Γ a (docDef Pj.name Pj.params Pj.body Pj.scope pm code doc) ["script"] Pj.body->Γ.mg (ofString "_law_pieces")=some (.ref a19)->(∃o,Γ.B.get? a19=some o/\o.data=.func fd19)->Γ.mg (ofString "_law_holds")=some (.ref a26)->(∃o,Γ.B.get? a26=some o/\o.data=.func fd26)->Γ.mg (ofString "len")=none->Γ.mb (ofString "len")=some (.builtin "len")->Γ.mg (ofString "range")=none->Γ.mb (ofString "range")=some (.type "range")->∀(A:Around) (L:Addr),Ev Γ A (callEnvC (docDef Pj.name Pj.params Pj.body Pj.scope pm code doc) L a)->Ar Γ A (.ref a19) oW->Ar Γ A (.ref a26) S26->Py Γ A (callEnvC (docDef Pj.name Pj.params Pj.body Pj.scope pm code doc) L a) Pj.body T}:=by
 refine'⟨?T,?w⟩
 case w=>
  intro Γ a a19 a26 pm code doc fd19 fd26 ok N g19 o19 g26 o26 len1 len2 ran1 ran2 A L H f19 f26
  refine' Be ?_ ?_
  all_goals repeat' first
   |((with_reducible show _=_);first|assumption|rfl|decide)
   |((with_reducible show Ev _ _ _);assumption)
   |((with_reducible show Kd _ _ _);first|exact Kd.local (by rfl)|exact Kd.cell (by rfl) ⟨_,by rfl⟩)
   |((with_reducible show CE _ _ _ _);exact Cm (by rfl) (by rfl) (λ_=>by rfl) rfl)
   |((with_reducible show∀_,_=_);intro _;rfl)
   |((with_reducible show∀_ _,_=_);intro _ _;rfl)
   |((with_reducible show∀_ _ _,_=_);intro _ _ _;rfl)
   |((with_reducible show∀_ _,∃_,_);exact λ_ _=>⟨_,rfl⟩)
   |((with_reducible show Ar _ _ _ _);assumption)
   |((with_reducible show∃_,_/\_);assumption)
   |with_reducible refine' Dn (cap:=["numbers"]) ..
   |with_reducible exact Fu
   |with_reducible refine' Dn (cap:=[]) ..
   |with_reducible refine' Dn (cap:=[_]) ..
   |with_reducible refine' Dn (cap:=[_,_]) ..
   |with_reducible refine' Dn (cap:=[_,_,_]) ..
   |with_reducible refine' Dn (cap:=[_,_,_,_]) ..
   |((with_reducible show∀_:Addr,Ev _ _ _->_);intro C hC)
   |with_reducible exact iT
   |with_reducible refine' Be ..
   |with_reducible refine' Co ..
   |with_reducible refine' Ft ..
   |with_reducible exact Hx
   |with_reducible refine' S0 ..
   |with_reducible refine' Ur ..
   |with_reducible refine' Q8 _ _ (by assumption) ..
   |with_reducible refine' Kl ..
   |with_reducible refine' Q6 ..
   |with_reducible refine' He ..
   |with_reducible refine' Hw ..
   |with_reducible exact Dc
   |with_reducible refine' B3 ..
   |with_reducible refine' Ov ..
   |with_reducible refine' Ou ..
   |with_reducible exact oI
   |with_reducible refine' Uv ..
   |with_reducible refine' Yv ..
   |with_reducible refine' lH ..
   |with_reducible refine' lC ..
   |with_reducible refine' Dq ..
   |with_reducible refine' Cb ..
abbrev US:=List (List Nat)
noncomputable def O1 (p:Pc):Prop:=p.x∈sg/\p.y∈sg/\(p.lone=true->p.x=p.y)
noncomputable def Da (p:Pc):US:=if p.lone then[]else[[45],Aw p.y false]
noncomputable def C6:List Pc->US
 |[]=>[]
 |p::r=>Aw p.x false::(Da p++C6 r)
theorem Ol (p:Pc)(r:List Pc):C6 (p::r)=Aw p.x false::(Da p++C6 r):=rfl
noncomputable def U5:List Pc->US
 |[]=>[]
 |p::r=>Aw p.x true::(Da p++C6 r)
noncomputable def Og (b:Bool) (k:List Pc):US:=match k with
 |[]=>if b then[[46]]else[[40],[63],[33],[41]]
 |p::r=>(if b then[91]::[94]::C6 (p::r)else[91]::U5 (p::r))++[[93]]
theorem Ln {p:Pc}(h:p.x<=p.y)(r:List Pc):Ax (p::r)=p::Ax r:=filter_cons_of_pos (by simpa using h)
theorem Lo {p:Pc}(h:¬p.x<=p.y)(r:List Pc):Ax (p::r)=Ax r:=filter_cons_of_neg (by simpa using h)
noncomputable def fU (us:US) (p:Pc):US:=if p.x<=p.y then us++Aw p.x (us.length==1)::(if p.lone then[]else[[45],Aw p.y false])else us
theorem Rn:∀(ps:List Pc) (us:US),2<=us.length->ps.foldl fU us=us++C6 (Ax ps):=by
 intro lq
 induction lq with
 |nil=>intro us _;exact(append_nil us).symm
 |cons p r ih=>
  intro us h
  rw[foldl_cons]
  by_cases hp:p.x<=p.y
  ·have e:fU us p=us++Aw p.x false::Da p:=by
    unfold fU;rw[if_pos hp,show(us.length==1)=false by simp;exact ne_of_gt (Ah h)];rfl
   rw[Ln hp,e,ih _ (by rw[length_append];exact Ah h),append_assoc];rfl
  ·rw[Lo hp,show fU us p=us from if_neg hp];exact ih us h
theorem aE:∀(ps:List Pc) (us:US),us.length=1->ps.foldl fU us=us++U5 (Ax ps):=by
 intro lq
 induction lq with
 |nil=>intro us _;exact(append_nil us).symm
 |cons p r ih=>
  intro us h
  rw[foldl_cons]
  by_cases hp:p.x<=p.y
  ·have e:fU us p=us++Aw p.x true::Da p:=by
    unfold fU;rw[if_pos hp,h];rfl
   rw[Ln hp,e,Rn r _ (by rw[length_append,length_cons];exact Ah (le_of_eq h.symm)),append_assoc];rfl
  ·rw[Lo hp,show fU us p=us from if_neg hp];exact ih us h
theorem Jd (b:Bool)(ps:List Pc):Ce b ps=Og b (Ax ps):=by
 show(if(ps.foldl fU (if b then[[91],[94]]else[[91]])).length==(if b then 2 else 1)then(if b then[[46]]else[[40],[63],[33],[41]])else ps.foldl fU (if b then[[91],[94]]else[[91]])++[[93]])=_
 cases b
 ·show(if(ps.foldl fU [[91]]).length==1 then _ else ps.foldl fU [[91]]++[[93]])=_
  rw[aE ps [[91]] rfl]
  cases Ax ps with
  |nil=>rfl
  |cons p r=>rw[if_neg (by simp[U5])];rfl
 ·show(if(ps.foldl fU [[91],[94]]).length==2 then _ else ps.foldl fU [[91],[94]]++[[93]])=_
  rw[Rn ps [[91],[94]] (le_refl _)]
  cases Ax ps with
  |nil=>rfl
  |cons p r=>rw[if_neg (by simp[Ol])];rfl
theorem Ua:∀c∈sg,B8 (StrLaws.dbl 92 [c])=Aw c false:=by decide
theorem Ze (p:Pc)(h:O1 p):B8 (StrLaws.dbl 92 (A6 p))=Aw p.x false++(Da p).flatten:=by
 unfold A6 Da
 cases p.lone with
 |true=>exact(Ua _ h.1).trans (append_nil _).symm
 |false=>
  show B8 (StrLaws.dbl 92 ([p.x]++([45]++[p.y])))=Aw p.x false++([45]++(Aw p.y false++[]))
  rw[StrLaws.dbl_append,StrLaws.dbl_append,Dw,Dw,Ua _ h.1,Ua _ h.2.1,append_nil];rfl
theorem Vq:∀(k:List Pc),(∀p∈k,O1 p)->B8 (StrLaws.dbl 92 (Ag k))=(C6 k).flatten:=by
 intro lq
 induction lq with
 |nil=>intro _;exact rfl
 |cons p r ih=>
  intro h
  show B8 (StrLaws.dbl 92 (A6 p++Ag r))=_
  rw[StrLaws.dbl_append,Dw,Ze p (h p mem_cons_self),ih λq hq=>h q (mem_cons_of_mem _ hq),Ol,flatten_cons,flatten_append,append_assoc]
theorem bI {c:Nat}(h:c≠33)(r:List Nat):Hm (c::r)=91::((if c=94\/c=91 then 92::c::r else c::r)++[93]):=by
 rw[L5 λe=>h (List.cons.inj e).1,if_neg h]
theorem Xc (c:Nat)(r:List Nat):Hm (33::c::r)=91::94::(c::r++[93]):=rfl
theorem cK:∀c∈sg,∀f,Aw c f≠[]:=by decide
theorem Vy:∀c∈sg,(Aw c false).headD 0≠33/\(if(Aw c false).headD 0=94\/(Aw c false).headD 0=91 then 92::Aw c false else Aw c false)=Aw c true:=by decide
theorem cU (ps:List Pc)(b:Bool)(h:∀p∈ps,O1 p):Oz (ps,b)=(Ce b ps).flatten:=by
 rw[Jd]
 have hk:∀p∈Ax ps,O1 p:=λp hp=>h p ((mem_filter.mp hp).1)
 show Hm (B8 (StrLaws.dbl 92 (Av b++Ag (Ax ps))))=_
 rw[StrLaws.dbl_append,Dw,Vq _ hk]
 generalize Ax ps=k at hk⊢
 cases k with
 |nil=>cases b<;>decide
 |cons p r=>
  have hx:=(hk p mem_cons_self).1
  have hs:=Vy _ hx
  rw[Ol,flatten_cons]
  cases e:Aw p.x false with
  |nil=>exact absurd e (cK _ hx _)
  |cons c t=>
   cases b with
   |true=>show Hm (33::c::(t++_))=(([91]::[94]::Aw p.x false::(Da p++C6 r))++[[93]]).flatten;rw[Xc,e];simp
   |false=>
    rw[e]at hs
    show Hm (c::(t++_))=(([91]::Aw p.x true::(Da p++C6 r))++[[93]]).flatten
    rw[bI (show c≠33 from hs.1),<-hs.2]
    have:(c::t).headD 0=c:=rfl
    rw[this]
    by_cases hc:c=94\/c=91
    ·rw[if_pos hc,if_pos hc];simp
    ·rw[if_neg hc,if_neg hc];simp
noncomputable def Hf (u:List Nat):Bool:=match u with
 |[c]=>c != 92
 |[d,_]=>d==92
 |_=>false
theorem D8 {u:List Nat}(h:Hf u=true):(∃c,c≠92/\u=[c])\/∃c,u=[92,c]:=by
 match u,h with
 |[c],h=>exact .inl ⟨c,bne_iff_ne.mp h,rfl⟩
 |[d,c],h=>exact .inr ⟨c,by rw[show d=92 from eq_of_beq h]⟩
theorem Lx:∀(us:US) (i:Nat),(∀u∈us,Hf u=true)->(A9 i false us.flatten).map Gr=Cq ((i:Int)-1) us/\(A9 i false us.flatten).map (·.2)=us:=by
 intro lq
 induction lq with
 |nil=>intro i _;exact⟨rfl,rfl⟩
 |cons u r ih=>
  intro i h
  rw[flatten_cons]
  rcases D8 (h u mem_cons_self)with⟨c,hc,rfl⟩|⟨c,rfl⟩
  ·refine Ae (ih (i+1) λv hv=>h v (mem_cons_of_mem _ hv)) λh1 h2=>?_
   have e:A9 i false ([c]++r.flatten)=((i:Int),[c])::A9 (i+1) false r.flatten:=by
    show A9 i false (c::r.flatten)=_
    exact Tq hc i _
   rw[e,map_cons,map_cons,h1,h2]
   refine⟨?_,rfl⟩
   rw[Ld]
   have e1:(i:Int)-1+(([c]:List Nat).length:Int)=i:=by simp
   have e2:((i+1:Nat):Int)-1=i:=by simp
   rw[e1,e2];rfl
  ·refine Ae (ih (i+2) λv hv=>h v (mem_cons_of_mem _ hv)) λh1 h2=>?_
   have e:A9 i false ([92,c]++r.flatten)=(((i+1:Nat):Int),[92,c])::A9 (i+2) false r.flatten:=by
    show A9 i false (92::c::r.flatten)=_
    rfl
   rw[e,map_cons,map_cons,h1,h2]
   refine⟨?_,rfl⟩
   rw[Ld]
   have e1:(i:Int)-1+(([92,c]:List Nat).length:Int)=((i+1:Nat):Int):=by simp;simp +arith only
   have e2:((i+2:Nat):Int)-1=((i+1:Nat):Int):=by simp;exact iQ _
   rw[e1,e2];rfl
theorem Vz:∀c∈sg,∀f,Hf (Aw c f)=true:=by decide
theorem cV {p:Pc}(h:O1 p){P:List Nat->Prop}(hd:P [45])(hs:∀c∈sg,∀f,P (Aw c f)):∀u∈Da p,P u:=λu hu=>by
 unfold Da at hu
 split at hu
 ·cases hu
 ·rcases mem_cons.mp hu with rfl|hu
  ·exact hd
  ·rw[mem_singleton.mp hu];exact hs _ h.2.1 _
theorem Qi {P:List Nat->Prop}(hd:P [45])(hs:∀c∈sg,∀f,P (Aw c f)):∀(k:List Pc),(∀p∈k,O1 p)->∀u∈C6 k,P u:=by
 intro lq
 induction lq with
 |nil=>intro _ u hu;exact nomatch hu
 |cons p r ih=>
  intro h u hu
  rcases mem_cons.mp hu with rfl|hu
  ·exact hs _ (h p mem_cons_self).1 _
  ·rcases mem_append.mp hu with hu|hu
   ·exact cV (h p mem_cons_self) hd hs u hu
   ·exact ih (λq hq=>h q (mem_cons_of_mem _ hq)) u hu
theorem Z4 {P:List Nat->Prop}(hd:P [45])(hs:∀c∈sg,∀f,P (Aw c f))(k:List Pc)(h:∀p∈k,O1 p):∀u∈U5 k,P u:=λu hu=>by
 cases k with
 |nil=>cases hu
 |cons p r=>
  rcases mem_cons.mp hu with rfl|hu
  ·exact hs _ (h p mem_cons_self).1 _
  ·exact Qi hd hs (p::r) h u (mem_cons_of_mem _ hu)
noncomputable def aH:US:=[[46],[40],[63],[33],[41],[91],[94],[93],[45],[115],[58],[92,90]]
theorem Vl {P:List Nat->Prop}(hf:∀u∈aH,P u)(hs:∀c∈sg,∀f,P (Aw c f))(b:Bool)(k:List Pc)(h:∀p∈k,O1 p):∀u∈Og b k,P u:=by
 have f:=λu (hu:u∈aH)=>hf u hu
 cases k with
 |nil=>
  intro u hu
  refine hf u ?_
  revert u
  cases b<;>decide
 |cons p r=>
  intro u hu
  rcases mem_append.mp hu with hu|hu
  ·cases b with
   |true=>
    rcases mem_cons.mp hu with rfl|hu
    ·exact f _ (by decide)
    ·rcases mem_cons.mp hu with rfl|hu
     ·exact f _ (by decide)
     ·exact Qi (f _ (by decide)) hs _ h u hu
   |false=>
    rcases mem_cons.mp hu with rfl|hu
    ·exact f _ (by decide)
    ·exact Z4 (f _ (by decide)) hs _ h u hu
  ·rw[mem_singleton.mp hu];exact f _ (by decide)
theorem De {bs:List Br}{b:Br}(h:b.op=true)(u:List Nat):A3 (bs++[b]) u=bs++[C9 b u]:=by
 unfold A3
 rw[getLast?_concat]
 dsimp only
 rw[if_pos h,dropLast_concat]
theorem Ci {bs:List Br}(h:∀b,bs.getLast?=some b->b.op=false)(u:List Nat):A3 bs u=G9 bs u:=by
 unfold A3
 cases e:bs.getLast? with
 |none=>rfl
 |some b=>dsimp only;rw[h b e,if_neg Bool.false_ne_true]
noncomputable def C3:List Br->US->Prop
 |_,[]=>True
 |bs,u::r=>(u=cs "-"->∀b,bs.getLast?=some b->b.op=true->b.ps≠[])/\C3 (A3 bs u) r
theorem jR (bs:List Br)(u:List Nat)(r:US):C3 bs (u::r)=((u=cs "-"->∀b,bs.getLast?=some b->b.op=true->b.ps≠[])/\C3 (A3 bs u) r):=rfl
theorem D9:∀(l r:US) (bs:List Br),C3 bs l->C3 (l.foldl A3 bs) r->C3 bs (l++r):=by
 intro lq
 induction lq with
 |nil=>intro _ _ _ h;exact h
 |cons u l ih=>
  intro r bs h h2
  exact⟨h.1,ih r _ h.2 h2⟩
noncomputable def Qd (b:Br):Prop:=b.op=true/\∀q,b.ps.getLast?=some q->q.2≠none
noncomputable def G7 (b:Br) (ps:List Pc):Br:={b with ps:=b.ps++ps.map λp=>([p.x],some [p.y])}
theorem Ia:∀c∈sg,∀f,Aw c f≠cs "]"/\Aw c f≠cs "-"/\(Aw c f).drop ((Aw c f).length - 1)=[c]:=by decide
theorem Vt {b:Br}{c:Nat}{f:Bool}(hc:c∈sg)(hw:Qd b)(hh:¬(Aw c f=cs "^"/\b.ps=[]/\b.bar=false)):C9 b (Aw c f)={b with ps:=b.ps++[([c],some [c])]}:=by
 refine A0 (Ia c hc f) λh1 h2 h3=>?_
 exact Yl h1 hh h2 h3 λx e=>absurd rfl (hw.2 _ e)
theorem Nb {b:Br}{c:Nat}:C9 {b with ps:=b.ps++[([c],some [c])]} [45]={b with ps:=b.ps++[([c],none)]}:=
 Uq (by decide) (λh=>absurd h.1 (by decide)) (by decide) rfl
theorem Xw {b:Br}{c d:Nat}(hd:d∈sg):C9 {b with ps:=b.ps++[([c],none)]} (Aw d false)={b with ps:=b.ps++[([c],some [d])]}:=by
 refine A0 (Ia d hd false) λh1 h2 h3=>?_
 exact Ym h1 (λh=>absurd h.2.1 (by simp)) h2 h3 rfl
theorem M5 (b:Br)(p:Pc)(h:b.op=true):Qd (G7 b [p]):=⟨h,λq e=>by
 unfold G7 at e
 rw[map_cons,map_nil,getLast?_concat]at e
 cases e;exact Option.some_ne_none _⟩
theorem Q1 {bs:List Br}{b:Br}{p:Pc}{f:Bool}(hp:O1 p)(hw:Qd b)(hh:¬(Aw p.x f=cs "^"/\b.ps=[]/\b.bar=false)):
  (Aw p.x f::Da p).foldl A3 (bs++[b])=bs++[G7 b [p]]/\C3 (bs++[b]) (Aw p.x f::Da p):=by
 have s1:=Vt (f:=f) hp.1 hw hh
 unfold Da G7
 rw[jR,foldl_cons,De hw.1,s1]
 have hd:Aw p.x f=cs "-"->∀b',(bs++[b]).getLast?=some b'->b'.op=true->b'.ps≠[]:=λe=>absurd e (Ia _ hp.1 f).2.1
 cases hl:p.lone with
 |true=>rw[if_pos rfl];exact⟨by rw[List.foldl_nil,map_cons,map_nil,<-hp.2.2 hl],hd,trivial⟩
 |false=>
  rw[if_neg Bool.false_ne_true,foldl_cons,De (b:={b with ps:=b.ps++[([p.x],some [p.x])]}) hw.1,Nb,foldl_cons,De (b:={b with ps:=b.ps++[([p.x],none)]}) hw.1,Xw hp.2.1]
  refine⟨rfl,hd,λ_ b' e _=>?_,?_⟩
  ·rw[getLast?_concat]at e
   cases e;simp
  ·rw[De (b:={b with ps:=b.ps++[([p.x],some [p.x])]}) hw.1,Nb]
   exact⟨λe=>absurd e (Ia _ hp.2.1 false).2.1,trivial⟩
theorem Vk (b:Br)(p:Pc)(r:List Pc):G7 (G7 b [p]) r=G7 b (p::r):=by unfold G7;simp
theorem Ji {bs:List Br}:∀(k:List Pc) (b:Br),(∀p∈k,O1 p)->Qd b->(b.ps≠[]\/b.bar=true)->(C6 k).foldl A3 (bs++[b])=bs++[G7 b k]/\C3 (bs++[b]) (C6 k)
 |[],b,_,_,_=>⟨by unfold G7;rw[map_nil,append_nil];rfl,trivial⟩
 |p::r,b,h,hw,hb=>by
  refine Ae (Q1 (bs:=bs) (f:=false) (h p mem_cons_self) hw λhh=>hb.elim (λx=>x hh.2.1) λx=>by rw[hh.2.2]at x;cases x) λh1 h2=>?_
  refine Ae (Ji (bs:=bs) r (G7 b [p]) (λq hq=>h q (mem_cons_of_mem _ hq)) (M5 b p hw.1) (.inl (by simp[G7]))) λh3 h4=>?_
  show((Aw p.x false::Da p)++C6 r).foldl A3 _=_/\C3 _ ((Aw p.x false::Da p)++C6 r)
  rw[foldl_append,h1,h3,Vk]
  exact⟨rfl,D9 _ _ _ h2 (by rw[h1];exact h4)⟩
noncomputable def I6 (b:Bool) (k:List Pc):Br:=⟨b,k.map λp=>([p.x],some [p.y]),false⟩
noncomputable def cL (bs:List Br):Prop:=∀b,bs.getLast?=some b->b.op=false
theorem Qt (bs:List Br)(b:Bool)(k:List Pc):cL (bs++[I6 b k]):=λx e=>by
 rw[getLast?_concat]at e;cases e;rfl
theorem Sw:∀c∈sg,Aw c true≠cs "^":=by decide
theorem Yt {bs:List Br}(hs:cL bs)(b:Bool)(k:List Pc)(h:∀p∈k,O1 p):(Og b k).foldl A3 bs=bs++[I6 b k]/\C3 bs (Og b k):=by
 cases k with
 |nil=>
  cases b with
  |true=>
   show A3 bs [46]=_/\_/\True
   rw[Ci hs]
   exact⟨rfl,λe=>absurd e (by decide),trivial⟩
  |false=>
   have e1:A3 bs [40]=bs:=by rw[Ci hs];rfl
   have e2:A3 bs [63]=bs:=by rw[Ci hs];rfl
   have e3:A3 bs [33]=bs++[I6 false []]:=by rw[Ci hs];rfl
   have e4:A3 (bs++[I6 false []]) [41]=bs++[I6 false []]:=by rw[Ci (Qt _ _ _)];rfl
   show A3 (A3 (A3 (A3 bs [40]) [63]) [33]) [41]=_/\(_/\_/\_/\_/\True)
   rw[e1,e2,e3,e4]
   exact⟨rfl,λe=>absurd e (by decide),λe=>absurd e (by decide),λe=>absurd e (by decide),λe=>absurd e (by decide),trivial⟩
 |cons p r=>
  have e0:A3 bs [91]=bs++[⟨false,[],true⟩]:=by rw[Ci hs];rfl
  have w0:∀x,Qd ⟨x,[],true⟩:=λx=>⟨rfl,λq e=>by cases e⟩
  have fin:∀(b':Br),b'.op=true->A3 (bs++[b']) [93]=bs++[{b' with op:=false}]:=λb' hb=>by
   rw[De hb];unfold C9;rw[if_pos (by decide)]
  have nd:∀(u:List Nat) (bs:List Br),u≠cs "-"->(u=cs "-"->∀b,bs.getLast?=some b->b.op=true->b.ps≠[]):=λu bs h e=>absurd e h
  cases b with
  |true=>
   refine Ae (Ji (bs:=bs) (p::r) ⟨true,[],true⟩ h (w0 true) (.inr rfl)) λh1 h2=>?_
   have e1:A3 (bs++[⟨false,[],true⟩]) [94]=bs++[⟨true,[],true⟩]:=by rw[De rfl];rfl
   show(([91]::[94]::C6 (p::r))++[[93]]).foldl A3 bs=_/\C3 bs (([91]::[94]::C6 (p::r))++[[93]])
   have hf:([91]::[94]::C6 (p::r)).foldl A3 bs=bs++[G7 ⟨true,[],true⟩ (p::r)]:=by rw[foldl_cons,foldl_cons,e0,e1,h1]
   rw[foldl_append,hf]
   refine⟨fin _ rfl,D9 _ _ _ ⟨nd _ _ (by decide),nd _ _ (by decide),?_⟩ ⟨nd _ _ (by decide),trivial⟩⟩
   rw[e0,e1];exact h2
  |false=>
   refine Ae (Q1 (bs:=bs) (f:=true) (h p mem_cons_self) (w0 false) λhh=>Sw _ (h p mem_cons_self).1 hh.1) λh1 h2=>?_
   refine Ae (Ji (bs:=bs) r (G7 ⟨false,[],true⟩ [p]) (λq hq=>h q (mem_cons_of_mem _ hq)) (M5 _ p rfl) (.inl (by simp[G7]))) λh3 h4=>?_
   show(([91]::((Aw p.x true::Da p)++C6 r))++[[93]]).foldl A3 bs=_/\C3 bs (([91]::((Aw p.x true::Da p)++C6 r))++[[93]])
   have hf:([91]::((Aw p.x true::Da p)++C6 r)).foldl A3 bs=bs++[G7 ⟨false,[],true⟩ (p::r)]:=by rw[foldl_cons,e0,foldl_append,h1,h3,Vk]
   rw[foldl_append,hf]
   refine⟨fin _ rfl,D9 _ _ _ ⟨nd _ _ (by decide),?_⟩ ⟨nd _ _ (by decide),trivial⟩⟩
   rw[e0];exact D9 _ _ _ h2 (by rw[h1];exact h4)
noncomputable def C4 (rows:List Eb):US:=[[40],[63],[115],[58]]++((rows.map λr=>Ce r.2 r.1).flatten++[[41],[92,90]])
noncomputable def fH (rows:List Eb):Prop:=∀r∈rows,∀p∈r.1,O1 p
theorem Rf {rows:List Eb}(h:fH rows){r:Eb}(hr:r∈rows):∀p∈Ax r.1,O1 p:=λp hp=>h r hr p (mem_filter.mp hp).1
theorem Sb {P:List Nat->Prop}(hf:∀u∈aH,P u)(hs:∀c∈sg,∀f,P (Aw c f))(rows:List Eb)(h:fH rows):∀u∈C4 rows,P u:=λu hu=>by
 rcases mem_append.mp hu with hu|hu
 ·exact hf u ((by decide:∀u∈([[40],[63],[115],[58]]:US),u∈aH) u hu)
 ·rcases mem_append.mp hu with hu|hu
  ·refine Ac (List.mem_flatten.mp hu) λl hl hu=>?_
   refine Ac (mem_map.mp hl) λr hr Z=>?_
   subst Z
   rw[Jd]at hu
   exact Vl hf hs _ _ (Rf h hr) u hu
  ·exact hf u ((by decide:∀u∈([[41],[92,90]]:US),u∈aH) u hu)
theorem V5 (rows:List Eb)(h:fH rows):∀u∈C4 rows,Hf u=true:=Sb (P:=λu=>Hf u=true) (by decide) Vz rows h
theorem Sy (rows:List Eb)(h:fH rows):∀u∈C4 rows,(u.all λc=>decide (c<0x110000))=true:=Sb (P:=λu=>(u.all λc=>decide (c<0x110000))=true) (by decide) (by decide) rows h
theorem Wa:∀(rows:List Eb) (bs:List Br),fH rows->cL bs->((rows.map λr=>Ce r.2 r.1).flatten).foldl A3 bs=bs++rows.map (λr=>I6 r.2 (Ax r.1))/\cL (((rows.map λr=>Ce r.2 r.1).flatten).foldl A3 bs)/\C3 bs (rows.map λr=>Ce r.2 r.1).flatten:=by
 intro lq
 induction lq with
 |nil=>intro bs _ hs;exact⟨(append_nil bs).symm,hs,trivial⟩
 |cons r rows ih=>
  intro bs h hs
  refine Ae (Yt hs r.2 (Ax r.1) (Rf h mem_cons_self)) λh1 h2=>?_
  refine A0 (ih (bs++[I6 r.2 (Ax r.1)]) (λq hq=>h q (mem_cons_of_mem _ hq)) (Qt _ _ _)) λh3 h4 h5=>?_
  rw[map_cons,flatten_cons,foldl_append,Jd,h1]
  refine⟨by rw[h3,append_assoc];rfl,h4,D9 _ _ _ h2 (by rw[h1];exact h5)⟩
theorem Yu (rows:List Eb)(h:fH rows):(C4 rows).foldl A3 []=rows.map (λr=>I6 r.2 (Ax r.1))/\C3 [] (C4 rows):=by
 refine A0 (Wa rows [] h λb e=>by cases e) λh1 h2 h3=>?_
 rw[nil_append]at h1
 unfold C4
 have e0:([[40],[63],[115],[58]]:US).foldl A3 []=[]:=rfl
 rw[h1]at h2
 rw[foldl_append,e0,foldl_append,h1]
 have e1:A3 (rows.map λr=>I6 r.2 (Ax r.1)) [41]=rows.map λr=>I6 r.2 (Ax r.1):=by rw[Ci h2];rfl
 have e2:A3 (rows.map λr=>I6 r.2 (Ax r.1)) [92,90]=rows.map λr=>I6 r.2 (Ax r.1):=by rw[Ci h2];rfl
 refine⟨?_,D9 _ _ _ ?_ ?_⟩
 ·show A3 (A3 _ [41]) [92,90]=_;rw[e1,e2]
 ·exact⟨λe=>absurd e (by decide),λe=>absurd e (by decide),λe=>absurd e (by decide),λe=>absurd e (by decide),trivial⟩
 ·rw[e0]
  exact D9 _ _ _ h3 ⟨λe=>absurd e (by decide),λe=>absurd e (by decide),trivial⟩
theorem Vv (b:Br)(u:List Nat):(C9 b u).ps.length<=b.ps.length+1:=by
 have d:∀x,(b.ps.dropLast++[x]).length<=b.ps.length+1:=λx=>by rw[length_append,List.length_dropLast,length_singleton];exact Ah (sub_le (b.ps.length) (1))
 have a:∀x,(b.ps++[x]).length<=b.ps.length+1:=λx=>by rw[length_append,length_singleton];exact le_refl _
 refine O8 (λb':Br=>b'.ps.length<=b.ps.length+1) (λ_=>le_succ _) λ_=>O8 (λb':Br=>b'.ps.length<=b.ps.length+1) (λ_=>le_succ _) λ_=>O8 (λb':Br=>b'.ps.length<=b.ps.length+1) (λ_=>?_) λ_=>?_
 ·cases b.ps.getLast? with
  |none=>exact zero_le _
  |some p=>exact d _
 ·cases b.ps.getLast? with
  |none=>exact a _
  |some q=>
   cases q with
   |mk x o=>
    cases o with
    |none=>exact d _
    |some y=>exact a _
theorem Vu {n:Nat}{bs:List Br}(u:List Nat)(h:bs.length<=n/\∀b∈bs,b.ps.length<=n):(A3 bs u).length<=n+1/\∀b∈A3 bs u,b.ps.length<=n+1:=by
 have hS:(G9 bs u).length<=n+1/\∀b∈G9 bs u,b.ps.length<=n+1:=by
  unfold G9
  split
  ·refine⟨by rw[length_append,length_singleton];exact succ_le_succ h.1,λb hb=>?_⟩
   rcases mem_append.mp hb with hb|hb
   ·exact le_succ_of_le (h.2 b hb)
   ·rw[mem_singleton.mp hb];exact zero_le _
  ·exact⟨le_succ_of_le h.1,λb hb=>le_succ_of_le (h.2 b hb)⟩
 unfold A3
 split
 ·exact hS
 ·rename_i b e
  split
  ·have hm:=List.mem_of_getLast? e
   refine⟨by rw[length_append,List.length_dropLast,length_singleton];exact succ_le_succ (le_trans (sub_le _ _) h.1),λb' hb=>?_⟩
   rcases mem_append.mp hb with hb|hb
   ·exact le_succ_of_le (h.2 b' (List.dropLast_subset _ hb))
   ·rw[mem_singleton.mp hb];exact le_trans (Vv b u) (succ_le_succ (h.2 b hm))
  ·exact hS
theorem Tn:∀(ps:List (Int×List Nat)) (bs:List Br) (n:Nat),(∀p∈ps,Hf p.2=true)->bs.length<=n->(∀b∈bs,b.ps.length<=n)->n+ps.length<=10000->C3 bs (ps.map (·.2))->Gx bs ps:=by
 intro lq
 induction lq with
 |nil=>intro _ _ _ _ _ _ _;exact trivial
 |cons p r ih=>
  intro bs n hg h1 h2 hn hd
  rw[length_cons]at hn
  have hl:=Vu p.2 ⟨h1,h2⟩
  have hu:p.2≠[]/\p.2.length<=100:=by
   rcases D8 (hg p mem_cons_self)with⟨c,_,e⟩|⟨c,e⟩<;>rw[e]<;>exact⟨cons_ne_nil _ _,by simp⟩
  exact⟨hu.1,hu.2,by exact Ah (add_le_add h1 hn),λb hb=>by exact Ah (add_le_add (h2 b hb) hn),hd.1,ih _ (n+1) (λq hq=>hg q (mem_cons_of_mem _ hq)) hl.1 hl.2 (by exact Ah hn) hd.2⟩
theorem aD:∀(ps:List (Int×List Nat)) (bs:List Br),ps.foldl (λbs p=>A3 bs p.2) bs=(ps.map (·.2)).foldl A3 bs:=by
 intro lq
 induction lq with
 |nil=>intro _;exact rfl
 |cons p r ih=>intro bs;exact ih _
section
open Builtin.Str (occurrences partsBetween glued)
theorem Jv (a b:Str):(a++b).cps=a.cps++b.cps:=rfl
noncomputable def Pq:Nat->List Nat->Bool
 |n,[]=>n==0
 |n,c::r=>if c=40 then Pq (n+1) r else if c=41 then(match n with|0=>false|n+1=>Pq n r)else Pq n r
theorem eG {s t:List Nat}(h:∀n,Pq n s=Pq n t):∀(p:List Nat) (n:Nat),Pq n (p++s)=Pq n (p++t):=by
 intro lq
 induction lq with
 |nil=>intro n;exact h n
 |cons c p ih=>
  intro n
  show(if c=40 then Pq (n+1) (p++s)else if c=41 then(match n with|0=>false|n+1=>Pq n (p++s))else Pq n (p++s))=(if c=40 then Pq (n+1) (p++t)else if c=41 then(match n with|0=>false|n+1=>Pq n (p++t))else Pq n (p++t))
  rw[ih (n+1),ih n]
  cases n with
  |zero=>rfl
  |succ n=>dsimp only;rw[ih n]
theorem R7:∀(ps:List Str),(∀n,Pq n (Str.join ⟨#[40,41]⟩ ps).cps.toList=Pq n (Str.join ⟨#[]⟩ ps).cps.toList)/\∀c∈(Str.join ⟨#[]⟩ ps).cps.toList,c∈(Str.join ⟨#[40,41]⟩ ps).cps.toList
 |[]=>⟨λ_=>rfl,λ_ h=>h⟩
 |[x]=>⟨λ_=>rfl,λ_ h=>h⟩
 |x::y::r=>by
  refine Ae (R7 (y::r)) λh1 h2=>?_
  have e1:(Str.join ⟨#[40,41]⟩ (x::y::r)).cps.toList=x.cps.toList++(40::41::(Str.join ⟨#[40,41]⟩ (y::r)).cps.toList):=by
   show(x++⟨#[40,41]⟩++Str.join ⟨#[40,41]⟩ (y::r)).cps.toList=_
   rw[Jv,Jv];simp
  have e2:(Str.join ⟨#[]⟩ (x::y::r)).cps.toList=x.cps.toList++(Str.join ⟨#[]⟩ (y::r)).cps.toList:=by
   show(x++⟨#[]⟩++Str.join ⟨#[]⟩ (y::r)).cps.toList=_
   rw[Jv,Jv];simp
  rw[e1,e2]
  refine⟨eG (s:=40::41::(Str.join ⟨#[40,41]⟩ (y::r)).cps.toList) (λn=>h1 n) _,λc hc=>?_⟩
  rcases mem_append.mp hc with h|h
  ·exact List.mem_append_left _ h
  ·exact mem_append_right _ (mem_cons_of_mem _ (mem_cons_of_mem _ (h2 c h)))
theorem V6 (x:List Nat):∃ps:List Str,x=(Str.join ⟨#[40,41]⟩ ps).cps.toList/\Bq x (cs "()") []=(Str.join ⟨#[]⟩ ps).cps.toList:=by
 have e:cs "()"=[40,41]:=by decide
 unfold Bq Txt.replace
 rw[e]
 by_cases hc:((occurrences ⟨x.toArray⟩ ⟨[40,41].toArray⟩ 0 (⟨x.toArray⟩:Str).length ((⟨x.toArray⟩:Str).length+1)).isEmpty||((⟨[40,41].toArray⟩:Str).length==0&&(⟨([]:List Nat).toArray⟩:Str).length==0))=true
 ·rw[if_pos hc];exact⟨[⟨x.toArray⟩],rfl,rfl⟩
 ·rw[if_neg hc,StrLaws.glued_eq_join,StrLaws.partsBetween_eq]
  refine Af (StrLaws.occ_chain ⟨x.toArray⟩ ⟨#[40,41]⟩ ((⟨x.toArray⟩:Str).length+1)) λf h=>?_
  refine⟨_,?_,rfl⟩
  have:=StrLaws.join_partsFrom ⟨x.toArray⟩ ⟨#[40,41]⟩ _ 0 f h
  rw[this,StrLaws.sub_whole]
theorem Za {x:List Nat}{i:Nat}(h:(x.drop i).take 2=[40,41]):By (cs "()") x=true:=by
 unfold By
 have e:cs "()"=[40,41]:=by decide
 rw[e]
 refine(StrLaws.found_iff _ _).mpr ⟨i,?_,?_⟩
 ·have h1:=congrArg List.length h
  simp only[length_take,length_drop,length_cons,length_nil]at h1
  show i+2<=(⟨x.toArray⟩:Str).length
  rw[Az];exact Nat.lt_sub_iff_add_lt'.1 (le_trans (le_of_eq h1.symm) (min_le_right 2 _):1<x.length-i)
 ·rw[StrLaws.subAt_eq]
  show((x.drop i).take 2==[40,41])=true
  rw[h];rfl
theorem Vn:∀(x:List Nat) (n:Nat),(∀i,((40::x).drop i).take 2≠[40,41])->(∀c∈x,c=40\/c=41)->Pq (n+1) x=false:=by
 intro lq
 induction lq with
 |nil=>intro n _ _;exact rfl
 |cons c r ih=>
  intro n h hc
  rcases hc c mem_cons_self with rfl|rfl
  ·show Pq (n+2) r=false
   exact ih (n+1) (λi hi=>h (i+1) hi) λd hd=>hc d (mem_cons_of_mem _ hd)
  ·exact absurd rfl (h 0)
theorem Vs:∀(k:Nat) (x:List Nat),x.length<=k->(∀c∈x,c=40\/c=41)->decide (Ei k x=[])=Pq 0 x:=by
 intro lq
 induction lq with
 |zero=>intro x hl _;rw[List.eq_nil_of_length_eq_zero (Nat.le_zero.mp hl)];rfl
 |succ k ih=>
  intro x hl hc
  rw[E6]
  by_cases hs:By (cs "()") x=true
  ·rw[if_pos hs]
   have hsh:=Dk x (cs "()") (by decide) hs
   have h2:(cs "()").length=2:=by decide
   refine Ac (V6 x) λps e1 e2=>?_
   refine Ae (R7 ps) λh3 h4=>?_
   rw[ih _ (by exact Ah (add_le_add (add_le_add hsh hl) (le_of_eq h2.symm))) λc hh=>hc c (by rw[e1];rw[e2]at hh;exact h4 c hh),e2,<-h3 0,<-e1]
  ·rw[if_neg hs]
   cases x with
   |nil=>rfl
   |cons c r=>
    rw[decide_eq_false (cons_ne_nil _ _)]
    rcases hc c mem_cons_self with rfl|rfl
    ·exact(Vn r 0 (λi hi=>hs (Za hi)) λd hd=>hc d (mem_cons_of_mem _ hd)).symm
    ·rfl
noncomputable def Cj:List Nat->List (List Nat)
 |[]=>[[]]
 |c::r=>if c=34 then[]::Cj r else match Cj r with|h::t=>(c::h)::t|[]=>[]
theorem Eu (c:Nat)(r:List Nat):Cj (c::r)=if c=34 then[]::Cj r else match Cj r with|h::t=>(c::h)::t|[]=>[]:=rfl
theorem J4:∀x:List Nat,∃h t,Cj x=h::t:=by
 intro lq
 induction lq with
 |nil=>exact⟨_,_,rfl⟩
 |cons c r ih=>
  rw[Eu]
  split
  ·exact⟨_,_,rfl⟩
  ·refine Gp (ih) λh t e=>?_
   rw[e];exact⟨_,_,rfl⟩
theorem Qn:∀(p:List Nat),34∉p->Cj p=[p]:=by
 intro lq
 induction lq with
 |nil=>intro _;exact rfl
 |cons c p ih=>
  intro h
  have h1:¬c=34:=λe=>h (e▸mem_cons_self)
  rw[Eu,if_neg h1,ih λm=>h (mem_cons_of_mem _ m)]
theorem Sp:∀(p s:List Nat),34∉p->Cj (p++34::s)=p::Cj s:=by
 intro lq
 induction lq with
 |nil=>intro s _;show Cj (34::s)=_;rw[Eu,if_pos rfl]
 |cons c p ih=>
  intro s h
  have h1:¬c=34:=λe=>h (e▸mem_cons_self)
  show Cj (c::(p++34::s))=_
  rw[Eu,if_neg h1,ih s λm=>h (mem_cons_of_mem _ m)]
theorem J3:∀(ps:List Str),ps≠[]->(∀p∈ps,34∉p.cps.toList)->Cj (Str.join ⟨#[34]⟩ ps).cps.toList=ps.map λp=>p.cps.toList
 |[],h,_=>absurd rfl h
 |[x],_,h=>Qn _ (h x mem_cons_self)
 |x::y::r,_,h=>by
  have e1:(Str.join ⟨#[34]⟩ (x::y::r)).cps.toList=x.cps.toList++(34::(Str.join ⟨#[34]⟩ (y::r)).cps.toList):=by
   show(x++⟨#[34]⟩++Str.join ⟨#[34]⟩ (y::r)).cps.toList=_
   rw[Jv,Jv];simp
  rw[e1,Sp _ _ (h x mem_cons_self),J3 (y::r) (cons_ne_nil _ _) λp hp=>h p (mem_cons_of_mem _ hp)];rfl
theorem Xz (x:List Nat):Bj x (cs "\"")=Cj x:=by
 have e:(⟨(cs "\"").toArray⟩:Str)=⟨#[34]⟩:=rfl
 unfold Bj
 rw[e]
 have hj:=StrLaws.join_split ⟨x.toArray⟩ ⟨#[34]⟩
 have hf:=StrLaws.split_free ⟨x.toArray⟩ 34
 have hl:=PyProof.Rows.split_len ⟨x.toArray⟩ 34
 have hc:(0:Int)<=cnt 34 (⟨x.toArray⟩:Str).cps.toList:=countIn_nonneg _ _
 have hn:Txt.split ⟨x.toArray⟩ ⟨#[34]⟩≠[]:=λh=>by rw[h,length_nil]at hl;exact Int.ne_of_lt (Int.add_pos_of_pos_of_nonneg (by decide) hc) hl
 have:=J3 _ hn hf
 rw[hj]at this
 exact this.symm
noncomputable def Hj:List (List Nat)->List (List Nat)
 |[]=>[]
 |[a]=>[a]
 |a::_::r=>a::Hj r
theorem Lw:∀(l:List (List Nat)) (f:Nat->Option (List Nat)),(∀i,i<l.length->f i=l[i]?)->((List.range ((l.length+1)/2)).map λk=>2*k).filterMap f=Hj l
 |[],_,_=>rfl
 |[a],f,h=>by
  have e:(([a].length+1)/2)=1:=by rw[length_singleton]
  rw[e,show(List.range 1).map (λk=>2*k)=[0]by decide,filterMap_cons,h 0 (by simp)];rfl
 |a::b::r,f,h=>by
  have e:((a::b::r).length+1)/2=(r.length+1)/2+1:=Nat.add_div_right (r.length+1) (by decide:0<2)
  rw[e,List.range_succ_eq_map,map_cons,filterMap_cons,h 0 (by simp),map_map]
  have:=Lw r (λi=>f (i+2)) λi hi=>h (i+2) (by simp only[length_cons];exact Ah hi)
  have e2:(List.range ((r.length+1)/2)).map ((λk=>2*k)∘Nat.succ)=((List.range ((r.length+1)/2)).map λk=>2*k).map (·+2):=by rw[map_map];rfl
  rw[e2,List.filterMap_map]
  show a::_=a::_
  rw[<-this];rfl
theorem Ng (n:Nat):sliceRange 0 n 2=(List.range ((n+1)/2)).map λk=>2*k:=by
 unfold sliceRange
 dsimp only
 rw[if_pos (by decide)]
 have e:(if(0:Int)<(n:Int)then((n:Int)-0+2-1)/2 else 0).toNat=(n+1)/2:=by
  cases n with
  |zero=>rfl
  |succ m=>have h0:(0:Int)<((m+1:Nat):Int):=Int.ofNat_lt.2 (succ_pos m);rw[if_pos h0,Int.sub_zero,Int.add_sub_assoc];rfl
 rw[e]
 apply map_congr_left
 intro k _
 rw[Int.zero_add];rfl
theorem Y7 (l:List (List Nat)):C8 l none none (some 2)=Hj l:=by
 have e:sliceBounds none none (some 2) l.length=(0,(l.length:Int),2):=rfl
 unfold C8
 rw[e,Ng]
 exact Lw l _ λ_ _=>rfl
theorem Y8 (l:List (List Nat))(h:l≠[]):C8 l none (some (-1)) (some 2)=Hj l.dropLast:=by
 have hl:1<=l.length:=List.length_pos_iff.mpr h
 have e:sliceBounds none (some (-1)) (some 2) l.length=(0,((l.length-1:Nat):Int),2):=by
  unfold sliceBounds
  simp
  obtain⟨k,hk⟩:=Nat.exists_eq_add_of_le' hl
  rw[hk,show(-1:Int)+((k+1:Nat):Int)=k from(Int.add_comm _ _).trans (iQ k),Int.min_eq_left (Int.ofNat_le.2 (le_succ k)),Int.max_eq_right (Int.natCast_nonneg k)];rfl
 unfold C8
 rw[e,Ng]
 have:=Lw l.dropLast (λi=>l[i]?) λi hi=>by
  rw[List.length_dropLast]at hi
  rw[List.getElem?_dropLast,if_pos hi]
 rw[List.length_dropLast]at this
 exact this
end
noncomputable def Gf:Option US->US->US
 |none,[]=>[]
 |some p,[]=>p
 |none,u::r=>if u=[34]then Gf (some [u]) r else u::Gf none r
 |some p,u::r=>if u=[34]then Gf none r else Gf (some (p++[u])) r
theorem Jp (u:List Nat)(r:US):Gf none (u::r)=if u=[34]then Gf (some [u]) r else u::Gf none r:=rfl
theorem Lg (p:US)(u:List Nat)(r:US):Gf (some p) (u::r)=if u=[34]then Gf none r else Gf (some (p++[u])) r:=rfl
theorem M8 {X u rest:List Nat}{s pos:Nat}(h:s<=pos)(e:X.drop pos=u++rest):(X.drop s).take (pos+u.length-s)=(X.drop s).take (pos-s)++u:=by
 have e1:pos+u.length-s=(pos-s)+u.length:=by exact le_antisymm (Ah (add_le_add (le_of_eq (sub_add_cancel (Ah h:s<=pos+u.length))) (Bp (pos) (s)))) (Ah (add_le_add (le_of_eq (sub_add_cancel (Ah h:s<=pos))) (Bp (pos+u.length) (s))))
 rw[e1,List.take_add,drop_drop,show s+(pos-s)=pos by exact le_antisymm (Ah (le_of_eq (sub_add_cancel (Ah h:s<=pos)))) (Ah (Bp (pos) (s))),e,List.take_left]
noncomputable def oZ (X:List Nat) (pos:Nat) (q:QS) (pend:Option US) (done:List Nat):Prop:=match pend with
 |none=>∃s:Nat,q.op=none/\q.start=(s:Int)/\s<=pos/\done=q.res.flatten++(X.drop s).take (pos-s)
 |some p=>∃s o:Nat,q.op=some (o:Int)/\q.start=(s:Int)/\s<=o/\o<=pos/\done=q.res.flatten++(X.drop s).take (o-s)/\p.flatten=(X.drop o).take (pos-o)
theorem fE {X:List Nat}{q:QS}{s:Nat}(h:q.start=(s:Int))(hs:s<=X.length):Mr X q=q.res.flatten++X.drop s:=by
 unfold Mr
 rw[h]
 by_cases c:((s:Nat):Int)<X.length
 ·rw[if_pos c,L3 X s hs,flatten_append];simp
 ·rw[if_neg c,List.drop_eq_nil_of_le (by exact Ah (not_lt.1 (mt Int.ofNat_lt.2 c))),append_nil]
theorem Uu {X:List Nat}{q:QS}{p:Int×List Nat}(h:p.2≠[34]):B5 X q p=q:=if_neg h
theorem Z2 {X u rest:List Nat}{pos:Nat}{q:QS}{pend:Option US}{done:List Nat}(e:X.drop pos=u++rest)(I:oZ X pos q pend done):
  match pend with|none=>oZ X (pos+u.length) q none (done++u)|some p=>oZ X (pos+u.length) q (some (p++[u])) done:=by
 cases pend with
 |none=>
  refine Ck I λs h1 h2 h3 h4=>?_
  try clear I
  exact⟨s,h1,h2,by exact Ah h3,by rw[h4,M8 h3 e,append_assoc]⟩
 |some p=>
  refine Hh I λs o h1 h2 h3 h3' h4 h5=>?_
  try clear I
  exact⟨s,o,h1,h2,h3,by exact Ah h3',h4,by rw[M8 h3' e,<-h5];simp⟩
theorem Ut {X:List Nat}:∀(us:US) (pos:Nat) (q:QS) (pend:Option US) (done:List Nat),(∀u∈us,Hf u=true)->X.drop pos=us.flatten->pos<=X.length->oZ X pos q pend done->
  Mr X ((A9 pos false us.flatten).foldl (B5 X) q)=done++(Gf pend us).flatten
 |[],pos,q,pend,done,_,hd,hp,I=>by
  have hl:X.length<=pos:=by
   have:=congrArg List.length hd
   rw[length_drop]at this
   simp at this;exact Ah (add_le_add (Bp (X.length) (pos)) (le_of_eq this))
  have hl':pos=X.length:=by exact le_antisymm (Ah hp) (Ah hl)
  subst hl'
  cases pend with
  |none=>
   refine Ck I λs h1 h2 h3 h4=>?_
   try clear I
   show Mr X q=_
   rw[fE h2 h3,h4,take_of_length_le (by rw[length_drop];exact le_refl _)]
   exact(append_nil _).symm
  |some p=>
   refine Hh I λs o h1 h2 h3 h3' h4 h5=>?_
   try clear I
   show Mr X q=done++p.flatten
   rw[fE h2 (by exact Ah (add_le_add h3 h3')),h4,h5,append_assoc]
   congr 1
   rw[take_of_length_le (l:=X.drop o) (by rw[length_drop];exact le_refl _)]
   have:X.drop o=(X.drop s).drop (o-s):=by rw[drop_drop];congr 1;exact Pv (Ah h3)
   rw[this,take_append_drop]
 |u::r,pos,q,pend,done,hg,hd,hp,I=>by
  rw[flatten_cons]at hd⊢
  have hd2:X.drop (pos+u.length)=r.flatten:=by rw[<-drop_drop,hd,List.drop_left]
  have hp2:pos+u.length<=X.length:=by
   have:=congrArg List.length hd
   rw[length_drop,length_append]at this
   have hu:1<=u.length:=by rcases D8 (hg u mem_cons_self)with⟨c,_,e⟩|⟨c,e⟩<;>rw[e]<;>simp
   exact Ah (add_le_add (le_of_eq (sub_add_cancel (Ah hp:pos<=X.length))) (le_of_eq this.symm))
  have ih:=λq' pend' done'=>Ut (X:=X) r (pos+u.length) q' pend' done' (λv hv=>hg v (mem_cons_of_mem _ hv)) hd2 hp2
  have I':=Z2 hd I
  have other:u≠[34]->Mr X ((A9 (pos+u.length) false r.flatten).foldl (B5 X) q)=done++(Gf pend (u::r)).flatten:=λhu=>by
   cases pend with
   |none=>rw[ih q none _ I',Jp,if_neg hu,flatten_cons,append_assoc]
   |some p=>rw[ih q _ _ I',Lg,if_neg hu]
  rcases D8 (hg u mem_cons_self)with⟨c,hc,rfl⟩|⟨c,rfl⟩
  ·have e:A9 pos false ([c]++r.flatten)=((pos:Int),[c])::A9 (pos+1) false r.flatten:=by
    show A9 pos false (c::r.flatten)=_
    exact Tq hc _ _
   rw[e,foldl_cons]
   by_cases h34:c=34
   ·subst h34
    cases pend with
    |none=>
     refine Ck I λs h1 h2 h3 h4=>?_
     try clear I
     have e2:B5 X q ((pos:Int),[34])={q with op:=some (pos:Int)}:=by
      unfold B5;rw[if_pos (show[34]=cs "\"" by decide),h1]
     rw[e2]
     have:=ih {q with op:=some (pos:Int)} (some [[34]]) done ⟨s,pos,rfl,h2,h3,le_add_right _ _,h4,by
      rw[Nat.add_sub_cancel_left,hd];rfl⟩
     exact this
    |some p=>
     refine Hh I λs o h1 h2 h3 h3' h4 h5=>?_
     try clear I
     have e2:B5 X q ((pos:Int),[34])=⟨(pos:Int)+1,none,if(q.start != (o:Int))=true then q.res++[E4 X (some q.start) (some (o:Int))]else q.res⟩:=by
      unfold B5;rw[if_pos (show[34]=cs "\"" by decide),h1]
     rw[e2]
     have:=ih ⟨(pos:Int)+1,none,if(q.start != (o:Int))=true then q.res++[E4 X (some q.start) (some (o:Int))]else q.res⟩ none done ⟨pos+1,rfl,by simp,le_refl _,by
      rw[show pos+([34]:List Nat).length - (pos+1)=0 by simp,List.take_zero,append_nil,h4,h2]
      by_cases hso:s=o
      ·subst hso;simp
      ·rw[if_pos (by simp;exact mt Int.ofNat_inj.1 hso),Vg X s o h3 (by exact Ah (add_le_add h3' hp)),flatten_append];simp⟩
     exact this
   ·rw[Uu (λh=>h34 (by injection h))]
    exact other λh=>h34 (by injection h)
  ·have e:A9 pos false ([92,c]++r.flatten)=(((pos+1:Nat):Int),[92,c])::A9 (pos+2) false r.flatten:=by
    show A9 pos false (92::c::r.flatten)=_
    rfl
   rw[e,foldl_cons,Uu (λh=>by cases h)]
   exact other λh=>by cases h
theorem iE:∀us:US,(∀u∈us,u≠[34])->Gf none us=us:=by
 intro lq
 induction lq with
 |nil=>intro _;exact rfl
 |cons u r ih=>intro h;rw[Jp,if_neg (h u mem_cons_self),ih λv hv=>h v (mem_cons_of_mem _ hv)]
theorem Qj (us:US)(hg:∀u∈us,Hf u=true):E7 us.flatten=(Gf none us).flatten:=by
 unfold E7
 by_cases hs:By (cs "\"") us.flatten=true
 ·rw[if_pos hs]
  have:=Ut (X:=us.flatten) us 0 ⟨0,none,[]⟩ none [] hg rfl (zero_le _) ⟨0,rfl,rfl,le_refl _,rfl⟩
  exact this
 ·rw[if_neg hs,iE]
  intro u hu e
  subst e
  refine hs ?_
  unfold By
  rw[show cs "\""=[34]by decide]
  refine(StrLaws.found_one ⟨us.flatten.toArray⟩ 34).trans (decide_eq_true ?_)
  show 34∈us.flatten
  exact List.mem_flatten.mpr ⟨_,hu,mem_cons_self⟩
theorem Im:∀(us:US) (pend:Option US) (P:List Nat->Prop),(∀u∈us,P u)->(∀p,pend=some p->∀u∈p,P u)->∀u∈Gf pend us,P u
 |[],none,P,_,_,u,hu=>nomatch hu
 |[],some p,P,_,h,u,hu=>h p rfl u hu
 |v::r,none,P,h,_,u,hu=>by
  rw[Jp]at hu
  split at hu
  ·exact Im r _ P (λw hw=>h w (mem_cons_of_mem _ hw)) (λp e w hw=>by cases e;rw[mem_singleton.mp hw];exact h v mem_cons_self) u hu
  ·rcases mem_cons.mp hu with rfl|hu
   ·exact h _ mem_cons_self
   ·exact Im r none P (λw hw=>h w (mem_cons_of_mem _ hw)) (λp e=>nomatch e) u hu
 |v::r,some p,P,h,hp,u,hu=>by
  rw[Lg]at hu
  split at hu
  ·exact Im r none P (λw hw=>h w (mem_cons_of_mem _ hw)) (λp e=>nomatch e) u hu
  ·refine Im r _ P (λw hw=>h w (mem_cons_of_mem _ hw)) (λp' e w hw=>?_) u hu
   cases e
   rcases mem_append.mp hw with hw|hw
   ·exact hp p rfl w hw
   ·rw[mem_singleton.mp hw];exact h v mem_cons_self
noncomputable def Wf (u:List Nat):Bool:=u==[40]||u==[41]
noncomputable def Fv:Option (List Nat)->List Nat->List Nat
 |none,[]=>[]
 |some p,[]=>p
 |none,c::r=>if c=34 then Fv (some []) r else c::Fv none r
 |some p,c::r=>if c=34 then Fv none r else Fv (some (p++[c])) r
theorem Yb (u:List Nat):Fm u=(Wf u||u==[34]):=by
 unfold Fm Wf
 have e1:cs "("=[40]:=by decide
 have e2:cs ")"=[41]:=by decide
 have e3:cs "\""=[34]:=by decide
 rw[e1,e2,e3]
 rw[Bool.eq_iff_iff]
 simp[or_assoc]
theorem Df:∀(us:US) (pend:Option US),Fv (pend.map λp=>(p.filter Wf).flatten) (us.filter Fm).flatten=((Gf pend us).filter Wf).flatten
 |[],none=>rfl
 |[],some p=>rfl
 |u::r,pend=>by
  by_cases h34:u=[34]
  ·subst h34
   have e:(List.filter Fm ([34]::r)).flatten=34::(r.filter Fm).flatten:=by rw[filter_cons_of_pos (by decide)];rfl
   rw[e]
   cases pend with
   |none=>
    have:=Df r (some [[34]])
    show(if 34=34 then Fv (some []) (r.filter Fm).flatten else _)=_
    rw[if_pos rfl,Jp,if_pos rfl];exact this
   |some p=>
    have:=Df r none
    show(if 34=34 then Fv none (r.filter Fm).flatten else _)=_
    rw[if_pos rfl,Lg,if_pos rfl];exact this
  ·by_cases hp:Wf u=true
   ·have hs:Fm u=true:=by rw[Yb,hp];rfl
    refine Ac (show∃c,c≠34/\u=[c]from by
     unfold Wf at hp
     rcases Bool.or_eq_true_iff.mp hp with h|h
     ·exact⟨40,by decide,by simpa using h⟩
     ·exact⟨41,by decide,by simpa using h⟩) λc hc Z=>?_
    subst Z
    have e:(List.filter Fm ([c]::r)).flatten=c::(r.filter Fm).flatten:=by rw[filter_cons_of_pos hs];rfl
    rw[e]
    cases pend with
    |none=>
     have:=Df r none
     show(if c=34 then _ else c::Fv none (r.filter Fm).flatten)=_
     rw[if_neg hc,Jp,if_neg h34,filter_cons_of_pos hp]
     exact congrArg (c::·) this
    |some p=>
     have:=Df r (some (p++[[c]]))
     show(if c=34 then _ else Fv (some ((p.filter Wf).flatten++[c])) (r.filter Fm).flatten)=_
     rw[if_neg hc,Lg,if_neg h34,<-this]
     show _=Fv (some ((p++[[c]]).filter Wf).flatten) _
     rw[List.filter_append,flatten_append,filter_cons_of_pos hp];rfl
   ·have hs:¬Fm u=true:=by
     rw[Yb,Bool.eq_false_iff.mpr hp]
     simpa using h34
    rw[filter_cons_of_neg hs]
    cases pend with
    |none=>rw[Jp,if_neg h34,filter_cons_of_neg hp];exact Df r none
    |some p=>
     have:=Df r (some (p++[u]))
     rw[Lg,if_neg h34,<-this]
     show _=Fv (some ((p++[u]).filter Wf).flatten) _
     rw[List.filter_append,filter_cons_of_neg hp,List.filter_nil,append_nil];rfl
noncomputable def Hb:Bool->US->List Nat
 |_,[]=>[]
 |true,a::t=>a++Hb false t
 |false,[b]=>b
 |false,_::c::t=>Hb true (c::t)
noncomputable def eN (p:List Nat):US->List Nat
 |[]=>[]
 |[b]=>p++b
 |_::c::t=>Hb true (c::t)
theorem Vr {h:List Nat}{t:US}:eN [] (h::t)=Hb false (h::t):=by cases t<;>rfl
theorem S4:∀x:List Nat,Fv none x=Hb true (Cj x)/\∀p,Fv (some p) x=eN p (Cj x):=by
 intro lq
 induction lq with
 |nil=>exact⟨rfl,λp=>(append_nil p).symm⟩
 |cons c r ih=>
  refine Ae (ih) λh1 h2=>?_
  refine Gp (J4 r) λh t e=>?_
  rw[e]at h1 h2
  by_cases hc:c=34
  ·subst hc
   have es:Cj (34::r)=[]::h::t:=by rw[Eu,if_pos rfl,e]
   rw[es]
   refine⟨?_,λp=>?_⟩
   ·show(if 34=34 then Fv (some []) r else _)=Hb false (h::t)
    rw[if_pos rfl,h2 [],Vr]
   ·show(if 34=34 then Fv none r else _)=Hb true (h::t)
    rw[if_pos rfl,h1]
  ·have es:Cj (c::r)=(c::h)::t:=by rw[Eu,if_neg hc,e]
   rw[es]
   refine⟨?_,λp=>?_⟩
   ·show(if c=34 then _ else c::Fv none r)=c::(h++Hb false t)
    rw[if_neg hc,h1];rfl
   ·show(if c=34 then _ else Fv (some (p++[c])) r)=_
    rw[if_neg hc,h2]
    cases t with
    |nil=>show p++[c]++h=p++(c::h);simp
    |cons=>rfl
theorem Wj (l:US):Fg l (-1)=l.getLast?:=by
 unfold Fg
 cases l with
 |nil=>rfl
 |cons a t=>
  rw[List.getLast?_eq_getElem?,StrLaws.seqIndex_neg (by decide) (by simp only[length_cons];exact Int.neg_le_neg (Int.ofNat_le.2 (succ_le_succ (zero_le _)))),show((-1:Int)+((a::t).length:Nat)).toNat=(a::t).length - 1 from congrArg Int.toNat ((Int.add_comm _ _).trans (iQ _))]
  rfl
theorem K8:∀l:US,l≠[]->(if((l.length:Int)%2==1)=true then(Hj l).flatten else(Hj l.dropLast).flatten++(l.getLast?).getD [])=Hb true l
 |[],h=>absurd rfl h
 |[a],_=>rfl
 |[a,b],_=>by
  have e:(([a,b].length:Int)%2==1)=false:=by simp only[length_cons,length_nil];decide
  rw[e,if_neg Bool.false_ne_true]
  show(Hj [a]).flatten++b=a++b
  exact congrArg (·++b) (append_nil a)
 |a::b::c::r,_=>by
  have ih:=K8 (c::r) (cons_ne_nil _ _)
  have e:(((a::b::c::r).length:Int)%2==1)=(((c::r).length:Int)%2==1):=by
   simp only[length_cons]
   congr 1
   exact congrArg Int.ofNat (Nat.add_mod_right (r.length+1) 2)
  show _=a++Hb true (c::r)
  rw[e,<-ih]
  split
  ·rfl
  ·show(Hj (a::b::(c::r).dropLast)).flatten++((a::b::c::r).getLast?).getD []=_
   rw[List.getLast?_cons_cons,List.getLast?_cons_cons,show Hj (a::b::(c::r).dropLast)=a::Hj (c::r).dropLast from rfl,flatten_cons,append_assoc]
theorem cQ (us:US):Ed us=((Gf none us).filter Wf).flatten:=by
 have h:=Df us none
 rw[<-h]
 show _=Fv none _
 rw[(S4 _).1]
 unfold Ed
 dsimp only
 rw[Xz]
 refine Gp (J4 (us.filter Fm).flatten) λa t e=>?_
 rw[e]
 have hn:(a::t)≠[]:=cons_ne_nil _ _
 rw[<-K8 _ hn]
 unfold lN aT
 rw[Y7,Y8 _ hn,Wj]
theorem We:∀(ps:List (Int×List Nat)) (n:Nat),Cz n ps=Pq n (((ps.map (·.2)).filter Wf).flatten):=by
 intro lq
 induction lq with
 |nil=>
  intro n
  show((n:Int)==0)=(n==0)
  cases n with
  |zero=>rfl
  |succ n=>rw[beq_eq_false_iff_ne.mpr (nz n),beq_eq_false_iff_ne.mpr (by exact ne_of_gt (by simp +arith only))]
 |cons p r ih=>
  intro n
  rw[map_cons,Ik]
  by_cases h1:p.2=cs "("
  ·rw[if_pos h1,filter_cons_of_pos (by rw[h1];decide),h1,flatten_cons]
   exact ih (n+1)
  ·rw[if_neg h1]
   by_cases h2:p.2=cs ")"
   ·rw[if_pos h2,filter_cons_of_pos (by rw[h2];decide),h2,flatten_cons]
    cases n with
    |zero=>rw[if_pos (by decide)];rfl
    |succ n=>
     rw[show((n+1:Nat):Int)-1=(n:Int)by exact iQ _,if_neg (Int.not_lt.2 (Int.natCast_nonneg n))]
     exact ih n
   ·rw[if_neg h2,filter_cons_of_neg,ih n]
    unfold Wf
    have e1:cs "("=[40]:=by decide
    have e2:cs ")"=[41]:=by decide
    rw[e1]at h1;rw[e2]at h2
    simp[h1,h2]
theorem Pn (us:US)(hg:∀u∈us,Hf u=true):Jx us.flatten=Kw us:=by
 unfold Jx Kw
 rw[Qj us hg,cQ,Vs _ _ (le_refl _)]
 ·have ho:=Im us none (λu=>Hf u=true) hg (λp e=>nomatch e)
  rw[show(0:Int)=((0:Nat):Int)from rfl,We,(Lx _ 0 ho).2]
 ·intro c hc
  refine Ac (List.mem_flatten.mp hc) λu hu hc=>?_
  have hp:=(mem_filter.mp hu).2
  unfold Wf at hp
  rcases Bool.or_eq_true_iff.mp hp with h|h
  ·rw[show u=[40]by simpa using h]at hc;exact .inl (mem_singleton.mp hc)
  ·rw[show u=[41]by simpa using h]at hc;exact .inr (mem_singleton.mp hc)
noncomputable def Hu (way:Int) (ws:List Int):List Nat:=if ws.length<2 then List.range ws.length else(Gw (λi j=>decide (way*(ws.getD i 0-ws.getD j 0)<0)) (kas_sort ws.length)).toList
noncomputable def G8 (way:Int):List Int:=if way>0 then[0,1,2]else[2,1,0]
noncomputable def Cr (way:Int) (ws:List Int):List Nat:=(G8 way).flatMap λw=>(List.range ws.length).filter λi=>ws.getD i 0==w
noncomputable def lK (w:Int):Prop:=w∈([0,1,2]:List Int)
theorem Kp:∀way∈([1,-1]:List Int),Hu way []=Cr way []/\∀a∈([0,1,2]:List Int),Hu way [a]=Cr way [a]/\∀b∈([0,1,2]:List Int),Hu way [a,b]=Cr way [a,b]/\∀c∈([0,1,2]:List Int),Hu way [a,b,c]=Cr way [a,b,c]:=by decide +kernel
theorem X0 {way:Int}(hw:way∈([1,-1]:List Int)):∀(ws:List Int),ws.length<=3->(∀w∈ws,lK w)->Hu way ws=Cr way ws
 |[],_,_=>(Kp way hw).1
 |[a],_,h=>((Kp way hw).2 a (h a (by simp))).1
 |[a,b],_,h=>(((Kp way hw).2 a (h a (by simp))).2 b (h b (by simp))).1
 |[a,b,c],_,h=>(((Kp way hw).2 a (h a (by simp))).2 b (h b (by simp))).2 c (h c (by simp))
 |_::_::_::_::_,h,_=>by simp at h
noncomputable def pF:D->Int
 | .tup [_,_,_,.int w]=>w
 |_=>0
noncomputable def cD (way:Int) (x y:D):Int:=way*(pF x-pF y)
noncomputable def Dp (way:Int) (ps:List Pc):List Pc:=(G8 way).flatMap λw=>ps.filter λp=>p.wt==w
theorem Si:∀(ps:List Pc) (i:Nat),pF ((ps.map Dm).getD i .none)=(ps.map (·.wt)).getD i 0
 |[],i=>rfl
 |p::r,0=>rfl
 |p::r,i+1=>Si r i
theorem Wb:∀(ds:List D),(List.range ds.length).map (λi=>ds.getD i .none)=ds:=by
 intro lq
 induction lq with
 |nil=>exact rfl
 |cons d r ih=>
  rw[length_cons,List.range_succ_eq_map,map_cons,map_map]
  exact congrArg (d::·) (ih)
theorem Ie (w:Int):∀(ps:List Pc),((List.range ps.length).filter λi=>(ps.map (·.wt)).getD i 0==w).map (λi=>(ps.map Dm).getD i .none)=(ps.filter λp=>p.wt==w).map Dm:=by
 intro lq
 induction lq with
 |nil=>exact rfl
 |cons p r ih=>
  have ih:=ih
  have e:((List.range r.length).map Nat.succ |>.filter λi=>((p::r).map (·.wt)).getD i 0==w)=((List.range r.length).filter λi=>(r.map (·.wt)).getD i 0==w).map Nat.succ:=by
   rw[List.filter_map];rfl
  rw[length_cons,List.range_succ_eq_map]
  by_cases h:(p.wt==w)=true
  ·rw[filter_cons_of_pos (p:=λp:Pc=>p.wt==w) h,filter_cons_of_pos (p:=λi=>((p::r).map (·.wt)).getD i 0==w) (show(((p::r).map (·.wt)).getD 0 0==w)=true from h),e,map_cons (f:=Dm) (a:=p) (l:=r.filter _),<-ih,map_cons,map_map];rfl
  ·rw[filter_cons_of_neg (p:=λp:Pc=>p.wt==w) h,filter_cons_of_neg (p:=λi=>((p::r).map (·.wt)).getD i 0==w) (show¬(((p::r).map (·.wt)).getD 0 0==w)=true from h),e,map_map,<-ih];rfl
theorem X6 {way:Int}(hw:way∈([1,-1]:List Int))(ps:List Pc)(hl:ps.length<=3)(h:∀p∈ps,lK p.wt):Gb (cD way) (ps.map Dm)=(Dp way ps).map Dm:=by
 have e:Gb (cD way) (ps.map Dm)=(Hu way (ps.map (·.wt))).map λi=>(ps.map Dm).getD i .none:=by
  unfold Gb Hu
  rw[length_map,length_map]
  split
  ·have:=Wb (ps.map Dm)
   rw[length_map]at this;exact this.symm
  ·have ef:(λi j=>decide (cD way ((ps.map Dm).getD i .none) ((ps.map Dm).getD j .none)<0))=λi j=>decide (way*((ps.map (·.wt)).getD i 0-(ps.map (·.wt)).getD j 0)<0):=by
    funext i j;unfold cD;rw[Si,Si]
   rw[ef]
 rw[e,X0 hw _ (by rw[length_map];exact hl) λw hw=>by
  refine Ac (mem_map.mp hw) λp hp Z=>?_
  subst Z
  exact h p hp]
 unfold Cr Dp
 rw[map_flatMap,map_flatMap]
 congr 1
 funext w
 rw[length_map]
 exact Ie w ps
theorem N8 {way:Int}{ps:List Pc}{p:Pc}(h:p∈Dp way ps):p∈ps:=by
 refine Ac (mem_flatMap.mp h) λw _ h=>?_
 exact(mem_filter.mp h).1
theorem Xd {way:Int}(hw:way∈([1,-1]:List Int)){ps:List Pc}(hl:ps.length<=3)(h:∀p∈ps,lK p.wt):(Dp way ps).length=ps.length:=by
 have:∀way∈([1,-1]:List Int),(Cr way []).length=0/\∀a∈([0,1,2]:List Int),(Cr way [a]).length=1/\∀b∈([0,1,2]:List Int),(Cr way [a,b]).length=2/\∀c∈([0,1,2]:List Int),(Cr way [a,b,c]).length=3:=by decide +kernel
 have hb:(Cr way (ps.map (·.wt))).length=ps.length:=by
  match ps,hl,h with
  |[],_,_=>exact(this way hw).1
  |[a],_,h=>exact((this way hw).2 a.wt (h a (by simp))).1
  |[a,b],_,h=>exact(((this way hw).2 a.wt (h a (by simp))).2 b.wt (h b (by simp))).1
  |[a,b,c],_,h=>exact(((this way hw).2 a.wt (h a (by simp))).2 b.wt (h b (by simp))).2 c.wt (h c (by simp))
  |_::_::_::_::_,h,_=>simp at h
 rw[<-hb]
 have e2:(Cr way (ps.map (·.wt))).map (λi=>(ps.map Dm).getD i .none)=(Dp way ps).map Dm:=by
  unfold Cr Dp
  rw[map_flatMap,map_flatMap]
  congr 1
  funext w
  rw[length_map]
  exact Ie w ps
 have:=congrArg List.length e2
 rw[length_map,length_map]at this
 exact this.symm
theorem aB {own:List (List D)}{f k:Nat}{ds es:List D}(h:own[k]? =some ds)(e:ds.mapM (fz own 0 f)=some es):fz own 0 (f+1) (.obj k)=some (.lst es):=by
 show(if k<0 then some (D.obj k)else(own[k]?).bind λds=>(ds.mapM (fz own 0 f)).map D.lst)=_
 rw[if_neg (Nat.not_lt_zero _),h,Option.bind_some,e];rfl
theorem rU {own:List (List D)}{f:Nat}{ds es:List D}(e:ds.mapM (fz own 0 f)=some es):fz own 0 (f+1) (.tup ds)=some (.tup es):=by
 show(ds.mapM (fz own 0 f)).map D.tup=_
 rw[e];rfl
theorem tA {own:List (List D)}{f:Nat}{ds es:List D}(e:ds.mapM (fz own 0 f)=some es):fz own 0 (f+1) (.lst ds)=some (.lst es):=by
 show(ds.mapM (fz own 0 f)).map D.lst=_
 rw[e];rfl
theorem Bl {F:D->Option D}{d e:D}{ds es:List D}(h:F d=some e)(h2:ds.mapM F=some es):(d::ds).mapM F=some (e::es):=by
 rw[List.mapM_cons,h,h2];rfl
theorem Dg {α:Type}{F:D->Option D}{g h:α->D}:∀(xs:List α),(∀x∈xs,F (g x)=some (h x))->(xs.map g).mapM F=some (xs.map h):=by
 intro lq
 induction lq with
 |nil=>intro _;exact rfl
 |cons x r ih=>intro hh;exact Bl (hh x mem_cons_self) (ih λy hy=>hh y (mem_cons_of_mem _ hy))
theorem iJ {a b d:D}{σ:St}{R:Bool->Prop}(h1:fz σ.own 0 20 a=some d)(h2:fz σ.own 0 20 b=some d)(k:Io 20 d=true)(h:R false):bE .NotEq a b σ R:=by
 refine⟨d,d,h1,h2,k,k,?_⟩
 rw[SeqAt.eqv_refl (Sk d) (Nt 20 d k).1];exact h
noncomputable def Cu {α:Type} (P:α->D->Prop):List α->List D->Prop
 |[],[]=>True
 |x::xs,e::es=>P x e/\Cu P xs es
 |_,_=>False
theorem Cu.mapM {α:Type}{P:α->D->Prop}{F:D->Option D}{val:α->D}(h:∀x e,P x e->F e=some (val x)):∀{xs:List α} {es:List D},Cu P xs es->es.mapM F=some (xs.map val)
 |[],[],_=>rfl
 |x::xs,e::es,q=>Bl (h x e q.1) (Cu.mapM h q.2)
 |[],_::_,q=>q.elim
 |_::_,[],q=>q.elim
theorem Cu.snoc {α:Type}{P:α->D->Prop}:∀{xs:List α} {es:List D} {x:α} {e:D},Cu P xs es->P x e->Cu P (xs++[x]) (es++[e])
 |[],[],_,_,_,h=>⟨h,trivial⟩
 |_::_,_::_,_,_,q,h=>⟨q.1,Cu.snoc q.2 h⟩
 |[],_::_,_,_,q,_=>q.elim
 |_::_,[],_,_,q,_=>q.elim
theorem Cu.mono {α:Type}{P P':α->D->Prop}(h:∀x e,P x e->P' x e):∀{xs:List α} {es:List D},Cu P xs es->Cu P' xs es
 |[],[],_=>trivial
 |_::_,_::_,q=>⟨h _ _ q.1,Cu.mono h q.2⟩
 |[],_::_,q=>q.elim
 |_::_,[],q=>q.elim
theorem Nw {α:Type}{σ1:St}{B:D->TS}{n₀:Nat}{s:List (String×D)}{cap:List String}{F:St->Prop}{C:St->Prop}(g:α->D)(P:List (List D)->α->D->Prop)(xs:List α)
  (hC:∀es junk,C ⟨s,σ1.own++es::junk,cap⟩)(hP:∀own own' x e,P own x e->(∀(i:Nat) l,σ1.own.length<i->own[i]? =some l->own'[i]? =some l)->P own' x e)
  (hB:∀x don res es (junk:List (List D)) (R:FD->St->Prop),xs=don++x::res->(∀m j e,P (σ1.own++(es++[e])::(junk++j)) x e->R .next ⟨s++m,σ1.own++(es++[e])::(junk++j),cap⟩)->es.length=don.length->B (g x) ⟨s,σ1.own++es::junk,cap⟩ R)
  (hF:∀es junk,Cu (P (σ1.own++es::junk)) xs es->F ⟨s,σ1.own++es::junk,cap⟩):Do C B n₀ (xs.map g) ⟨s,σ1.own++[[]],cap⟩ (Iz F):=by
 refine E0 (λitems σ=>∃don res es junk,xs=don++res/\items=res.map g/\Cu (P (σ1.own++es::junk)) don es/\es.length=don.length/\σ=⟨s,σ1.own++es::junk,cap⟩) ?_ ?_ _ _ ⟨[],xs,[],[],rfl,rfl,trivial,rfl,rfl⟩
 ·intro x r σ next Z hk
  refine Cs Z λdon res es junk e e2 hr hl V=>?_
  clear Z
  subst V
  cases res with
  |nil=>cases e2
  |cons p res=>
   rw[map_cons]at e2
   injection e2 with e3 e4
   subst e3 e4
   refine⟨hC _ _,hB p don res es junk _ e (λm j e' hp=>⟨_,H8 s m,hk _ ⟨don++[p],res,es++[e'],junk++j,by simp[e],rfl,?_,by rw[length_append,length_append,hl];rfl,rfl⟩⟩) hl⟩
   refine(hr.mono λx e h=>hP _ _ x e h λi l hi hl=>?_).snoc hp
   rw[List.getElem?_append_right (le_of_lt hi)]at hl⊢
   refine Af (show∃n,i-σ1.own.length=n+1 from⟨i-σ1.own.length-1,by exact cB (Ah hi)⟩) λn hn=>?_
   rw[hn,List.getElem?_cons_succ]at hl⊢
   rw[List.getElem?_append_left (List.getElem?_eq_some_iff.mp hl).1];exact hl
 ·intro σ Y
  refine Cs Y λdon res es junk e e2 hr hl U=>?_
  clear Y
  subst U
  obtain rfl:res=[]:=by simpa using e2.symm
  rw[append_nil]at e;subst e
  exact⟨hC _ _,hF es junk hr⟩
theorem Rk {α:Type}{d:D}{σ1:St}{B:D->TS}{n₀:Nat}{s:List (String×D)}{cap:List String}{F:St->Prop}(g:α->D)(P:List (List D)->α->D->Prop)(xs:List α)
  (hi:Al σ1.own d=some (xs.map g))(hP:∀own own' x e,P own x e->(∀(i:Nat) l,σ1.own.length<i->own[i]? =some l->own'[i]? =some l)->P own' x e)
  (hB:∀x don res es (junk:List (List D)) (R:FD->St->Prop),xs=don++x::res->(∀m j e,P (σ1.own++(es++[e])::(junk++j)) x e->R .next ⟨s++m,σ1.own++(es++[e])::(junk++j),cap⟩)->es.length=don.length->B (g x) ⟨s,σ1.own++es::junk,cap⟩ R)
  (hF:∀es junk,Cu (P (σ1.own++es::junk)) xs es->F ⟨s,σ1.own++es::junk,cap⟩):Fr d σ1 λitems C=>Do C B n₀ items ⟨s,σ1.own++[[]],cap⟩ (Iz F):=
 Cl hi (Nw g P xs (λ_ _=>Au hi _) hP hB hF)
theorem Ir {α:Type}{d:D}{B:D->TS}{n₀:Nat}{s:List (String×D)}{cap:List String}{base:List (List D)}{acc:List D}{junk:List (List D)}{F:St->Prop}(g:α->D)(out:α->List D)(ys:List α)
  (hi:∀acc',Al (base++acc'::junk) d=some (ys.map g))
  (hB:∀y don res (R:FD->St->Prop),ys=don++y::res->(∀m,R .next ⟨s++m,base++(acc++don.flatMap out++out y)::junk,cap⟩)->B (g y) ⟨s,base++(acc++don.flatMap out)::junk,cap⟩ R)
  (hF:F ⟨s,base++(acc++ys.flatMap out)::junk,cap⟩):Fr d ⟨s,base++acc::junk,cap⟩ λitems C=>Do C B n₀ items ⟨s,base++acc::junk,cap⟩ (Iz F):=by
 refine Cl (hi acc) ?_
 refine E0 (λitems σ=>∃don res,ys=don++res/\items=res.map g/\σ=⟨s,base++(acc++don.flatMap out)::junk,cap⟩) ?_ ?_ _ _ ⟨[],ys,rfl,rfl,by rw[List.flatMap_nil,append_nil]⟩
 ·intro x r σ next Z hk
  refine Aj Z λdon res e e2 V=>?_
  clear Z
  subst V
  cases res with
  |nil=>cases e2
  |cons p res=>
   rw[map_cons]at e2
   injection e2 with e3 e4
   subst e3 e4
   exact⟨hi _,hB p don res _ e λm=>⟨_,H8 s m,hk _ ⟨don++[p],res,by simp[e],rfl,by simp⟩⟩⟩
 ·intro σ Y
  refine Aj Y λdon res e e2 U=>?_
  clear Y
  subst U
  obtain rfl:res=[]:=by simpa using e2.symm
  rw[append_nil]at e;subst e
  exact⟨hi _,hF⟩
noncomputable def bH (x:D×Eb):D:=.tup [x.1,.bool x.2.2]
noncomputable def M1 (r:Eb):D:=.tup [.lst (r.1.map Dm),.bool r.2]
noncomputable def Kb (r:Eb):Prop:=r.1≠[]/\r.1.length<=3/\∀p∈r.1,O1 p/\lK p.wt
noncomputable def S26:Mine.Cf:=λds own Q=>∃(k:Nat) (way:Int) (xs:List (D×Eb)),ds=[.obj k,.int way]/\way∈([1,-1]:List Int)/\own[k]? =some (xs.map bH)/\xs.length<=2/\(∀x∈xs,Al own x.1=some (x.2.1.map Dm)/\Kb x.2)/\∀own',own<+:own'->Q (.bool true) own'
noncomputable def Fb (way:Int) (xs:List (D×Eb)):List Eb:=xs.map λx=>(Dp way x.2.1,x.2.2)
theorem Bg {a b:List (List D)}(p:a<+:b){k:Nat}{l:List D}(h:a[k]? =some l):b[k]? =some l:=by
 refine Af p λt Z=>?_
 try clear p
 subst Z
 rw[List.getElem?_append_left (List.getElem?_eq_some_iff.mp h).1];exact h
theorem Jm {a b:List (List D)}(p:a<+:b){d:D}{l:List D}(h:Al a d=some l):Al b d=some l:=by
 refine Af p λt Z=>?_
 try clear p
 subst Z;exact Au h t
theorem Rt {R:FD->St->Prop}{loc:List (String×D)}{base:List (List D)}{acc:List D}{junk:List (List D)}{cap:List String}{d:D}(hl:acc.length<=20000)(h:R .next ⟨loc,base++(acc++[d])::(junk++[]),cap⟩):
  ∃l,(base++acc::junk)[base.length]? =some l/\l.length<=sizeLine/\R .next ⟨loc,(base++acc::junk).set base.length (l++[d]),cap⟩:=
 ⟨acc,Bn _ _ _,by unfold sizeLine;exact le_trans hl (by decide),by rw[E9];rw[append_nil]at h;exact h⟩
theorem pU {a b:Nat}{d:D}{σ:St}{R:Bool->Prop}(h1:fz σ.own 0 20 (.obj a)=some d)(h2:fz σ.own 0 20 (.obj b)=some d)(k:Io 20 d=true)(h:R false):Em .NotEq (.obj a) (.obj b) σ R:=iJ h1 h2 k h
theorem Dv {α β:Type}(f:α->β):∀l:List α,l.flatMap (λx=>[f x])=l.map f:=by
 intro lq
 induction lq with
 |nil=>exact rfl
 |cons x r ih=>rw[flatMap_cons,ih];rfl
theorem Gn {α β:Type}{f:α->List β}{n:Nat}(h:∀x,(f x).length<=n):∀l:List α,(l.flatMap f).length<=l.length*n:=by
 intro lq
 induction lq with
 |nil=>exact zero_le _
 |cons x r ih=>
  have h1:=ih
  have h2:=h x
  rw[flatMap_cons,length_append,length_cons,add_mul,one_mul]
  exact Ah (add_le_add h2 ih)
theorem Tu {R:FD->St->Prop}{loc:List (String×D)}{base:List (List D)}{acc:List D}{junk j:List (List D)}{cap:List String}{d:D}(hl:acc.length<=20000)(h:R .next ⟨loc,base++(acc++[d])::(junk++j),cap⟩):
  ∃l,((base++acc::junk)++j)[base.length]? =some l/\l.length<=sizeLine/\R .next ⟨loc,((base++acc::junk)++j).set base.length (l++[d]),cap⟩:=by
 rw[append_assoc,cons_append]
 exact⟨acc,Bn _ _ _,by unfold sizeLine;exact le_trans hl (by decide),by rw[E9];exact h⟩
theorem aV {R:FD->St->Prop}{loc:List (String×D)}{base:List (List D)}{acc:List D}{junk:List (List D)}{cap:List String}{d:D}(hl:acc.length<=20000)(h:R .next ⟨loc,base++(acc++[d])::junk,cap⟩):
  ∃l,(base++acc::junk)[base.length]? =some l/\l.length<=sizeLine/\R .next ⟨loc,(base++acc::junk).set base.length (l++[d]),cap⟩:=
 ⟨acc,Bn _ _ _,by unfold sizeLine;exact le_trans hl (by decide),by rw[E9];exact h⟩
theorem fO (base junk r:List (List D))(x y z:List D):(base++x::(junk++y::r))[(base++z::junk).length]? =some y:=by
 have e:base++x::(junk++y::r)=(base++x::junk)++y::r:=by simp
 have e2:(base++z::junk).length=(base++x::junk).length:=by simp
 rw[e,e2];exact Bn _ _ _
noncomputable def Ij (w:Int) (p:Pc):List D:=if p.wt==w then[Dm p]else[]
theorem Nm {w:Int}{p:Pc}(h:(p.wt==w)=true):Ij w p=[Dm p]:=if_pos h
theorem Nn {w:Int}{p:Pc}(h:(p.wt==w)=false):Ij w p=[]:=if_neg (by rw[h];exact Bool.false_ne_true)
theorem No (w:Int)(p:Pc):(Ij w p).length<=1:=by unfold Ij;split<;>simp
theorem Oy (w:Int):∀ps:List Pc,ps.flatMap (Ij w)=(ps.filter λp=>p.wt==w).map Dm:=by
 intro lq
 induction lq with
 |nil=>exact rfl
 |cons p r ih=>
  rw[flatMap_cons,ih,List.filter_cons]
  cases h:p.wt==w with
  |true=>rw[Nm h,if_pos rfl];rfl
  |false=>rw[Nn h,if_neg Bool.false_ne_true];rfl
theorem Tz (way:Int)(ps:List Pc):(G8 way).flatMap (λw=>ps.flatMap (Ij w))=(Dp way ps).map Dm:=by
 unfold Dp
 rw[map_flatMap]
 congr 1
 funext w
 exact Oy w ps
theorem dK {base j:List (List D)}{acc acc' l:List D}{k:Nat}(h:(base++acc::j)[k]? =some l)(hk:base.length<k):(base++acc'::j)[k]? =some l:=by
 rw[List.getElem?_append_right (le_of_lt hk)]at h⊢
 refine Af (show∃n,k-base.length=n+1 from⟨k-base.length-1,by exact cB (Ah hk)⟩) λn hn=>?_
 rw[hn,List.getElem?_cons_succ]at h⊢
 exact h
noncomputable def Es (r:Eb):List D:=(Ce r.2 r.1).flatMap λu=>[D.str u]
noncomputable def S2:List D:=[.str (cs "("),.str (cs "?"),.str (cs "s"),.str (cs ":")]
theorem M6 (rows:List Eb):([.str (cs "("),.str (cs "?"),.str (cs "s"),.str (cs ":")]++rows.flatMap Es)++[.str (cs ")"),.str (cs "\\Z")]=(C4 rows).map D.str:=by
 have e:∀rows:List Eb,rows.flatMap Es=((rows.map λr=>Ce r.2 r.1).flatten).map D.str:=λrows=>by
  induction rows with
  |nil=>rfl
  |cons r t ih=>rw[flatMap_cons,ih,map_cons,flatten_cons,map_append];unfold Es;rw[Dv]
 unfold C4
 rw[e,map_append,map_append,append_assoc]
 rfl
theorem Qh (rows:List Eb)(h:fH rows):cs "(?s:"++Il rows++cs ")\\Z"=(C4 rows).flatten:=by
 have e:∀rows:List Eb,fH rows->Il rows=((rows.map λr=>Ce r.2 r.1).flatten).flatten:=λrows=>by
  induction rows with
  |nil=>intro _;rfl
  |cons r t ih=>
   intro h
   rw[map_cons,flatten_cons,flatten_append,<-ih λq hq=>h q (mem_cons_of_mem _ hq),<-cU r.1 r.2 (h r mem_cons_self)];rfl
 unfold C4
 rw[e rows h,flatten_append,flatten_append,append_assoc]
 rfl
theorem K2 (b:Bool)(ps:List Pc)(h:ps.length<=3):(Ce b ps).length<=12:=by
 have h1:=Fx b ps
 cases b with
 |false=>
  show(if((Bu false ps).length==1)=true then[[40],[63],[33],[41]]else Bu false ps++[[93]]).length<=12
  split
  ·decide
  ·rw[length_append,length_singleton];exact Ah (add_le_add h1 (mul_le_mul_left 3 h))
 |true=>
  show(if((Bu true ps).length==2)=true then[[46]]else Bu true ps++[[93]]).length<=12
  split
  ·decide
  ·rw[length_append,length_singleton];exact Ah (add_le_add h1 (mul_le_mul_left 3 h))
theorem Jf:∀l:List Eb,(∀r∈l,Kb r)->(l.flatMap Es).length<=l.length*12:=by
 intro lq
 induction lq with
 |nil=>intro _;exact zero_le _
 |cons r t ih=>
  intro h
  have h1:=ih λq hq=>h q (mem_cons_of_mem _ hq)
  have h2:=K2 r.2 r.1 (h r mem_cons_self).2.1
  have h3:(Es r).length=(Ce r.2 r.1).length:=by unfold Es;rw[Dv,length_map]
  rw[flatMap_cons,length_append,length_cons,add_mul]
  exact Ah (add_le_add (add_le_add (le_of_eq h3) h1) h2)
theorem Sq (ps:List Pc)(b:Bool)(h:ps.length<=3):(Ej ps b).length<=12:=by
 have h1:(ps.map A6).flatten.length<=ps.length*3:=Gn (f:=A6) (n:=3) (λp=>by unfold A6;split<;>simp) ps
 unfold Ej
 rw[length_cons,length_append,length_append,length_singleton]
 cases b
 ·show 0+_+1<=12;exact Ah (add_le_add h1 (mul_le_mul_left 3 h))
 ·show 1+_+1<=12;exact Ah (add_le_add h1 (mul_le_mul_left 3 h))
theorem Zg {r:Eb}(h:Kb r):lL r:=⟨h.1,h.2.1,λp hp=>
 have s:∀c∈sg,c≠45/\c≠93/\c≠33/\c<200:=by decide
 have k:=(h.2.2 p hp).1
 ⟨s _ k.1,s _ k.2.1,k.2.2⟩⟩
theorem hZ {a b:List (List D)}(h:∀i,i<a.length->b[i]? =a[i]?)(hl:a.length<=b.length):a<+:b:=by
 refine⟨b.drop a.length,?_⟩
 have e:b.take a.length=a:=by
  apply List.ext_getElem?
  intro i
  by_cases hi:i<a.length
  ·rw[List.getElem?_take_of_lt hi];exact h i hi
  ·rw[List.getElem?_eq_none (by rw[length_take];exact Ah (add_le_add (min_le_left (a.length) (b.length)) (not_lt.1 hi))),List.getElem?_eq_none (by exact Ah (not_lt.1 hi))]
 rw[<-e,length_take,min_eq_left hl,take_append_drop]
theorem iH {α:Type}{d:D}{B:D->TS}{n₀:Nat}{s:List (String×D)}{cap:List String}{base:List (List D)}{acc:List D}{junk t:List (List D)}{F:St->Prop}(g:α->D)(out:α->List D)(ys:List α)
  (hi:∀acc',Al (base++acc'::(junk++t)) d=some (ys.map g))
  (hB:∀y don res (R:FD->St->Prop),ys=don++y::res->(∀m,R .next ⟨s++m,base++(acc++don.flatMap out++out y)::(junk++t),cap⟩)->B (g y) ⟨s,base++(acc++don.flatMap out)::(junk++t),cap⟩ R)
  (hF:F ⟨s,base++(acc++ys.flatMap out)::(junk++t),cap⟩):Fr d ⟨s,(base++acc::junk)++t,cap⟩ λitems C=>Do C B n₀ items ⟨s,(base++acc::junk)++t,cap⟩ (Iz F):=by
 rw[append_assoc,cons_append]
 exact Ir g out ys hi hB hF
theorem pK {x y:List Nat}{σ:St}{R:Bool->Prop}(e:x=y)(h:R false):Em .NotEq (.str x) (.str y) σ R:=by
 show R (!decide (x=y))
 rw[decide_eq_true e];exact h
theorem eV {l:D}{xs:List (List Nat)}{σ:St}{Q:D->St->Prop}(hi:Al σ.own l=some (xs.map D.str))(m:Nat)(hm:∀x∈xs,x.length<=m)(hl:xs.length*m<=100000)(h:Q (.str xs.flatten) σ):Uz (.str (cs "")) [l] σ Q:=
 ⟨_,l,xs,rfl,rfl,hi,by have:=K4 xs m hm;unfold sizeLine;exact le_trans (Ah (add_le_add this hl)) b6,by
  have e:Eg (cs "") xs=xs.flatten:=Fi xs
  rw[e];exact h⟩
theorem Ib:∀c∈sg,c<0x110000:=by decide
theorem Uw (n:Nat){p:Pc}(h:O1 p):Io (n+2) (Dm p)=true:=by
 unfold Dm
 show((decide (p.x<0x110000)&&true)&&((decide (p.y<0x110000)&&true)&&(true&&(true&&true))))=true
 rw[decide_eq_true (Ib _ h.1),decide_eq_true (Ib _ h.2.1)];rfl
theorem Gg {α:Type}{n:Nat}{g:α->D}:∀(xs:List α),(∀x∈xs,Io n (g x)=true)->okDs n (xs.map g)=true:=by
 intro lq
 induction lq with
 |nil=>intro _;rfl
 |cons x r ih=>
  intro h
  show(Io n (g x)&&okDs n (r.map g))=true
  rw[h x mem_cons_self,ih λy hy=>h y (mem_cons_of_mem _ hy)];rfl
theorem jB (own:List (List D))(r:Eb):fz own 0 19 (M1 r)=some (M1 r):=
 rU (Bl (tA (Dg r.1 λ_ _=>rfl)) (Bl rfl rfl))
theorem cX {r:Eb}(h:∀p∈r.1,O1 p):Io 19 (M1 r)=true:=by
 have e:okDs 17 (r.1.map Dm)=true:=Gg r.1 λp hp=>Uw 15 (h p hp)
 show(okDs 17 (r.1.map Dm)&&(true&&true))=true
 rw[e];rfl
noncomputable def gV (way:Int) (x:D×Eb):D:=.tup [.lst (Gb (cD way) (x.2.1.map Dm)),.bool x.2.2]
theorem N2 {way:Int}(hw:way∈([1,-1]:List Int)):∀(xs:List (D×Eb)),(∀x∈xs,Kb x.2)->xs.flatMap (λx=>[gV way x])=(Fb way xs).map M1
 |[],_=>rfl
 |x::r,h=>by
  have hx:=h x mem_cons_self
  rw[flatMap_cons,N2 hw r λy hy=>h y (mem_cons_of_mem _ hy)]
  unfold gV
  rw[X6 hw _ hx.2.1 λp hp=>(hx.2.2 p hp).2];rfl
noncomputable def pX (k:Nat) (way:Int) (kw:Nat) (P:Gh->Value->Prop):List (String×D):=[("brackets",.obj k),("way",.int way),("weights",.obj kw),("turn",.sem P)]
noncomputable def S7 (k:Nat) (way:Int) (kw:Nat) (P:Gh->Value->Prop) (kr:Nat):List (String×D):=[("brackets",.obj k),("way",.int way),("weights",.obj kw),("turn",.sem P),("rows",.obj kr)]
noncomputable def Lf (p:Pc):List D:=if p.x<=p.y then[.tup [.str [p.x],.str [p.y]]]else[]
noncomputable def Nq (p:Pc):D:=.tup [.str [p.x],.str [p.y]]
noncomputable def Yo (r:Eb):D:=.lst [.bool r.2,.lst ((Ax r.1).map Nq),.bool false]
theorem Wg:∀ps:List Pc,ps.flatMap Lf=(Ax ps).map Nq:=by
 intro lq
 induction lq with
 |nil=>exact rfl
 |cons p r ih=>
  rw[flatMap_cons,ih]
  unfold Lf
  by_cases h:p.x<=p.y
  ·rw[if_pos h,Ln h];rfl
  ·rw[if_neg h,Lo h];rfl
theorem Wh (p:Pc):(Lf p).length<=1:=by unfold Lf;split<;>simp
theorem cW {r:Eb}(h:∀p∈r.1,O1 p):Io 19 (Yo r)=true:=by
 have e:okDs 17 ((Ax r.1).map Nq)=true:=Gg _ λp hp=>by
  have k:=h p (mem_filter.mp hp).1
  show((([p.x].all λc=>decide (c<0x110000)))&&(([p.y].all λc=>decide (c<0x110000))&&true))=true
  simp only[List.all_cons,List.all_nil,Bool.and_true,decide_eq_true (Ib _ k.1),decide_eq_true (Ib _ k.2.1)]
 show(true&&(okDs 17 ((Ax r.1).map Nq)&&(true&&true)))=true
 rw[e];rfl
theorem jC {n k:Nat}{own:List (List D)}{rows:List Eb}(h:E5 n own k (rows.map λr=>I6 r.2 (Ax r.1))){own':List (List D)}(p:own<+:own'):fz own' 0 20 (.obj k)=some (.lst (rows.map Yo)):=by
 refine Lv h λix hl hk hj _ _=>?_
 try clear h
 refine aB (Bg p hk) ?_
 have key:∀(ix:List (Nat×Nat)) (rows:List Eb),ix.length=rows.length->(∀(j:Nat) i b,ix[j]? =some i->(rows.map λr=>I6 r.2 (Ax r.1))[j]? =some b->own[i.1]? =some (eE b i.2)/\own[i.2]? =some (b.ps.map pD))->
   (ix.map λi=>D.obj i.1).mapM (fz own' 0 19)=some (rows.map Yo):=λix=>by
  induction ix with
  |nil=>intro rows hl _;rw[List.eq_nil_of_length_eq_zero hl.symm];rfl
  |cons i ix ih=>
   intro rows hl hj
   cases rows with
   |nil=>cases hl
   |cons r rows=>
    refine Ae (hj 0 i _ rfl rfl) λh1 h2=>?_
    refine Bl (aB (Bg p h1) (Bl rfl (Bl (aB (Bg p h2) ?_) (Bl rfl rfl)))) (ih rows (Nat.succ.inj hl) λj i' b a1 a2=>hj (j+1) i' b a1 a2)
    show(((Ax r.1).map λp=>(([p.x]:List Nat),some [p.y])).map pD).mapM (fz own' 0 17)=some ((Ax r.1).map Nq)
    rw[map_map]
    exact Dg _ λ_ _=>rfl
 exact key ix rows (by rw[hl,length_map]) hj
theorem Ve {R:FD->St->Prop}{loc:List (String×D)}{base:List (List D)}{acc:List D}{junk j i:List (List D)}{cap:List String}{d:D}(hl:acc.length<=20000)(h:R .next ⟨loc,base++(acc++[d])::(junk++(j++i)),cap⟩):
  ∃l,(((base++acc::junk)++j)++i)[base.length]? =some l/\l.length<=sizeLine/\R .next ⟨loc,(((base++acc::junk)++j)++i).set base.length (l++[d]),cap⟩:=by
 rw[append_assoc (base++acc::junk)]
 exact Tu hl h
theorem Z9 (base junk r:List (List D))(x y z u:List D):(base++x::(junk++((y::r)++[u])))[((base++z::junk)++y::r).length]? =some u:=by
 have e:base++x::(junk++((y::r)++[u]))=((base++x::junk)++y::r)++[u]:=by simp
 have e2:((base++z::junk)++y::r).length=((base++x::junk)++y::r).length:=by simp
 rw[e,e2];exact Ai _ _
theorem iY (base junk r:List (List D))(x y z u:List D):(base++x::(junk++((y::r)++[u])))[(base++z::junk).length]? =some y:=by
 rw[cons_append];exact fO _ _ _ _ _ _
theorem jF {Γ:W}{A:Around}{a P cc a3 a15 a17 a20 a22 a23 a24 a25 a13 a11:Addr}{pm doc:Value}{fd3 fd15 Rr fd20 fd22 fd23 fd25 fd13 fd11:FuncData}(ok:Γ.Ok)(N:Fn Γ a (docDef Jb.name Jb.params Jb.body Jb.scope pm (.ref cc) doc) ["brackets","way"] Jb.body)(g3:Γ.mg (ofString "translate")=some (.ref a3))(o3:∃o,Γ.B.get? a3=some o/\o.data=.func fd3)(g13:Γ.mg (ofString "_check_parenthesis")=some (.ref a13))(o13:∃o,Γ.B.get? a13=some o/\o.data=.func fd13)(g25:Γ.mg (ofString "_law_closes")=some (.ref a25))(o25:∃o,Γ.B.get? a25=some o/\o.data=.func fd25)(g23:Γ.mg (ofString "_law_places")=some (.ref a23))(o23:∃o,Γ.B.get? a23=some o/\o.data=.func fd23)(g20:Γ.mg (ofString "_law_spelled")=some (.ref a20))(o20:∃o,Γ.B.get? a20=some o/\o.data=.func fd20)(g22:Γ.mg (ofString "_law_units")=some (.ref a22))(o22:∃o,Γ.B.get? a22=some o/\o.data=.func fd22)(g17:Γ.mg (ofString "reduce")=some (.ref a17))(o17:∃o,Γ.B.get? a17=some o/\o.data=.func Rr)(g24:Γ.mg (ofString "_law_step")=some (.ref a24))(g15:Γ.mg (ofString "cmp_to_key")=some (.ref a15))(o15:∃o,Γ.B.get? a15=some o/\o.data=.func fd15)(hcP:(cc,P)∈Γ.tabs)(hmk:∀G cv (pos':Pos),pos'.line=241->Bd G cv Wd->Γ.codeOk P pos' G cv)(hhit:∀G cv (pos':Pos),pos'.line=241->Γ.codeOk P pos' G cv->Bd G cv Wd)(g11:Γ.mg (ofString "_iter_escaped_chars")=some (.ref a11))(e11:Ja Γ a11 fd11)(li1:Γ.mg (ofString "list")=none)(li2:Γ.mb (ofString "list")=some (.type "list"))(so1:Γ.mg (ofString "sorted")=none)(so2:Γ.mb (ofString "sorted")=some (.builtin "sorted"))
  (hA:Bi 5 A)(f3:∀env,Ar Γ (A.deeper env) (.ref a3) S3)(f13:∀env,Ar Γ (A.deeper env) (.ref a13) oY)(f25:∀env,Ar Γ (A.deeper env) (.ref a25) oS)(f23:∀env,Ar Γ (A.deeper env) (.ref a23) oT)(f20:∀env,Ar Γ (A.deeper env) (.ref a20) oV)(f22:∀env,Ar Γ (A.deeper env) (.ref a22) oU)(f17:∀env,Ar Γ (A.deeper env) (.ref a17) (oX a24))(oM:∀env,Ar Γ (A.deeper env) (.ref a15) (λds own Q=>∃P,ds=[.sem P]/\Q (.sem (Xk Γ.w P)) own)):Ar Γ A (.ref a) S26:=by
 refine'(Dr ok N rfl (by have:=hA.depth;exact Ah this) (λL=>?w)).imp ?p
 case w=>
  have H:=H3 ok N (hA.deeper (callEnvC (docDef Jb.name Jb.params Jb.body Jb.scope pm (.ref cc) doc) L a)) L
  have HA:Bi (1+3) (A.deeper (callEnvC (docDef Jb.name Jb.params Jb.body Jb.scope pm (.ref cc) doc) L a)):=⟨hA.handled,by have:=hA.depth;rw[depth_deeper];exact Ah this,by have:=hA.units;show A.units+3+500+16*4<_;exact Ah this⟩
  exact(rD Γ a24).2 ok N g3 o3 g13 o13 g25 o25 g23 o23 g20 o20 g22 o22 g17 o17 g24 g15 o15 hcP hmk hhit g11 e11 li1 li2 so1 so2 _ L H HA (f3 _) (f13 _) (f25 _) (f23 _) (f20 _) (f22 _) (f17 _) (oM _)
 case p=>
  intro ds own Q Z
  refine Hg Z λk way xs z5 hway hk hxl hx q=>?_
  clear Z
  subst z5
  refine⟨rfl,?_⟩
  unfold rD
  dsimp only
  have hq:∀x∈xs,Kb x.2:=λx h=>(hx x h).2
  refine Ao (λσ=>σ=⟨[("brackets",.obj k),("way",.int way),("weights",.obj own.length)],own++[(G8 way).map D.int],[]⟩) (λ_ _=>False) (λR r1 _=>?_) ?_ λ_ _ h=>h.elim
  ·refine Ab rfl ((show(λc=>_) (decide (way>0))from H6 (λh=>?_) λh=>?_))
   ·exact((⟨by show(3:Nat)<=sizeLine;decide,λ_=>not_mem_nil,r1 _ (by unfold G8;rw[if_pos (of_decide_eq_true h)];rfl)⟩))
   ·exact((⟨by show(3:Nat)<=sizeLine;decide,λ_=>not_mem_nil,r1 _ (by unfold G8;rw[if_neg (of_decide_eq_false h)];rfl)⟩))
  rintro σ rfl
  refine Ao (λσ=>∃kw own1 P,σ=⟨pX k way kw P,own1,["way"]⟩/\P=Xk Γ.w (Kz Γ 1 (Kj way))/\own1[kw]? =some ((G8 way).map D.int)/\own<+:own1) (λ_ _=>False) (λR r1 _=>?_) ?_ λ_ _ h=>h.elim
  ·exact⟨Kz Γ 1 (Kj way),.int way,0,rfl,not_mem_nil,rfl,λG v h=>dF ok ((by decide:∀w∈([1,-1]:List Int),w.natAbs<=10) way hway) rfl rfl rfl (by decide) rfl rfl rfl h,_,rfl,λ_=>(by decide:"turn"∉["way"]),r1 _ ⟨own.length,_,_,rfl,rfl,Ai _ _,prefix_append _ _⟩⟩
  intro σ Y
  refine Ds Y λkw own1 PT z6 hPT hkw hpre=>?_
  clear Y
  subst z6
  refine Ao (λσ=>∃kr own2,σ=⟨S7 k way kw PT kr,own2,["way"]⟩/\own2[kr]? =some ((Fb way xs).map M1)/\own1<+:own2) (λ_ _=>False) (λR r1 _=>?_) ?_ λ_ _ h=>h.elim
  ·refine Hc (Ab rfl (Ca (s:=[("turn",.sem PT)]) bH (λx=>[gV way x]) xs (Bg hpre hk) (λx don res junk R2 e n2=>?_) λloc junk=>?_))
   ·have hm:x∈xs:=by rw[e];simp
    have hr:=hq x hm
    have hdl:don.length<=2:=by have:=congrArg List.length e;rw[length_append,length_cons]at this;exact Ah (add_le_add (le_of_eq this.symm) hxl)
    refine⟨_,rfl,rfl,_,_,rfl,B0 ⟨_,_,rfl,B0 (sT (bP (Ab rfl (Ab rfl ⟨Kj way,x.2.1.map Dm,cD way,3,Kj.mono,congrArg D.sem hPT,?_,?_,?_,?_,Ab rfl ⟨by show(2:Nat)<=sizeLine;decide,Rt ?_ (n2 [("pieces",x.1),("barred",.bool x.2.2)] [])⟩⟩))))⟩⟩
    ·exact Au (Jm hpre (hx x hm).1) _
    ·rw[length_map];exact le_succ_of_le hr.2.1
    ·intro d hd
     refine Ac (mem_map.mp hd) λp hp z7=>?_
     subst z7
     exact Uw 1 (hr.2.2 p hp).1
    ·intro d hd d' hd' Q' hQ
     refine Ac (mem_map.mp hd) λp hp z8=>?_
     subst z8
     refine Ac (mem_map.mp hd') λp' hp' z9=>?_
     subst z9
     exact⟨_,_,p.wt,p'.wt,rfl,rfl,rfl,(by decide:∀w∈([0,1,2]:List Int),w.natAbs<=10) _ (hr.2.2 p hp).2,(by decide:∀w∈([0,1,2]:List Int),w.natAbs<=10) _ (hr.2.2 p' hp').2,hQ⟩
    ·rw[Dv,length_map];exact le_trans hdl (by decide)
   ·exact B0 (r1 _ ⟨_,_,rfl,by rw[N2 hway xs hq];exact Bn _ _ _,prefix_append _ _⟩)
  intro σ V
  refine Aj V λkr own2 y0 hkr hpre2=>?_
  clear V
  subst y0
  have hpre3:=hpre.trans hpre2
  have hrq:∀r∈Fb way xs,∀p∈r.1,O1 p:=λr hr p hp=>by
   refine Ac (mem_map.mp hr) λx hx' y1=>?_
   subst y1
   exact((hq x hx').2.2 p (N8 hp)).1
  have hrl:(Fb way xs).length<=2:=by unfold Fb;rw[length_map];exact hxl
  refine Ao (λσ=>∃own3,σ=⟨S7 k way kw PT kr,own3,["way"]⟩/\own2<+:own3) (λ_ _=>False) (λR r1 _=>?_) ?_ λ_ _ h=>h.elim
  ·refine Ab rfl (Hc (Ab rfl (Rk (s:=[("weights",.obj kw)]) bH (λown' x e=>∃q,own2.length<q/\e=.tup [.obj q,.bool x.2.2]/\own'[q]? =some ((Dp way x.2.1).map Dm)) xs (Bg hpre3 hk) (λo o' x e h1 h2=>?_) (λx don res es junk R2 e n2 hel=>?_) λes junk hrel=>?_)))
   ·refine Ay h1 λq a1 a2 a3=>?_
    try clear h1
    exact⟨q,a1,a2,h2 _ _ a1 a3⟩
   ·have hm:x∈xs:=by rw[e];simp
    have hdl:don.length<=2:=by have:=congrArg List.length e;rw[length_append,length_cons]at this;exact Ah (add_le_add (le_of_eq this.symm) hxl)
    have h3:=(hq x hm).2.1
    refine⟨_,rfl,rfl,_,_,rfl,⟨λ_=>(by decide:"pieces"∉["weights"]),_,_,rfl,B0 (sT (bP (Hc (Ab rfl (Ca (s:=[("pieces",x.1)]) D.int (λw=>x.2.1.flatMap (Ij w)) (G8 way) (Au (d:=.obj kw) (Bg hpre2 hkw) _) (λw dw rw' jw R3 ew n3=>?_) λloc jw=>?_)))))⟩⟩
    ·have hdw:dw.length<=3:=by
      have:=congrArg List.length ew
      rw[length_append,length_cons]at this
      have h4:(G8 way).length=3:=by unfold G8;split<;>rfl
      exact Ah (add_le_add (le_of_eq this.symm) (le_of_eq h4))
     refine B0 (sT (eS (Ab rfl (Ir (s:=[("pieces",x.1),("weight",.int w)]) Dm (Ij w) x.2.1 (λacc'=>Au (Au (Jm hpre3 (hx x hm).1) _) _) (λp dp rp R4 ep n4=>?_) ?_))))
     ·refine B0 (Ab rfl ((Yh ⟨by decide,by decide⟩ rfl (Ab rfl (Mo (H6 (λhc=>?_) λhc=>?_))))))
      ·have h:=n4 [("piece",Dm p)]
       rw[Nm hc]at h
       refine bP (Ab rfl (aV ?_ h))
       have h5:=Gn (f:=λw=>x.2.1.flatMap (Ij w)) (n:=3) (λw=>by have:=Gn (No w) x.2.1;exact Ah (add_le_add this h3)) dw
       have h6:=Gn (No w) dp
       have:=congrArg List.length ep
       rw[length_append,length_cons]at this
       rw[length_append]
       exact Ah (add_le_add (add_le_add (add_le_add (add_le_add h5 h6) (mul_le_mul_left 3 hdw)) (le_of_eq this.symm)) h3)
      ·have h:=n4 [("piece",Dm p)]
       rw[Nn hc,append_nil]at h
       exact h
     ·have h:=n3 [("weight",.int w)] []
      rw[append_nil]at h
      exact h
    ·refine Ab rfl ⟨by show(2:Nat)<=sizeLine;decide,Tu (by exact Ah (add_le_add (le_of_eq hel) hdl)) (n2 [("pieces",x.1),("barred",.bool x.2.2)] _ _ ⟨_,?_,rfl,?_⟩)⟩
     ·show own2.length<(own2++es::junk).length;simp
     ·rw[Tz];exact fO _ _ _ _ _ _
   ·refine pU (d:=.lst ((Fb way xs).map M1)) (aB (Bg (prefix_append _ _) hkr) (Dg _ λr _=>jB _ r)) (aB (Bn _ _ _) ?_) ?_ (sF (r1 _ ⟨_,rfl,prefix_append _ _⟩))
    ·have e:=hrel.mapM (F:=fz (own2++es::junk) 0 19) (val:=λx=>M1 (Dp way x.2.1,x.2.2)) λx e ⟨q,a1,a2,a3⟩=>by
      subst a2
      exact rU (Bl (aB a3 (Dg _ λ_ _=>rfl)) (Bl rfl rfl))
     refine e.trans ?_
     unfold Fb
     rw[map_map];rfl
    ·exact Gg _ λr hr=>cX (hrq r hr)
  intro σ U
  refine Ac U λown3 y2 hpre4=>?_
  clear U
  subst y2
  have hkr3:=Bg hpre4 hkr
  have hrow:∀r∈Fb way xs,Kb r:=λr hr=>by
   refine Ac (mem_map.mp hr) λx hx' y3=>?_
   subst y3
   have h:=hq x hx'
   have hl:=Xd hway h.2.1 λp hp=>(h.2.2 p hp).2
   refine⟨λe=>h.1 (List.eq_nil_of_length_eq_zero (by rw[<-hl];exact congrArg List.length e)),by show(Dp way x.2.1).length<=3;rw[hl];exact h.2.1,λp hp=>h.2.2 p (N8 hp)⟩
  have hpre5:=hpre3.trans hpre4
  generalize Fb way xs=rows at hkr3 hrow hrl hrq⊢
  refine Ao (λσ=>∃own4 ku,σ=⟨S7 k way kw PT kr++[("units",.obj ku)],own4,["way"]⟩/\own3<+:own4/\own4[ku]? =some ((C4 rows).map D.str)) (λ_ _=>False) (λR r1 _=>?_) ?_ λ_ _ h=>h.elim
  ·refine(((⟨by show(4:Nat)<=sizeLine;decide,Hc (Ab rfl (Ca (s:=[]) M1 Es rows (Au (d:=.obj kr) hkr3 _) (λr don res junk R2 e n2=>?_) λloc junk=>?_))⟩)))
   ·have hm:r∈rows:=by rw[e];simp
    have hdl:don.length<=2:=by have:=congrArg List.length e;rw[length_append,length_cons]at this;exact Ah (add_le_add (le_of_eq this.symm) hrl)
    refine⟨_,rfl,rfl,_,_,rfl,B0 ⟨_,_,rfl,B0 (sT (eS (Ab rfl (Ab rfl ⟨.lst (r.1.map Dm),r.1,r.2,rfl,rfl,λp hp=>⟨(hrq r hm p hp).1,(hrq r hm p hp).2.1⟩,by have:=(hrow r hm).2.1;exact le_trans this (by decide),λkq own' hp' hge hget=>?_⟩))))⟩⟩
    refine Af hp' λt y4=>?_
    try clear hp'
    subst y4
    have hge:((own3++[S2])++don.flatMap Es::junk).length<=kq:=hge
    have hget:(((own3++[S2])++don.flatMap Es::junk)++t)[kq]? =some ((Ce r.2 r.1).map D.str):=hget
    rw[append_assoc (own3++[S2]),cons_append]at hget
    have hlt:(own3++[S2]).length<kq:=by rw[length_append,length_cons]at hge;exact Ah hge
    refine iH (s:=[("row",.lst (r.1.map Dm)),("barred",.bool r.2)]) D.str (λu=>[D.str u]) (Ce r.2 r.1) (λacc'=>dK hget hlt) (λu du ru R4 eu n4=>B0 (sT (bP (Ab rfl (aV ?_ (n4 [("unit",.str u)])))))) (n2 [("row",.lst (r.1.map Dm)),("barred",.bool r.2)] t)
    have h5:(don.flatMap Es).length<=2*12:=by
     have:=Jf don λr hr=>hrow r (by rw[e];exact List.mem_append_left _ hr)
     exact Ah (add_le_add this (mul_le_mul_left 12 hdl))
    have h6:=K2 r.2 r.1 (hrow r hm).2.1
    rw[eu,length_append,length_cons]at h6
    rw[length_append,Dv,length_map]
    exact Ah (add_le_add h5 h6)
   ·have hall:=M6 rows
    have hrl2:(rows.flatMap Es).length<=24:=by
     have:=Jf rows hrow
     exact Ah (add_le_add this (mul_le_mul_left 12 hrl))
    refine Yk (la:=S2) (lb:=rows.flatMap Es) ?_ (Bn _ _ _) (by show(4:Nat)+_<=sizeLine;unfold sizeLine;exact le_trans (Ah hrl2) b6) ((⟨by show(2:Nat)<=sizeLine;decide,Yk (la:=S2++rows.flatMap Es) (lb:=[.str (cs ")"),.str (cs "\\Z")]) ?_ (Ai _ _) (by rw[length_append];show(4:Nat)+_+2<=sizeLine;unfold sizeLine;exact le_trans (Ah hrl2) b6) (B0 (r1 _ ⟨_,_,rfl,?_,(Ai _ _).trans (congrArg some hall)⟩))⟩))
    ·exact(Bg (prefix_append _ _) (Ai own3 S2))
    ·exact Bg (prefix_append _ _) (Ai _ _)
    ·exact(((prefix_append _ _).trans (prefix_append _ _)).trans ((prefix_append _ _).trans (prefix_append _ _))).trans (prefix_append _ _)
  intro σ z0
  refine Aj z0 λown4 ku y5 hpre6 hku=>?_
  clear z0
  subst y5
  have hpre7:=hpre5.trans hpre6
  have hkr4:=Bg hpre6 hkr3
  refine Ao (λσ=>∃own5,σ=⟨S7 k way kw PT kr++[("units",.obj ku),("text",.str (C4 rows).flatten)],own5,["way"]⟩/\own4<+:own5) (λ_ _=>False) (λR r1 _=>?_) ?_ λ_ _ h=>h.elim
  ·refine⟨⟨_,rfl⟩,Hc (Ab rfl (Ca (s:=[]) M1 (λr=>[D.str (Ej r.1 r.2)]) rows (show Al own4 (.obj kr)=_ from hkr4) (λr don res junk R2 e n2=>?_) λloc junk=>?_))⟩
   ·have hm:r∈rows:=by rw[e];simp
    have hdl:don.length<=2:=by have:=congrArg List.length e;rw[length_append,length_cons]at this;exact Ah (add_le_add (le_of_eq this.symm) hrl)
    refine⟨_,rfl,rfl,_,_,rfl,B0 ⟨_,_,rfl,B0 (sT (bP (Ab rfl (Ab rfl ⟨.lst (r.1.map Dm),r.1,r.2,rfl,rfl,by have:=(hrow r hm).2.1;exact le_trans this (by decide),λown' hp'=>?_⟩))))⟩⟩
    refine Af hp' λt y6=>?_
    try clear hp'
    subst y6
    exact Tu (by rw[Dv,length_map];exact le_trans hdl (by decide)) (n2 [("row",.lst (r.1.map Dm)),("barred",.bool r.2)] t)
   ·refine eV (xs:=rows.map λr=>Ej r.1 r.2) ?_ 12 ?_ ?_ ⟨rows,rfl,hrl,λr hr=>Zg (hrow r hr),λown' hp'=>B0 ?_⟩
    ·refine(Bn _ _ _).trans ?_
     rw[Dv,map_map];rfl
    ·intro x hx'
     refine Ac (mem_map.mp hx') λr hr y7=>?_
     subst y7
     exact Sq _ _ (hrow r hr).2.1
    ·rw[length_map];exact Ah (mul_le_mul_left 12 hrl)
    ·rw[Qh rows hrq]
     exact r1 _ ⟨_,rfl,(prefix_append _ _).trans hp'⟩
  intro σ z1
  refine Ac z1 λown5 y8 hpre8=>?_
  clear z1
  subst y8
  have hku5:=Bg hpre8 hku
  have hpre9:=hpre7.trans hpre8
  have htl:(C4 rows).flatten.length<=200:=by
   have h1:=Nr rows λr hr=>Zg (hrow r hr)
   rw[<-Qh rows hrq,length_append,length_append]
   have h2:(cs "(?s:").length=4:=by decide
   have h3:(cs ")\\Z").length=3:=by decide
   exact Ah (add_le_add (add_le_add (add_le_add (le_of_eq h2) h1) (le_of_eq h3)) (mul_le_mul_left 50 hrl))
  refine Ao (λσ=>∃own6 kd,σ=⟨S7 k way kw PT kr++[("units",.obj ku),("text",.str (C4 rows).flatten),("read",.obj kd)],own6,["way"]⟩/\own5<+:own6/\own6[kd]? =some ((A9 0 false (C4 rows).flatten).map Gr)) (λ_ _=>False) (λR r1 _=>?_) ?_ λ_ _ h=>h.elim
  ·exact Ab rfl ⟨_,rfl,by unfold sizeLine;exact le_trans (Ah htl) b6,by unfold sizeLine;exact le_trans (Ah htl) b6,B0 (r1 _ ⟨_,_,rfl,prefix_append _ _,Ai _ _⟩)⟩
  intro σ z2
  refine Aj z2 λown6 kd y9 hpreA hkd=>?_
  clear z2
  subst y9
  have hku6:=Bg hpreA hku5
  have hkr6:=Bg hpreA (Bg hpre8 hkr4)
  have hpreB:=hpre9.trans hpreA
  have hgood:=V5 rows hrq
  have hesc:=Lx (C4 rows) 0 hgood
  have hUl:(C4 rows).length<=30:=by
   have h1:=congrArg List.length (M6 rows)
   have h2:=Jf rows hrow
   rw[length_append,length_append,length_map]at h1
   simp only[length_cons,length_nil]at h1
   exact Ah (add_le_add (add_le_add (le_of_eq h1.symm) h2) (mul_le_mul_left 12 hrl))
  have hU2:∀u∈C4 rows,u.length<=2:=λu hu=>by
   rcases D8 (hgood u hu)with⟨c,_,e⟩|⟨c,e⟩<;>rw[e]<;>simp
  have hsm:∀q∈A9 0 false (C4 rows).flatten,Io 19 (Gr q)=true:=λq' hq'=>by
   have h1:q'.2∈C4 rows:=by rw[<-hesc.2];exact mem_map_of_mem hq'
   show(true&&((q'.2.all λc=>decide (c<0x110000))&&true))=true
   rw[Sy rows hrq _ h1];rfl
  refine Ao (λσ=>∃own7,σ=⟨S7 k way kw PT kr++[("units",.obj ku),("text",.str (C4 rows).flatten),("read",.obj kd)],own7,["way"]⟩/\own6<+:own7) (λ_ _=>False) (λR r1 _=>?_) ?_ λ_ _ h=>h.elim
  ·refine Ab rfl (⟨⟨_,rfl⟩,Ab rfl (eV hku6 2 hU2 (by exact Ah (mul_le_mul_left 2 hUl)) (pK rfl (sF (Ab rfl (Ab rfl ⟨.obj ku,C4 rows,rfl,hku6,by exact le_trans hUl (by decide),λu hu=>by have:=hU2 u hu;exact lt_of_le_of_lt this (by decide),?_⟩)))))⟩)
   refine pU (d:=.lst ((A9 0 false (C4 rows).flatten).map Gr)) (aB (Bg (prefix_append _ _) hkd) (Dg _ λ_ _=>rfl)) (aB (Ai _ _) ?_) (Gg _ hsm) (sF (sF (r1 _ ⟨_,rfl,prefix_append _ _⟩)))
   rw[<-show(A9 0 false (C4 rows).flatten).map Gr=Cq (-1) (C4 rows)from hesc.1]
   exact Dg _ λ_ _=>rfl
  intro σ z3
  refine Ac z3 λown7 w0 hpreC=>?_
  clear z3
  subst w0
  have hku7:=Bg hpreC hku6
  have hkr7:=Bg hpreC hkr6
  have hkd7:=Bg hpreC hkd
  have hpreD:=hpreB.trans hpreC
  have hread:=Yu rows hrq
  refine Ao (λσ=>∃own8,σ=⟨S7 k way kw PT kr++[("units",.obj ku),("text",.str (C4 rows).flatten),("read",.obj kd)],own8,["way"]⟩/\own7<+:own8) (λ_ _=>False) (λR r1 _=>?_) ?_ λ_ _ h=>h.elim
  ·refine(Ab rfl ⟨zero_le _,kd,own7.length,A9 0 false (C4 rows).flatten,rfl,(List.getElem?_eq_some_iff.mp hkd7).1,Bg (prefix_append _ _) hkd7,Ai _ _,?_,λown' hT hlt hle=>?_⟩)
   ·refine Tn _ [] 0 (λq' hq'=>hgood _ (by rw[<-hesc.2];exact mem_map_of_mem hq')) (le_refl _) (λ_ h=>nomatch h) ?_ (by rw[hesc.2];exact hread.2)
    have:=Gq (C4 rows).flatten 0 false
    rw[if_neg Bool.false_ne_true]at this
    exact Ah (add_le_add this htl)
   ·have hle':own7.length+1<=own'.length:=by rw[length_append]at hle;exact hle
    have hp':own7<+:own':=hZ (λi hi=>(hlt i hi).trans (List.getElem?_append_left hi)) (by exact Ah hle')
    rw[aD,hesc.2,hread.1]at hT
    refine Hc (Ab rfl (Rk (s:=[]) M1 (λo r e=>∃q1 q2,own'.length<q1/\own'.length<q2/\e=.obj q1/\o[q1]? =some [.bool r.2,.obj q2,.bool false]/\o[q2]? =some ((Ax r.1).map Nq)) rows (show Al own' (.obj kr)=_ from Bg hp' hkr7) (λo o' x e h1 h2=>?_) (λr don res es junk R2 e n2 hel=>?_) λes junk hrel=>?_))
    ·refine Lu h1 λq1 q2 a1 a2 a3 a4 a5=>?_
     try clear h1
     exact⟨q1,q2,a1,a2,a3,h2 _ _ a1 a4,h2 _ _ a2 a5⟩
    ·have hm:r∈rows:=by rw[e];simp
     have h3:=(hrow r hm).2.1
     have hdl:don.length<=2:=by have:=congrArg List.length e;rw[length_append,length_cons]at this;exact Ah (add_le_add (le_of_eq this.symm) hrl)
     refine⟨_,rfl,rfl,_,_,rfl,B0 ⟨_,_,rfl,B0 (sT (bP (Ab rfl (Hc (Ab rfl (Ca (s:=[]) Dm Lf r.1 rfl (λp dp rp j3 R3 ep n3=>?_) λloc j3=>?_))))))⟩⟩
     ·refine⟨_,rfl,rfl,_,_,rfl,B0 ⟨_,_,rfl,B0 ⟨_,_,rfl,B0 ⟨_,_,rfl,B0 (Ab rfl (Ab rfl (kW (H6 (λhc=>?_) λhc=>?_))))⟩⟩⟩⟩
      ·have h:=n3 [("x",.str [p.x]),("y",.str [p.y]),("lone",.bool p.lone),("weight",.int p.wt)] []
       rw[show Lf p=[.tup [.str [p.x],.str [p.y]]]from if_pos (of_decide_eq_true hc)]at h
       refine bP (Ab rfl (Ab rfl ⟨by show(2:Nat)<=sizeLine;decide,Rt ?_ h⟩))
       have h5:=Gn Wh dp
       have:=congrArg List.length ep
       rw[length_append,length_cons]at this
       exact Ah (add_le_add (add_le_add h5 (le_of_eq this.symm)) h3)
      ·have h:=n3 [("x",.str [p.x]),("y",.str [p.y]),("lone",.bool p.lone),("weight",.int p.wt)] []
       rw[show Lf p=[]from if_neg (of_decide_eq_false hc),append_nil,append_nil]at h
       exact h
     ·refine⟨by show(3:Nat)<=sizeLine;decide,Ve (by exact Ah (add_le_add (le_of_eq hel) hdl)) (n2 [("row",.lst (r.1.map Dm)),("barred",.bool r.2)] _ _ ⟨_,_,?_,?_,rfl,Z9 _ _ _ _ _ _ _,?_⟩)⟩
      ·show own'.length<((own'++es::junk)++_::j3).length;simp
      ·show own'.length<(own'++es::junk).length;simp
      ·rw[Wg];exact iY _ _ _ _ _ _ _
    ·refine pU (d:=.lst (rows.map Yo)) (jC hT (prefix_append _ _)) (aB (Bn _ _ _) ?_) (Gg _ λr hr=>cW (hrq r hr)) (sF (r1 _ ⟨_,rfl,hp'.trans (prefix_append _ _)⟩))
     exact hrel.mapM (F:=fz (own'++es::junk) 0 19) (val:=Yo) λx e ⟨q1,q2,a1,a2,a3,a4,a5⟩=>by
      subst a3
      exact aB a4 (Bl rfl (Bl (aB a5 (Dg _ λ_ _=>rfl)) (Bl rfl rfl)))
  intro σ z4
  refine Ac z4 λown8 w1 hpreE=>?_
  clear z4
  subst w1
  refine Bf λR n1 n2=>Ab rfl ⟨_,rfl,by exact le_trans htl (by decide),λown' hp'=>Ab rfl ⟨.obj ku,C4 rows,rfl,Bg (hpreE.trans hp') hku7,by exact le_trans hUl (by decide),λown'' hp''=>?_⟩⟩
  show R (.ret (.bool (Jx (C4 rows).flatten==Kw (C4 rows)))) _
  rw[Pn _ hgood,beq_self_eq_true]
  exact n2 _ _ (q _ ((hpreD.trans hpreE).trans (hp'.trans hp'')))
noncomputable def rZ:Mine.Cf:=λds own Q=>∃ns:List Int,ds=[.lst (ns.map D.int)]/\ns.length<=63/\∀own',Q (.bool true) own'
noncomputable def H1 (ns:List Int):List Int:=if ns.take 6=[]then[2030,1310,331,1524,447,2028]else ns.take 6
theorem Zi (ns:List Int):1<=(H1 ns).length/\(H1 ns).length<=6:=by
 unfold H1
 split
 ·decide
 ·rename_i h
  exact⟨List.length_pos_iff.mpr h,by rw[length_take];exact Ah (min_le_left (6) (ns.length))⟩
noncomputable def Mx (n:Nat):List Nat:=if n<=3 then[0]else[0,3]
theorem Zr {n:Nat}(h1:1<=n)(h6:n<=6):Builtin.Range.small 0 (n:Int) 3=true/\Fd 0 3 (Builtin.Range.rangeSize 0 (n:Int) 3).toNat=(Mx n).map λk=>.int (k:Int):=by
 have h:∀n:Nat,n<7->1<=n->(Builtin.Range.small 0 (n:Int) 3&&(Builtin.Range.rangeSize 0 (n:Int) 3).toNat==(Mx n).length)=true:=by decide
 have h:=Bool.and_eq_true_iff.mp (h n (Nat.lt_succ_of_le h6) h1)
 refine⟨h.1,?_⟩
 rw[eq_of_beq h.2]
 unfold Mx
 exact O8 (λl:List Nat=>Fd 0 3 l.length=l.map λk=>.int (k:Int)) (λ_=>rfl) λ_=>rfl
theorem fL {n k:Nat}(h1:1<=n)(hk:k∈Mx n):k<n/\k<=3:=by
 unfold Mx at hk
 split at hk<;>rename_i h
 ·rw[mem_singleton.mp hk];exact⟨Ah h1,by simp +arith only⟩
 ·rcases mem_cons.mp hk with rfl|hk
  ·exact⟨Ah h1,by simp +arith only⟩
  ·rw[mem_singleton.mp hk];exact⟨not_le.1 h,le_refl 3⟩
noncomputable def Mq (ms:List Int) (k:Nat):Eb:=(((ms.drop k).take 3).map Le,ms.getD k 0/507%2==1)
theorem On:∀{i:Nat},i<13->sg.getD i 0∈sg:=λ{i} h=>(by decide:∀i,i<13->sg.getD i 0∈sg) i h
theorem lI (m:Int):O1 (Le m)/\lK (Le m).wt:=by
 have h:=qM
 refine⟨⟨On (h m),?_,λhl=>?_⟩,?_⟩
 ·show(if m/13%3==0 then sg.getD (m%13).toNat 0 else sg.getD (m/39%13).toNat 0)∈sg
  split
  ·exact On (h m)
  ·exact On (h (m/39))
 ·show sg.getD (m%13).toNat 0=if m/13%3==0 then sg.getD (m%13).toNat 0 else sg.getD (m/39%13).toNat 0
  rw[if_pos (show(m/13%3==0)=true from hl)]
 ·have h3:m/1014%3=0\/m/1014%3=1\/m/1014%3=2:=sY (Int.emod_nonneg _ (by decide)) (Int.emod_lt_of_pos _ (by decide))
  show m/1014%3∈([0,1,2]:List Int)
  rcases h3 with h|h|h<;>rw[h]<;>decide
theorem gU {ms:List Int}{k:Nat}(hk:k<ms.length):Kb (Mq ms k):=by
 refine⟨λe=>?_,?_,λp hp=>?_⟩
 ·have:=congrArg List.length e
  unfold Mq at this
  simp only[length_map,length_take,length_drop,length_nil]at this
  exact absurd this (ne_of_gt (Nat.lt_min.2 ⟨by decide,Nat.sub_pos_of_lt hk⟩))
 ·unfold Mq
  rw[length_map,length_take];exact Ah (min_le_left (3) ((List.drop k ms).length))
 ·refine Ac (mem_map.mp hp) λm _ Z=>?_
  subst Z
  exact lI m
theorem V9 {ms:List Int}{own:List (List D)}{b:Nat}{ks:List Nat}:∀{es:List D},Cu (λk e=>∃q,b<q/\e=.tup [.obj q,.bool (Mq ms k).2]/\own[q]? =some ((Mq ms k).1.map Dm)) ks es->
  ∃xs:List (D×Eb),es=xs.map bH/\xs.length=ks.length/\∀x∈xs,Al own x.1=some (x.2.1.map Dm)/\∃k∈ks,x.2=Mq ms k:=by
 induction ks with
 |nil=>
  intro es h
  cases es with
  |nil=>exact⟨[],rfl,rfl,λ_ h=>nomatch h⟩
  |cons _ _=>exact h.elim
 |cons k ks ih=>
  intro es h
  cases es with
  |nil=>exact h.elim
  |cons e es=>
  refine Ay h.1 λq _ h2 h3=>?_
  refine Ay (ih h.2) λxs e1 e2 e3=>?_
  refine⟨(.obj q,Mq ms k)::xs,by rw[map_cons,<-e1,h2];rfl,by rw[length_cons,length_cons,e2],λx hx=>?_⟩
  rcases mem_cons.mp hx with rfl|hx
  ·exact⟨h3,k,mem_cons_self,rfl⟩
  ·refine Ae (e3 x hx) λa1 Z=>?_
   refine Ac Z λk' a2 a3=>?_
   clear Z
   exact⟨a1,k',mem_cons_of_mem _ a2,a3⟩
theorem iB (ns:List Int):C8 (ns.map D.int) none (some 6) none=(ns.take 6).map D.int:=by
 rw[Nl,List.map_take]
 unfold E4 kms_lo kms_hi
 dsimp only
 rw[List.drop_zero,Nat.sub_zero,if_neg (by decide)]
 show(ns.map D.int).take (min 6 (ns.map D.int).length)=_
 by_cases h:6<=(ns.map D.int).length
 ·rw[min_eq_left h]
 ·rw[Nat.min_eq_right (by exact Ah (not_le.1 h)),take_of_length_le (le_refl _),take_of_length_le (by exact Ah (not_le.1 h))]
theorem iC (ms:List Int){k:Nat}(hk:k<ms.length):C8 (ms.map D.int) (some (k:Int)) (some ((k:Int)+3)) none=((ms.drop k).take 3).map D.int:=by
 rw[Nl,List.map_take,List.map_drop]
 unfold E4 kms_lo kms_hi
 dsimp only
 rw[if_neg (by exact Wl (n:=k+3) rfl),if_neg (by exact Wl (n:=k) rfl),length_map]
 have e1:min ((k:Int).toNat) ms.length=k:=min_eq_left (le_of_lt hk)
 have e2:((k:Int)+3).toNat=k+3:=by rfl
 rw[e1,e2]
 by_cases h:k+3<=ms.length
 ·rw[min_eq_left h,show k+3-k=3 by exact le_antisymm (Ah (le_of_eq (sub_add_cancel (by simp +arith only:k<=k+3)))) (Ah (Bp (k+3) (k)))]
 ·rw[Nat.min_eq_right (by exact Ah (not_le.1 h)),take_of_length_le (by rw[length_drop,length_map];exact le_refl _),take_of_length_le (by rw[length_drop,length_map];exact Ah (add_le_add (le_of_eq (sub_add_cancel (Ah hk:k<=ms.length))) (not_le.1 h)))]
theorem lO (ms:List Int){k:Nat}(hk:k<ms.length):Fg (ms.map D.int) (k:Int)=some (.int (ms.getD k 0)):=by
 unfold Fg
 rw[StrLaws.seqIndex_nonneg (by exact lP (n:=k) rfl) (by rw[length_map];exact Int.ofNat_lt.2 (Ah hk:k<ms.length)),Option.bind_some,Int.toNat_natCast,List.getElem?_map,List.getElem?_eq_getElem hk,Option.map_some]
 simp[List.getD,hk]
theorem qK {Γ:W}{A:Around}{a a19 a26:Addr}{pm code doc:Value}{fd19 fd26:FuncData}(ok:Γ.Ok)(N:Fn Γ a (docDef Pj.name Pj.params Pj.body Pj.scope pm code doc) ["script"] Pj.body)(g19:Γ.mg (ofString "_law_pieces")=some (.ref a19))(o19:∃o,Γ.B.get? a19=some o/\o.data=.func fd19)(g26:Γ.mg (ofString "_law_holds")=some (.ref a26))(o26:∃o,Γ.B.get? a26=some o/\o.data=.func fd26)(len1:Γ.mg (ofString "len")=none)(len2:Γ.mb (ofString "len")=some (.builtin "len"))(ran1:Γ.mg (ofString "range")=none)(ran2:Γ.mb (ofString "range")=some (.type "range"))
  (hA:Bi 6 A)(f19:∀env,Ar Γ (A.deeper env) (.ref a19) oW)(f26:∀env,Ar Γ (A.deeper env) (.ref a26) S26):Ar Γ A (.ref a) rZ:=by
 refine'(Dr ok N rfl (by have:=hA.depth;exact Ah this) (λL=>?w)).imp ?p
 case w=>
  exact(rC S26).2 ok N g19 o19 g26 o26 len1 len2 ran1 ran2 _ L (H3 ok N (hA.deeper _) L) (f19 _) (f26 _)
 case p=>
  intro ds own Q Z
  refine Ay Z λns U hns q=>?_
  clear Z
  subst U
  refine⟨rfl,?_⟩
  unfold rC
  dsimp only
  have hnl:=Zi ns
  refine Ao (λσ=>∃own1 kn,σ=⟨[("script",.lst (ns.map D.int)),("numbers",.obj kn)],own1,[]⟩/\own1[kn]? =some ((H1 ns).map D.int)) (λ_ _=>False) (λR r1 _=>?_) ?_ λ_ _ h=>h.elim
  ·have hp:=iB ns
   refine Ab rfl (⟨6,rfl,by decide,_,rfl,by rw[length_map];unfold sizeLine;exact le_trans hns (by decide),⟨_,Ai _ _,by rw[hp,length_map,length_take];exact lt_of_le_of_lt (Ah (min_le_left (6) (ns.length))) oQ,H6 (λh=>?_) λh=>?_⟩⟩)
   ·refine⟨λ_=>not_mem_nil,r1 _ ⟨_,_,rfl,(Ai _ _).trans ?_⟩⟩
    rw[hp]at h⊢
    unfold H1
    rw[if_neg λe=>by rw[e]at h;cases h]
   ·refine(((((⟨by show(6:Nat)<=sizeLine;decide,λ_=>not_mem_nil,r1 _ ⟨_,_,rfl,(Ai _ _).trans ?_⟩⟩)))))
    rw[hp]at h
    unfold H1
    rw[if_pos (by cases e:ns.take 6 with|nil=>rfl|cons a t=>rw[e]at h;cases h)]
    rfl
  intro σ Y
  refine A2 Y λown1 kn z0 hkn=>?_
  clear Y
  subst z0
  generalize H1 ns=ms at hkn hnl
  refine Ae (Zr hnl.1 hnl.2) λhsm hrd=>?_
  refine Ao (λσ=>∃(own2:List (List D)) (kb:Nat) (xs:List (D×Eb)),σ=⟨[("script",.lst (ns.map D.int)),("numbers",.obj kn),("brackets",.obj kb)],own2,[]⟩/\own2[kb]? =some (xs.map bH)/\xs.length<=2/\∀x∈xs,Al own2 x.1=some (x.2.1.map Dm)/\Kb x.2) (λ_ _=>False) (λR r1 _=>?_) ?_ λ_ _ h=>h.elim
  ·refine Hc ((Ab rfl ⟨_,rfl,Uo hkn (by rw[length_map];exact Ah hnl.2) (⟨0,_,3,rfl,by decide,⟨by decide,by rw[length_map];exact hsm⟩,?_⟩)⟩))
   rw[length_map,hrd]
   refine Nw (s:=[("numbers",.obj kn)]) (λk:Nat=>D.int k) (λo k e=>∃q,own1.length<q/\e=.tup [.obj q,.bool (Mq ms k).2]/\o[q]? =some ((Mq ms k).1.map Dm)) (Mx ms.length) (λ_ _=>trivial) (λo o' k e h1 h2=>?_) (λk don res es junk R2 e n2 hel=>?_) λes junk hrel=>?_
   ·refine Ay h1 λq a1 a2 a3=>?_
    try clear h1
    exact⟨q,a1,a2,h2 _ _ a1 a3⟩
   ·have hk:=fL hnl.1 (by rw[e];simp:k∈Mx ms.length)
    have hel2:es.length<=2:=by
     have h1:=congrArg List.length e
     have h2:(Mx ms.length).length<=2:=by unfold Mx;split<;>simp
     rw[length_append,length_cons]at h1
     exact Ah (add_le_add (add_le_add (le_of_eq hel) (le_of_eq h1.symm)) h2)
    have hg:∀x:List (List D),Al ((own1++es::junk)++x) (.obj kn)=some (ms.map D.int):=λx=>Au (Au (d:=.obj kn) hkn _) _
    refine B0 (sT (bP (Ab rfl (Ab rfl ⟨_,rfl,Ab rfl ((Hd ⟨_,rfl,by decide,_,Au (d:=.obj kn) hkn _,by rw[length_map];unfold sizeLine;exact le_trans (Ah hnl.2) b6,.obj _,(ms.drop k).take 3,rfl,?_,by rw[length_take];exact Ah (min_le_left (3) ((List.drop k ms).length)),Ab rfl (Ab rfl (Gd (l:=ms.map D.int) ?_ (iw (n:=k) rfl (Ah hk.2)) (lO ms hk.1) (⟨⟨by decide,by decide⟩,⟨by decide,(Mo ⟨by show(2:Nat)<=sizeLine;decide,Ve (j:=[_]) (i:=[_]) (by exact le_trans hel2 (by decide)) (n2 [("k",.int k)] _ _ ⟨_,?_,rfl,?_⟩)⟩)⟩⟩)))⟩))⟩))))
    ·refine(Ai _ _).trans ?_
     rw[iC ms hk.1]
    ·rw[append_assoc]
     exact hg _
    ·show own1.length<((own1++es::junk)++[_]).length;simp
    ·unfold Mq
     rw[map_map]
     exact Z9 _ _ [] _ _ _ _
   ·refine Ay (V9 hrel) λxs e1 e2 e3=>?_
    refine B0 (r1 _ ⟨_,_,xs,rfl,(Bn _ _ _).trans (congrArg some e1),?_,λx hx=>⟨(e3 x hx).1,?_⟩⟩)
    ·rw[e2];unfold Mx;split<;>simp
    ·refine Ac ((e3 x hx).2) λk hk e4=>?_
     rw[e4];exact gU (fL hnl.1 hk).1
  intro σ V
  refine Ds V λown2 kb xs z1 hkb hxl hx=>?_
  clear V
  subst z1
  refine Bf λR n1 n2=>Ab rfl (⟨kb,1,xs,rfl,by decide,hkb,hxl,hx,λown' hp=>Cp (sT (Ab rfl (⟨1,rfl,kb,-1,xs,rfl,by decide,Bg hp hkb,hxl,λx h=>⟨Jm hp (hx x h).1,(hx x h).2⟩,λown'' _=>n2 _ _ (q _)⟩)))⟩)
noncomputable abbrev Bv:=PySem.Challenge.pw_in0167_01
noncomputable def M9:List (Addr×Addr):=[(61,57),(96,92),(155,153)]
noncomputable def dP (o:Obj):Obj:=⟨o.cls,o.dict,.freed,o.slots⟩
noncomputable def B1 (h:Heap):Heap:=((h.update 57 dP).update 92 dP).update 153 dP
theorem Sj (h:Heap)(t a:Addr):(h.update t dP).get? a=if a=t then none else h.get? a:=by
 obtain⟨objs,l⟩:=h
 unfold Heap.update Heap.get?
 dsimp only
 by_cases e:a=t
 ·subst e
  rw[if_pos rfl,Array.getElem?_modify,if_pos rfl]
  cases objs[a]? with
  |none=>rfl
  |some o=>rfl
 ·rw[if_neg e,Array.getElem?_modify,if_neg λx=>e x.symm]
theorem Mi (h:Heap)(a:Addr):(B1 h).get? a=if a=153 then none else if a=92 then none else if a=57 then none else h.get? a:=by
 unfold B1
 rw[Sj,Sj,Sj]
theorem C5 {h:Heap}{a:Addr}(h1:a≠153)(h2:a≠92)(h3:a≠57):(B1 h).get? a=h.get? a:=by
 rw[Mi,if_neg h1,if_neg h2,if_neg h3]
theorem oH {h:Heap}{a:Addr}{o:Obj}(e:(B1 h).get? a=some o):h.get? a=some o:=by
 rw[Mi]at e
 split at e
 ·cases e
 ·split at e
  ·cases e
  ·split at e
   ·cases e
   ·exact e
noncomputable def Pm (P:Addr) (pos:Pos) (G:Gh) (c:Value):Prop:=(P=92->pos.line=152/\pos.col=4/\Ob G c)/\(P=153->Bd G c Wd)/\(P=57->pos.line=63->Bd G c kD)
theorem Pl (P:Addr)(pos:Pos)(G G':Gh)(c:Value)(l:G.le G')(h:Pm P pos G c):Pm P pos G' c:=
 ⟨λe=>(by refine A0 (h.1 e) λa b d=>?_;exact⟨a,b,d.mono l⟩),λe=>(h.2.1 e).mono l,λe e2=>(h.2.2 e e2).mono l⟩
structure Bo (w:World)(s s₁:Shared):Prop where
 T:Top q1 (looseW q1 Lk) (ExcName.means s.heap) (s.heap.nsMap mainGlobals) (s.heap.nsMap builtinsNs) s₁.heap
 y:Yg s=Z6
 k:∀b o,s.heap.get? b=some o->s₁.heap.get? b=some o
noncomputable def G1 (w:World) (s s₁:Shared):W:={prog:=Bv,w:=w,B:=B1 s₁.heap,mg:=s.heap.nsMap mainGlobals,mb:=s.heap.nsMap builtinsNs,tabs:=M9,codeOk:=Pm}
section
variable {w:World}{s s₁:Shared}
theorem Bo.name (X:Bo w s s₁){x:Str}{v:Value}(h:(x,v)∈Li):(G1 w s s₁).mg x=some v:=by
 have e:=congrArg (λx=>x.2.1) X.y
 exact List.map_inj_left.mp (show Li.map (λp=>s.heap.nsMap mainGlobals p.1)=Li.map (λp=>some p.2)from e) (x,v) h
theorem Bo.bare (X:Bo w s s₁){x:Str}(h:x∈R6):(G1 w s s₁).mg x=none:=by
 have e:=congrArg (λx=>x.2.2.1) X.y
 exact List.map_inj_left.mp (show R6.map (λx=>s.heap.nsMap mainGlobals x)=R6.map (λ_=>none)from e) x h
theorem Bo.obj (X:Bo w s s₁){a:Nat}{o:Obj}(h:(a,o)∈Nu):s₁.heap.get? a=some o:=by
 have e:=congrArg (λx=>x.2.2.2.2.2.2) X.y
 exact X.k _ _ (List.map_inj_left.mp (show Nu.map (λp=>s.heap.get? p.1)=Nu.map (λp=>some p.2)from e) (a,o) h)
theorem Bo.fn (X:Bo w s s₁){r:Cc}(h:r∈Cg):Yf s.heap r=Z5 r:=by
 have e:=congrArg (λx=>x.2.2.2.1) X.y
 exact List.map_inj_left.mp (show Cg.map (Yf s.heap)=Cg.map Z5 from e) r h
theorem Bo.fobj (X:Bo w s s₁){r:Cc}(h:r∈Cg)(h1:r.a≠153)(h2:r.a≠92)(h3:r.a≠57):∃o,(B1 s₁.heap).get? r.a=some o/\o.data=.func r.fd:=by
 have e:(s.heap.get? r.a).map (·.data)=some (.func r.fd):=congrArg Prod.fst (X.fn h)
 refine Ac (Option.map_eq_some_iff.mp e) λo ho hd=>?_
 exact⟨o,by rw[C5 h1 h2 h3];exact X.k _ _ ho,hd⟩
theorem Bo.fcode (X:Bo w s s₁){r:Cc}(h:r∈Cg)(h1:r.c≠153)(h2:r.c≠92)(h3:r.c≠57):(B1 s₁.heap).CodeRec (.ref r.c) (Bk Bv r.i).name:=by
 have e:(s.heap.get? r.c).map (λo=>match o.data with| .fields vs=>vs[1]? |_=>none)=some (some (.str (Bk Bv r.i).name r.qt)):=congrArg Prod.snd (X.fn h)
 refine Ac (Option.map_eq_some_iff.mp e) λo ho hd=>?_
 cases hdat:o.data with
 |fields vs=>
  rw[hdat]at hd
  exact⟨r.c,o,vs,r.qt,rfl,by rw[C5 h1 h2 h3];exact X.k _ _ ho,hdat,hd⟩
 |_=>rw[hdat]at hd;cases hd
theorem Bo.ns (X:Bo w s s₁){a:Addr}{m:Str->Option Value}(h:s₁.heap.Ns a m)(h1:a≠153)(h2:a≠92)(h3:a≠57):(B1 s₁.heap).Ns a m:=
 by refine B9 h λo es ep ho r=>?_;try clear h;exact⟨o,es,ep,by rw[C5 h1 h2 h3];exact ho,r⟩
theorem Am {α:Type}{l:List α}{x:α}(i:Nat)(h:l[i]? =some x):x∈l:=List.mem_of_getElem? h
theorem Bo.ok (X:Bo w s s₁):(G1 w s s₁).Ok where
 g:=X.ns X.T.g (by decide) (by decide) (by decide)
 b:=X.ns X.T.b (by decide) (by decide) (by decide)
 nolimit:=by refine Ac X.T.nolimit λmc h e=>?_;exact⟨mc,X.ns h (by decide) (by decide) (by decide),e⟩
 bm:=⟨4,{cls:=.type "module",dict:=some builtinsNs},X.name (Am 19 rfl),by decide,by decide,by show(B1 s₁.heap).get? 4=_;rw[C5 (by decide) (by decide) (by decide)];exact X.obj (Am 0 rfl),rfl,rfl,rfl⟩
 tinj:=by show∀p∈M9,∀q∈M9,p.2=q.2->p=q;decide
 codeMono:=Pl
theorem Du {Γ:W}{fd:FuncData}{ps:List String}{vs:List Value}(h:bindArgs fd ⟨vs,[]⟩=pure ((ps.map ofString).zip vs)):∀(M:Model) (A:Around) (Q:List (Str×Value)->Shared->Prop) (E:Value->Shared->Prop) (s:Shared),(∀b o,Γ.B.get? b=some o->s.heap.get? b=some o)->Q ((ps.map ofString).zip vs) s->wpAny M A (bindArgs fd ⟨vs,[]⟩) Q E s:=
 λ_ _ _ _ _ _ q=>wpAny_of_eq h q
theorem Hn {P:List Value->Prop}(h:∀x,P [x])(vs:List Value)(hv:vs.length=1):P vs:=by
 cases vs with
 |nil=>cases hv
 |cons x r=>cases r with
  |nil=>exact h x
  |cons y r=>cases hv
theorem L8 {P:List Value->Prop}(h:∀x y,P [x,y])(vs:List Value)(hv:vs.length=2):P vs:=by
 cases vs with
 |nil=>cases hv
 |cons x r=>exact Hn (P:=λr=>P (x::r)) (h x) r (Nat.succ.inj hv)
theorem gG {P:List Value->Prop}(h:∀x y z,P [x,y,z])(vs:List Value)(hv:vs.length=3):P vs:=by
 cases vs with
 |nil=>cases hv
 |cons x r=>exact L8 (P:=λr=>P (x::r)) (h x) r (Nat.succ.inj hv)
theorem Bc {l:List (Str×NameKind)}(h:(l.all λp=>p.2 != .free)=true)(x:Str):l.lookup x≠some .free:=λe=>by
 have:=all_eq_true.mp h _ (mem_of_lookup e)
 simp at this
noncomputable def rX:Cc:=Cg.getD 0 ⟨0,0,0,"",0,.none,0⟩
theorem n3 (X:Bo w s s₁):Fn (G1 w s s₁) 43 (docDef (Bk Bv 3).name (Bk Bv 3).params (Bk Bv 3).body (Bk Bv 3).scope (.str (ofString "cpy313.fnmatch") 282) (.ref 42) .none) ["pat"] (Bk Bv 3).body where
 obj:=X.fobj (r:=rX) (Am 0 rfl) (by decide) (by decide) (by decide)
 code:=X.fcode (r:=rX) (Am 0 rfl) (by decide) (by decide) (by decide)
 body:=rfl
 clo:=rfl
 glob:=rfl
 bui:=rfl
 bind:=Hn λx0=>Du (by kernel_rfl)
 kinds:=forall_mem_cons.mpr ⟨.inl (by kernel_rfl),forall_mem_nil _⟩
 nodup:=by decide
 nofree:=Bc (by kernel_rfl)
 kind:=by kernel_rfl
 co:=by kernel_rfl
theorem m3 (X:Bo w s s₁):(G1 w s s₁).mg (ofString "translate")=some (.ref 43):=X.name (Am 0 rfl)
noncomputable def rW:Cc:=Cg.getD 1 ⟨0,0,0,"",0,.none,0⟩
theorem n8 (X:Bo w s s₁):Fn (G1 w s s₁) 62 (docDef (Bk Bv 8).name (Bk Bv 8).params (Bk Bv 8).body (Bk Bv 8).scope (.str (ofString "cpy313.fnmatch") 486) (.ref 61) .none) ["pat","STAR","QUESTION_MARK"] (Bk Bv 8).body where
 obj:=X.fobj (r:=rW) (Am 1 rfl) (by decide) (by decide) (by decide)
 code:=X.fcode (r:=rW) (Am 1 rfl) (by decide) (by decide) (by decide)
 body:=rfl
 clo:=rfl
 glob:=rfl
 bui:=rfl
 bind:=gG λx0 x1 x2=>Du (by kernel_rfl)
 kinds:=forall_mem_cons.mpr ⟨.inl (by kernel_rfl),forall_mem_cons.mpr ⟨.inl (by kernel_rfl),forall_mem_cons.mpr ⟨.inl (by kernel_rfl),forall_mem_nil _⟩⟩⟩
 nodup:=by decide
 nofree:=Bc (by kernel_rfl)
 kind:=by kernel_rfl
 co:=by kernel_rfl
theorem m8 (X:Bo w s s₁):(G1 w s s₁).mg (ofString "_translate")=some (.ref 62):=X.name (Am 1 rfl)
noncomputable def rV:Cc:=Cg.getD 2 ⟨0,0,0,"",0,.none,0⟩
theorem n9 (X:Bo w s s₁):Fn (G1 w s s₁) 69 (docDef (Bk Bv 9).name (Bk Bv 9).params (Bk Bv 9).body (Bk Bv 9).scope (.str (ofString "cpy313.fnmatch") 486) (.ref 68) .none) ["inp","STAR"] (Bk Bv 9).body where
 obj:=X.fobj (r:=rV) (Am 2 rfl) (by decide) (by decide) (by decide)
 code:=X.fcode (r:=rV) (Am 2 rfl) (by decide) (by decide) (by decide)
 body:=rfl
 clo:=rfl
 glob:=rfl
 bui:=rfl
 bind:=L8 λx0 x1=>Du (by kernel_rfl)
 kinds:=forall_mem_cons.mpr ⟨.inl (by kernel_rfl),forall_mem_cons.mpr ⟨.inl (by kernel_rfl),forall_mem_nil _⟩⟩
 nodup:=by decide
 nofree:=Bc (by kernel_rfl)
 kind:=by kernel_rfl
 co:=by kernel_rfl
theorem m9 (X:Bo w s s₁):(G1 w s s₁).mg (ofString "_join_translated_parts")=some (.ref 69):=X.name (Am 2 rfl)
noncomputable def mZ:Cc:=Cg.getD 3 ⟨0,0,0,"",0,.none,0⟩
theorem sD (X:Bo w s s₁):Fn (G1 w s s₁) 76 (docDef (Bk Bv 11).name (Bk Bv 11).params (Bk Bv 11).body (Bk Bv 11).scope (.str (ofString "cpy313.email.utils") 520) (.ref 75) .none) ["addr"] (Bk Bv 11).body where
 obj:=X.fobj (r:=mZ) (Am 3 rfl) (by decide) (by decide) (by decide)
 code:=X.fcode (r:=mZ) (Am 3 rfl) (by decide) (by decide) (by decide)
 body:=rfl
 clo:=rfl
 glob:=rfl
 bui:=rfl
 bind:=Hn λx0=>Du (by kernel_rfl)
 kinds:=forall_mem_cons.mpr ⟨.inl (by kernel_rfl),forall_mem_nil _⟩
 nodup:=by decide
 nofree:=Bc (by kernel_rfl)
 kind:=by kernel_rfl
 co:=by kernel_rfl
theorem pV (X:Bo w s s₁):(G1 w s s₁).mg (ofString "_iter_escaped_chars")=some (.ref 76):=X.name (Am 3 rfl)
noncomputable def mY:Cc:=Cg.getD 4 ⟨0,0,0,"",0,.none,0⟩
theorem rR (X:Bo w s s₁):Fn (G1 w s s₁) 83 (docDef (Bk Bv 12).name (Bk Bv 12).params (Bk Bv 12).body (Bk Bv 12).scope (.str (ofString "cpy313.email.utils") 520) (.ref 82) .none) ["addr"] (Bk Bv 12).body where
 obj:=X.fobj (r:=mY) (Am 4 rfl) (by decide) (by decide) (by decide)
 code:=X.fcode (r:=mY) (Am 4 rfl) (by decide) (by decide) (by decide)
 body:=rfl
 clo:=rfl
 glob:=rfl
 bui:=rfl
 bind:=Hn λx0=>Du (by kernel_rfl)
 kinds:=forall_mem_cons.mpr ⟨.inl (by kernel_rfl),forall_mem_nil _⟩
 nodup:=by decide
 nofree:=Bc (by kernel_rfl)
 kind:=by kernel_rfl
 co:=by kernel_rfl
theorem sR (X:Bo w s s₁):(G1 w s s₁).mg (ofString "_strip_quoted_realnames")=some (.ref 83):=X.name (Am 4 rfl)
noncomputable def mX:Cc:=Cg.getD 5 ⟨0,0,0,"",0,.none,0⟩
theorem rQ (X:Bo w s s₁):Fn (G1 w s s₁) 90 (docDef (Bk Bv 13).name (Bk Bv 13).params (Bk Bv 13).body (Bk Bv 13).scope (.str (ofString "cpy313.email.utils") 520) (.ref 89) .none) ["addr"] (Bk Bv 13).body where
 obj:=X.fobj (r:=mX) (Am 5 rfl) (by decide) (by decide) (by decide)
 code:=X.fcode (r:=mX) (Am 5 rfl) (by decide) (by decide) (by decide)
 body:=rfl
 clo:=rfl
 glob:=rfl
 bui:=rfl
 bind:=Hn λx0=>Du (by kernel_rfl)
 kinds:=forall_mem_cons.mpr ⟨.inl (by kernel_rfl),forall_mem_nil _⟩
 nodup:=by decide
 nofree:=Bc (by kernel_rfl)
 kind:=by kernel_rfl
 co:=by kernel_rfl
theorem sQ (X:Bo w s s₁):(G1 w s s₁).mg (ofString "_check_parenthesis")=some (.ref 90):=X.name (Am 5 rfl)
noncomputable def mW:Cc:=Cg.getD 6 ⟨0,0,0,"",0,.none,0⟩
theorem rO (X:Bo w s s₁):Fn (G1 w s s₁) 97 (docDef (Bk Bv 15).name (Bk Bv 15).params (Bk Bv 15).body (Bk Bv 15).scope (.str (ofString "cpy313.functools") 554) (.ref 96) .none) ["mycmp"] (Bk Bv 15).body where
 obj:=X.fobj (r:=mW) (Am 6 rfl) (by decide) (by decide) (by decide)
 code:=X.fcode (r:=mW) (Am 6 rfl) (by decide) (by decide) (by decide)
 body:=rfl
 clo:=rfl
 glob:=rfl
 bui:=rfl
 bind:=Hn λx0=>Du (by kernel_rfl)
 kinds:=forall_mem_cons.mpr ⟨.inr ⟨by kernel_rfl,λn=>by kernel_rfl⟩,forall_mem_nil _⟩
 nodup:=by decide
 nofree:=Bc (by kernel_rfl)
 kind:=by kernel_rfl
 co:=by kernel_rfl
theorem sP (X:Bo w s s₁):(G1 w s s₁).mg (ofString "cmp_to_key")=some (.ref 97):=X.name (Am 6 rfl)
noncomputable def mV:Cc:=Cg.getD 7 ⟨0,0,0,"",0,.none,0⟩
theorem rN (X:Bo w s s₁):Fn (G1 w s s₁) 106 {docDef (Bk Bv 17).name (Bk Bv 17).params (Bk Bv 17).body (Bk Bv 17).scope (.str (ofString "cpy313.functools") 554) (.ref 105) .none with defaults:=.ref 99} ["function","sequence","initial"] (Bk Bv 17).body where
 obj:=X.fobj (r:=mV) (Am 7 rfl) (by decide) (by decide) (by decide)
 code:=X.fcode (r:=mV) (Am 7 rfl) (by decide) (by decide) (by decide)
 body:=rfl
 clo:=rfl
 glob:=rfl
 bui:=rfl
 bind:=gG λx0 x1 x2 M A Q E s' hB q=>by
  have h99:s'.heap.get? 99=some {cls:=.type "tuple",data:=.seq #[.ref 98]}:=hB _ _ (by show(B1 s₁.heap).get? 99=_;rw[C5 (by decide) (by decide) (by decide)];exact X.obj (Am 8 rfl))
  refine wpAny_bind (wpAny_of_eq List.forIn_nil ?_)
  refine wpAny_bind (m:=seqItems? (.ref 99)) (wpAny_bind (wpAny_load' h99 (wpAny_pure ?_)))
  exact wpAny_of_eq (by kernel_rfl) q
 kinds:=forall_mem_cons.mpr ⟨.inl (by kernel_rfl),forall_mem_cons.mpr ⟨.inl (by kernel_rfl),forall_mem_cons.mpr ⟨.inl (by kernel_rfl),forall_mem_nil _⟩⟩⟩
 nodup:=by decide
 nofree:=Bc (by kernel_rfl)
 kind:=by kernel_rfl
 co:=by kernel_rfl
theorem sO (X:Bo w s s₁):(G1 w s s₁).mg (ofString "reduce")=some (.ref 106):=X.name (Am 7 rfl)
noncomputable def mU:Cc:=Cg.getD 8 ⟨0,0,0,"",0,.none,0⟩
theorem rM (X:Bo w s s₁):Fn (G1 w s s₁) 113 (docDef (Bk Bv 19).name (Bk Bv 19).params (Bk Bv 19).body (Bk Bv 19).scope (.str (ofString "law_in0167_01") 578) (.ref 112) .none) ["numbers"] (Bk Bv 19).body where
 obj:=X.fobj (r:=mU) (Am 8 rfl) (by decide) (by decide) (by decide)
 code:=X.fcode (r:=mU) (Am 8 rfl) (by decide) (by decide) (by decide)
 body:=rfl
 clo:=rfl
 glob:=rfl
 bui:=rfl
 bind:=Hn λx0=>Du (by kernel_rfl)
 kinds:=forall_mem_cons.mpr ⟨.inl (by kernel_rfl),forall_mem_nil _⟩
 nodup:=by decide
 nofree:=Bc (by kernel_rfl)
 kind:=by kernel_rfl
 co:=by kernel_rfl
theorem sN (X:Bo w s s₁):(G1 w s s₁).mg (ofString "_law_pieces")=some (.ref 113):=X.name (Am 8 rfl)
noncomputable def mT:Cc:=Cg.getD 9 ⟨0,0,0,"",0,.none,0⟩
theorem rL (X:Bo w s s₁):Fn (G1 w s s₁) 118 (docDef (Bk Bv 20).name (Bk Bv 20).params (Bk Bv 20).body (Bk Bv 20).scope (.str (ofString "law_in0167_01") 578) (.ref 117) .none) ["row","barred"] (Bk Bv 20).body where
 obj:=X.fobj (r:=mT) (Am 9 rfl) (by decide) (by decide) (by decide)
 code:=X.fcode (r:=mT) (Am 9 rfl) (by decide) (by decide) (by decide)
 body:=rfl
 clo:=rfl
 glob:=rfl
 bui:=rfl
 bind:=L8 λx0 x1=>Du (by kernel_rfl)
 kinds:=forall_mem_cons.mpr ⟨.inl (by kernel_rfl),forall_mem_cons.mpr ⟨.inl (by kernel_rfl),forall_mem_nil _⟩⟩
 nodup:=by decide
 nofree:=Bc (by kernel_rfl)
 kind:=by kernel_rfl
 co:=by kernel_rfl
theorem sM (X:Bo w s s₁):(G1 w s s₁).mg (ofString "_law_spelled")=some (.ref 118):=X.name (Am 9 rfl)
noncomputable def mS:Cc:=Cg.getD 10 ⟨0,0,0,"",0,.none,0⟩
theorem rK (X:Bo w s s₁):Fn (G1 w s s₁) 125 (docDef (Bk Bv 21).name (Bk Bv 21).params (Bk Bv 21).body (Bk Bv 21).scope (.str (ofString "law_in0167_01") 578) (.ref 124) .none) ["sign","first"] (Bk Bv 21).body where
 obj:=X.fobj (r:=mS) (Am 10 rfl) (by decide) (by decide) (by decide)
 code:=X.fcode (r:=mS) (Am 10 rfl) (by decide) (by decide) (by decide)
 body:=rfl
 clo:=rfl
 glob:=rfl
 bui:=rfl
 bind:=L8 λx0 x1=>Du (by kernel_rfl)
 kinds:=forall_mem_cons.mpr ⟨.inl (by kernel_rfl),forall_mem_cons.mpr ⟨.inl (by kernel_rfl),forall_mem_nil _⟩⟩
 nodup:=by decide
 nofree:=Bc (by kernel_rfl)
 kind:=by kernel_rfl
 co:=by kernel_rfl
theorem sL (X:Bo w s s₁):(G1 w s s₁).mg (ofString "_law_sign")=some (.ref 125):=X.name (Am 10 rfl)
noncomputable def mR:Cc:=Cg.getD 11 ⟨0,0,0,"",0,.none,0⟩
theorem rJ (X:Bo w s s₁):Fn (G1 w s s₁) 132 (docDef (Bk Bv 22).name (Bk Bv 22).params (Bk Bv 22).body (Bk Bv 22).scope (.str (ofString "law_in0167_01") 578) (.ref 131) .none) ["row","barred"] (Bk Bv 22).body where
 obj:=X.fobj (r:=mR) (Am 11 rfl) (by decide) (by decide) (by decide)
 code:=X.fcode (r:=mR) (Am 11 rfl) (by decide) (by decide) (by decide)
 body:=rfl
 clo:=rfl
 glob:=rfl
 bui:=rfl
 bind:=L8 λx0 x1=>Du (by kernel_rfl)
 kinds:=forall_mem_cons.mpr ⟨.inl (by kernel_rfl),forall_mem_cons.mpr ⟨.inl (by kernel_rfl),forall_mem_nil _⟩⟩
 nodup:=by decide
 nofree:=Bc (by kernel_rfl)
 kind:=by kernel_rfl
 co:=by kernel_rfl
theorem sK (X:Bo w s s₁):(G1 w s s₁).mg (ofString "_law_units")=some (.ref 132):=X.name (Am 11 rfl)
noncomputable def mQ:Cc:=Cg.getD 12 ⟨0,0,0,"",0,.none,0⟩
theorem rI (X:Bo w s s₁):Fn (G1 w s s₁) 139 (docDef (Bk Bv 23).name (Bk Bv 23).params (Bk Bv 23).body (Bk Bv 23).scope (.str (ofString "law_in0167_01") 578) (.ref 138) .none) ["units"] (Bk Bv 23).body where
 obj:=X.fobj (r:=mQ) (Am 12 rfl) (by decide) (by decide) (by decide)
 code:=X.fcode (r:=mQ) (Am 12 rfl) (by decide) (by decide) (by decide)
 body:=rfl
 clo:=rfl
 glob:=rfl
 bui:=rfl
 bind:=Hn λx0=>Du (by kernel_rfl)
 kinds:=forall_mem_cons.mpr ⟨.inl (by kernel_rfl),forall_mem_nil _⟩
 nodup:=by decide
 nofree:=Bc (by kernel_rfl)
 kind:=by kernel_rfl
 co:=by kernel_rfl
theorem sJ (X:Bo w s s₁):(G1 w s s₁).mg (ofString "_law_places")=some (.ref 139):=X.name (Am 12 rfl)
noncomputable def mP:Cc:=Cg.getD 13 ⟨0,0,0,"",0,.none,0⟩
theorem rH (X:Bo w s s₁):Fn (G1 w s s₁) 146 (docDef (Bk Bv 24).name (Bk Bv 24).params (Bk Bv 24).body (Bk Bv 24).scope (.str (ofString "law_in0167_01") 578) (.ref 145) .none) ["told","pair"] (Bk Bv 24).body where
 obj:=X.fobj (r:=mP) (Am 13 rfl) (by decide) (by decide) (by decide)
 code:=X.fcode (r:=mP) (Am 13 rfl) (by decide) (by decide) (by decide)
 body:=rfl
 clo:=rfl
 glob:=rfl
 bui:=rfl
 bind:=L8 λx0 x1=>Du (by kernel_rfl)
 kinds:=forall_mem_cons.mpr ⟨.inl (by kernel_rfl),forall_mem_cons.mpr ⟨.inl (by kernel_rfl),forall_mem_nil _⟩⟩
 nodup:=by decide
 nofree:=Bc (by kernel_rfl)
 kind:=by kernel_rfl
 co:=by kernel_rfl
theorem sI (X:Bo w s s₁):(G1 w s s₁).mg (ofString "_law_step")=some (.ref 146):=X.name (Am 13 rfl)
noncomputable def mO:Cc:=Cg.getD 14 ⟨0,0,0,"",0,.none,0⟩
theorem rG (X:Bo w s s₁):Fn (G1 w s s₁) 151 (docDef (Bk Bv 25).name (Bk Bv 25).params (Bk Bv 25).body (Bk Bv 25).scope (.str (ofString "law_in0167_01") 578) (.ref 150) .none) ["units"] (Bk Bv 25).body where
 obj:=X.fobj (r:=mO) (Am 14 rfl) (by decide) (by decide) (by decide)
 code:=X.fcode (r:=mO) (Am 14 rfl) (by decide) (by decide) (by decide)
 body:=rfl
 clo:=rfl
 glob:=rfl
 bui:=rfl
 bind:=Hn λx0=>Du (by kernel_rfl)
 kinds:=forall_mem_cons.mpr ⟨.inl (by kernel_rfl),forall_mem_nil _⟩
 nodup:=by decide
 nofree:=Bc (by kernel_rfl)
 kind:=by kernel_rfl
 co:=by kernel_rfl
theorem sH (X:Bo w s s₁):(G1 w s s₁).mg (ofString "_law_closes")=some (.ref 151):=X.name (Am 14 rfl)
noncomputable def mN:Cc:=Cg.getD 15 ⟨0,0,0,"",0,.none,0⟩
theorem rF (X:Bo w s s₁):Fn (G1 w s s₁) 156 (docDef (Bk Bv 26).name (Bk Bv 26).params (Bk Bv 26).body (Bk Bv 26).scope (.str (ofString "law_in0167_01") 578) (.ref 155) .none) ["brackets","way"] (Bk Bv 26).body where
 obj:=X.fobj (r:=mN) (Am 15 rfl) (by decide) (by decide) (by decide)
 code:=X.fcode (r:=mN) (Am 15 rfl) (by decide) (by decide) (by decide)
 body:=rfl
 clo:=rfl
 glob:=rfl
 bui:=rfl
 bind:=L8 λx0 x1=>Du (by kernel_rfl)
 kinds:=forall_mem_cons.mpr ⟨.inl (by kernel_rfl),forall_mem_cons.mpr ⟨.inr ⟨by kernel_rfl,λn=>by kernel_rfl⟩,forall_mem_nil _⟩⟩
 nodup:=by decide
 nofree:=Bc (by kernel_rfl)
 kind:=by kernel_rfl
 co:=by kernel_rfl
theorem sG (X:Bo w s s₁):(G1 w s s₁).mg (ofString "_law_holds")=some (.ref 156):=X.name (Am 15 rfl)
noncomputable def mM:Cc:=Cg.getD 16 ⟨0,0,0,"",0,.none,0⟩
theorem sC (X:Bo w s s₁):Fn (G1 w s s₁) 161 (docDef (Bk Bv 27).name (Bk Bv 27).params (Bk Bv 27).body (Bk Bv 27).scope (.str (ofString "law_in0167_01") 578) (.ref 160) .none) ["script"] (Bk Bv 27).body where
 obj:=X.fobj (r:=mM) (Am 16 rfl) (by decide) (by decide) (by decide)
 code:=X.fcode (r:=mM) (Am 16 rfl) (by decide) (by decide) (by decide)
 body:=rfl
 clo:=rfl
 glob:=rfl
 bui:=rfl
 bind:=Hn λx0=>Du (by kernel_rfl)
 kinds:=forall_mem_cons.mpr ⟨.inl (by kernel_rfl),forall_mem_nil _⟩
 nodup:=by decide
 nofree:=Bc (by kernel_rfl)
 kind:=by kernel_rfl
 co:=by kernel_rfl
theorem sE (X:Bo w s s₁):(G1 w s s₁).mg (ofString "law")=some (.ref 161):=X.name (Am 16 rfl)
end
theorem Bi.le {n m:Nat}{A:Around}(h:Bi n A)(l:m<=n):Bi m A:=⟨h.handled,by have:=h.depth;exact Ah (add_le_add this (mul_le_mul_left 4 l)),by have:=h.units;exact Ah (add_le_add this (mul_le_mul_left 16 l))⟩
section
variable {w:World}{s s₁:Shared}
theorem Bo.bi (X:Bo w s s₁){x:Str}{v:Value}(h:x≠"__name__")(e:bootBuiltins x=some v):(G1 w s s₁).mb x=some v:=(X.T.builtins x h).trans e
theorem Bo.len2 (X:Bo w s s₁):(G1 w s s₁).mb (ofString "len")=some (.builtin "len"):=X.bi (by decide) (by kernel_rfl)
theorem Bo.ran2 (X:Bo w s s₁):(G1 w s s₁).mb (ofString "range")=some (.type "range"):=X.bi (by decide) (by kernel_rfl)
theorem Bo.li2 (X:Bo w s s₁):(G1 w s s₁).mb (ofString "list")=some (.type "list"):=X.bi (by decide) (by kernel_rfl)
theorem Bo.so2 (X:Bo w s s₁):(G1 w s s₁).mb (ofString "sorted")=some (.builtin "sorted"):=X.bi (by decide) (by kernel_rfl)
theorem Bo.it2 (X:Bo w s s₁):(G1 w s s₁).mb (ofString "iter")=some (.builtin "iter"):=X.bi (by decide) (by kernel_rfl)
theorem Bo.en2 (X:Bo w s s₁):(G1 w s s₁).mb (ofString "enumerate")=some (.type "enumerate"):=X.bi (by decide) (by kernel_rfl)
theorem Bo.ob2 (X:Bo w s s₁):(G1 w s s₁).mb (ofString "object")=some (.type "object"):=X.bi (by decide) (by kernel_rfl)
theorem Bo.len1 (X:Bo w s s₁):(G1 w s s₁).mg (ofString "len")=none:=X.bare (Am 0 rfl)
theorem Bo.ran1 (X:Bo w s s₁):(G1 w s s₁).mg (ofString "range")=none:=X.bare (Am 1 rfl)
theorem Bo.li1 (X:Bo w s s₁):(G1 w s s₁).mg (ofString "list")=none:=X.bare (Am 2 rfl)
theorem Bo.so1 (X:Bo w s s₁):(G1 w s s₁).mg (ofString "sorted")=none:=X.bare (Am 3 rfl)
theorem Bo.it1 (X:Bo w s s₁):(G1 w s s₁).mg (ofString "iter")=none:=X.bare (Am 4 rfl)
theorem Bo.en1 (X:Bo w s s₁):(G1 w s s₁).mg (ofString "enumerate")=none:=X.bare (Am 5 rfl)
theorem Bo.ob1 (X:Bo w s s₁):(G1 w s s₁).mg (ofString "object")=none:=X.bare (Am 6 rfl)
variable {A:Around}
theorem tP (X:Bo w s s₁)(hA:Bi 1 A):Ar (G1 w s s₁) A (.ref 113) oW:=dT X.ok (rM X) hA
theorem tN (X:Bo w s s₁)(hA:Bi 1 A):Ar (G1 w s s₁) A (.ref 125) qY:=nD X.ok (rK X) hA
theorem tK (X:Bo w s s₁)(hA:Bi 1 A):Ar (G1 w s s₁) A (.ref 139) oT:=dS X.ok (rI X) hA X.len1 X.len2
theorem tL (X:Bo w s s₁)(hA:Bi 2 A):Ar (G1 w s s₁) A (.ref 132) oU:=jD X.ok (rJ X) hA (sL X) (rK X).obj (λenv=>tN X (hA.deeper env)) X.len1 X.len2
theorem tI (X:Bo w s s₁)(hA:Bi 1 A):Ar (G1 w s s₁) A (.ref 151) oS:=dU X.ok (rG X) hA X.len1 X.len2
theorem c9 (X:Bo w s s₁)(hA:Bi 1 A):Ar (G1 w s s₁) A (.ref 69) S9:=nF X.ok (n9 X) hA X.len1 X.len2
theorem tO (X:Bo w s s₁)(hA:Bi 1 A):Ar (G1 w s s₁) A (.ref 118) oV:=aK X.ok (rL X) hA
theorem tJ (X:Bo w s s₁)(hA:Bi 1 A):Ar (G1 w s s₁) A (.ref 146) qX:=nC X.ok (rH X) hA
theorem tQ (X:Bo w s s₁)(hA:Bi 2 A):Ar (G1 w s s₁) A (.ref 106) (oX 146):=
 dR X.ok (rN X) hA (rH X).obj (λenv=>tJ X (hA.deeper env)) (X.name (Am 18 rfl)) ⟨{cls:=.type "object"},(C5 (by decide) (by decide) (by decide)).trans (X.obj (Am 7 rfl))⟩ X.it1 X.it2
theorem e11 (X:Bo w s s₁):Ja (G1 w s s₁) 76 (docDef (Bk Bv 11).name (Bk Bv 11).params (Bk Bv 11).body (Bk Bv 11).scope (.str (ofString "cpy313.email.utils") 520) (.ref 75) .none) where
 fn:=⟨λn=>[⟨0,0,0,0⟩,_,_,_,_,_,_,_,_,_,_,_,_,_,_,_,_,_,_,_,_,_,_,_,_,_,_,_,_,_,_,_,_,_,_,_,_,_,_,_,_,_,_,_,_].getD n ⟨0,0,0,0⟩,sD X⟩
 gen:=by kernel_rfl
 gf:=λL=>⟨by kernel_rfl,by kernel_rfl,by kernel_rfl,by kernel_rfl,by kernel_rfl,by kernel_rfl⟩
 kn:=λL=>by kernel_rfl
 hn:=X.en1
 hv:=X.en2
theorem tT (X:Bo w s s₁)(hA:Bi 2 A):Ar (G1 w s s₁) A (.ref 83) qZ:=jE X.ok (rR X) hA (e11 X) (pV X) X.len1 X.len2
theorem tS (X:Bo w s s₁)(hA:Bi 3 A):Ar (G1 w s s₁) A (.ref 90) oY:=jG X.ok (rQ X) hA (e11 X) (pV X) (sR X) (rR X).obj (λenv=>tT X (hA.deeper env))
theorem Bo.off (X:Bo w s s₁){a:Nat}{o:Obj}(h:(a,o)∈Nu)(h1:a≠153)(h2:a≠92)(h3:a≠57):(G1 w s s₁).B.get? a=some o:=(C5 h1 h2 h3).trans (X.obj h)
theorem c8 (X:Bo w s s₁)(hA:Bi 2 A):Ar (G1 w s s₁) A (.ref 62) S8:=To (p:=36) (P:=57) (X.ok) (n8 X) (Am 0 rfl) (X.name (Am 17 rfl)) (⟨_,_,35,_,_,_,X.off (Am 2 rfl) (by decide) (by decide) (by decide),rfl,rfl,by kernel_rfl,rfl,by kernel_rfl,X.off (Am 1 rfl) (by decide) (by decide) (by decide),rfl,by kernel_rfl⟩) (⟨_,X.off (Am 2 rfl) (by decide) (by decide) (by decide),rfl,rfl⟩) (λG cv pos q e h=>⟨λe=>absurd e (by decide),λe=>absurd e (by decide),λ_ e2=>absurd (e.symm.trans e2) (by decide)⟩) (λG cv pos e h=>⟨λe=>absurd e (by decide),λe=>absurd e (by decide),λ_ _=>h⟩) (λG cv pos e h=>h.2.2 rfl e) (X.len1) (X.len2) (X.ran1) (X.ran2) hA
theorem c3 (X:Bo w s s₁)(hA:Bi 3 A):Ar (G1 w s s₁) A (.ref 43) S3:=tB X.ok (n3 X) hA (m8 X) (n8 X).obj (λenv=>c8 X (hA.deeper env)) (m9 X) (n9 X).obj (λenv=>c9 X ((hA.deeper env).le (by decide))) X.ob1 X.ob2
end
theorem aZ {n:Nat}{d:Data}{l:List (Value×Value)}(h:nS n d=some l):∃es e,d=.dict es e/\(es.toList.take n).map (λe=>(e.key,e.val))=l:=by
 cases d with
 |dict es e=>exact⟨es,e,rfl,Option.some.inj h⟩
 |_=>exact(Option.some_ne_none l h.symm).elim
theorem pS {o:Obj}{c:Value}{a:Option Addr}{d:Data}{l:Array (Option Value)}(e1:o.cls=c)(e2:o.dict=a)(e3:o.slots=l)(e4:o.data=d):o=⟨c,a,d,l⟩:=by
 subst e1 e2 e3 e4;rfl
theorem Nd {n:Nat}{o:Option Obj}{c:Value}{l:List (Value×Value)}(h:Qv n o=some (c,none,#[],some l)):∃es e,o=some {cls:=c,data:=.dict es e}/\(es.toList.take n).map (λe=>(e.key,e.val))=l:=
 Ac (Option.map_eq_some_iff.mp h) λ_ e1 e2=>A2 (aZ (congrArg (λx=>x.2.2.2) e2)) λes e ed el=>
  ⟨es,e,e1.trans (congrArg some (pS (congrArg (λx=>x.1) e2) (congrArg (λx=>x.2.1) e2) (congrArg (λx=>x.2.2.1) e2) ed)),el⟩
noncomputable def aU (hh:Nat->Int):Nat->List (Value×Value)->List DictEntry
 |_,[]=>[]
 |k,p::r=>⟨hh k,p.1,p.2⟩::aU hh (k+1) r
theorem nR (hh:Nat->Int):∀(r:List (Value×Value)) (k:Nat) (l:List DictEntry),(∀i,hh (k+i)=(l.map (·.hash)).getD i 0)->l.map (λe=>(e.key,e.val))=r->l=aU hh k r:=by
 intro lq
 induction lq with
 |nil=>intro k l _ h;exact List.map_eq_nil_iff.mp h
 |cons p r ih=>
  intro k l hk h
  cases l with
  |nil=>cases h
  |cons e l=>
   have h:=List.cons.inj h
   exact(congr (congrArg List.cons (show e=⟨hh k,p.1,p.2⟩from by rw[<-h.1,show hh k=e.hash from hk 0])) (ih (k+1) l (λi=>by rw[Nat.add_assoc,Nat.add_comm 1 i];exact hk (i+1)) h.2))
section
variable {w:World}{s s₁:Shared}
theorem Bo.o2 (X:Bo w s s₁):∃hh cn,(G1 w s s₁).B.get? 2=some (Tw hh (λi=>[183,185,206,216,245,270,272,0,273].getD i 0) (λi=>(L0.map (·.2)).getD i .none) cn):=by
 have e:Qv 10 (s.heap.get? 2)=some (Value.none,none,#[],some L0):=congrArg (λx=>x.2.2.2.2.1) X.y
 refine A2 (Nd e) λes n ho hl=>?_
 have hl':es.toList.map (λe=>(e.key,e.val))=L0:=by
  have h9:=congrArg List.length hl
  rw[length_map,length_take]at h9
  have h10:L0.length=9:=rfl
  rw[take_of_length_le (le_of_lt (not_le.1 λh=>absurd ((min_eq_left h).symm.trans (h9.trans h10)) (by decide)))]at hl;exact hl
 let hh:Nat->Int:=λi=>(es.toList.map λe=>e.hash).getD i 0
 exact⟨hh,n,(C5 (by decide) (by decide) (by decide)).trans ((X.k _ _ ho).trans (congrArg (λl=>some ({cls:=.none,data:=.dict ⟨l⟩ n}:Obj)) (nR hh L0 0 es.toList (λi=>by rw[zero_add]) hl')))⟩
theorem Bo.o3 (X:Bo w s s₁):∃hh rest gn,(G1 w s s₁).B.get? 3=some (jA hh (λi=>[165,166,167,168,169,170,171].getD i 0) (λi=>(Rv.map (·.2)).getD i .none) rest gn):=by
 have e:Qv 7 (s.heap.get? 3)=some (Value.type "dict",none,#[],some Rv):=congrArg (λx=>x.2.2.2.2.2.1) X.y
 refine A2 (Nd e) λes n ho hl'=>?_
 let hh:Nat->Int:=λi=>((es.toList.take 7).map λe=>e.hash).getD i 0
 exact⟨hh,es.toList.drop 7,n,(C5 (by decide) (by decide) (by decide)).trans ((X.k _ _ ho).trans (congrArg (λl=>some ({cls:=.type "dict",data:=.dict ⟨l⟩ n}:Obj)) ((take_append_drop 7 es.toList).symm.trans (congrArg (·++es.toList.drop 7) (nR hh Rv 0 (es.toList.take 7) (λi=>by rw[zero_add]) hl')))))⟩
theorem Bo.kat (X:Bo w s s₁):∃f:FP,f.cc=96/\f.pm=.str (ofString "cpy313.functools") 554/\f.doc=.none/\oG (G1 w s s₁) f:=by
 refine Gp X.o2 λch cn h2=>?_
 refine Vc X.o3 λhh rest gn h3=>?_
 refine⟨{L:=0,a:=97,cc:=96,P:=92,pm:=.str (ofString "cpy313.functools") 554,doc:=.none,hh:=hh,ct:=λi=>[165,166,167,168,169,170,171].getD i 0,cv:=λi=>(Rv.map (·.2)).getD i .none,gn:=gn,rest:=rest,kt:=λi=>[556,557,558,563].getD i 0,x:=λi=>[Value.ref 91,.none,.ref 93,.ref 94,.ref 95,.int 562 0].getD i .none,ch:=ch,ct2:=λi=>[183,185,206,216,245,270,272,0,273].getD i 0,cv2:=λi=>(L0.map (·.2)).getD i .none,cn:=cn},rfl,rfl,rfl,?_⟩
 exact{
  e2:=h2
  e3:=h3
  e4:=X.off (Am 0 rfl) (by decide) (by decide) (by decide)
  ec:=show(G1 w s s₁).B.get? 96=_ from X.off (Am 6 rfl) (by decide) (by decide) (by decide)
  tab:=Am 1 rfl
  big:=(by decide:8<=96)
  out:=λpos G c h=>h.1 rfl
  inn:=λpos G c a b h=>⟨λ_=>⟨a,b,h⟩,λe=>absurd e (by decide:¬(92=153)),λe=>absurd e (by decide:¬(92=57))⟩
  bc:=X.bi (by decide) (by kernel_rfl)
  obn:=X.ob1
  obb:=X.ob2}
variable {A:Around}
theorem tR (X:Bo w s s₁)(hA:Bi 1 A):Ar (G1 w s s₁) A (.ref 97) (λds own Q=>∃P,ds=[.sem P]/\Q (.sem (Xk (G1 w s s₁).w P)) own):=by
 refine Ck X.kat λf h1 h2 h3 K=>?_
 refine oM X.ok K (a:=97) ?_ hA
 rw[h1,h2,h3]
 exact rO X
theorem tH (X:Bo w s s₁)(hA:Bi 5 A):Ar (G1 w s s₁) A (.ref 156) S26:=
 jF (P:=153) (X.ok) (rF X) (m3 X) ((n3 X).obj) (sQ X) ((rQ X).obj) (sH X) ((rG X).obj) (sJ X) ((rI X).obj) (sM X) ((rL X).obj) (sK X) ((rJ X).obj) (sO X) ((rN X).obj) (sI X) (sP X) ((rO X).obj) (Am 2 rfl) (λG cv pos e h=>⟨λe=>absurd e (by decide),λ_=>h,λe=>absurd e (by decide)⟩) (λG cv pos e h=>h.2.1 rfl) (pV X) (e11 X) (X.li1) (X.li2) (X.so1) (X.so2) hA (λenv=>c3 X ((hA.deeper env).le (by decide))) (λenv=>tS X ((hA.deeper env).le (by decide))) (λenv=>tI X ((hA.deeper env).le (by decide))) (λenv=>tK X ((hA.deeper env).le (by decide))) (λenv=>tO X ((hA.deeper env).le (by decide))) (λenv=>tL X ((hA.deeper env).le (by decide))) (λenv=>tQ X ((hA.deeper env).le (by decide))) (λenv=>tR X ((hA.deeper env).le (by decide)))
theorem tG (X:Bo w s s₁)(hA:Bi 6 A):Ar (G1 w s s₁) A (.ref 161) rZ:=
 qK (X.ok) (sC X) (sN X) ((rM X).obj) (sG X) ((rF X).obj) (X.len1) (X.len2) (X.ran1) (X.ran2) hA (λenv=>tP X ((hA.deeper env).le (by decide))) (λenv=>tH X (hA.deeper env))
end
noncomputable abbrev Xi:OpenRow:=PySem.Challenge.rw_in0167_01.row
theorem eJ {args:List WData}(h:Xi.toRowW.claim.pre args=true):∃ns:List Int,args=[.list (ns.map .int)]/\ns.length<=63:=by
 refine Ae (pre_splitW h) λh1 h2=>?_
 refine Aj (hasAllW_cons (e:=.list .int) (es:=[]) h1) λd r Z hd hr=>?_
 subst Z
 obtain rfl:=hasAllW_nil hr
 refine Ac (hasW_list hd) λxs Y hx=>?_
 subst Y
 refine Af (items_int hx) λns V=>?_
 subst V
 refine⟨ns,rfl,?_⟩
 by_cases hl:ns.length<=63
 ·exact hl
 ·exfalso
  have e:WTm.value Xi.records Xi.pre {args:=[.list (ns.map .int)]}=some (.bool false):=by
   have e1:WTm.value Xi.records (.lt (.lit (.int 63)) (.len (.arg 0))) {args:=[.list (ns.map .int)]}=some (.bool true):=by
    show(less? (.int 63) (.int ((ns.map WData.int).length:Int))).map WData.bool=_
    have:((63:Int)<((ns.map WData.int).length:Int)):=by rw[length_map];exact Int.ofNat_lt.2 (Ah (not_le.1 hl):63<ns.length)
    show some (WData.bool (decide ((63:Int)<((ns.map WData.int).length:Int))))=_
    rw[decide_eq_true this]
   show(match(match WTm.value Xi.records (.lt (.lit (.int 63)) (.len (.arg 0))) {args:=[.list (ns.map .int)]}with
    |some (.bool b)=>some (WData.bool (!b))
    |_=>none)with
    |some (.bool false)=>some (WData.bool false)
    |some (.bool true)=>_
    |_=>_)=_
   rw[e1]
   rfl
  unfold WTm.holds at h2
  rw[e]at h2
  cases h2
theorem Yq {R:WRecords}{cl:Str->Option Addr}{h:Heap}{G:Gh}{ns:List Int}:∀{vs:List Value} {as:List Addr},ReadsAllW R cl h vs (ns.map .int) as->RelL G [] (ns.map D.int) vs:=by
 induction ns with
 |nil=>exact λh=>(readsAllW_nil_inv h).1
 |cons n ns ih=>exact λh=>Fp (readsAllW_cons_inv h) λv l _ _ e _ r1 r2=>Ac (readsW_int_inv r1) λt e1 _=>⟨v,l,e,⟨t,e1⟩,ih r2⟩
theorem dE {w:World}{s s₁:Shared}(X:Bo w s s₁)(ht:0<s₁.toks)(hg:s₁.gens=#[]){cl:Str->Option Addr}{ns:List Int}(hn:ns.length<=63){vs:List Value}{as:List Addr}(hr:ReadsAllW [] cl s₁.heap vs [.list (ns.map .int)] as):
  wpAny (model Bv w) callerA (call (.ref 161) vs) (λv s'=>v=.bool true/\OldK s₁.heap s'.heap/\s'.os=s₁.os/\AllBare s'.gens) (λ_ _=>False) s₁:=by
 have t57:s₁.heap.get? 57=some {cls:=.none,data:=.fields #[]}:=X.obj (Am 3 rfl)
 have t92:s₁.heap.get? 92=some {cls:=.none,data:=.fields #[]}:=X.obj (Am 5 rfl)
 have t153:s₁.heap.get? 153=some {cls:=.none,data:=.fields #[]}:=X.obj (Am 9 rfl)
 have gin:∀a o,(B1 s₁.heap).get? a=some o->s₁.heap.get? a=some o:=λa o e=>oH e
 have tb:∀p∈M9,s₁.heap.get? p.2=some {cls:=.none,data:=.fields #[]}/\(B1 s₁.heap).get? p.2=none/\s₁.heap.TableAt p.1 p.2 #[]/\s₁.heap.IsCode p.1 p.2 #[]/\∃o,(B1 s₁.heap).get? p.1=some o:=by
  refine forall_mem_cons.mpr ⟨?_,forall_mem_cons.mpr ⟨?_,forall_mem_cons.mpr ⟨?_,forall_mem_nil _⟩⟩⟩
  ·have hc:=X.obj (Am 4 rfl)
   exact⟨t57,by rw[Mi];rfl,⟨⟨_,_,hc,rfl,rfl,rfl⟩,t57⟩,⟨_,_,_,_,_,_,_,_,_,_,hc,rfl,rfl,rfl,rfl,rfl,rfl,t57,rfl,trivial,by decide⟩,_,(C5 (by decide) (by decide) (by decide)).trans hc⟩
  ·have hc:=X.obj (Am 6 rfl)
   exact⟨t92,by rw[Mi];rfl,⟨⟨_,_,hc,rfl,rfl,rfl⟩,t92⟩,⟨_,_,_,_,_,_,_,_,_,_,hc,rfl,rfl,rfl,rfl,rfl,rfl,t92,rfl,trivial,by decide⟩,_,(C5 (by decide) (by decide) (by decide)).trans hc⟩
  ·have hc:=X.obj (Am 10 rfl)
   exact⟨t153,by rw[Mi];rfl,⟨⟨_,_,hc,rfl,rfl,rfl⟩,t153⟩,⟨_,_,_,_,_,_,_,_,_,_,hc,rfl,rfl,rfl,rfl,rfl,rfl,t153,rfl,trivial,by decide⟩,_,(C5 (by decide) (by decide) (by decide)).trans hc⟩
 have S:Ch (G1 w s s₁) (λa=>(B1 s₁.heap).get? a) [] [] s₁.heap:={
  base:=λ_ _ e=>e
  gin:=gin
  len:=rfl
  at_:=λk a ds e _=>by cases e
  nodup:=List.nodup_nil
  fresh:=λ_ h=>nomatch h
  tabs:=λp hp=>by
   obtain⟨a1,a2,a3,a4,a5⟩:=tb p hp
   exact⟨a2,not_mem_nil,#[],a3,a4,a5,λ_ _ e=>(by cases e),trivial⟩}
 refine Fp (readsAllW_cons_inv hr) λv l as1 as2 e0 _ r1 r2=>?_
 subst e0
 obtain rfl:=(readsAllW_nil_inv r2).1
 refine Ds (readsW_list_inv r1) λa xs bs e1 hL hxs _=>?_
 subst e1
 refine Ay hL λo ho hcl Z=>?_
 refine Af Z λn hd=>?_
 have hoff:∀t,s₁.heap.get? t=some {cls:=.none,data:=.fields #[]}->a≠t:=λt ht' e=>by
  subst e
  rw[ho]at ht'
  cases ht'
  cases hd
 have ha:(B1 s₁.heap).get? a=some o:=by rw[C5 (hoff _ t153) (hoff _ t92) (hoff _ t57)];exact ho
 refine wpAny_mono (wpAny_call (E:=λ_ _=>False) (Q:=λv s'=>v=.bool true/\OldK s₁.heap s'.heap/\s'.os=s₁.os/\AllBare s'.gens) (codeAny_mono (tG X (A:=callerA) ⟨rfl,by decide +kernel,by decide +kernel⟩ _ [] [] s₁ [.lst (ns.map .int)] [.ref a] (λd _=>d=.bool true) S ⟨_,[],rfl,⟨a,xs.toList,rfl,⟨o,ha,hcl,n,hd⟩,Yq hxs⟩,rfl⟩ ht ⟨ns,rfl,hn,λ_=>rfl⟩) λr s' Y=>aO Y λv d G' ι' own' e R rv hq=>?_)) (λ_ _ h=>h) λ_ _ x=>x
 subst e hq
 refine⟨rv,⟨λb o' e=>?_,λb o' e=>?_⟩,R.os,λy hy=>?_⟩
 ·by_cases hb:b∈M9.map (·.2)
  ·obtain⟨p,hp,rfl⟩:=mem_map.mp hb
   obtain⟨_,_,ps,⟨⟨oc,vc,k1,k2,k3,k4⟩,kt⟩,_⟩:=R.store.tabs p hp
   obtain⟨a1,_,a3,_⟩:=tb p hp
   rw[a1]at e;cases e
   refine .inr (.inl ⟨a3.isCodeTable,rfl,#[],ps,rfl,?_⟩)
   rw[kt,Array.empty_append]
  ·refine .inl (R.store.gin _ _ (R.le _ _ ?_))
   have h1:b≠153:=λh=>hb (h▸by decide)
   have h2:b≠92:=λh=>hb (h▸by decide)
   have h3:b≠57:=λh=>hb (h▸by decide)
   show(B1 s₁.heap).get? b=some o'
   rw[C5 h1 h2 h3];exact e
 ·by_cases hb:b∈M9.map (·.2)
  ·obtain⟨p,hp,rfl⟩:=mem_map.mp hb
   obtain⟨_,_,ps,⟨_,kt⟩,_⟩:=R.store.tabs p hp
   exact⟨_,kt⟩
  ·have h1:b≠153:=λh=>hb (h▸by decide)
   have h2:b≠92:=λh=>hb (h▸by decide)
   have h3:b≠57:=λh=>hb (h▸by decide)
   exact⟨o',R.store.gin _ _ (R.le _ _ (by show(B1 s₁.heap).get? b=some o';rw[C5 h1 h2 h3];exact e))⟩
 ·obtain⟨i,hi,rfl⟩:=Array.getElem_of_mem hy
  exact R.gens.2.2 i _ (by rw[hg];exact zero_le _) (Array.getElem?_eq_getElem hi)
theorem kQ:PySem.Challenge.rw_in0167_01.wellSaid=true:=by
 delta OpenLaw.wellSaid OpenRow.wellSaid OpenRow.partSaid looksOpen
 repeat' with_reducible apply look_both
 all_goals decide +kernel
theorem iO (said:Xi.wellSaid=true):Xi.Holds:=by
 have hwit:∃args,Xi.toRowW.claim.pre args=true/\WData.layableAll args=true:=⟨[.list []],by decide +kernel,by decide +kernel⟩
 refine⟨said,⟨[.list []],by decide +kernel,by decide +kernel⟩,⟨⟨⟨rfl,rfl,rfl,rfl,rfl,by kernel_rfl⟩,by kernel_rfl,rfl⟩,hwit,λw=>?_⟩⟩
 refine Ae (mD.behind (XP:=λ_ _=>True) (λ_ _=>trivial) (by kernel_rfl) w) λh1 h2=>?_
 refine⟨h1,λs' hs'=>?_⟩
 refine Ay (h2 s' hs') λs₀ hf hg0 Z=>?_
 refine fZ Z λs hT hz hgens hg G y=>?_
 clear Z
 have hgens:s.gens=#[]:=Array.eq_empty_of_size_eq_zero (beq_iff_eq.mp hgens)
 have htk:0<s.toks:=le_of_ble_eq_true (congrArg Prod.fst y)
 refine⟨s₀,hf,hg0,s,hT,λn hn=>?_,λx hx=>(nomatch hx),λx hx=>(nomatch hx),?_⟩
 ·obtain rfl:n=ofString "law":=mem_singleton.mp hn
  exact pinned_of_view (q:=q1) (loose:=Lk) hg G (d:=Bk Bv 27) (kwd:=[]) (by kernel_rfl) (by kernel_rfl) (by kernel_rfl)
 refine ClaimW.callFrom_of_specG (c:=Xi.toRowW.claim) hz hgens λargs hpre hlay ord hord=>?_
 refine Ac (eJ hpre) λns Y hns=>?_
 subst Y
 refine Af (Option.isSome_iff_exists.mp (layAllW_isSome (P:=w.params) (ord:=ord) G.has [.list (ns.map WData.int)] [.list .int] s (pre_splitW hpre).1)) λV hlaid=>?_
 obtain⟨vs,s₁⟩:=V
 have gr:=layAllW_grows _ _ _ hlaid
 refine Ay (reads_layAllW hord _ _ _ hlaid hlay s₁.heap λ_ _ e=>e) λas hrd hin hold=>?_
 have L:Laid [] w s s₁ [.list (ns.map .int)] vs as:=⟨⟨ord,hord,hlaid⟩,hrd,hin,hold,gr.keeps,gr.alike.1.trans hgens,gr.alike.2.2.1⟩
 have X:Bo w s s₁:=⟨(G.keeps (λ_ _ _ h _=>h) gr.keeps).T,y,gr.keeps⟩
 refine⟨vs,s₁,hlaid,?_⟩
 have hlaw:s.heap.nsMap mainGlobals (ofString "law")=some (.ref 161):=sE X
 refine wpAny_bind (wpAny_nsGet X.T.g ?_)
 rw[show(ofString "law":Str)=Xi.name from rfl]at hlaw
 rw[hlaw]
 refine wpAny_bind (wpAny_mono (dE X (lt_of_lt_of_le htk gr.toks) (gr.alike.1.trans hgens) hns hrd) (λv s'' U=>B7 U λe1 e2 e3 e4=>wpAny_pure ⟨.ret v,rfl,?_⟩) λ_ _ h=>h.elim)
 subst e1
 have z:=GoodWG.laid (c:=Xi.toRowW.claim) rfl rfl (ident_freeW (r:=Xi.toRowW) rfl rfl rfl) L (r:=.ok (.ret (.bool true))) (s':=s'') ⟨.inl ⟨.bool true,.bool true,[],rfl,λ_=>rfl,.bool true,by kernel_rfl,λ_=>⟨List.nodup_nil,λ_ h=>(nomatch h)⟩⟩,e2,e3,e4⟩
 exact⟨z.1,z.2.1,z.2.2,λh=>(nomatch h)⟩
end Mine
theorem PySem.Challenge.cw_in0167_01_holds : PySem.Challenge.rw_in0167_01.Holds :=
 holds_law Mine.kQ Mine.iO
