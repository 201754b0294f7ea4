import PyProof.Rows.All
import Wide.All
import OpenK.AllK
import Wide.FinOn
import Lean
import PySem.Challenge.RW_of0071_01
set_option Elab.async false
set_option autoImplicit false
set_option maxRecDepth 100000
set_option tactic.hygienic false
set_option linter.all false
namespace Mine
open PySem PySem.W PyProof.Rows PySem.Calls
theorem QW {P:Prop} (h:∀ G:Prop,(P->G)->G):P:=h P id
theorem xEA {α0:Sort _}{A0:α0->Prop}{A1:α0->Prop}{G:Prop} (h:∃ x0,A0 x0/\A1 x0) (k:∀ x0,A0 x0->A1 x0->G):G:=h.elim fun x0 h0=>k x0 h0.1 h0.2
theorem xE {α0:Sort _}{A0:α0->Prop}{G:Prop} (h:∃ x0,A0 x0) (k:∀ x0,A0 x0->G):G:=h.elim fun x0 h0=>k x0 h0
theorem xA {A0:Prop}{A1:Prop}{G:Prop} (h:A0/\A1) (k:A0->A1->G):G:=k h.1 h.2
theorem xAA {A0:Prop}{A1:Prop}{A2:Prop}{G:Prop} (h:A0/\A1/\A2) (k:A0->A1->A2->G):G:=k h.1 h.2.1 h.2.2
theorem Zn {α0:Sort _}{α1:Sort _}{A0:α0->α1->Prop}{A1:α0->α1->Prop}{A2:α0->α1->Prop}{G:Prop} (h:∃ x0,∃ x1,A0 x0 x1/\A1 x0 x1/\A2 x0 x1) (k:∀ x0,∀ x1,A0 x0 x1->A1 x0 x1->A2 x0 x1->G):G:=h.elim fun x0 h0=>h0.elim fun x1 h1=>k x0 x1 h1.1 h1.2.1 h1.2.2
theorem ZE {α0:Sort _}{α1:Sort _}{α2:Sort _}{A0:α0->α1->α2->Prop}{A1:α0->α1->α2->Prop}{G:Prop} (h:∃ x0,∃ x1,∃ x2,A0 x0 x1 x2/\A1 x0 x1 x2) (k:∀ x0,∀ x1,∀ x2,A0 x0 x1 x2->A1 x0 x1 x2->G):G:=h.elim fun x0 h0=>h0.elim fun x1 h1=>h1.elim fun x2 h2=>k x0 x1 x2 h2.1 h2.2
theorem Zf {α0:Sort _}{α1:Sort _}{A0:α0->α1->Prop}{A1:α0->α1->Prop}{A2:α0->α1->Prop}{A3:α0->α1->Prop}{A4:α0->α1->Prop}{G:Prop} (h:∃ x0,∃ x1,A0 x0 x1/\A1 x0 x1/\A2 x0 x1/\A3 x0 x1/\A4 x0 x1) (k:∀ x0,∀ x1,A0 x0 x1->A1 x0 x1->A2 x0 x1->A3 x0 x1->A4 x0 x1->G):G:=h.elim fun x0 h0=>h0.elim fun x1 h1=>k x0 x1 h1.1 h1.2.1 h1.2.2.1 h1.2.2.2.1 h1.2.2.2.2
theorem Z6 {α0:Sort _}{A0:α0->Prop}{A1:α0->Prop}{A2:α0->Prop}{A3:α0->Prop}{G:Prop} (h:∃ x0,A0 x0/\A1 x0/\A2 x0/\A3 x0) (k:∀ x0,A0 x0->A1 x0->A2 x0->A3 x0->G):G:=h.elim fun x0 h0=>k x0 h0.1 h0.2.1 h0.2.2.1 h0.2.2.2
theorem ZL {α0:Sort _}{A0:Prop}{A1:Prop}{A2:α0->Prop}{A3:α0->Prop}{G:Prop} (h:A0/\A1/\∃ x0,A2 x0/\A3 x0) (k:A0->A1->∀ x0,A2 x0->A3 x0->G):G:=h.2.2.elim fun x0 h0=>k h.1 h.2.1 x0 h0.1 h0.2
theorem QF {α0:Sort _}{A0:α0->Prop}{A1:α0->Prop}{A2:α0->Prop}{G:Prop} (h:∃ x0,A0 x0/\A1 x0/\A2 x0) (k:∀ x0,A0 x0->A1 x0->A2 x0->G):G:=h.elim fun x0 h0=>k x0 h0.1 h0.2.1 h0.2.2
theorem QE {α0:Sort _}{α1:Sort _}{A0:α0->α1->Prop}{A1:α0->α1->Prop}{G:Prop} (h:∃ x0,∃ x1,A0 x0 x1/\A1 x0 x1) (k:∀ x0,∀ x1,A0 x0 x1->A1 x0 x1->G):G:=h.elim fun x0 h0=>h0.elim fun x1 h1=>k x0 x1 h1.1 h1.2
theorem Qe {A0:Prop}{A1:Prop}{A2:Prop}{A3:Prop}{A4:Prop}{G:Prop} (h:A0/\A1/\A2/\A3/\A4) (k:A0->A1->A2->A3->A4->G):G:=k h.1 h.2.1 h.2.2.1 h.2.2.2.1 h.2.2.2.2
theorem VA {A0:Prop}{A1:Prop}{A2:Prop}{A3:Prop}{G:Prop} (h:A0/\A1/\A2/\A3) (k:A0->A1->A2->A3->G):G:=k h.1 h.2.1 h.2.2.1 h.2.2.2
theorem ZU {α0:Sort _}{A0:α0->Prop}{A1:α0->Prop}{A2:α0->Prop}{A3:α0->Prop}{A4:α0->Prop}{G:Prop} (h:∃ x0,A0 x0/\A1 x0/\A2 x0/\A3 x0/\A4 x0) (k:∀ x0,A0 x0->A1 x0->A2 x0->A3 x0->A4 x0->G):G:=h.elim fun x0 h0=>k x0 h0.1 h0.2.1 h0.2.2.1 h0.2.2.2.1 h0.2.2.2.2
theorem VE {α0:Sort _}{α1:Sort _}{A0:α0->Prop}{A1:α0->Prop}{A2:α0->α1->Prop}{G:Prop} (h:∃ x0,A0 x0/\A1 x0/\∃ x1,A2 x0 x1) (k:∀ x0,A0 x0->A1 x0->∀ x1,A2 x0 x1->G):G:=h.elim fun x0 h0=>h0.2.2.elim fun x1 h1=>k x0 h0.1 h0.2.1 x1 h1
theorem VL {α0:Sort _}{α1:Sort _}{α2:Sort _}{A0:α0->α1->α2->Prop}{A1:α0->α1->α2->Prop}{A2:α0->α1->α2->Prop}{A3:α0->α1->α2->Prop}{G:Prop} (h:∃ x0,∃ x1,∃ x2,A0 x0 x1 x2/\A1 x0 x1 x2/\A2 x0 x1 x2/\A3 x0 x1 x2) (k:∀ x0,∀ x1,∀ x2,A0 x0 x1 x2->A1 x0 x1 x2->A2 x0 x1 x2->A3 x0 x1 x2->G):G:=h.elim fun x0 h0=>h0.elim fun x1 h1=>h1.elim fun x2 h2=>k x0 x1 x2 h2.1 h2.2.1 h2.2.2.1 h2.2.2.2
theorem Qh {α0:Sort _}{α1:Sort _}{α2:Sort _}{A0:Prop}{A1:Prop}{A2:α0->Prop}{A3:α0->α1->α2->Prop}{A4:α0->α1->α2->Prop}{G:Prop} (h:A0/\A1/\∃ x0,A2 x0/\∃ x1,∃ x2,A3 x0 x1 x2/\A4 x0 x1 x2) (k:A0->A1->∀ x0,A2 x0->∀ x1,∀ x2,A3 x0 x1 x2->A4 x0 x1 x2->G):G:=h.2.2.elim fun x0 h0=>h0.2.elim fun x1 h1=>h1.elim fun x2 h2=>k h.1 h.2.1 x0 h0.1 x1 x2 h2.1 h2.2
theorem ZR {A0:Prop}{A1:Prop}{A2:Prop}{A3:Prop}{A4:Prop}{A5:Prop}{G:Prop} (h:A0/\A1/\A2/\A3/\A4/\A5) (k:A0->A1->A2->A3->A4->A5->G):G:=k h.1 h.2.1 h.2.2.1 h.2.2.2.1 h.2.2.2.2.1 h.2.2.2.2.2
theorem Vk {α0:Sort _}{α1:Sort _}{A0:α0->α1->Prop}{A1:α0->α1->Prop}{A2:α0->α1->Prop}{A3:α0->α1->Prop}{G:Prop} (h:∃ x0,∃ x1,A0 x0 x1/\A1 x0 x1/\A2 x0 x1/\A3 x0 x1) (k:∀ x0,∀ x1,A0 x0 x1->A1 x0 x1->A2 x0 x1->A3 x0 x1->G):G:=h.elim fun x0 h0=>h0.elim fun x1 h1=>k x0 x1 h1.1 h1.2.1 h1.2.2.1 h1.2.2.2
theorem Y_ {α0:Sort _}{A0:Prop}{A1:α0->Prop}{A2:α0->Prop}{G:Prop} (h:A0/\∃ x0,A1 x0/\A2 x0) (k:A0->∀ x0,A1 x0->A2 x0->G):G:=h.2.elim fun x0 h0=>k h.1 x0 h0.1 h0.2
theorem xEE {α0:Sort _}{α1:Sort _}{A0:α0->α1->Prop}{G:Prop} (h:∃ x0,∃ x1,A0 x0 x1) (k:∀ x0,∀ x1,A0 x0 x1->G):G:=h.elim fun x0 h0=>h0.elim fun x1 h1=>k x0 x1 h1
theorem Q1 {α0:Sort _}{α1:Sort _}{A0:α0->α1->Prop}{A1:α0->α1->Prop}{A2:α0->α1->Prop}{A3:α0->α1->Prop}{A4:α0->α1->Prop}{A5:α0->α1->Prop}{A6:α0->α1->Prop}{G:Prop} (h:∃ x0,∃ x1,A0 x0 x1/\A1 x0 x1/\A2 x0 x1/\A3 x0 x1/\A4 x0 x1/\A5 x0 x1/\A6 x0 x1) (k:∀ x0,∀ x1,A0 x0 x1->A1 x0 x1->A2 x0 x1->A3 x0 x1->A4 x0 x1->A5 x0 x1->A6 x0 x1->G):G:=h.elim fun x0 h0=>h0.elim fun x1 h1=>k x0 x1 h1.1 h1.2.1 h1.2.2.1 h1.2.2.2.1 h1.2.2.2.2.1 h1.2.2.2.2.2.1 h1.2.2.2.2.2.2
theorem VX {α0:Sort _}{α1:Sort _}{A0:Prop}{A1:Prop}{A2:α0->Prop}{A3:α0->Prop}{A4:α0->α1->Prop}{A5:α0->α1->Prop}{A6:α0->α1->Prop}{G:Prop} (h:A0/\A1/\∃ x0,A2 x0/\A3 x0/\∃ x1,A4 x0 x1/\A5 x0 x1/\A6 x0 x1) (k:A0->A1->∀ x0,A2 x0->A3 x0->∀ x1,A4 x0 x1->A5 x0 x1->A6 x0 x1->G):G:=h.2.2.elim fun x0 h0=>h0.2.2.elim fun x1 h1=>k h.1 h.2.1 x0 h0.1 h0.2.1 x1 h1.1 h1.2.1 h1.2.2
theorem VT {α0:Sort _}{A0:Prop}{A1:α0->Prop}{A2:α0->Prop}{A3:α0->Prop}{A4:α0->Prop}{G:Prop} (h:A0/\∃ x0,A1 x0/\A2 x0/\A3 x0/\A4 x0) (k:A0->∀ x0,A1 x0->A2 x0->A3 x0->A4 x0->G):G:=h.2.elim fun x0 h0=>k h.1 x0 h0.1 h0.2.1 h0.2.2.1 h0.2.2.2
theorem Ux {α0:Sort _}{α1:Sort _}{α2:Sort _}{α3:Sort _}{A0:α0->α1->α2->α3->Prop}{G:Prop} (h:∃ x0,∃ x1,∃ x2,∃ x3,A0 x0 x1 x2 x3) (k:∀ x0,∀ x1,∀ x2,∀ x3,A0 x0 x1 x2 x3->G):G:=h.elim fun x0 h0=>h0.elim fun x1 h1=>h1.elim fun x2 h2=>h2.elim fun x3 h3=>k x0 x1 x2 x3 h3
theorem ZK {A0:Prop}{A1:Prop}{A2:Prop}{A3:Prop}{A4:Prop}{A5:Prop}{A6:Prop}{A7:Prop}{G:Prop} (h:A0/\A1/\A2/\A3/\A4/\A5/\A6/\A7) (k:A0->A1->A2->A3->A4->A5->A6->A7->G):G:=k h.1 h.2.1 h.2.2.1 h.2.2.2.1 h.2.2.2.2.1 h.2.2.2.2.2.1 h.2.2.2.2.2.2.1 h.2.2.2.2.2.2.2
theorem HW {α0:Sort _}{α1:Sort _}{α2:Sort _}{α3:Sort _}{α4:Sort _}{A0:α0->α1->α2->α3->α4->Prop}{G:Prop} (h:∃ x0,∃ x1,∃ x2,∃ x3,∃ x4,A0 x0 x1 x2 x3 x4) (k:∀ x0,∀ x1,∀ x2,∀ x3,∀ x4,A0 x0 x1 x2 x3 x4->G):G:=h.elim fun x0 h0=>h0.elim fun x1 h1=>h1.elim fun x2 h2=>h2.elim fun x3 h3=>h3.elim fun x4 h4=>k x0 x1 x2 x3 x4 h4
theorem KO {α:Type _}{P:List α->Prop} (h:∀ a,P [a]):∀ vs:List α,vs.length=1->P vs
 | [a],_=>h a
theorem HJ {α:Type _}{P:List α->Prop} (h:∀ a b,P [a,b]):∀ vs:List α,vs.length=2->P vs
 | [a,b],_=>h a b
theorem PU {α:Type _}{P:List α->Prop} (h:∀ a b c,P [a,b,c]):∀ vs:List α,vs.length=3->P vs
 | [a,b,c],_=>h a b c
theorem oA {a b c:Nat} (h:a≤b) (d:Nat.ble b c=true):a≤c:=Nat.le_trans h (Nat.le_of_ble_eq_true d)
theorem oB {a b c:Nat} (h:a < b) (d:Nat.ble b (c+1)=true):a≤c:=Nat.le_of_lt_succ (Nat.lt_of_lt_of_le h (Nat.le_of_ble_eq_true d))
theorem oC {a b c:Nat} (h:a < b) (d:Nat.ble b c=true):a < c:=Nat.lt_of_lt_of_le h (Nat.le_of_ble_eq_true d)
theorem oD {a b c:Nat} (h:a≤b) (d:Nat.ble (b+1) c=true):a < c:=Nat.lt_of_le_of_lt h (Nat.le_of_ble_eq_true d)
theorem oE {a b c k:Nat} (h:a=k+b) (d:Nat.ble c b=true):k+c≤a:=h▸Nat.add_le_add_left (Nat.le_of_ble_eq_true d) k
theorem oF {a b c k:Nat} (h:a=k+b) (d:Nat.ble c b=true):c≤a:=Nat.le_trans (Nat.le_add_left c k) (oE h d)
theorem oG {a b:Nat} (h:a≤b) (g:¬ a < b):a=b:=Nat.le_antisymm h (Nat.le_of_not_lt g)
theorem oI {a b:Nat} (h:a≤b+1) (g:a≠b+1):a≤b:=Nat.le_of_lt_succ (Nat.lt_of_le_of_ne h g)
theorem oJ {a m b c:Nat} (e:a=m) (h:m≤b) (d:Nat.ble b c=true):a≤c:=e▸oA h d
theorem oK {a m b c:Nat} (e:a=m) (h:m < b) (d:Nat.ble b c=true):a < c:=e▸oC h d
theorem oL {a m b c:Nat} (e:a=m) (h:m < b) (d:Nat.ble b (c+1)=true):a≤c:=e▸oB h d
theorem oN {a m b:Nat} (h:a < m) (e:m=b):a < b:=e▸h
theorem oP {a b k:Nat} (h:a≤b) (d:Nat.ble 0 k=true):a≤b+k:=Nat.le_trans h (Nat.le_add_right b k)
theorem oR {a k b c:Nat} (h:a+k≤b) (d:Nat.ble b c=true):a≤c:=Nat.le_trans (Nat.le_add_right a k) (oA h d)
theorem oS {a b m n c:Nat} (h:a≤m) (g:b≤n) (d:Nat.ble (m+n) c=true):a+b≤c:=oA (Nat.add_le_add h g) d
theorem oT {a m b c:Nat} (e:m=a) (h:m≤b) (d:Nat.ble b c=true):a≤c:=e▸oA h d
theorem oU {a b c k:Nat} (h:a≤b) (d:Nat.ble (b+k) c=true):a+k≤c:=oA (Nat.add_le_add_right h k) d
theorem oV {a b k:Nat} (h:a+(k+1)=b):a+1+k=b:=(Nat.add_right_comm a 1 k).trans h
theorem oX {a m b c:Nat} (h:a≤m) (g:m≤b) (d:Nat.ble b c=true):a≤c:=Nat.le_trans h (oA g d)
theorem oq1 {a m b c:Nat} (h:a < m) (g:m < b) (d:Nat.ble b c=true):a < c:=oC (Nat.lt_trans h g) d
theorem oq3 {a k b:Nat} (h:a+(k+1)≤b):a+1+k≤b:=(Nat.add_right_comm a 1 k).symm▸h
theorem oq4 {a k b:Nat} (h:a+(k+1)≤b):a < b:=Nat.lt_of_lt_of_le (Nat.lt_add_of_pos_right (Nat.succ_pos k)) h
theorem oq5 {a k b:Nat} (h:a+(k+1)=b):a < b:=h▸Nat.lt_add_of_pos_right (Nat.succ_pos k)
theorem rs {n i:Nat} (h:i < n):n+1 - (i+1) < n+1 - i:=by rw [Nat.add_sub_add_right,Nat.succ_sub (Nat.le_of_lt h)];exact Nat.lt_succ_self _
theorem uni {u a b:Nat} (hu:u≤9000) (hd:a≤64∨b≤64):u+1+min a b < 9900:=Nat.lt_of_le_of_lt (Nat.add_le_add (Nat.succ_le_succ hu) (hd.elim (Nat.le_trans (Nat.min_le_left a b)) (Nat.le_trans (Nat.min_le_right a b)))) (Nat.le_of_ble_eq_true rfl)
theorem ra {a b c k:Nat} (h:a+k≤b) (d:Nat.ble (b+1) c=true):a < c:=oD (Nat.le_trans (Nat.le_add_right a k) h) d
theorem rb {n b:Nat}{c:Int} (h:n≤b) (d:decide ((b:Int) < c)=true):(n:Int) < c:=Int.lt_of_le_of_lt (Int.ofNat_le.mpr h) (of_decide_eq_true d)
theorem rc {n b:Nat}{c:Int} (h:n < b) (d:decide ((b:Int)≤c)=true):(n:Int) < c:=Int.lt_of_lt_of_le (Int.ofNat_lt.mpr h) (of_decide_eq_true d)
theorem rd {a d:Nat} (h:a+1≤d):d=d - 1+1:=(Nat.sub_add_cancel (Nat.le_trans (Nat.le_add_left 1 a) h)).symm
theorem re {a b c:Nat} (h:b < c+1) (g:a < b):a < c:=Nat.lt_of_lt_of_le g (Nat.le_of_lt_succ h)
theorem rg {i m b c d:Nat} (h:i < m) (e:m=b) (g:b < c) (x:Nat.ble c d=true):i < d:=oC (Nat.lt_trans h (e▸g)) x
theorem rh {a b c:Nat} (e:a=b) (d:Nat.ble (b+1) c=true):a < c:=e▸Nat.le_of_ble_eq_true d
theorem ri {a b c k:Nat} (h:a≤b) (d:Nat.ble (b+k+1) c=true):a+k < c:=oC (Nat.add_lt_add_right (Nat.lt_succ_of_le h) k) (by rw [Nat.succ_eq_add_one,Nat.add_right_comm];exact d)
theorem rl {a m n c:Nat} (h:m < n) (g:n≤c) (l:a≤m) (x:Nat.ble c 16777215=true):a≤16777215:=oA (Nat.le_of_lt (Nat.lt_of_le_of_lt l (Nat.lt_of_lt_of_le h g))) x
theorem noS {α:Type _}{a:α}{P:Prop} (h:none=some a):P:=nomatch h
theorem sNo {α:Type _}{a:α}{P:Prop} (h:some a=none):P:=nomatch h
theorem tF {P:Prop} (h:true=false):P:=nomatch h
theorem fT {P:Prop} (h:false=true):P:=nomatch h
noncomputable def ZO (x:Str):Bool:=decide (x.length≤16777216) && PyData.strOk x
theorem Q8 {x:Str} (h:ZO x=true):x.length≤sizeLine:=by
 simp only [ZO,Bool.and_eq_true,decide_eq_true_eq] at h;exact h.1
theorem Mi {x:Str} (h:ZO x=true):PyData.strOk x=true:=by
 simp only [ZO,Bool.and_eq_true,decide_eq_true_eq] at h;exact h.2
mutual
inductive Rd (N:Addr->Prop) (h:Heap):Value->PyData->Prop
 | none:Rd N h .none .none
 | bool (b):Rd N h (.bool b) (.bool b)
 | int (i t):Rd N h (.int i t) (.int i)
 | str {x} (t):ZO x=true->Rd N h (.str x t) (.str x)
 | list {a o vs n xs}:h.get? a=some o->¬ N a->o.cls=.type "list"->o.data=.seq vs n->Rds N h vs.toList xs->xs.length≤sizeLine->o.dict=Option.none->Rd N h (.ref a) (.list xs)
 | tuple {a o vs n xs}:h.get? a=some o->¬ N a->o.cls=.type "tuple"->o.data=.seq vs n->Rds N h vs.toList xs->xs.length≤sizeLine->Rd N h (.ref a) (.tuple xs)
inductive Rds (N:Addr->Prop) (h:Heap):List Value->List PyData->Prop
 | nil:Rds N h [] []
 | cons {v vs d ds}:Rd N h v d->Rds N h vs ds->Rds N h (v::vs) (d::ds)
end
theorem Rd.invI {N:Addr->Prop}{h:Heap}{v:Value}{i:Int} (r:Rd N h v (.int i)):∃ t,v=.int i t:=by cases r;exact ⟨_,rfl⟩
theorem Rd.invS {N:Addr->Prop}{h:Heap}{v:Value}{x:Str} (r:Rd N h v (.str x)):∃ t,ZO x=true/\v=.str x t:=by cases r with|str t k=>exact ⟨t,k,rfl⟩
theorem Rd.invB {N:Addr->Prop}{h:Heap}{v:Value}{b:Bool} (r:Rd N h v (.bool b)):v=.bool b:=by cases r;rfl
theorem Rd.invN {N:Addr->Prop}{h:Heap}{v:Value} (r:Rd N h v .none):v=.none:=by cases r;rfl
structure Fz (N N':Addr->Prop) (h h':Heap):Prop where
 keep:∀ a o,¬ N a->h.get? a=some o->h'.get? a=some o
 new:∀ a,N' a->N a∨h.get? a=none
theorem Fz.refl (N:Addr->Prop) (h:Heap):Fz N N h h:=⟨fun Z Z Z e=>e,fun Z x=>.inl x⟩
theorem Fz.not {N N':Addr->Prop}{h h':Heap} (F:Fz N N' h h') {a:Addr}{o:Obj} (n:¬ N a) (e:h.get? a=some o):¬ N' a:=fun x=>by
 rcases F.new a x with y|y
 ·exact n y
 ·replace e:=Eq.trans (Eq.symm y) e;exact noS e
theorem Fz.keep' {N N':Addr->Prop}{h h':Heap} (F:Fz N N' h h') {a:Addr}{o:Obj} (n:¬ N a) (e:h.get? a=some o):h'.get? a=some o:=F.keep a o n e
mutual
theorem Rd.mono {N N':Addr->Prop}{h h':Heap} (F:Fz N N' h h'):∀ {v d},Rd N h v d->Rd N' h' v d
 | _,_,.none=>.none
 | _,_,.bool b=>.bool b
 | _,_,.int i t=>.int i t
 | _,_,.str t k=>.str t k
 | _,_,.list e n c d r z y=>.list (F.keep' n e) (F.not n e) c d (Rds.mono F r) z y
 | _,_,.tuple e n c d r z=>.tuple (F.keep' n e) (F.not n e) c d (Rds.mono F r) z
theorem Rds.mono {N N':Addr->Prop}{h h':Heap} (F:Fz N N' h h'):∀ {vs ds},Rds N h vs ds->Rds N' h' vs ds
 | _,_,.nil=>.nil
 | _,_,.cons a b=>.cons (Rd.mono F a) (Rds.mono F b)
end
mutual
theorem Rd.reads {N:Addr->Prop}{h:Heap}:∀ {v d},Rd N h v d->∃ as,Reads h v d as
 | _,_,.none=>⟨_,.none⟩
 | _,_,.bool b=>⟨_,.bool b⟩
 | _,_,.int i t=>⟨_,.int i t⟩
 | _,_,.str t _=>⟨_,.str _ t⟩
 | _,_,.list e _ c d r _ _=>let ⟨_,q⟩:=Rds.reads r;⟨_,.list e c d q⟩
 | _,_,.tuple e _ c d r _=>let ⟨_,q⟩:=Rds.reads r;⟨_,.tuple e c d q⟩
theorem Rds.reads {N:Addr->Prop}{h:Heap}:∀ {vs ds},Rds N h vs ds->∃ as,ReadsAll h vs ds as
 | _,_,.nil=>⟨_,.nil⟩
 | _,_,.cons a b=>let ⟨_,p⟩:=Rd.reads a;let ⟨_,q⟩:=Rds.reads b;⟨_,.cons p q⟩
end
mutual
theorem Rd.canLay {N:Addr->Prop}{h:Heap}:∀ {v d},Rd N h v d->d.canLay0=true
 | _,_,.none=>rfl
 | _,_,.bool _=>rfl
 | _,_,.int _ _=>rfl
 | _,_,.str _ k=>by simpa [PyData.canLay0] using Mi k
 | _,_,.list _ _ _ _ r _ _=>by simpa [PyData.canLay0] using Rds.canLay r
 | _,_,.tuple _ _ _ _ r _=>by simpa [PyData.canLay0] using Rds.canLay r
theorem Rds.canLay {N:Addr->Prop}{h:Heap}:∀ {vs ds},Rds N h vs ds->PyData.canLayAll0 ds=true
 | _,_,.nil=>rfl
 | _,_,.cons a b=>by simp [PyData.canLayAll0,Rd.canLay a,Rds.canLay b]
end
theorem Rd.listE {N:Addr->Prop}{h:Heap}{v:Value}{xs:List PyData} (r:Rd N h v (.list xs)):∃ a vs,v=.ref a/\¬ N a/\h.IsList a vs.toArray/\Rds N h vs xs/\xs.length≤sizeLine:=by
 cases r with
 | @list a o vs n _ e n c d r z _=>exact ⟨a,vs.toList,rfl,n,⟨o,e,c,_,by exact d⟩,r,z⟩
theorem Rd.listD {N:Addr->Prop}{h:Heap}{a:Addr}{xs:List PyData} (r:Rd N h (.ref a) (.list xs)):∃ o,h.get? a=some o/\o.dict=Option.none:=by
 cases r with
 | list e _ _ _ _ _ y=>exact ⟨_,e,y⟩
theorem Rd.tupleE {N:Addr->Prop}{h:Heap}{v:Value}{xs:List PyData} (r:Rd N h v (.tuple xs)):∃ a vs,v=.ref a/\¬ N a/\h.IsTuple a vs.toArray/\Rds N h vs xs/\xs.length≤sizeLine:=by
 cases r with
 | @tuple a o vs n _ e n c d r z=>exact ⟨a,vs.toList,rfl,n,⟨o,e,c,_,by exact d⟩,r,z⟩
theorem Rds.ind {N:Addr->Prop}{h:Heap}{P:List Value->List PyData->Prop} (n:P [] []) (c:∀ {v d vs ds},Rd N h v d->Rds N h vs ds->P vs ds->P (v::vs) (d::ds)):∀ {vs ds},Rds N h vs ds->P vs ds
 | _,_,.nil=>n
 | _,_,.cons a b=>c a b (Rds.ind n c b)
theorem Rds.length {N:Addr->Prop}{h:Heap}:∀ {vs ds},Rds N h vs ds->vs.length=ds.length:=Rds.ind (P:=fun vs ds=>vs.length=ds.length) rfl fun Z Z e=>congrArg Nat.succ e
theorem Rds.append {N:Addr->Prop}{h:Heap}:∀ {vs ds ws es},Rds N h vs ds->Rds N h ws es->Rds N h (vs++ws) (ds++es):=fun {vs ds ws es} a r=>Rds.ind (P:=fun vs ds=>Rds N h (vs++ws) (ds++es)) r (fun a Z q=>.cons a q) a
theorem Rds.get {N:Addr->Prop}{h:Heap}:∀ {vs ds},Rds N h vs ds->∀ {i:Nat}{d:PyData},ds[i]?=some d->∃ v,vs[i]?=some v/\Rd N h v d:=fun {vs ds} r {i d}=>Rds.ind (P:=fun vs ds=>∀ (i:Nat) (d:PyData),ds[i]?=some d->∃ v,vs[i]?=some v/\Rd N h v d) (fun Z Z e=>noS e) (fun a Z q i d e=>by
 cases i with
 | zero=>obtain rfl:=Option.some.inj e;exact ⟨_,rfl,a⟩
 | succ i=>exact q i d e) r i d
theorem Rds.getV {N:Addr->Prop}{h:Heap}:∀ {vs ds},Rds N h vs ds->∀ {i:Nat}{v:Value},vs[i]?=some v->∃ d,ds[i]?=some d/\Rd N h v d:=fun {vs ds} r {i v}=>Rds.ind (P:=fun vs ds=>∀ (i:Nat) (v:Value),vs[i]?=some v->∃ d,ds[i]?=some d/\Rd N h v d) (fun Z Z e=>noS e) (fun a Z q i d e=>by
 cases i with
 | zero=>obtain rfl:=Option.some.inj e;exact ⟨_,rfl,a⟩
 | succ i=>exact q i d e) r i v
theorem Rds.drop {N:Addr->Prop}{h:Heap}:∀ {vs ds},Rds N h vs ds->∀ n,Rds N h (vs.drop n) (ds.drop n):=Rds.ind (P:=fun vs ds=>∀ n,Rds N h (vs.drop n) (ds.drop n)) (fun n=>by rw [List.drop_nil,List.drop_nil];exact .nil) fun a b q n=>by
 cases n with
 | zero=>exact .cons a b
 | succ n=>exact q n
theorem Rds.take {N:Addr->Prop}{h:Heap}:∀ {vs ds},Rds N h vs ds->∀ n,Rds N h (vs.take n) (ds.take n):=Rds.ind (P:=fun vs ds=>∀ n,Rds N h (vs.take n) (ds.take n)) (fun n=>by rw [List.take_nil,List.take_nil];exact .nil) fun a b q n=>by
 cases n with
 | zero=>exact .nil
 | succ n=>exact .cons a (q n)
theorem Rds.reverse {N:Addr->Prop}{h:Heap}:∀ {vs ds},Rds N h vs ds->Rds N h vs.reverse ds.reverse:=Rds.ind (P:=fun vs ds=>Rds N h vs.reverse ds.reverse) .nil fun a Z q=>by simpa using Rds.append q (.cons a .nil)
inductive AV where
 | dat (d:PyData)
 | obj (a:Addr)
 | cal (v:Value)
noncomputable def RdA (N:Addr->Prop) (h:Heap) (v:Value):AV->Prop
 | .dat d=>Rd N h v d
 | .obj a=>v=.ref a
 | .cal u=>v=u
theorem RdA.mono {N N':Addr->Prop}{h h':Heap} (F:Fz N N' h h') {v:Value}:∀ {d},RdA N h v d->RdA N' h' v d
 | .dat _,r=>Rd.mono F r
 | .obj _,r=>r
 | .cal _,r=>r
inductive Zr (N:Addr->Prop) (h:Heap):List Value->List AV->Prop
 | nil:Zr N h [] []
 | cons {v vs d ds}:RdA N h v d->Zr N h vs ds->Zr N h (v::vs) (d::ds)
theorem Zr.ind {N:Addr->Prop}{h:Heap}{P:List Value->List AV->Prop} (n:P [] []) (c:∀ {v d vs ds},RdA N h v d->Zr N h vs ds->P vs ds->P (v::vs) (d::ds)):∀ {vs ds},Zr N h vs ds->P vs ds
 | _,_,.nil=>n
 | _,_,.cons a b=>c a b (Zr.ind n c b)
theorem Zr.mono {N N':Addr->Prop}{h h':Heap} (F:Fz N N' h h'):∀ {vs ds},Zr N h vs ds->Zr N' h' vs ds:=Zr.ind (P:=Zr N' h') .nil fun a Z q=>.cons (RdA.mono F a) q
theorem Zr.append {N:Addr->Prop}{h:Heap}:∀ {vs ds ws es},Zr N h vs ds->Zr N h ws es->Zr N h (vs++ws) (ds++es):=fun {vs ds ws es} a r=>Zr.ind (P:=fun vs ds=>Zr N h (vs++ws) (ds++es)) r (fun a Z q=>.cons a q) a
theorem Zr.length {N:Addr->Prop}{h:Heap}:∀ {vs ds},Zr N h vs ds->vs.length=ds.length:=Zr.ind (P:=fun vs ds=>vs.length=ds.length) rfl fun Z Z e=>congrArg Nat.succ e
theorem Zr.get {N:Addr->Prop}{h:Heap}:∀ {vs ds},Zr N h vs ds->∀ {i:Nat}{d:AV},ds[i]?=some d->∃ v,vs[i]?=some v/\RdA N h v d:=fun {vs ds} r {i d}=>Zr.ind (P:=fun vs ds=>∀ (i:Nat) (d:AV),ds[i]?=some d->∃ v,vs[i]?=some v/\RdA N h v d) (fun Z Z e=>noS e) (fun a Z q i d e=>by
 cases i with
 | zero=>obtain rfl:=Option.some.inj e;exact ⟨_,rfl,a⟩
 | succ i=>exact q i d e) r i d
noncomputable abbrev pg:Program:=PySem.Challenge.pw_of0071_01
structure Pu (Fs:List Addr) (h h':Heap):Prop where
 keep:∀ a o,a∉Fs->h.get? a=some o->h'.get? a=some o
 fr:∀ a o,h.get? a=some o->∃ sl,h'.get? a=some { o with slots:=sl }
theorem Pu.refl (Fs:List Addr) (h:Heap):Pu Fs h h:=⟨fun Z Z Z e=>e,fun Z o e=>⟨o.slots,e⟩⟩
theorem Pu.trans {Fs:List Addr}{h h' h'':Heap} (a:Pu Fs h h') (b:Pu Fs h' h''):Pu Fs h h'' :=
 ⟨fun x o n e=>b.keep x o n (a.keep x o n e),fun x Z e=>let ⟨_,y⟩:=a.fr x _ e;let ⟨sl,z⟩:=b.fr x _ y;⟨sl,z⟩⟩
theorem Pu.of_keeps {Fs:List Addr}{h h':Heap} (k:∀ a o,h.get? a=some o->h'.get? a=some o):Pu Fs h h' :=
 ⟨fun a o Z e=>k a o e,fun a o e=>⟨o.slots,k a o e⟩⟩
theorem Pu.push (Fs:List Addr) (h:Heap) (o:Obj):Pu Fs h (h.push o):=.of_keeps (fun Z Z e=>Heap.get?_push_of_some _ e)
theorem Pu.mono {Fs Gs:List Addr}{h h':Heap} (a:Pu Fs h h') (s:∀ x∈Fs,x∈Gs):Pu Gs h h':=⟨fun x o n e=>a.keep x o (fun m=>n (s x m)) e,a.fr⟩
theorem Pu.fz {Fs:List Addr}{N:Addr->Prop}{h h':Heap} (a:Pu Fs h h') (s:∀ x∈Fs,N x):Fz N N h h':=⟨fun x o n e=>a.keep x o (fun m=>n (s x m)) e,fun Z x=>.inl x⟩
theorem Pu.ns {Fs:List Addr}{h h':Heap} (a:Pu Fs h h') {x:Addr}{m:Str->Option Value} (n:h.Ns x m):h'.Ns x m :=
 let ⟨_,es,ep,ho,hd,r⟩:=n;let ⟨_,e⟩:=a.fr x _ ho;⟨_,es,ep,e,hd,r⟩
theorem Pu.cell {Fs:List Addr}{h h':Heap} (a:Pu Fs h h') {c:Addr}{v:Option Value} (n:h.IsCell c v):h'.IsCell c v :=
 let ⟨_,ho,hd⟩:=n;let ⟨_,e⟩:=a.fr c _ ho;⟨_,e,hd⟩
inductive MO where
 | list (xs:List AV)
 | dict (kvs:List (Int×AV))
 | set (xs:List Int)
 | inst (C dx:Addr)
 | ns (fs:List (Str×AV))
 | info (node np:Int) (succ:Addr)
 | iter (l:Addr) (i:Nat)
 | nxt (it:Addr)
 | tup (xs:List AV)
 | any
 | exc (cls:Value) (T:Addr)
 | part (xs:List AV)
noncomputable abbrev Mu:Type:=Addr->Option MO
inductive ZQ (N:Addr->Prop) (h:Heap):List (Int×Value)->List (Int×AV)->Prop
 | nil:ZQ N h [] []
 | cons {k v d vs ds}:RdA N h v d->ZQ N h vs ds->ZQ N h ((k,v)::vs) ((k,d)::ds)
theorem ZQ.ind {N:Addr->Prop}{h:Heap}{P:List (Int×Value)->List (Int×AV)->Prop} (n:P [] []) (c:∀ {k v d vs ds},RdA N h v d->ZQ N h vs ds->P vs ds->P ((k,v)::vs) ((k,d)::ds)):∀ {vs ds},ZQ N h vs ds->P vs ds
 | _,_,.nil=>n
 | _,_,.cons a b=>c a b (ZQ.ind n c b)
theorem ZQ.mono {N N':Addr->Prop}{h h':Heap} (F:Fz N N' h h'):∀ {vs ds},ZQ N h vs ds->ZQ N' h' vs ds:=ZQ.ind (P:=ZQ N' h') .nil fun a Z q=>.cons (RdA.mono F a) q
inductive Qm (w:World) (N:Addr->Prop) (h:Heap):List DictEntry->List (Str×AV)->Prop
 | nil:Qm w N h [] []
 | cons {x t v d es fs}:RdA N h v d->Qm w N h es fs->Qm w N h (⟨PyData.keyHash w.params x,.str x t,v⟩::es) ((x,d)::fs)
theorem Qm.ind {w:World}{N:Addr->Prop}{h:Heap}{P:List DictEntry->List (Str×AV)->Prop} (n:P [] []) (c:∀ {x t v d es fs},RdA N h v d->Qm w N h es fs->P es fs->P (⟨PyData.keyHash w.params x,.str x t,v⟩::es) ((x,d)::fs)):∀ {es fs},Qm w N h es fs->P es fs
 | _,_,.nil=>n
 | _,_,.cons a b=>c a b (Qm.ind n c b)
theorem Qm.mono {w:World}{N N':Addr->Prop}{h h':Heap} (F:Fz N N' h h'):∀ {vs ds},Qm w N h vs ds->Qm w N' h' vs ds:=Qm.ind (P:=Qm w N' h') .nil fun a Z q=>.cons (RdA.mono F a) q
noncomputable def Yt (w:World) (N:Addr->Prop) (h:Heap) (o:Obj):MO->Prop
 | .list xs=>∃ vs n,o={ cls:=.type "list",data:=.seq vs.toArray n }/\Zr N h vs xs
 | .dict kvs=>∃ ps,o.IsDictOf (intKind pg w) ps/\ZQ N h ps kvs
 | .set xs=>∃ es ep t,o.ExactSet/\o.data=.set es ep t/\ElemsOf (intKind pg w) es.toList/\(∀ k:Int,k∈xs ↔ ∃ e∈es.toList,(intKind pg w).is k e.2=true)/\es.size < scanBound/\t.fits es.size=true/\es.size=xs.length
 | .inst C dx=>o=⟨.ref C,some dx,.plain,#[]⟩
 | .ns fs=>∃ es n,o=dictOf es n/\Qm w N h es fs
 | .info node np succ=>∃ t t' dx,o=⟨.ref 74,some dx,.plain,#[some (.int node t'),some (.int np t),some (.ref succ)]⟩/\¬ N dx/\h.get? dx=some { cls:=.type "dict",data:=.dict #[] }
 | .iter l i=>o.cls=.type "list_iterator"/\o.data=.fields #[.ref l,.int i 0]
 | .nxt it=>o.cls=.type "method-wrapper"/\∃ vs,o.data=.fields vs/\vs[0]?=some (.builtin "list_iterator.__next__")/\vs[1]?=some (.ref it)
 | .tup xs=>∃ vs n,o={ cls:=.type "tuple",data:=.seq vs.toArray n }/\Zr N h vs xs
 | .any=>True
 | .exc cls T=>o.cls=cls/\∃ vs,o.data=.fields vs/\vs[1]?=some (.ref T)/\vs[2]?=some .none
 | .part xs=>∃ vs dx,o=⟨.ref 74,some dx,.plain,(vs.map some).toArray⟩/\¬ N dx/\h.get? dx=some { cls:=.type "dict",data:=.dict #[] }/\Zr N h vs xs
theorem Yt.mono {w:World}{N N':Addr->Prop}{h h':Heap} (F:Fz N N' h h') {o:Obj}:∀ {m},Yt w N h o m->Yt w N' h' o m
 | .list _,⟨vs,n,e,r⟩=>⟨vs,n,e,Zr.mono F r⟩
 | .dict _,⟨ps,e,r⟩=>⟨ps,e,ZQ.mono F r⟩
 | .set _,r=>r
 | .inst _ _,r=>r
 | .ns _,⟨es,n,e,r⟩=>⟨es,n,e,Qm.mono F r⟩
 | .info _ _ _,⟨t,t',dx,e,n,g⟩=>⟨t,t',dx,e,F.not n g,F.keep _ _ n g⟩
 | .iter _ _,r=>r
 | .nxt _,r=>r
 | .tup _,⟨vs,n,e,r⟩=>⟨vs,n,e,Zr.mono F r⟩
 | .any,r=>r
 | .exc _ _,r=>r
 | .part _,⟨vs,dx,e,n,g,r⟩=>⟨vs,dx,e,F.not n g,F.keep _ _ n g,Zr.mono F r⟩
structure Wd (w:World) (h₁:Heap) (Fs:List Addr) (N:Addr->Prop) (μ:Mu) (h:Heap):Prop where
 stays:∀ b o,h₁.get? b=some o->h.get? b=some o
 nlo:∀ a,N a->h₁.get? a=none
 nhi:∀ a,N a->∃ o,h.get? a=some o
 fsN:∀ a∈Fs,N a
 fr:∀ a∈Fs,∃ o es n,h.get? a=some o/\o.data=.dict es n
 mu:∀ a m,μ a=some m->N a/\a∉Fs/\∃ o,h.get? a=some o/\Yt w N h o m
 mm:∀ a kvs,μ a=some (.dict kvs)->a≠sysModules
theorem Wd.notN {w:World}{h₁:Heap}{Fs:List Addr}{N:Addr->Prop}{μ:Mu}{h:Heap} (W:Wd w h₁ Fs N μ h) {b:Addr}{o:Obj} (e:h₁.get? b=some o):¬ N b :=
 fun n=>by have:=W.nlo b n;replace this:=Eq.trans (Eq.symm e) this;exact sNo this
theorem Wd.pu {w:World}{h₁:Heap}{Fs:List Addr}{N:Addr->Prop}{μ:Mu}{h h':Heap} (W:Wd w h₁ Fs N μ h) (P:Pu Fs h h'):Wd w h₁ Fs N μ h' :=
 ⟨fun b o e=>P.keep b o (fun m=>W.notN e (W.fsN b m)) (W.stays b o e),W.nlo,fun a n=>let ⟨_,e⟩:=W.nhi a n;let ⟨_,e'⟩:=P.fr a _ e;⟨_,e'⟩,W.fsN,
  fun a m=>let ⟨_,es,n,e,d⟩:=W.fr a m;let ⟨_,e'⟩:=P.fr a _ e;⟨_,es,n,e',d⟩,
  fun a m e=>let ⟨n,f,o,ho,r⟩:=W.mu a m e;⟨n,f,o,P.keep a o f ho,r.mono (P.fz W.fsN)⟩,W.mm⟩
theorem Wd.fz {w:World}{h₁:Heap}{Fs:List Addr}{N:Addr->Prop}{μ:Mu}{h h':Heap} (W:Wd w h₁ Fs N μ h) (P:Pu Fs h h'):Fz N N h h':=P.fz W.fsN
structure Fm (env:Env) (N:Addr->Prop) (l:List (Str×AV)) (h:Heap):Prop where
 ns:∃ m,h.Ns env.locals m/\∀ x d,l.lookup x=some d->env.kindOf x=some .local->∃ v,m x=some v/\RdA N h v d
 cl:∀ x d,l.lookup x=some d->env.kindOf x=some .cell->∃ c v,env.cells.lookup x=some c/\h.IsCell c (some v)/\RdA N h v d
theorem Fm.pu {env:Env}{N:Addr->Prop}{l:List (Str×AV)}{h h':Heap}{Fs:List Addr} (F:Fm env N l h) (P:Pu Fs h h') (s:∀ x∈Fs,N x):Fm env N l h' :=
 ⟨let ⟨m,n,r⟩:=F.ns;⟨m,P.ns n,fun x d e k=>let ⟨v,a,b⟩:=r x d e k;⟨v,a,b.mono (P.fz s)⟩⟩,
  fun x d e k=>let ⟨c,v,a,b,r⟩:=F.cl x d e k;⟨c,v,a,P.cell b,r.mono (P.fz s)⟩⟩
structure Cx where
 w:World
 h₁:Heap
 A:Around
 env:Env
 envs:List Env
 k:Nat
noncomputable abbrev Cx.Fs (C:Cx):List Addr:=C.envs.filterMap (·.frame)
noncomputable def OP:List (Str×AV):=[
 ("_twin_re_1",.cal (.ref 43)),("_twin_re_2",.cal (.ref 48)),("CRLF",.dat (.str "\r\n")),("quotedata",.cal (.ref 55)),
 ("_NODE_OUT",.dat (.int (-1))),("_NODE_DONE",.dat (.int (-2))),("_NodeInfo",.cal (.ref 74)),("CycleError",.cal (.ref 89)),("TopologicalSorter",.cal (.ref 171)),
 ("sorted_list_difference",.cal (.ref 182)),("unorderable_list_difference",.cal (.ref 189)),("_law_message",.cal (.ref 196)),("_law_sent",.cal (.ref 201)),
 ("_law_run",.cal (.ref 206)),("_law_only",.cal (.ref 211)),("_law_told",.cal (.ref 216)),("_law_due",.cal (.ref 221)),("law",.cal (.ref 226))]
noncomputable def BK:List (Str×Value):=[
 ("len",.builtin "len"),("max",.builtin "max"),("list",.type "list"),("sorted",.builtin "sorted"),("enumerate",.type "enumerate"),("range",.type "range"),
 ("tuple",.type "tuple"),("bool",.type "bool"),("set",.type "set"),("iter",.builtin "iter"),("IndexError",.type "IndexError"),("ValueError",.type "ValueError"),("StopIteration",.type "StopIteration")]
structure Nms (h₁:Heap):Prop where
 nm:∃ mg mb,h₁.Ns mainGlobals mg/\h₁.Ns builtinsNs mb/\(∀ x d,OP.lookup x=some d->∃ v,mg x=some v/\RdA (fun Z=>False) h₁ v d) /\
  (∀ x v,BK.lookup x=some v->mg x=none/\mb x=some v)
 nolimit:h₁.NoLimit
theorem Nms.three {h₁:Heap} (n:Nms h₁):∃ o,h₁.get? 3=some o:=n.nm.elim fun Z h=>h.elim fun Z h=>h.1.elim fun o h=>h.elim fun Z h=>h.elim fun Z h=>⟨o,h.1⟩
structure Cx.Ok (C:Cx):Prop where
 nms:Nms C.h₁
 frames:C.A.frames=some C.envs
 efr:∀ e∈C.envs,e.scope.kind≠.module/\∃ L,e.frame=some L
 depth:C.A.depth+C.k≤900
 units:C.A.units+20 * C.k≤9000
 handled:C.A.handled=none
 kind:C.env.scope.kind=.function
 glob:C.env.globals=mainGlobals
 bui:C.env.builtins=builtinsNs
structure St (C:Cx) (N:Addr->Prop) (μ:Mu) (l:List (Str×AV)) (h:Heap):Prop where
 wd:Wd C.w C.h₁ C.Fs N μ h
 fm:Fm C.env N l h
theorem St.pu {C:Cx}{N:Addr->Prop}{μ:Mu}{l:List (Str×AV)}{h h':Heap} (S:St C N μ l h) (P:Pu C.Fs h h'):St C N μ l h' :=
 ⟨S.wd.pu P,S.fm.pu P S.wd.fsN⟩
theorem St.fz {C:Cx}{N:Addr->Prop}{μ:Mu}{l:List (Str×AV)}{h h':Heap} (S:St C N μ l h) (P:Pu C.Fs h h'):Fz N N h h':=S.wd.fz P
noncomputable def Ev (C:Cx) (μ:Mu) (l:List (Str×AV)) (e:Expr) (d:AV):Prop :=
 ∀ (N:Addr->Prop) (s:Shared),St C N μ l s.heap->∀ (Q:Value->Shared->Prop) (E:Value->Shared->Prop),
  (∀ v h' tk,Pu C.Fs s.heap h'->RdA N h' v d->Q v { s with heap:=h',toks:=tk })->wpAny (model pg C.w) C.A (eval e C.env) Q E s
noncomputable def Tst (C:Cx) (μ:Mu) (l:List (Str×AV)) (e:Expr) (b:Bool):Prop :=
 ∀ (N:Addr->Prop) (s:Shared),St C N μ l s.heap->∀ (Q:Bool->Shared->Prop) (E:Value->Shared->Prop),
  (∀ h' tk,Pu C.Fs s.heap h'->Q b { s with heap:=h',toks:=tk })->wpAny (model pg C.w) C.A (isTrue e C.env (eval e C.env)) Q E s
section
variable {C:Cx}{μ:Mu}{l:List (Str×AV)}
theorem Ev.int (i:Int) (k:Nat) (pos:Pos):Ev C μ l (.Constant (.int i) k pos) (.dat (.int i)) :=
 fun Z Z Z Z Z q=>wpAny_Constant_int (q _ _ _ (.refl _ _) (.int _ _))
theorem Ev.str {x:Str} (hx:ZO x=true) (k:Nat) (pos:Pos):Ev C μ l (.Constant (.str x) k pos) (.dat (.str x)) :=
 fun Z Z Z Z Z q=>Constant_str (q _ _ _ (.refl _ _) (.str _ hx))
theorem Ev.none (k:Nat) (pos:Pos):Ev C μ l (.Constant .none k pos) (.dat .none) :=
 fun Z Z Z Z Z q=>fun Z Z Z=>q _ _ _ (.refl _ _) .none
theorem Ev.bool (b:Bool) (k:Nat) (pos:Pos):Ev C μ l (.Constant (.bool b) k pos) (.dat (.bool b)) :=
 fun Z Z Z Z Z q=>fun Z Z Z=>q _ _ _ (.refl _ _) (.bool b)
theorem Ev.loc (O:C.Ok) {x:Str}{pos:Pos}{d:AV} (hl:l.lookup x=some d) (hk:C.env.kindOf x=some .local) (hd:(x == ("__debug__":Str))=false):Ev C μ l (.Name x pos) d:=by
 intro N s S Q E q
 refine xEA S.fm.ns fun m n r=>?_
 refine xEA (r x d hl hk) fun v a b=>?_
 exact wpAny_Name (wpAny_loadName_local O.kind hk n a (q v s.heap s.toks (.refl _ _) b)) hd
theorem Ev.cell (O:C.Ok) {x:Str}{pos:Pos}{d:AV} (hl:l.lookup x=some d) (hk:C.env.kindOf x=some .cell) (hd:(x == ("__debug__":Str))=false):Ev C μ l (.Name x pos) d:=by
 intro N s S Q E q
 refine Zn (S.fm.cl x d hl hk) fun c v a b r=>?_
 exact wpAny_Name (wpAny_loadName_cell O.kind hk a b (q v s.heap s.toks (.refl _ _) r)) hd
theorem Ev.glob (O:C.Ok) {x:Str}{pos:Pos}{d:AV} (hl:OP.lookup x=some d) (hk:C.env.kindOf x=some .globalImplicit) (hd:(x == ("__debug__":Str))=false):Ev C μ l (.Name x pos) d:=by
 intro N s S Q E q
 refine Vk O.nms.nm fun mg mb a b c e=>?_
 refine xEA (c x d hl) fun v f g=>?_
 refine Name_function_global O.kind hk (loadGlobal_global (mg:=mg) ?_ f ?_) hd
 ·rw [O.glob];exact a.keeps S.wd.stays
 ·exact q v s.heap s.toks (.refl _ _) (RdA.mono ⟨fun a o Z e=>S.wd.stays a o e,fun a n=>.inr (S.wd.nlo a n)⟩ g)
theorem Ev.bui (O:C.Ok) {x:Str}{pos:Pos}{v:Value} (hl:BK.lookup x=some v) (hk:C.env.kindOf x=some .globalImplicit) (hd:(x == ("__debug__":Str))=false):Ev C μ l (.Name x pos) (.cal v):=by
 intro N s S Q E q
 refine Vk O.nms.nm fun mg mb a b c e=>?_
 refine xA (e x v hl) fun f g=>?_
 refine Name_function_global O.kind hk (loadGlobal_builtin (mg:=mg) (mb:=mb) ?_ f ?_ g ?_) hd
 ·rw [O.glob];exact a.keeps S.wd.stays
 ·rw [O.bui];exact b.keeps S.wd.stays
 ·exact q v s.heap s.toks (.refl _ _) rfl
end
section
variable {C:Cx}{μ:Mu}{l:List (Str×AV)}
noncomputable abbrev Mf (C:Cx) (N:Addr->Prop) (s:Shared) (d:AV) (Q:Value->Shared->Prop):Prop :=
 ∀ v h' tk,Pu C.Fs s.heap h'->RdA N h' v d->Q v { s with heap:=h',toks:=tk }
noncomputable abbrev OF (C:Cx) (s:Shared) (b:Bool) (Q:Bool->Shared->Prop):Prop :=
 ∀ h' tk,Pu C.Fs s.heap h'->Q b { s with heap:=h',toks:=tk }
noncomputable def Op1 (C:Cx) (μ:Mu) (f:Value->Sem Value) (a d:AV):Prop :=
 ∀ (N:Addr->Prop) (s:Shared) (va:Value),Wd C.w C.h₁ C.Fs N μ s.heap->RdA N s.heap va a->∀ (Q:Value->Shared->Prop) (E:Value->Shared->Prop),Mf C N s d Q->wpAny (model pg C.w) C.A (f va) Q E s
noncomputable def Op2 (C:Cx) (μ:Mu) (f:Value->Value->Sem Value) (a b d:AV):Prop :=
 ∀ (N:Addr->Prop) (s:Shared) (va vb:Value),Wd C.w C.h₁ C.Fs N μ s.heap->RdA N s.heap va a->RdA N s.heap vb b->∀ (Q:Value->Shared->Prop) (E:Value->Shared->Prop),Mf C N s d Q->wpAny (model pg C.w) C.A (f va vb) Q E s
noncomputable def Tr (C:Cx) (μ:Mu) (a:AV) (b:Bool):Prop :=
 ∀ (N:Addr->Prop) (s:Shared) (va:Value),Wd C.w C.h₁ C.Fs N μ s.heap->RdA N s.heap va a->∀ (Q:Bool->Shared->Prop) (E:Value->Shared->Prop),OF C s b Q->wpAny (model pg C.w) C.A (truthy va) Q E s
theorem Ev.binop {le re:Expr}{op:Operator}{pos:Pos}{a b d:AV} (hl:Ev C μ l le a) (hr:Ev C μ l re b) (ho:Op2 C μ (binaryOp op) a b d):Ev C μ l (.BinOp le op re pos) d:=by
 intro N s S Q E q
 refine wpAny_BinOp (hl N s S _ _ fun va h1 t1 P1 R1=>?_)
 refine hr N _ (S.pu P1) _ _ fun vb h2 t2 P2 R2=>?_
 refine ho N _ va vb ((S.pu P1).pu P2).wd (R1.mono ((S.pu P1).fz P2)) R2 _ _ fun v h3 t3 P3 R3=>?_
 exact q v h3 t3 (P1.trans (P2.trans P3)) R3
theorem Ev.cmp {le re:Expr}{op:CmpOp}{pos:Pos}{a b d:AV} (hm:behindInMarks op re=false) (hl:Ev C μ l le a) (hr:Ev C μ l re b) (ho:Op2 C μ (compareOp op) a b d):Ev C μ l (.Compare le [op] [re] pos) d:=by
 intro N s S Q E q
 refine wpAny_Compare1 (hl N s S _ _ fun va h1 t1 P1 R1=>?_) hm
 refine hr N _ (S.pu P1) _ _ fun vb h2 t2 P2 R2=>?_
 refine ho N _ va vb ((S.pu P1).pu P2).wd (R1.mono ((S.pu P1).fz P2)) R2 _ _ fun v h3 t3 P3 R3=>?_
 exact q v h3 t3 (P1.trans (P2.trans P3)) R3
theorem Tst.cmp {le re:Expr}{op:CmpOp}{pos:Pos}{a b:AV}{c:Bool} (hm:behindInMarks op re=false) (hl:Ev C μ l le a) (hr:Ev C μ l re b) (ho:Op2 C μ (compareOp op) a b (.dat (.bool c))) :
  Tst C μ l (.Compare le [op] [re] pos) c:=by
 intro N s S Q E q
 refine wpAny_isTrue_Compare1 (hl N s S _ _ fun va h1 t1 P1 R1=>?_) hm
 refine hr N _ (S.pu P1) _ _ fun vb h2 t2 P2 R2=>?_
 refine ho N _ va vb ((S.pu P1).pu P2).wd (R1.mono ((S.pu P1).fz P2)) R2 _ _ fun v h3 t3 P3 R3=>?_
 obtain rfl:=Rd.invB R3
 exact wpAny_truthy_bool (q h3 t3 (P1.trans (P2.trans P3)))
theorem Tst.ofEv {e:Expr}{d:AV}{b:Bool} (he:Ev C μ l e d) (ht:Tr C μ d b)
  (hp:isTrue e C.env (eval e C.env)=(do let v ← eval e C.env;standAt e.pos;holding [v] (truthy v))):Tst C μ l e b:=by
 intro N s S Q E q
 refine isTrue_plain (he N s S _ _ fun va h1 t1 P1 R1=>?_) hp
 exact ht N _ va (S.pu P1).wd R1 _ _ fun h2 t2 P2=>q h2 t2 (P1.trans P2)
theorem Tst.and_nil {pos:Pos}:Tst C μ l (.BoolOp .And [] pos) true:=fun Z Z Z Z Z q=>isTrue_and_nil (q _ _ (.refl _ _))
theorem Tst.or_nil {pos:Pos}:Tst C μ l (.BoolOp .Or [] pos) false:=fun Z Z Z Z Z q=>isTrue_or_nil (q _ _ (.refl _ _))
theorem Tst.and_tt {e:Expr}{r:List Expr}{pos:Pos}{b:Bool} (h:Tst C μ l e true) (hr:Tst C μ l (.BoolOp .And r pos) b):Tst C μ l (.BoolOp .And (e::r) pos) b:=by
 intro N s S Q E q
 refine isTrue_and (h N s S _ _ fun h' tk P=>?_)
 exact hr N _ (S.pu P) _ _ fun h2 t2 P2=>q h2 t2 (P.trans P2)
theorem Tst.and_ff {e:Expr}{r:List Expr}{pos:Pos} (h:Tst C μ l e false):Tst C μ l (.BoolOp .And (e::r) pos) false:=by
 intro N s S Q E q
 refine isTrue_and (h N s S _ _ fun h' tk P=>?_)
 exact q h' tk P
theorem Tst.or_ff {e:Expr}{r:List Expr}{pos:Pos}{b:Bool} (h:Tst C μ l e false) (hr:Tst C μ l (.BoolOp .Or r pos) b):Tst C μ l (.BoolOp .Or (e::r) pos) b:=by
 intro N s S Q E q
 refine isTrue_or (h N s S _ _ fun h' tk P=>?_)
 exact hr N _ (S.pu P) _ _ fun h2 t2 P2=>q h2 t2 (P.trans P2)
theorem Tst.or_tt {e:Expr}{r:List Expr}{pos:Pos} (h:Tst C μ l e true):Tst C μ l (.BoolOp .Or (e::r) pos) true:=by
 intro N s S Q E q
 refine isTrue_or (h N s S _ _ fun h' tk P=>?_)
 exact q h' tk P
theorem Ev.or_ff {e f:Expr}{pos:Pos}{a d:AV} (h:Ev C μ l e a) (ht:Tr C μ a false) (hf:Ev C μ l f d):Ev C μ l (.BoolOp .Or [e,f] pos) d:=by
 intro N s S Q E q
 refine BoolOp_or (h N s S _ _ fun va h1 t1 P1 R1=>ht N _ va (S.pu P1).wd R1 _ _ fun h2 t2 P2=>?_)
 exact BoolOp_one (hf N _ ((S.pu P1).pu P2) _ _ fun v h3 t3 P3 R3=>q v h3 t3 (P1.trans (P2.trans P3)) R3)
theorem Ev.or_tt {e f:Expr}{pos:Pos}{a:AV} (h:Ev C μ l e a) (ht:Tr C μ a true):Ev C μ l (.BoolOp .Or [e,f] pos) a:=by
 intro N s S Q E q
 refine BoolOp_or (h N s S _ _ fun va h1 t1 P1 R1=>ht N _ va (S.pu P1).wd R1 _ _ fun h2 t2 P2=>?_)
 exact q va h2 t2 (P1.trans P2) (R1.mono ((S.pu P1).fz P2))
theorem Ev.if_tt {t b o:Expr}{pos:Pos}{d:AV} (h:Tst C μ l t true) (hb:Ev C μ l b d):Ev C μ l (.IfExp t b o pos) d:=by
 intro N s S Q E q
 refine wpAny_IfExp (h N s S _ _ fun h' tk P=>?_)
 exact hb N _ (S.pu P) _ _ fun v h2 t2 P2 R=>q v h2 t2 (P.trans P2) R
theorem Ev.if_ff {t b o:Expr}{pos:Pos}{d:AV} (h:Tst C μ l t false) (hb:Ev C μ l o d):Ev C μ l (.IfExp t b o pos) d:=by
 intro N s S Q E q
 refine wpAny_IfExp (h N s S _ _ fun h' tk P=>?_)
 exact hb N _ (S.pu P) _ _ fun v h2 t2 P2 R=>q v h2 t2 (P.trans P2) R
theorem Ev.una {op:UnaryOp}{e:Expr}{pos:Pos}{a d:AV} (h:Ev C μ l e a) (ho:Op1 C μ (unaryOp op) a d):Ev C μ l (.UnaryOp op e pos) d:=by
 intro N s S Q E q
 refine wpAny_UnaryOp (h N s S _ _ fun va h1 t1 P1 R1=>?_)
 exact ho N _ va (S.pu P1).wd R1 _ _ fun v h2 t2 P2 R2=>q v h2 t2 (P1.trans P2) R2
noncomputable def Evs (C:Cx) (μ:Mu) (l:List (Str×AV)) (es:List Expr) (ds:List AV):Prop :=
 ∀ (pos:Pos) (N:Addr->Prop) (s:Shared),St C N μ l s.heap->∀ (Q:List Value->Shared->Prop) (E:Value->Shared->Prop),
  (∀ vs h' tk,Pu C.Fs s.heap h'->Zr N h' vs ds->Q vs { s with heap:=h',toks:=tk })->wpAny (model pg C.w) C.A (spliced (backTo pos (starEach es C.env))) Q E s
noncomputable def Zu:List Expr->Bool
 | []=>true
 | .Starred _ _::_=>false
 | _::r=>Zu r
theorem ZF {e:Expr}{r:List Expr}{env:Env} (h:Zu (e::r)=true):starEach (e::r) env=(false,eval e env)::starEach r env/\Zu r=true:=by
 cases e <;> first|exact ⟨rfl,h⟩|(simp [Zu] at h)
theorem Z_ {pos:Pos}{t:Sem Value}{r:List (Bool×Sem Value)}:backTo pos ((false,t)::r)=(false,t)::backTo pos r:=by
 unfold backTo;rfl
theorem Zj {env:Env}{pos:Pos}:∀ {es:List Expr},Zu es=true->(backTo pos (starEach es env)).any (·.1)=false
 | [],_=>rfl
 | e::r,h=>by
  refine xA (ZF (env:=env) h) fun a b=>?_
  rw [a,Z_,List.any_cons,Zj b];rfl
theorem Evs.nil:Evs C μ l [] []:=fun Z Z Z Z Z Z q=>spliced_nil (q _ _ _ (.refl _ _) .nil)
theorem Evs.cons {e:Expr}{r:List Expr}{d:AV}{ds:List AV} (hn:Zu (e::r)=true) (h:Ev C μ l e d) (hr:Evs C μ l r ds):Evs C μ l (e::r) (d::ds):=by
 intro pos N s S Q E q
 rw [(ZF hn).1,Z_]
 refine spliced_cons (h N s S _ _ fun va h1 t1 P1 R1=>?_)
 refine hr pos N _ (S.pu P1) _ _ fun vs h2 t2 P2 R2=>?_
 exact q _ h2 t2 (P1.trans P2) (.cons (R1.mono ((S.pu P1).fz P2)) R2)
theorem Zw {M:Model}{A:Around}{E:Value->Shared->Prop}{s:Shared}{env:Env}{f:Value}{pos:Pos}{es:List Expr}{Q:Args->Shared->Prop} (hn:Zu es=true)
  (h:wpAny M A (spliced (backTo pos (starEach es env))) (fun vs s'=>Q ⟨vs,[]⟩ s') E s):wpAny M A (evalArgs f true (backTo pos (starEach es env)) []) Q E s:=by
 cases es with
 | nil =>
  show wpAny M A (spliced [] >>= _) Q E s
  refine wpAny_bind (wpAny_mono h (fun vs s' h'=>?_) fun Z Z x=>x)
  refine wpAny_bind (wpAny_pure ?_)
  refine wpAny_holding ?_
  exact wpAny_bind (wpAny_pure (wpAny_bind (wpAny_pure (wpAny_pure h'))))
 | cons e r =>
  rw [(ZF hn).1,Z_] at h ⊢
  exact evalArgs_plain h
noncomputable def datas:List AV->Option (List PyData)
 | []=>some []
 | .dat d::r=>(datas r).map (d::·)
 | _::_=>none
theorem Zr.datas {N:Addr->Prop}{h:Heap}:∀ {vs ds xs},Zr N h vs ds->datas ds=some xs->Rds N h vs xs
 | _,_,_,.nil,e=>by simp [Mine.datas] at e;subst e;exact .nil
 | _,_,_,.cons (d:=.dat d) a b,e=>by
  simp only [Mine.datas,Option.map_eq_some_iff] at e
  (refine xEA e fun ys e1 Z0=>?_;subst Z0)
  exact .cons a (Zr.datas b e1)
 | _,_,_,.cons (d:=.obj d) a b,e=>by simp [Mine.datas] at e
 | _,_,_,.cons (d:=.cal d) a b,e=>by simp [Mine.datas] at e
theorem QK:∀ xs:List PyData,datas (xs.map .dat)=some xs
 | []=>rfl
 | x::r=>by simp [Mine.datas,QK r]
theorem Rds.datsA {N:Addr->Prop}{h:Heap}:∀ {vs xs},Rds N h vs xs->Zr N h vs (xs.map .dat):=Rds.ind (P:=fun vs xs=>Zr N h vs (xs.map .dat)) .nil fun a Z q=>.cons a q
theorem Rd.newList {N:Addr->Prop}{h:Heap}{vs:List Value}{xs:List PyData} (hn:∀ a,N a->∃ o,h.get? a=some o) (r:Rds N h vs xs) (hz:xs.length≤sizeLine) :
  Rd N (h.push { cls:=.type "list",data:=.seq vs.toArray }) (.ref h.objs.size) (.list xs) :=
 .list (Heap.get?_push_size _ rfl) (fun n=>let ⟨_,e⟩:=hn _ n;Nat.lt_irrefl _ (Heap.lt_size e)) rfl rfl (by
  refine Rds.mono (N:=N) (h:=h) ⟨fun a o Z e=>Heap.get?_push_of_some _ e,fun Z x=>.inl x⟩ ?_
  exact r) hz rfl
theorem Rd.newTuple {N:Addr->Prop}{h:Heap}{vs:List Value}{xs:List PyData} (hn:∀ a,N a->∃ o,h.get? a=some o) (r:Rds N h vs xs) (hz:xs.length≤sizeLine) :
  Rd N (h.push { cls:=.type "tuple",data:=.seq vs.toArray }) (.ref h.objs.size) (.tuple xs) :=
 .tuple (Heap.get?_push_size _ rfl) (fun n=>let ⟨_,e⟩:=hn _ n;Nat.lt_irrefl _ (Heap.lt_size e)) rfl rfl (by
  refine Rds.mono (N:=N) (h:=h) ⟨fun a o Z e=>Heap.get?_push_of_some _ e,fun Z x=>.inl x⟩ ?_
  exact r) hz
theorem Ev.list {es:List Expr}{pos:Pos}{ds:List AV}{xs:List PyData} (h:Evs C μ l es ds) (hd:datas ds=some xs) (hz:xs.length≤sizeLine):Ev C μ l (.List es pos) (.dat (.list xs)):=by
 intro N s S Q E q
 refine List_ (h pos N s S _ _ fun vs h1 t1 P1 R1=>?_)
 have r:=R1.datas hd
 refine wpAny_newObj_type (q _ _ _ (P1.trans (.push _ _ _)) (Rd.newList (fun a n=>(S.pu P1).wd.nhi a n) r hz)) ?_
 show vs.toArray.size≤sizeLine
 rw [List.size_toArray,r.length];exact hz
theorem Ev.tuple {es:List Expr}{k:Nat}{pos:Pos}{ds:List AV}{xs:List PyData} (h:Evs C μ l es ds) (hd:datas ds=some xs) (hz:xs.length≤sizeLine):Ev C μ l (.Tuple es k pos) (.dat (.tuple xs)):=by
 intro N s S Q E q
 refine Tuple_ (h pos N s S _ _ fun vs h1 t1 P1 R1=>?_)
 have r:=R1.datas hd
 refine wpAny_newObj_type (q _ _ _ (P1.trans (.push _ _ _)) (Rd.newTuple (fun a n=>(S.pu P1).wd.nhi a n) r hz)) ?_
 show vs.toArray.size≤sizeLine
 rw [List.size_toArray,r.length];exact hz
noncomputable def Fn (C:Cx) (μ:Mu) (f:Value) (ds:List AV) (d:AV):Prop :=
 ∀ (N:Addr->Prop) (s:Shared) (vs:List Value),Wd C.w C.h₁ C.Fs N μ s.heap->Zr N s.heap vs ds->∀ (Q:Value->Shared->Prop) (E:Value->Shared->Prop),Mf C N s d Q->wpAny (model pg C.w) C.A (call f vs) Q E s
noncomputable def GB (h₁:Heap):Value->Prop
 | .builtin _=>True
 | .type _=>True
 | .ref a=>∃ o fd,h₁.get? a=some o/\o.data=.func fd
 | _=>False
theorem Qq {f:Value}{pos:Pos}{es:List Expr}{Q:Value->Shared->Prop}{E:Value->Shared->Prop}{s:Shared} (hc:GB C.h₁ f) (hn:Zu es=true)
  (h:wpAny (model pg C.w) C.A (spliced (backTo pos (starEach es C.env))) (fun vs s₁=>(∀ b o,C.h₁.get? b=some o->s₁.heap.get? b=some o)/\wpAny (model pg C.w) C.A (call f vs) Q E s₁) E s) :
  wpAny (model pg C.w) C.A (callWith pos f [] (backTo pos (starEach es C.env)) []) Q E s:=by
 cases f with
 | builtin id=>exact callWith_builtin (Zj hn) (Zw hn (wpAny_mono h (fun vs s₁ x=>x.2) fun Z Z x=>x))
 | type T=>exact PyProof.Rows.callWith_type (Zj hn) (Zw hn (wpAny_mono h (fun vs s₁ x=>x.2) fun Z Z x=>x))
 | ref a =>
  (refine QE hc fun o fd e g=>?_;clear hc)
  exact callWith_function (Zw hn (wpAny_mono h (fun vs s₁ x=>⟨⟨x.1 a o e,g⟩,x.2⟩) fun Z Z x=>x))
 | _=>exact hc.elim
theorem Ev.call {x:Str}{p pos:Pos}{es:List Expr}{f:Value}{ds:List AV}{d:AV} (hf:Ev C μ l (.Name x p) (.cal f)) (hc:GB C.h₁ f) (hn:Zu es=true) (ha:Evs C μ l es ds) (hF:Fn C μ f ds d) :
  Ev C μ l (.Call (.Name x p) es [] pos) d:=by
 intro N s S Q E q
 refine Call_Name rfl (hf N s S _ _ fun fv h1 t1 P1 R1=>?_)
 subst R1
 refine Qq hc hn (ha pos N _ (S.pu P1) _ _ fun vs h2 t2 P2 R2=>⟨((S.pu P1).pu P2).wd.stays,?_⟩)
 exact hF N _ vs ((S.pu P1).pu P2).wd R2 _ _ fun v h3 t3 P3 R3=>q v h3 t3 (P1.trans (P2.trans P3)) R3
structure Mth (T:String) (name:Str) (id:String):Prop where
 pa:PlainAttrs T
 slot:Slot T name id
 ty:typeOf (.builtin id)=pure (.type "method_descriptor")
noncomputable def Jo (C:Cx) (μ:Mu) (a:AV) (T:String):Prop :=
 ∀ (N:Addr->Prop) (s:Shared) (va:Value),Wd C.w C.h₁ C.Fs N μ s.heap->RdA N s.heap va a->s.TypeIs va T/\∀ b,va=.ref b->∃ o,s.heap.get? b=some o/\o.dict=none
theorem Ev.meth {o:Expr}{name:Str}{apos pos:Pos}{es:List Expr}{T id:String}{a:AV}{ds:List AV}{d:AV} (m:Mth T name id)
  (hb:attributeBase o name C.env (eval o C.env)=eval o C.env) (hl:(apos.endLine == pos.line)=true) (hn:Zu es=true) (hk:es.length < 30)
  (ho:Ev C μ l o a) (ht:Jo C μ a T) (ha:Evs C μ l es ds) (hF:Fn C μ (.builtin id) (a::ds) d):Ev C μ l (.Call (.Attribute o name apos) es [] pos) d:=by
 intro N s S Q E q
 refine wpAny_Call_method_lateS hb ?_ hl (ho N s S _ _ fun va h1 t1 P1 R1=>?_)
 ·have e1:(backTo pos (starEach es C.env)).all (fun x=>!x.1)=true:=by
   have:=Zj (env:=C.env) (pos:=pos) hn
   rw [List.any_eq_false] at this
   rw [List.all_eq_true];intro x hx;simpa using this x hx
  rw [e1]
  simpa [keywordEach,backToKw] using hk
 refine xA (ht N { s with heap:=h1,toks:=t1 } va (S.pu P1).wd R1) fun t hd=>?_
 refine ⟨T,id,m.pa,m.slot,m.ty,t,hd,?_⟩
 refine callWith_builtin (Zj hn) (Zw hn (ha pos N _ (S.pu P1) _ _ fun vs h2 t2 P2 R2=>?_))
 exact hF N _ (va::vs) ((S.pu P1).pu P2).wd (.cons (R1.mono ((S.pu P1).fz P2)) R2) _ _ fun v h3 t3 P3 R3=>q v h3 t3 (P1.trans (P2.trans P3)) R3
end
theorem Up {C:Cx} (O:C.Ok):C.A.units≤9000:=by have:=O.units;exact oR ‹_› rfl
theorem UK:cLine=9900:=rfl
noncomputable def Dq (op:Operator) (a b d:PyData):Prop:=∀ (C:Cx) (μ:Mu),Op2 C μ (binaryOp op) (.dat a) (.dat b) (.dat d)
noncomputable def UM (op:CmpOp) (a b:PyData) (c:Bool):Prop:=∀ (C:Cx) (μ:Mu),C.A.units≤9000->Op2 C μ (compareOp op) (.dat a) (.dat b) (.dat (.bool c))
noncomputable def PTr (a:PyData) (b:Bool):Prop:=∀ (C:Cx) (μ:Mu),Tr C μ (.dat a) b
section
variable {C:Cx}{μ:Mu}{l:List (Str×AV)}
theorem Wd.freshN {w:World}{h₁:Heap}{Fs:List Addr}{N:Addr->Prop}{h:Heap} (W:Wd w h₁ Fs N μ h):¬ N h.objs.size :=
 fun n=>let ⟨_,e⟩:=W.nhi _ n;Nat.lt_irrefl _ (Heap.lt_size e)
theorem WT {xs ys:List PyData} (hz:xs.length+ys.length≤sizeLine):Op2 C μ (binaryOp .Add) (.dat (.list xs)) (.dat (.list ys)) (.dat (.list (xs++ys))):=by
 intro N s va vb W Ra Rb Q E q
 (refine Zf (Rd.listE Ra) fun a vs Z0 na la ra za=>?_;subst Z0)
 (refine Zf (Rd.listE Rb) fun b ws Z0 nb lb rb zb=>?_;subst Z0)
 (refine VE (id la) fun Z0 ho hc n hd=>?_;rcases Z0 with ⟨cls,dd,data,sl⟩)
 (refine VE (id lb) fun Z0 ho2 hc2 n2 hd2=>?_;rcases Z0 with ⟨cls2,dd2,data2,sl2⟩)
 simp only at hc hd hc2 hd2
 subst hc hd hc2 hd2
 refine concat_meets ⟨_,ho,rfl⟩ ⟨_,ho2,rfl⟩ noFill_list_add seq_list_add PySem.F.slot_list_add PySem.F.entry_list_add (PySem.F.args_list_add_2 _ _)
  (list_addW a b vs.toArray ws.toArray n n2 dd dd2 sl sl2 (by rw [List.size_toArray,List.size_toArray,ra.length,rb.length];exact hz)) ⟨ho,ho2,?_⟩
 have e:vs.toArray++ws.toArray=(vs++ws).toArray:=by simp
 rw [e]
 exact q _ _ s.toks (.push _ _ _) (Rd.newList W.nhi (ra.append rb) (by simpa using hz))
theorem Pr {a b:Int}:Dq .Add (.int a) (.int b) (.int (a+b)):=fun Z Z N s va vb W Ra Rb Q E q=>by obtain ⟨_,rfl⟩:=Rd.invI Ra;obtain ⟨_,rfl⟩:=Rd.invI Rb;exact PyProof.Rows.add_int (q _ _ _ (.refl _ _) (.int _ _))
theorem OO {a b:Int}:Dq .Sub (.int a) (.int b) (.int (a - b)):=fun Z Z N s va vb W Ra Rb Q E q=>by obtain ⟨_,rfl⟩:=Rd.invI Ra;obtain ⟨_,rfl⟩:=Rd.invI Rb;exact PyProof.Rows.sub_int (q _ _ _ (.refl _ _) (.int _ _))
theorem Yk {a b:Int} (hb:0 < b/\b < 1000000):Dq .FloorDiv (.int a) (.int b) (.int (a.fdiv b)):=fun Z Z N s va vb W Ra Rb Q E q=>by obtain ⟨_,rfl⟩:=Rd.invI Ra;obtain ⟨_,rfl⟩:=Rd.invI Rb;exact PyProof.Rows.floordiv_int (by lia) (q _ _ _ (.refl _ _) (.int _ _)) (.inl (PyProof.noPylong_small (by lia)))
theorem VS {a b:Int} (hb:b≠0):Dq .Mod (.int a) (.int b) (.int (a.fmod b)):=fun Z Z N s va vb W Ra Rb Q E q=>by obtain ⟨_,rfl⟩:=Rd.invI Ra;obtain ⟨_,rfl⟩:=Rd.invI Rb;exact PyProof.Rows.mod_int' hb (q _ _ _ (.refl _ _) (.int _ _))
theorem KM {x y:Str} (hk:ZO (x++y)=true):Dq .Add (.str x) (.str y) (.str (x++y)):=fun Z Z N s va vb W Ra Rb Q E q=>by
 obtain ⟨_,_,rfl⟩:=Rd.invS Ra;obtain ⟨_,_,rfl⟩:=Rd.invS Rb
 refine PyProof.Rows.add_str (fun t' tk=>q _ _ _ (.refl _ _) (.str _ hk)) ?_
 have:=Q8 hk
 rw [Str.length_append] at this;exact this
theorem WZ {xs ys:List PyData} (hz:xs.length+ys.length≤16777216):Dq .Add (.list xs) (.list ys) (.list (xs++ys)):=fun Z Z=>WT (by exact hz)
theorem Ke {a b:PyData} (hd:a.depth≤64∨b.depth≤64):UM .Eq a b (PyData.eqv a b):=fun Z Z hu N s va vb W Ra Rb Q E q=>by
 have Ra':Rd N s.heap va a:=Ra
 have Rb':Rd N s.heap vb b:=Rb
 refine xE Ra'.reads fun Z ra=>?_
 refine xE Rb'.reads fun Z rb=>?_
 refine SeqAt.compareEq_reads ra rb Ra'.canLay Rb'.canLay ?_ (q _ _ s.toks (.refl _ _) (.bool _))
 rw [UK];exact Nat.lt_of_le_of_lt (Nat.add_le_add_right (Nat.le_succ _) _) (uni hu hd)
theorem MN {a b:PyData} (hd:a.depth≤64∨b.depth≤64):UM .NotEq a b (!PyData.eqv a b):=fun Z Z hu N s va vb W Ra Rb Q E q=>by
 have Ra':Rd N s.heap va a:=Ra
 have Rb':Rd N s.heap vb b:=Rb
 refine xE Ra'.reads fun Z ra=>?_
 refine xE Rb'.reads fun Z rb=>?_
 refine SeqAt.compareNe_reads ra rb Ra'.canLay Rb'.canLay ?_ (q _ _ s.toks (.refl _ _) (.bool _))
 rw [UK];exact Nat.lt_of_le_of_lt (Nat.add_le_add_right (Nat.le_succ _) _) (uni hu hd)
theorem UE {a b:Int}:UM .Eq (.int a) (.int b) (a == b):=Ke (.inl (Nat.zero_le _))
theorem HZ {x y:Str}:UM .Eq (.str x) (.str y) (x == y):=Ke (.inl (Nat.zero_le _))
theorem ON {a b:Int}:UM .NotEq (.int a) (.int b) (!(a == b)):=MN (.inl (Nat.zero_le _))
theorem Me {a b:Int}:UM .Lt (.int a) (.int b) (decide (a < b)):=fun Z Z Z N s va vb W Ra Rb Q E q=>by obtain ⟨_,rfl⟩:=Rd.invI Ra;obtain ⟨_,rfl⟩:=Rd.invI Rb;exact PyProof.Rows.lt_int (q _ _ s.toks (.refl _ _) (.bool _))
theorem BA {a b:Int}:UM .Gt (.int a) (.int b) (decide (b < a)):=fun Z Z Z N s va vb W Ra Rb Q E q=>by obtain ⟨_,rfl⟩:=Rd.invI Ra;obtain ⟨_,rfl⟩:=Rd.invI Rb;exact PyProof.Rows.gt_int (q _ _ s.toks (.refl _ _) (.bool _))
theorem O3 {x y:Str}:UM .Lt (.str x) (.str y) (decide (x.cps.toList < y.cps.toList)):=fun Z Z Z N s va vb W Ra Rb Q E q=>by obtain ⟨_,_,rfl⟩:=Rd.invS Ra;obtain ⟨_,_,rfl⟩:=Rd.invS Rb;exact PyProof.Rows.lt_str (q _ _ s.toks (.refl _ _) (.bool _))
theorem MB {x y:Str}:UM .Gt (.str x) (.str y) (decide (y.cps.toList < x.cps.toList)):=fun Z Z Z N s va vb W Ra Rb Q E q=>by obtain ⟨_,_,rfl⟩:=Rd.invS Ra;obtain ⟨_,_,rfl⟩:=Rd.invS Rb;exact P.gt_str (q _ _ s.toks (.refl _ _) (.bool _))
theorem Hy {a:PyData}{xs:List PyData} (hd:a.depth≤64):UM .NotIn a (.list xs) (!xs.any fun y=>PyData.eqv y a):=fun Z Z hu N s va vb W Ra Rb Q E q=>by
 have Ra':Rd N s.heap va a:=Ra
 have Rb':Rd N s.heap vb (.list xs):=Rb
 refine xE Ra'.reads fun Z ra=>?_
 refine xE Rb'.reads fun Z rb=>?_
 refine SeqAt.notIn_list_reads rb ra (by simpa [PyData.canLay0] using Rb'.canLay) Ra'.canLay ?_ (q _ _ s.toks (.refl _ _) (.bool _))
 rw [UK];exact uni hu (.inr hd)
theorem PJ:UM .Is .none .none true:=fun Z Z Z N s va vb W Ra Rb Q E q=>by
 obtain rfl:=Rd.invN Rb;obtain rfl:=Rd.invN Ra;exact wpAny_is_plain rfl (q _ _ s.toks (.refl _ _) (.bool _))
theorem YH:UM .IsNot .none .none false:=fun Z Z Z N s va vb W Ra Rb Q E q=>by
 obtain rfl:=Rd.invN Rb;obtain rfl:=Rd.invN Ra;exact wpAny_isNot_plain rfl (q _ _ s.toks (.refl _ _) (.bool _))
theorem On:PTr .none false:=fun Z Z N s va W Ra Q E q=>by obtain rfl:=Rd.invN Ra;exact truthy_none (q _ s.toks (.refl _ _))
theorem WN {b:Bool}:PTr (.bool b) b:=fun Z Z N s va W Ra Q E q=>by obtain rfl:=Rd.invB Ra;exact wpAny_truthy_bool (q _ s.toks (.refl _ _))
theorem Ou {xs:List PyData}:PTr (.list xs) (!xs.isEmpty):=fun Z Z N s va W Ra Q E q=>by
 (refine Zf (Rd.listE Ra) fun a vs Z0 na la ra za=>?_;subst Z0)
 have hl:=ra.length
 refine wpAny_truthy_list la (by rw [List.size_toArray,hl];rw [sizeLine_eq] at za;lia) ?_
 have e:(!vs.toArray.isEmpty)=!xs.isEmpty:=by
  cases ra <;> rfl
 rw [e]
 exact q _ _ (.refl _ _)
theorem Qo (O:C.Ok) {op:CmpOp}{a b:PyData}{c:Bool} (h:UM op a b c):Op2 C μ (compareOp op) (.dat a) (.dat b) (.dat (.bool c)):=h _ _ (Up O)
theorem UI (i:Int):Op1 C μ (unaryOp .USub) (.dat (.int i)) (.dat (.int (-i))):=by
 intro N s va W Ra Q E q;obtain ⟨_,rfl⟩:=Rd.invI Ra;exact PyProof.Rows.neg_int (q _ _ _ (.refl _ _) (.int _ _))
end
noncomputable def Un (N:Addr->Prop) (as:List Addr):Addr->Prop:=fun a=>N a∨a∈as
mutual
theorem Rd.weak {N N':Addr->Prop}{h:Heap} (s:∀ a,N a->N' a):∀ {v d},Rd N' h v d->Rd N h v d
 | _,_,.none=>.none
 | _,_,.bool b=>.bool b
 | _,_,.int i t=>.int i t
 | _,_,.str t k=>.str t k
 | _,_,.list e n c d r z y=>.list e (fun x=>n (s _ x)) c d (Rds.weak s r) z y
 | _,_,.tuple e n c d r z=>.tuple e (fun x=>n (s _ x)) c d (Rds.weak s r) z
theorem Rds.weak {N N':Addr->Prop}{h:Heap} (s:∀ a,N a->N' a):∀ {vs ds},Rds N' h vs ds->Rds N h vs ds
 | _,_,.nil=>.nil
 | _,_,.cons a b=>.cons (Rd.weak s a) (Rds.weak s b)
end
theorem RdA.weak {N N':Addr->Prop}{h:Heap} (s:∀ a,N a->N' a) {v:Value}:∀ {d},RdA N' h v d->RdA N h v d
 | .dat _,r=>Rd.weak s r
 | .obj _,r=>r
 | .cal _,r=>r
theorem Fz.un {N:Addr->Prop}{h h':Heap}{as:List Addr} (k:∀ a o,h.get? a=some o->h'.get? a=some o) (f:∀ a∈as,h.get? a=none):Fz N (Un N as) h h' :=
 ⟨fun a o Z e=>k a o e,fun a x=>x.elim .inl fun m=>.inr (f a m)⟩
theorem Wd.grow {w:World}{h₁:Heap}{Fs:List Addr}{N:Addr->Prop}{μ:Mu}{h h':Heap}{as:List Addr} (W:Wd w h₁ Fs N μ h) (P:Pu Fs h h')
  (f:∀ a∈as,h.get? a=none) (al:∀ a∈as,∃ o,h'.get? a=some o):Wd w h₁ Fs (Un N as) μ h':=by
 have fz:Fz N (Un N as) h h':=⟨fun a o n e=>P.keep a o (fun m=>n (W.fsN a m)) e,fun a x=>x.elim .inl fun m=>.inr (f a m)⟩
 have W':=W.pu P
 refine ⟨W'.stays,fun a x=>x.elim (W.nlo a) fun m=>?_,fun a x=>x.elim (W'.nhi a) (al a),fun a m=>.inl (W.fsN a m),W'.fr,fun a m e=>?_,W.mm⟩
 ·cases q:h₁.get? a with
  | none=>rfl
  | some o=>have:=W.stays a o q;exact noS (Eq.trans (Eq.symm (f a m)) this)
 ·refine ZL (W.mu a m e) fun n g o ho r=>?_
  exact ⟨.inl n,g,o,P.keep a o g ho,r.mono fz⟩
theorem Pu.write {Fs:List Addr}{h h' h'':Heap}{a:Addr} (P:Pu Fs h h') (s:Heap.SameBut a h' h'') (f:h.get? a=none):Pu Fs h h'':=by
 have ne:∀ b o,h.get? b=some o->b≠a:=fun b o e q=>by rw [q,f] at e;exact noS e
 exact ⟨fun b o n e=>(s.2 b (ne b o e)).trans (P.keep b o n e),fun b o e=>let ⟨sl,x⟩:=P.fr b o e;⟨sl,(s.2 b (ne b o e)).trans x⟩⟩
theorem Pu.ext {Fs:List Addr}{h h' h'':Heap}{wr:List Addr} (P:Pu Fs h h') (s:∀ b o,b∉wr->h'.get? b=some o->h''.get? b=some o) (f:∀ b∈wr,h.get? b=none):Pu Fs h h'':=by
 have ne:∀ b o,h.get? b=some o->b∉wr:=fun b o e q=>by exact noS (Eq.trans (Eq.symm (f b q)) e)
 exact ⟨fun b o n e=>s b o (ne b o e) (P.keep b o n e),fun b o e=>let ⟨sl,x⟩:=P.fr b o e;⟨sl,s b _ (ne b o e) x⟩⟩
theorem get?_size_none (h:Heap):h.get? h.objs.size=none:=Heap.get?_none_of_le (Nat.le_refl _)
structure Wk (C:Cx) (N:Addr->Prop) (I:Addr) (wr fx:List Addr) (xs:List AV) (S:Nat->Heap->Prop):Prop where
 alive:∀ i h,S i h->∀ b∈wr,∃ o,h.get? b=some o
 frame:∀ i h h',S i h->(∀ b∈wr,∀ o,h.get? b=some o->h'.get? b=some o)->(∀ b∈fx,∀ o,h.get? b=some o->h'.get? b=some o)->Fz N N h h'->S i h'
 item:∀ i d (s:Shared) (Q:Option Value->Shared->Prop) (E:Value->Shared->Prop),xs[i]?=some d->S i s.heap ->
  (∀ v h' tk,RdA N h' v d->S (i+1) h'->(∀ b o,b∉wr->s.heap.get? b=some o->h'.get? b=some o)->Q (some v) { s with heap:=h',toks:=tk })->wpAny (model pg C.w) C.A (pyNext (.ref I)) Q E s
 done:∀ (s:Shared) (Q:Option Value->Shared->Prop) (E:Value->Shared->Prop),S xs.length s.heap ->
  (∀ h' tk,(∀ b o,b∉wr->s.heap.get? b=some o->h'.get? b=some o)->Q none { s with heap:=h',toks:=tk })->wpAny (model pg C.w) C.A (pyNext (.ref I)) Q E s
 self:∀ i (s:Shared) (Q:Value->Shared->Prop) (E:Value->Shared->Prop),S i s.heap->Q (.ref I) s->wpAny (model pg C.w) C.A (pyIter (.ref I)) Q E s
noncomputable def Src (C:Cx) (N:Addr->Prop) (h₀:Heap) (it:Value) (xs:List AV) (h:Heap):Prop :=
 ∃ hb I wr fx,it=.ref I/\(∀ a o,h₀.get? a=some o->∃ o',hb.get? a=some o')/\Pu C.Fs hb h/\(∀ b∈wr,hb.get? b=none)/\(∀ b∈wr,∃ o,h.get? b=some o)/\(∀ b∈fx,b∉C.Fs/\∃ o,h.get? b=some o)/\(∀ b∈fx,b∉wr) /\
  ∀ N' h',Pu C.Fs h h'->(∀ b∈wr,∀ o,h.get? b=some o->h'.get? b=some o)->Fz N N' hb h'->(∀ b∈wr,N' b)->∃ S,Wk C N' I wr fx xs S/\S 0 h'
noncomputable def Its (C:Cx) (μ:Mu) (d:AV) (xs:List AV):Prop :=
 ∀ (N:Addr->Prop) (s:Shared) (v:Value),Wd C.w C.h₁ C.Fs N μ s.heap->RdA N s.heap v d->∀ (Q:Value->Shared->Prop) (E:Value->Shared->Prop),
  (∀ it h' tk,Pu C.Fs s.heap h'->Src C N s.heap it xs h'->Q it { s with heap:=h',toks:=tk })->wpAny (model pg C.w) C.A (pyIter v) Q E s
noncomputable def Itr (C:Cx) (μ:Mu) (l:List (Str×AV)) (e:Expr) (xs:List AV):Prop :=
 ∀ (N:Addr->Prop) (s:Shared),St C N μ l s.heap->∀ (Q:Value->Shared->Prop) (E:Value->Shared->Prop),
  (∀ it h' tk,Pu C.Fs s.heap h'->Src C N s.heap it xs h'->Q it { s with heap:=h',toks:=tk })->wpAny (model pg C.w) C.A (eval e C.env) (fun v s₁=>wpAny (model pg C.w) C.A (pyIter v) Q E s₁) E s
theorem Src.old {C:Cx}{N:Addr->Prop}{h₀ h₀':Heap}{it:Value}{xs:List AV}{h:Heap} (S:Src C N h₀' it xs h) (k:∀ a o,h₀.get? a=some o->∃ o',h₀'.get? a=some o'):Src C N h₀ it xs h:=by
 (refine xEE S fun hb I Zr0=>?_;refine Zn Zr0 fun wr fx a b r=>?_;clear Zr0;clear S)
 exact ⟨hb,I,wr,fx,a,fun x o e=>let ⟨_,e'⟩:=k x o e;b x _ e',r⟩
theorem Itr.of {C:Cx}{μ:Mu}{l:List (Str×AV)}{e:Expr}{d:AV}{xs:List AV} (he:Ev C μ l e d) (hi:Its C μ d xs):Itr C μ l e xs:=by
 intro N s S Q E q
 refine he N s S _ _ fun v h1 t1 P1 R1=>?_
 refine hi N _ v (S.pu P1).wd R1 _ _ fun it h2 t2 P2 R2=>?_
 exact q it h2 t2 (P1.trans P2) (R2.old fun a o e=>let ⟨_,x⟩:=P1.fr a o e;⟨_,x⟩)
theorem V8 {xs:List PyData}{i:Nat}{d:AV} (h:(xs.map AV.dat)[i]?=some d):∃ x,xs[i]?=some x/\d=.dat x:=by
 replace h:=Eq.trans (Eq.symm (List.getElem?_map)) h
 cases q:xs[i]? with
 | none=>rw [q] at h;exact noS h
 | some x=>rw [q] at h;obtain rfl:=Option.some.inj h;exact ⟨x,rfl,rfl⟩
theorem Its.list {C:Cx}{μ:Mu} (O:C.Ok) (xs:List PyData):Its C μ (.dat (.list xs)) (xs.map .dat):=by
 intro N s v W R Q E q
 (refine Zf (Rd.listE R) fun a vs Z0 na la ra za=>?_;subst Z0)
 refine xEA (id la) fun oa ha Z=>?_
 have hne:a≠s.heap.objs.size:=Nat.ne_of_lt (Heap.lt_size ha)
 refine wpAny_pyIter_list la (q _ _ s.toks (.push _ _ _) ?_)
 have afs:a∉C.Fs:=fun m=>na (W.fsN a m)
 refine ⟨s.heap,s.heap.objs.size,[s.heap.objs.size],[a],rfl,fun Z o e=>⟨o,e⟩,.push _ _ _,fun b m=>?_,fun b m=>?_,fun b m=>?_,fun b m x=>?_,fun N' h' P kw F nw=>?_⟩
 ·rw [List.mem_singleton.mp m];exact get?_size_none _
 ·rw [List.mem_singleton.mp m];exact ⟨_,Heap.get?_push_size _ rfl⟩
 ·rw [List.mem_singleton.mp m];exact ⟨afs,_,Heap.get?_push_of_some _ ha⟩
 ·rw [List.mem_singleton.mp m] at x;exact hne (List.mem_singleton.mp x)
 have Ww:=Walks.list (prog:=pg) (w:=C.w) (A:=C.A) O.handled s.heap.objs.size a hne vs.toArray
 have hlen:=ra.length
 refine ⟨fun i h=>(h.IsListIter s.heap.objs.size a i/\h.IsList a vs.toArray)/\Rds N' h vs xs,⟨?_,?_,?_,?_,?_⟩,⟨⟨?_,?_⟩,?_⟩⟩
 ·(intro i h Z0;refine xA Z0 fun Z1 Z=>?_;clear Z0;refine xA Z1 fun Z2 Z=>?_;clear Z1;refine xEA Z2 fun o e Z=>?_;clear Z2;intro b m)
  rw [List.mem_singleton.mp m];exact ⟨o,e⟩
 ·(intro i h h' Z0;refine xA Z0 fun Z1 r=>?_;clear Z0;refine xA Z1 fun st1 st2=>?_;clear Z1;intro k1 k2 F')
  exact ⟨⟨st1.at fun o e=>k1 _ (by exact List.mem_cons_self) o e,st2.at fun o e=>k2 a (by exact List.mem_cons_self) o e⟩,r.mono F'⟩
 ·(intro i d s' Q' E' hx Z0;refine xA Z0 fun st r=>?_;clear Z0;intro hQ)
  (refine xEA (V8 hx) fun x hx' Z0=>?_;subst Z0)
  have hi:i < vs.toArray.size:=by rw [List.size_toArray,hlen];exact (List.getElem?_eq_some_iff.mp hx').1
  refine Ww.item i s' Q' E' hi st fun v h'' tk hP st' kk=>?_
  have r':Rds N' h'' vs xs:=r.mono ⟨fun b o nb e=>kk b o (fun m=>nb (nw b m)) e,fun Z x=>.inl x⟩
  refine xEA (r'.get hx') fun v' e1 e2=>?_
  have hv:v'=v:=by
   have:vs[i]?=some v:=by simpa using hP
   replace this:=Eq.trans (Eq.symm e1) this;exact Option.some.inj this
  subst hv
  exact hQ v' h'' tk e2 ⟨st',r'⟩ kk
 ·(intro s' Q' E' Z0;refine xA Z0 fun st r=>?_;clear Z0;intro hQ)
  refine Ww.done s' Q' E' ?_ hQ
  rw [List.length_map,← hlen] at st
  exact st
 ·(intro i s' Q' E' Z0;refine xA Z0 fun st r=>?_;clear Z0;intro hQ)
  exact Ww.self i s' Q' E' st hQ
 ·exact ⟨_,kw _ (by exact List.mem_cons_self) _ (Heap.get?_push_size _ rfl),rfl,rfl⟩
 ·exact la.at fun o e=>P.keep a o afs (Heap.get?_push_of_some _ e)
 ·exact ra.mono F
section
variable {C:Cx}{μ:Mu}{l:List (Str×AV)}
noncomputable def Vr (C:Cx) (μ:Mu) (l:List (Str×AV)) (ifs:List Expr) (b:Bool):Prop :=
 ∀ (N:Addr->Prop) (s:Shared),St C N μ l s.heap->∀ (Q:Bool->Shared->Prop) (E:Value->Shared->Prop),OF C s b Q ->
  wpAny (model pg C.w) C.A (forIn ifs true fun c r=>if r=true then do let ok ← isTrue c C.env (eval c C.env);pure (ForInStep.yield ok) else pure (ForInStep.yield r)) Q E s
theorem Vr.nil:Vr C μ l [] true:=fun Z Z Z Z Z q=>wpAny_tests_nil (q _ _ (.refl _ _))
theorem Vr.one {c:Expr}{b:Bool} (h:Tst C μ l c b):Vr C μ l [c] b:=fun N s S Q E q=>wpAny_tests_one (h N s S Q E q)
noncomputable def Zi (env:Env):List (Str×NameKind)->List (Str×Addr)->List (Str×Addr)
 | [],acc=>acc
 | (n,k)::r,acc=>if k == .free then Zi env r ((n,(env.cells.lookup n).getD 0)::acc) else Zi env r acc
theorem VR {env:Env}:∀ (names:List (Str×NameKind)) (acc:List (Str×Addr)),(∀ n,(n,NameKind.free)∈names->(env.cells.lookup n).isSome=true) ->
  (forIn names acc fun x cs=>(match x with|(name,kind)=>if (kind == .free)=true then (do let a ← cellOf env name;pure (ForInStep.yield ((name,a)::cs))) else pure (ForInStep.yield cs):Sem (ForInStep (List (Str×Addr)))))=pure (Zi env names acc)
 | [],acc,_=>rfl
 | (n,k)::r,acc,h=>by
  rw [List.forIn_cons]
  have hr:∀ m,(m,NameKind.free)∈r->(env.cells.lookup m).isSome=true:=fun m hm=>h m (List.mem_cons_of_mem _ hm)
  by_cases hk:(k == .free)=true
  ·have e:k=.free:=by simpa using hk
   subst e
   refine xE (Option.isSome_iff_exists.mp (h n List.mem_cons_self)) fun c hc=>?_
   simp only [Zi,hk,if_true,cellOf,hc,pure_bind,Option.getD_some]
   exact VR r _ hr
  ·simp only [Zi,hk,Bool.false_eq_true,if_false,pure_bind]
   exact VR r acc hr
theorem Qb {env:Env}{scope:Scope} (h:∀ n,(n,NameKind.free)∈scope.names->(env.cells.lookup n).isSome=true):closureFor scope env=pure (Zi env scope.names []):=by
 delta closureFor
 have:=VR (env:=env) scope.names [] h
 rw [← this,← bind_pure (forIn scope.names _ _)]
theorem Vv {env:Env}{n:Str}:∀ (names:List (Str×NameKind)) (acc:List (Str×Addr)),
  (acc.lookup n=some ((env.cells.lookup n).getD 0)∨((n,NameKind.free)∈names/\acc.lookup n=none)∨((n,NameKind.free)∈names/\acc.lookup n=some ((env.cells.lookup n).getD 0))) ->
  (Zi env names acc).lookup n=some ((env.cells.lookup n).getD 0)
 | [],acc,h=>by
  rcases h with h|⟨h,_⟩|⟨h,_⟩
  ·exact h
  ·exact absurd h List.not_mem_nil
  ·exact absurd h List.not_mem_nil
 | (m,k)::r,acc,h=>by
  unfold Zi
  by_cases hk:(k == .free)=true
  ·rw [if_pos hk]
   refine Vv r _ ?_
   by_cases hm:(n == m)=true
   ·left;rw [List.lookup_cons,hm];rw [beq_iff_eq.mp hm]
   ·have e:∀ b,((m,b)::acc).lookup n=acc.lookup n:=fun b=>by refine Eq.trans List.lookup_cons ?_;simp [hm]
    rw [e]
    rcases h with h|⟨h,h'⟩|⟨h,h'⟩
    ·exact .inl h
    ·right;left
     rcases List.mem_cons.mp h with q|q
     ·exact absurd (by rw [(Prod.mk.inj q).1];exact beq_self_eq_true _) hm
     ·exact ⟨q,h'⟩
    ·exact .inl h'
  ·rw [if_neg hk]
   refine Vv r acc ?_
   have ne:(n,NameKind.free)≠(m,k):=fun q=>hk (by rw [← (Prod.mk.inj q).2];rfl)
   rcases h with h|⟨h,h'⟩|⟨h,h'⟩
   ·exact .inl h
   ·exact .inr (.inl ⟨(List.mem_cons.mp h).resolve_left ne,h'⟩)
   ·exact .inl h'
structure ZD (sc:Scope) (names:List (Str×NameKind)) (l:List (Str×AV)) (x:Str):Prop where
 kind:sc.kind=.function
 locs:∀ y∈sc.names,y.2=.local->sc.names.lookup y.1=some .local
 cell:∀ y∈sc.names,y.2≠.cell
 free:∀ n,(n,NameKind.free)∈sc.names->names.lookup n=some .cell/\(l.lookup n).isSome=true
 tgt:sc.names.lookup x=some .local
 own:∀ y,sc.names.lookup y=some .local->y=x∨l.lookup y=none
noncomputable def QO (names:List (Str×NameKind)) (sc:List (Str×NameKind)):List (Str×NameKind) :=
 sc.map fun (n,k)=>if (k == .free && names.lookup n == some .cell) then (n,.cell) else (n,k)
theorem Ql {sc:Scope}{env:Env} (hk:env.scope.kind=.function):(relabel sc env).names=QO env.scope.names sc.names:=by
 refine List.map_congr_left fun x Z=>?_
 obtain ⟨n,k⟩:=x
 simp [hk,Env.kindOf]
theorem ZY {names:List (Str×NameKind)}{y:Str}:∀ {sc:List (Str×NameKind)}{k:NameKind},(QO names sc).lookup y=some k ->
  (sc.lookup y=some k/\(k≠.free∨names.lookup y≠some .cell))∨(k=.cell/\sc.lookup y=some .free/\names.lookup y=some .cell)
 | [],k,h=>by exact noS h
 | (n,q)::r,k,h=>by
  change List.lookup y ((if (q == .free && names.lookup n == some .cell)=true then (n,NameKind.cell) else (n,q))::QO names r)=some k at h
  by_cases hc:(q == .free && names.lookup n == some .cell)=true
  ·rw [if_pos hc] at h
   rw [List.lookup_cons] at h ⊢
   cases hy:y == n with
   | true =>
    rw [hy] at h;obtain rfl:=Option.some.inj h
    rw [Bool.and_eq_true] at hc
    have e1:q=.free:=by simpa using hc.1
    have e2:names.lookup n=some .cell:=by simpa using hc.2
    rw [beq_iff_eq.mp hy]
    exact .inr ⟨rfl,by rw [e1],e2⟩
   | false=>rw [hy] at h;exact ZY h
  ·rw [if_neg hc] at h
   rw [List.lookup_cons] at h ⊢
   cases hy:y == n with
   | true =>
    rw [hy] at h;obtain rfl:=Option.some.inj h
    refine .inl ⟨rfl,?_⟩
    rw [beq_iff_eq.mp hy]
    by_cases hq:q=.free
    ·refine .inr fun e=>hc ?_
     rw [hq,e];rfl
    ·exact .inl hq
   | false=>rw [hy] at h;exact ZY h
theorem ZV {α:Type}{l:List (Str×α)}{n:Str}{c:α} (h:l.lookup n=some c):(n,c)∈l:=mem_of_lookup h
noncomputable abbrev Cx.comp (C:Cx) (sc:Scope) (cl:List (Str×Addr)) (L:Addr):Cx:={ C with env:=compEnvC sc cl L C.env }
theorem Cx.Ok.comp {C:Cx} (O:C.Ok) {sc:Scope}{cl:List (Str×Addr)}{L:Addr} (hk:sc.kind=.function):(C.comp sc cl L).Ok :=
 { nms:=O.nms,frames:=O.frames,efr:=O.efr,depth:=O.depth,units:=O.units,handled:=O.handled,kind:=hk,glob:=O.glob,bui:=O.bui }
theorem St.comp {C:Cx}{N N':Addr->Prop}{μ:Mu}{l:List (Str×AV)}{h h':Heap}{sc:Scope}{x:Str}{L:Addr}{m:Str->Option Value}{v:Value}{d:AV}
  (S:St C N μ l h) (O:C.Ok) (K:ZD sc C.env.scope.names l x) (P:Pu C.Fs h h') (fz:Fz N N' h h') (W:Wd C.w C.h₁ C.Fs N' μ h')
  (hn:h'.Ns L m) (hx:m x=some v) (hv:RdA N' h' v d):St (C.comp sc (Zi C.env sc.names []) L) N' μ ((x,d)::l) h':=by
 refine ⟨W,⟨⟨m,hn,fun y e he hk=>?_⟩,fun y e he hk=>?_⟩⟩
 ·have hk':(QO C.env.scope.names sc.names).lookup y=some .local:=by rw [← Ql O.kind];exact hk
  rcases ZY hk' with ⟨q,_⟩|⟨q,_⟩
  ·rcases K.own y q with rfl|z
   ·rw [List.lookup_cons,beq_self_eq_true] at he
    obtain rfl:=Option.some.inj he;exact ⟨v,hx,hv⟩
   ·replace he:=Eq.trans (Eq.symm List.lookup_cons) he
    cases hb:y == x with
    | true=>rw [hb] at he;obtain rfl:=Option.some.inj he;rw [beq_iff_eq.mp hb];exact ⟨v,hx,hv⟩
    | false=>rw [hb] at he;replace he:=Eq.trans (Eq.symm z) he;exact noS he
  ·cases q
 ·have hk':(QO C.env.scope.names sc.names).lookup y=some .cell:=by rw [← Ql O.kind];exact hk
  rcases ZY hk' with ⟨q,_⟩|⟨_,q,q'⟩
  ·exact absurd rfl (K.cell _ (ZV q))
  ·have hyx:(y == x)=false:=by
    cases hb:y == x with
    | false=>rfl
    | true=>have:=K.tgt;rw [← beq_iff_eq.mp hb,q] at this;cases this
   rw [List.lookup_cons,hyx] at he
   refine Zn (S.fm.cl y e he q') fun c u a b r=>?_
   refine ⟨c,u,?_,P.cell b,r.mono fz⟩
   have:=Vv (env:=C.env) (n:=y) sc.names [] (.inr (.inl ⟨ZV q,rfl⟩))
   rw [a] at this
   exact this
theorem Pu.none {Fs:List Addr}{h h':Heap} (P:Pu Fs h h') {a:Addr} (e:h'.get? a=none):h.get? a=none:=by
 cases q:h.get? a with
 | none=>rfl
 | some o=>refine xE (P.fr _ _ q) fun Z e'=>?_;replace e':=Eq.trans (Eq.symm e) e';exact noS e'
structure Cw (C:Cx) (env:Env) (N':Addr->Prop) (μ:Mu) (D I L:Addr) (ps:List Addr) (st:Value->(Unit->Shared->Prop)->(Value->Shared->Prop)->Shared->Prop) {α:Type} (xs:List α) (nm:α->List (Str×AV)) (h0:Heap) (T:Nat->Heap->Prop):Prop where
 frame:∀ i g g',T i g->(∀ b o,b∉C.Fs->b≠D->b≠L->g.get? b=some o->g'.get? b=some o)->(∃ m,g'.Ns L m)->Fz N' N' g g'->T i g'
 ns:∀ i g,T i g->∃ m,g.Ns L m
 item:∀ i d (s:Shared) (Q:Unit->Shared->Prop) (X:Value->Shared->Prop) (R:Option Value->Shared->Prop),xs[i]?=some d->T i s.heap->Pu C.Fs h0 s.heap->(∃ o,s.heap.get? D=some o) ->
  (∀ g tk,St { C with env:=env } N' μ (nm d) g->T (i+1) g->(∀ b o,b∉ps->s.heap.get? b=some o->g.get? b=some o)->Q () { s with heap:=g,toks:=tk }) ->
  (∀ v s₁,st v Q X s₁->R (some v) s₁)->wpAny (model pg C.w) C.A (pyNext (.ref I)) R X s
 done:∀ (s:Shared) (Q:Option Value->Shared->Prop) (X:Value->Shared->Prop),T xs.length s.heap ->
  (∀ g tk m,g.Ns L m->(∀ b o,b∉ps->s.heap.get? b=some o->g.get? b=some o)->Q none { s with heap:=g,toks:=tk })->wpAny (model pg C.w) C.A (pyNext (.ref I)) Q X s
 ps0:∀ b∈ps,h0.get? b=none
 psN:∀ b∈ps,N' b
 psD:D∉ps
 d0:h0.get? D=none
 dN:N' D
 lps:L∈ps
noncomputable def G5 (C:Cx) (N':Addr->Prop) (D:Addr) (s:Shared) {α:Type} (xs:List α) (p:α->Bool) (f:α->PyData) (T:Nat->Heap->Prop) (k:Nat) (s':Shared):Prop :=
 ∃ h tk i vs,s'={ s with heap:=h,toks:=tk }/\k=xs.length+1 - i/\i≤xs.length/\T i h/\Pu C.Fs s.heap h/\h.PlainList D vs.toArray/\Rds N' h vs (((xs.take i).filter p).map f)
section
variable {N:Addr->Prop}{env:Env}{N':Addr->Prop}{D I L:Addr}{ps:List Addr}{st:Value->(Unit->Shared->Prop)->(Value->Shared->Prop)->Shared->Prop}{α:Type}{xs:List α}{nm:α->List (Str×AV)}{T:Nat->Heap->Prop}{p:α->Bool}{f:α->PyData}{s:Shared}
theorem Cw.turn (w:Cw C env N' μ D I L ps st xs nm s.heap T) {bd:Unit->Shared->Prop}{X:Value->Shared->Prop}{R:Option Value->Shared->Prop}{k:Nat}{s':Shared} (hi:G5 C N' D s xs p f T k s')
  (hb:∀ i d h tk vs,xs[i]?=some d->k=xs.length+1 - i->St { C with env:=env } N' μ (nm d) h->T (i+1) h->Pu C.Fs s.heap h->h.PlainList D vs.toArray->Rds N' h vs (((xs.take i).filter p).map f)->bd () { s with heap:=h,toks:=tk })
  (hd:∀ h tk m vs,h.Ns L m->Pu C.Fs s.heap h->h.PlainList D vs.toArray->Rds N' h vs ((xs.filter p).map f)->R none { s with heap:=h,toks:=tk })
  (hr:∀ v s₁,st v bd X s₁->R (some v) s₁):wpAny (model pg C.w) C.A (pyNext (.ref I)) R X s':=by
 obtain ⟨h,tk,i,vs,rfl,rfl,hi,hT,P,hD,hR⟩:=hi
 have fz:∀ {g:Heap},(∀ b o,b∉ps->h.get? b=some o->g.get? b=some o)->Fz N' N' h g:=fun k2=>⟨fun a o n e=>k2 a o (fun m=>n (w.psN a m)) e,fun Z y=>.inl y⟩
 by_cases hlt:i < xs.length
 ·obtain ⟨d,hx⟩:∃ d,xs[i]?=some d:=⟨_,List.getElem?_eq_getElem hlt⟩
  exact w.item i d { s with heap:=h,toks:=tk } _ _ _ hx hT P (let ⟨_,e⟩:=hD;⟨_,e⟩) (fun g tk' St2 T2 k2=>hb i d g tk' vs hx rfl St2 T2 (P.ext k2 w.ps0) (hD.at fun o e=>k2 D o w.psD e) (hR.mono (fz k2))) hr
 ·have hin:i=xs.length:=oG hi hlt
  subst hin
  rw [List.take_length] at hR
  exact w.done { s with heap:=h,toks:=tk } _ _ hT fun g tk' m hn k2=>hd g tk' m vs hn (P.ext k2 w.ps0) (hD.at fun o e=>k2 D o w.psD e) (hR.mono (fz k2))
theorem Cw.app (w:Cw C env N' μ D I L ps st xs nm s.heap T) (S:St C N μ l s.heap) (NN:∀ a,N a->N' a) (hz:xs.length≤sizeLine) {elt:Expr}{X:Value->Shared->Prop}{k i tk:Nat}{d:α}{h:Heap}{vs:List Value}
  (hx:xs[i]?=some d) (hk:k=xs.length+1 - i) (St2:St { C with env:=env } N' μ (nm d) h) (T2:T (i+1) h) (P:Pu C.Fs s.heap h) (hD:h.PlainList D vs.toArray) (hR:Rds N' h vs (((xs.take i).filter p).map f)) (hpd:p d=true) (he:Ev { C with env:=env } μ (nm d) elt (.dat (f d))) :
  wpAny (model pg C.w) C.A (eval elt env) (fun x s₄=>wpAny (model pg C.w) C.A (call (.builtin "list.append") [.ref D,x]) (fun Z s₅=>∃ m,m < k/\G5 C N' D s xs p f T m s₅) X s₄) X { s with heap:=h,toks:=tk }:=by
 have hlt:=(List.getElem?_eq_some_iff.mp hx).1
 have nD:D∉C.Fs:=fun m=>by refine ZE (S.wd.fr D m) fun o Z Z q Z=>?_;replace q:=Eq.trans (Eq.symm w.d0) q;exact noS q
 refine he N' { s with heap:=h,toks:=tk } St2 _ _ fun y g4 tk4 P4 R4=>?_
 have hlen:vs.length≤xs.length:=by
  rw [hR.length,List.length_map]
  exact Nat.le_trans (List.length_filter_le _ _) (by rw [List.length_take];exact Nat.min_le_right _ _)
 refine wpAny_list_append_plain (hsz:=by rw [List.size_toArray];exact Nat.le_trans ‹_› ‹_›) (hD.at fun o e=>P4.keep D o nD e) fun g5 hl5 hs5=>?_
 have fz4:Fz N' N' h g4:=P4.fz fun b m=>NN b (S.wd.fsN b m)
 have fz45:Fz N' N' g4 g5:=⟨fun a o n e=>hs5.extBut a o (fun q=>n (q▸w.dN)) e,fun Z y=>.inl y⟩
 refine ⟨xs.length+1 - (i+1),hk▸rs hlt,g5,tk4,i+1,vs++[y],rfl,rfl,hlt,w.frame (i+1) h g5 T2 (fun b o n1 n2 Z e=>hs5.extBut b o n2 (P4.keep b o n1 e)) (let ⟨m,n⟩:=w.ns _ _ T2;⟨m,(P4.ns n).at' fun o e=>hs5.extBut L o (fun q=>w.psD (q▸w.lps)) e⟩) ⟨fun a o n e=>fz45.keep a o n (fz4.keep a o n e),fun Z y=>.inl y⟩,(P.trans P4).write hs5 w.d0,by simpa using hl5,?_⟩
 rw [List.take_add_one,hx,List.filter_append]
 simpa [hpd] using ((hR.mono fz4).mono fz45).append (.cons (Rd.mono fz45 R4) .nil)
theorem Cw.body (w:Cw C env N' μ D I L ps st xs nm s.heap T) (S:St C N μ l s.heap) (NN:∀ a,N a->N' a) (hz:xs.length≤sizeLine) {elt:Expr}{ifs:List Expr}{X:Value->Shared->Prop}{k i tk:Nat}{d:α}{h:Heap}{vs:List Value}
  (hx:xs[i]?=some d) (hk:k=xs.length+1 - i) (St2:St { C with env:=env } N' μ (nm d) h) (T2:T (i+1) h) (P:Pu C.Fs s.heap h) (hD:h.PlainList D vs.toArray) (hR:Rds N' h vs (((xs.take i).filter p).map f))
  (ht:Vr { C with env:=env } μ (nm d) ifs (p d)) (he:p d=true->Ev { C with env:=env } μ (nm d) elt (.dat (f d))) :
  wpAny (model pg C.w) C.A (forIn ifs true fun c r=>if r=true then do let ok ← isTrue c env (eval c env);pure (ForInStep.yield ok) else pure (ForInStep.yield r)) (fun ok s₃ =>
   if ok=true then wpAny (model pg C.w) C.A (eval elt env) (fun x s₄=>wpAny (model pg C.w) C.A (call (.builtin "list.append") [.ref D,x]) (fun Z s₅=>∃ m,m < k/\G5 C N' D s xs p f T m s₅) X s₄) X s₃
   else ∃ m,m < k/\G5 C N' D s xs p f T m s₃) X { s with heap:=h,toks:=tk }:=by
 have nD:D∉C.Fs:=fun m=>by refine ZE (S.wd.fr D m) fun o Z Z q Z=>?_;replace q:=Eq.trans (Eq.symm w.d0) q;exact noS q
 refine ht N' { s with heap:=h,toks:=tk } St2 _ _ fun g3 tk3 P3=>?_
 have fz3:Fz N' N' h g3:=P3.fz fun b m=>NN b (S.wd.fsN b m)
 have T3:=w.frame (i+1) h g3 T2 (fun b o n1 Z Z e=>P3.keep b o n1 e) (let ⟨m,n⟩:=w.ns _ _ T2;⟨m,P3.ns n⟩) fz3
 have D3:=hD.at fun o e=>P3.keep D o nD e
 cases hpd:p d with
 | true=>exact w.app S NN hz hx hk (St2.pu P3) T3 (P.trans P3) D3 (hR.mono fz3) hpd (he hpd)
 | false =>
  have hlt:=(List.getElem?_eq_some_iff.mp hx).1
  refine ⟨xs.length+1 - (i+1),hk▸rs hlt,g3,tk3,i+1,vs,rfl,rfl,hlt,T3,P.trans P3,D3,?_⟩
  rw [List.take_add_one,hx,List.filter_append]
  simpa [hpd] using hR.mono fz3
theorem Cw.list (w:Cw C env N' μ D I L ps st xs nm s.heap T) (S:St C N μ l s.heap) (NN:∀ a,N a->N' a) (hz:xs.length≤sizeLine) {h:Heap}{vs:List Value} (hD:h.PlainList D vs.toArray) (hR:Rds N' h vs ((xs.filter p).map f)):Rd (Un N [L]) h (.ref D) (.list ((xs.filter p).map f)):=by
 (refine xE hD fun n eD=>?_;clear hD)
 refine .list eD (fun n'=>n'.elim (fun n''=>let ⟨_,e⟩:=S.wd.nhi D n'';by replace e:=Eq.trans (Eq.symm w.d0) e;exact noS e) fun m'=>w.psD (List.mem_singleton.mp m'▸w.lps)) rfl rfl (hR.weak fun a y=>y.elim (NN a) fun m'=>by rw [List.mem_singleton.mp m'];exact w.psN L w.lps) ?_ rfl
 rw [List.length_map];exact Nat.le_trans (List.length_filter_le _ _) hz
end
theorem cw_of {x:Str}{px:Pos}{xs:List AV}{env:Env}{N:Addr->Prop}{s:Shared} (S:St C N μ l s.heap) {D L:Addr}{it:Value}{cs:List Addr}{h1 h3:Heap}
  (R1:Src C N s.heap it xs h1) (P1:Pu C.Fs s.heap h1) (hn:∀ a∈D::cs,h1.get? a=none) (Dcs:D∉cs) (Lcs:L∈cs) (up13:∀ b o,h1.get? b=some o->h3.get? b=some o) (hD:h3.PlainList D ([]:List Value).toArray)
  (V:Heap->Prop) (vk:∀ g g',V g->(∀ b∈cs,b≠L->∀ o,g.get? b=some o->g'.get? b=some o)->(∃ m,g'.Ns L m)->V g') (vns:∀ g,V g->∃ m,g.Ns L m) (val:∀ g,V g->∀ b∈cs,∃ o,g.get? b=some o) (v3:V h3)
  (asg:∀ v d (s':Shared) (Q:Unit->Shared->Prop) (X:Value->Shared->Prop),V s'.heap->(∀ g2 tk,V g2->(∀ b o,b∉cs->s'.heap.get? b=some o->g2.get? b=some o) ->
   (∀ N':Addr->Prop,Pu C.Fs s.heap g2->Fz N N' s.heap g2->Wd C.w C.h₁ C.Fs N' μ g2->RdA N' g2 v d->St { C with env:=env } N' μ ((x,d)::l) g2)->Q () { s' with heap:=g2,toks:=tk })->wpAny (model pg C.w) C.A (assign (.Name x px) env v) Q X s') :
  ∃ I N' ps T,it=.ref I/\Cw C env N' μ D I L ps (fun v Q X s₁=>wpAny (model pg C.w) C.A (assign (.Name x px) env v) Q X s₁) xs (fun d=>(x,d)::l) s.heap T/\T 0 h3/\(∀ a,N a->N' a) /\
   ∀ (s:Shared) (Q:Value->Shared->Prop) (E:Value->Shared->Prop),s.heap=h3->Q (.ref I) s->wpAny (model pg C.w) C.A (pyIter (.ref I)) Q E s:=by
 (refine Ux R1 fun hb I wr fx Zr0=>?_;refine ZK Zr0 fun Z0 hb0 Pb wrB wrA fxA fxw mk=>?_;clear Zr0;clear R1;subst Z0)
 have sN:∀ a∈D::cs,s.heap.get? a=none:=fun a m=>P1.none (hn a m)
 have wrF:∀ a∈wr,s.heap.get? a=none:=fun a m=>by
  cases q:s.heap.get? a with
  | none=>rfl
  | some o=>refine xE (hb0 _ _ q) fun Z e=>?_;replace e:=Eq.trans (Eq.symm (wrB a m)) e;exact noS e
 have nw:∀ a∈D::cs,a∉wr:=fun a m mw=>by refine xE (wrA a mw) fun o e=>?_;replace e:=Eq.trans (Eq.symm (hn a m)) e;exact noS e
 have nfx:∀ a∈D::cs,∀ b∈fx,b≠a:=fun a m b mb q=>by (refine xA (fxA b mb) fun Z Zr0=>?_;refine xE Zr0 fun o e=>?_;clear Zr0);rw [q,hn a m] at e;exact noS e
 have nF:∀ b,s.heap.get? b=none->b∉C.Fs:=fun b e m'=>by refine ZE (S.wd.fr b m') fun o Z Z q Z=>?_;replace q:=Eq.trans (Eq.symm e) q;exact noS q
 have mD:D∈D::cs:=List.mem_cons_self
 have mc:∀ {b},b∈cs->b∈D::cs:=fun m=>List.mem_cons_of_mem _ m
 have split:∀ a,a∈D::(cs++wr)->a∈D::cs∨a∈wr:=fun a m=>(List.mem_cons.mp m).elim (fun q=>.inl (q▸mD)) fun m=>(List.mem_append.mp m).imp mc id
 have newF:∀ a∈D::(cs++wr),s.heap.get? a=none:=fun a m=>(split a m).elim (sN a) (wrF a)
 have Ncs:∀ a∈D::cs,Un N (D::(cs++wr)) a:=fun a m=>.inr ((List.mem_cons.mp m).elim (fun q=>q▸List.mem_cons_self) fun m=>List.mem_cons_of_mem _ (List.mem_append_left _ m))
 refine xEA (mk (Un N (D::(cs++wr))) h3 (.of_keeps up13) (fun b m o e=>up13 b o e) ⟨fun a o n e=>up13 a o (Pb.keep a o (fun m=>n (S.wd.fsN a m)) e),fun a y=>y.imp id fun m=>(split a m).elim (fun m=>Pb.none (hn a m)) (wrB a)⟩ fun b m=>.inr (List.mem_cons_of_mem _ (List.mem_append_right _ m))) fun T wk T0=>?_
 have vk':∀ {g g':Heap},V g->(∀ b∈cs,∀ o,g.get? b=some o->g'.get? b=some o)->V g':=fun v k=>vk _ _ v (fun b m Z=>k b m) (let ⟨m,n⟩:=vns _ v;⟨m,n.at' (k L Lcs)⟩)
 refine ⟨I,Un N (D::(cs++wr)),cs++wr,fun i h=>T i h/\V h,rfl,{
  frame:=fun i g g' t k n fz=>⟨wk.frame i g g' t.1 (fun b m o e=>k b o (nF b (wrF b m)) (fun q=>nw D mD (q▸m)) (fun q=>nw L (mc Lcs) (q▸m)) e) (fun b m o e=>k b o (fxA b m).1 (nfx D mD b m) (nfx L (mc Lcs) b m) e) fz,vk g g' t.2 (fun b m nl o e=>k b o (nF b (sN b (mc m))) (fun q=>Dcs (q▸m)) nl e) n⟩
  ns:=fun i g t=>vns g t.2
  item:=fun i d s' Q X R hx t P al q r=>by
   refine wk.item i d s' _ _ hx t.1 fun v' g1 tk1 Rv T1 K1=>r v' _ ?_
   refine asg v' d { s' with heap:=g1,toks:=tk1 } Q X (vk' t.2 fun b m o e=>K1 b o (nw b (mc m)) e) fun g2 tk2 V2 k2 st=>?_
   have P2:Pu C.Fs s.heap g2:=(P.ext K1 wrF).ext k2 fun b m=>sN b (mc m)
   have fz12:Fz (Un N (D::(cs++wr))) (Un N (D::(cs++wr))) g1 g2:=⟨fun a o n e=>k2 a o (fun m=>n (Ncs a (mc m))) e,fun Z y=>.inl y⟩
   have T2:T (i+1) g2:=wk.frame (i+1) g1 g2 T1 (fun b m o e=>k2 b o (fun m'=>nw b (mc m') m) e) (fun b m o e=>k2 b o (fun m'=>nfx b (mc m') b m rfl) e) fz12
   refine q g2 tk2 (st _ P2 ⟨fun a o n e=>P2.keep a o (fun m=>n (S.wd.fsN a m)) e,fun a y=>y.imp id (newF a)⟩ (S.wd.grow P2 newF fun a m=>?_) (RdA.mono fz12 Rv)) ⟨T2,V2⟩ fun b o n e=>k2 b o (fun m=>n (List.mem_append_left _ m)) (K1 b o (fun m=>n (List.mem_append_right _ m)) e)
   rcases List.mem_cons.mp m with z|m
   ·(refine xE al fun o e=>?_;clear al);exact ⟨o,z▸k2 D o Dcs (K1 D o (nw D mD) e)⟩
   ·exact (List.mem_append.mp m).elim (val g2 V2 a) (wk.alive (i+1) g2 T2 a)
  done:=fun s' Q X t q=>wk.done s' _ _ t.1 fun g tk K1=>by
   refine xE (vns g (vk' t.2 fun b m o e=>K1 b o (nw b (mc m)) e)) fun m hm=>?_
   exact q g tk m hm fun b o n e=>K1 b o (fun m=>n (List.mem_append_right _ m)) e
  ps0:=fun b m=>newF b (List.mem_cons_of_mem _ m)
  psN:=fun b m=>.inr (List.mem_cons_of_mem _ m)
  psD:=fun m=>(List.mem_append.mp m).elim Dcs (nw D mD)
  d0:=sN D mD
  dN:=Ncs D mD
  lps:=List.mem_append_left _ Lcs },⟨T0,v3⟩,fun Z n=>.inl n,fun s' Q E e q=>wk.self 0 s' Q E (e▸T0) q⟩
theorem YS {elt iter:Expr}{ifs:List Expr}{x:Str}{px pos:Pos}{sc:Scope}{xs:List AV}{p:AV->Bool}{f:AV->PyData}{env:Env}{N:Addr->Prop}{s:Shared} (S:St C N μ l s.heap) {D L:Addr}{it:Value}{cs:List Addr}{h1 h3:Heap}{tk3:Nat}
  (R1:Src C N s.heap it xs h1) (P1:Pu C.Fs s.heap h1) (hn:∀ a∈D::cs,h1.get? a=none) (Dcs:D∉cs) (Lcs:L∈cs) (up13:∀ b o,h1.get? b=some o->h3.get? b=some o) (hD:h3.PlainList D ([]:List Value).toArray)
  (V:Heap->Prop) (vk:∀ g g',V g->(∀ b∈cs,b≠L->∀ o,g.get? b=some o->g'.get? b=some o)->(∃ m,g'.Ns L m)->V g') (vns:∀ g,V g->∃ m,g.Ns L m) (val:∀ g,V g->∀ b∈cs,∃ o,g.get? b=some o) (v3:V h3)
  (asg:∀ v d (s':Shared) (Q:Unit->Shared->Prop) (X:Value->Shared->Prop),V s'.heap->(∀ g2 tk,V g2->(∀ b o,b∉cs->s'.heap.get? b=some o->g2.get? b=some o) ->
   (∀ N':Addr->Prop,Pu C.Fs s.heap g2->Fz N N' s.heap g2->Wd C.w C.h₁ C.Fs N' μ g2->RdA N' g2 v d->St { C with env:=env } N' μ ((x,d)::l) g2)->Q () { s' with heap:=g2,toks:=tk })->wpAny (model pg C.w) C.A (assign (.Name x px) env v) Q X s')
  (ht:∀ d∈xs,Vr { C with env:=env } μ ((x,d)::l) ifs (p d)) (he:∀ d∈xs,p d=true->Ev { C with env:=env } μ ((x,d)::l) elt (.dat (f d))) (hz:xs.length≤sizeLine) {RR:Result->Shared->Prop}
  (hRR:∀ h' tk m',Pu C.Fs s.heap h'->Rd (Un N [L]) h' (.ref D) (.list ((xs.filter p).map f))->h'.Ns L m'->(∃ vs n,h'.get? D=some { cls:=.type "list",data:=.seq vs n })->RR (.ok .next) { s with heap:=h',toks:=tk }) :
  codeAny (model pg C.w) C.A (.compStart (.ListComp elt [⟨.Name x px,iter,ifs,0⟩] sc pos) 0 it (.ref D) env) RR { s with heap:=h3,toks:=tk3 }:=by
 (refine xEE (cw_of S R1 P1 hn Dcs Lcs up13 hD V vk vns val v3 asg) fun I N' Zr0=>?_;refine Zf Zr0 fun ps T Z0 w T0 NN self=>?_;clear Zr0;subst Z0)
 have loop:codeAny (model pg C.w) C.A (.compLoop (.ListComp elt [⟨.Name x px,iter,ifs,0⟩] sc pos) 0 (.ref I) (.ref D) env) RR { s with heap:=h3,toks:=tk3 }:=by
  refine codeAny_compLoop_tests (env:=env) (G5 C N' D s xs p f T) (fun k s' hi=>w.turn hi (fun i d h tk vs hx hk St2 T2 P hD hR=>?_) (fun h tk m vs hn P hD hR=>?_) fun Z Z z=>z) (xs.length+1) ⟨h3,tk3,0,[],rfl,rfl,Nat.zero_le _,T0,P1.trans (.of_keeps up13),hD,.nil⟩
  ·have hm:=List.mem_of_getElem? hx
   exact w.body S NN hz hx hk St2 T2 P hD hR (ht d hm) (he d hm)
  ·refine xE (id hD) fun n e=>?_
   exact hRR h tk m P (w.list S NN hz hD hR) hn ⟨_,n,e⟩
 exact codeAny_compStart_list loop (self _ _ _ rfl loop)
theorem U1 (O:C.Ok) {elt iter:Expr}{ifs:List Expr}{x:Str}{px pos:Pos}{sc:Scope}{xs:List AV}{p:AV->Bool}{f:AV->PyData}
  (K:ZD sc C.env.scope.names l x) (hit:Itr C μ l iter xs)
  (ht:∀ L,∀ d∈xs,Vr (C.comp sc (Zi C.env sc.names []) L) μ ((x,d)::l) ifs (p d))
  (he:∀ L,∀ d∈xs,p d=true->Ev (C.comp sc (Zi C.env sc.names []) L) μ ((x,d)::l) elt (.dat (f d)))
  (hz:xs.length≤sizeLine) {N:Addr->Prop}{s:Shared} (S:St C N μ l s.heap) {E:Value->Shared->Prop}{RR:Value->Addr->Result->Shared->Prop}
  (hRR:∀ D L h' tk m',Pu C.Fs s.heap h'->Rd (Un N [L]) h' (.ref D) (.list ((xs.filter p).map f))->h'.Ns L m'->s.heap.get? L=none->D≠L->s.heap.get? D=none->(∃ vs n,h'.get? D=some { cls:=.type "list",data:=.seq vs n })->RR (.ref D) L (.ok .next) { s with heap:=h',toks:=tk }) :
  wpAny (model pg C.w) C.A (eval iter C.env) (fun xv s₁=>wpAny (model pg C.w) C.A (pyIter xv) (fun it s₂=>wpAny (model pg C.w) C.A (newList []) (fun acc s₃ =>
   wpAny (model pg C.w) C.A (newFunctionEnv sc C.env.globals (Zi C.env sc.names []) [] C.env.qual none .none (some C.env)) (fun cenv s₄ =>
    codeAny (model pg C.w) C.A (.compStart (.ListComp elt [⟨.Name x px,iter,ifs,0⟩] sc pos) 0 it acc { cenv with scope:=relabel sc C.env }) (RR acc cenv.locals) s₄) E s₃) E s₂) E s₁) E s:=by
 refine hit N s S _ _ fun it h1 t1 P1 R1=>?_
 refine wpAny_newObj_type ?_
 generalize hH2:h1.push { cls:=.type "list",dict:=none,data:=.seq ([]:List Value).toArray }=H2
 show wpAny (model pg C.w) C.A _ _ E { s with heap:=H2,toks:=t1 }
 refine wpAny_newFunctionEnv (s:={ s with heap:=H2,toks:=t1 }) K.cell (by intro y hy;exact absurd hy List.not_mem_nil) (fun h3 hns3 hsb3=>?_) K.kind
 have hD1:h1.get? h1.objs.size=none:=get?_size_none _
 have hD2:H2.get? h1.objs.size=some { cls:=.type "list",dict:=none,data:=.seq ([]:List Value).toArray }:=by rw [← hH2];exact Heap.get?_push_size _ rfl
 have hL2:H2.get? H2.objs.size=none:=get?_size_none _
 have hDL:h1.objs.size≠H2.objs.size:=by rw [← hH2,Heap.size_push];exact Nat.ne_of_lt (Nat.lt_succ_self _)
 have up12:∀ b o,h1.get? b=some o->H2.get? b=some o:=fun b o e=>by rw [← hH2];exact Heap.get?_push_of_some _ e
 have up23:∀ b o,H2.get? b=some o->h3.get? b=some o:=fun b o e=>hsb3.extBut b o (fun q=>by rw [q,hL2] at e;exact noS e) (Heap.get?_push_of_some _ e)
 generalize h1.objs.size=D at *
 generalize H2.objs.size=L at *
 have hL1:h1.get? L=none:=by
  cases q:h1.get? L with
  | none=>rfl
  | some o=>replace hL2:=Eq.trans (Eq.symm (up12 _ _ q)) hL2;exact sNo hL2
 have kL:(compEnvC sc (Zi C.env sc.names []) L C.env).kindOf x=some .local:=lookup_relabel_local K.tgt
 refine YS (env:=compEnvC sc (Zi C.env sc.names []) L C.env) (cs:=[L]) S R1 P1 (fun a m=>?_) (fun m=>hDL (List.mem_singleton.mp m)) List.mem_cons_self (fun b o e=>up23 b o (up12 b o e)) ⟨_,up23 _ _ hD2⟩ (fun h=>∃ m,h.Ns L m) (fun Z Z Z Z n=>n) (fun Z v=>v) (fun g ⟨m,n⟩ b mb=>?_) ⟨_,hns3⟩
  (fun v d s' Q X ⟨m,n⟩ q=>?_) (ht L) (he L) hz fun h' tk m' P R hn hl=>hRR D L h' tk m' P R hn (P1.none hL1) hDL (P1.none hD1) hl
 ·rcases List.mem_cons.mp m with z|m
  ·rw [z];exact hD1
  ·rw [List.mem_singleton.mp m];exact hL1
 ·(refine ZE n fun o Z Z e Z=>?_;clear n)
  rw [List.mem_singleton.mp mb];exact ⟨o,e⟩
 ·refine wpAny_assign_Name (wpAny_storeName_local kL n (fun g2 hn2 hs2=>?_) (by simp [compEnvC,relabel,K.kind]))
  have hs2:Heap.SameBut L s'.heap g2:=hs2
  exact q g2 _ ⟨_,hn2⟩ (fun b o nb e=>hs2.extBut b o (fun z=>nb (z▸List.mem_cons_self)) e) fun N' P fz W r=>S.comp O K P fz W hn2 (if_pos rfl) r
theorem Un.fz {N:Addr->Prop}{h h':Heap}{L:Addr} (s:Heap.SameBut L h h'):Fz (Un N [L]) (Un N [L]) h h' :=
 ⟨fun a o n e=>s.extBut a o (fun q=>n (.inr (by simp [q]))) e,fun Z y=>.inl y⟩
theorem Ev.comp (O:C.Ok) {elt iter:Expr}{ifs:List Expr}{x:Str}{px pos:Pos}{sc:Scope}{xs:List AV}{p:AV->Bool}{f:AV->PyData}
  (K:ZD sc C.env.scope.names l x) (hfs:∀ v,foldedSetIterable iter C.env v=pure v) (hit:Itr C μ l iter xs)
  (ht:∀ L,∀ d∈xs,Vr (C.comp sc (Zi C.env sc.names []) L) μ ((x,d)::l) ifs (p d))
  (he:∀ L,∀ d∈xs,p d=true->Ev (C.comp sc (Zi C.env sc.names []) L) μ ((x,d)::l) elt (.dat (f d)))
  (hz:xs.length≤sizeLine):Ev C μ l (.ListComp elt [⟨.Name x px,iter,ifs,0⟩] sc pos) (.dat (.list ((xs.filter p).map f))):=by
 intro N s S Q E q
 rw [eval_ListComp]
 have hcl:closureFor sc C.env=pure (Zi C.env sc.names []):=Qb fun n hn=>by
  refine xA (K.free n hn) fun k hl=>?_
  refine xE (Option.isSome_iff_exists.mp hl) fun d hd=>?_
  refine QE (S.fm.cl n d hd k) fun c v a Z=>?_
  rw [a];rfl
 refine wpAny_comprehension_free (g:=⟨.Name x px,iter,ifs,0⟩) (gs:=[]) rfl hfs hcl K.kind K.locs (use:=Option.none) ?_
 refine U1 O K hit ht he hz S (RR:=fun acc L r s'=>compPost (model pg C.w) C.A E Option.none Q acc L r s') fun D L h' tk m' P R hn fL hDL fD Z=>?_
 refine ⟨m',hn,fun h'' hs=>?_⟩
 exact q _ h'' tk (P.write hs fL) ((R.mono (Un.fz hs)).weak fun a n=>.inl n)
end
structure Own (C:Cx) (N:Addr->Prop) (μ:Mu) (h0:Heap):Prop where
 loc:C.env.locals∈C.Fs
 locF:h0.get? C.env.locals=none
 cell:∀ n c,C.env.cells.lookup n=some c->N c/\c∉C.Fs/\μ c=none/\h0.get? c=none
 inj:∀ n n' c,C.env.cells.lookup n=some c->C.env.cells.lookup n'=some c->n=n'
theorem Wd.frame {w:World}{h₁:Heap}{Fs:List Addr}{N:Addr->Prop}{μ:Mu}{h h':Heap}{L:Addr}{m:Str->Option Value} (W:Wd w h₁ Fs N μ h) (hL:L∈Fs)
  (hs:Heap.SameBut L h h') (hn:h'.Ns L m):Wd w h₁ Fs N μ h':=by
 have nL:=W.fsN L hL
 have fz:Fz N N h h':=⟨fun a o n e=>hs.extBut a o (fun q=>n (q▸nL)) e,fun Z y=>.inl y⟩
 (refine xE hn fun oL Zr0=>?_;refine Zn Zr0 fun es ep eL dL Z=>?_;clear Zr0;clear hn)
 refine ⟨fun b o e=>hs.extBut b o (fun q=>W.notN e (q▸nL)) (W.stays b o e),W.nlo,fun a n=>?_,W.fsN,fun a m=>?_,fun a m e=>?_,W.mm⟩
 ·by_cases q:a=L
  ·exact ⟨oL,q▸eL⟩
  ·refine xE (W.nhi a n) fun o e=>?_;exact ⟨o,hs.extBut a o q e⟩
 ·by_cases q:a=L
  ·exact ⟨oL,es,ep,q▸eL,dL⟩
  ·refine ZE (W.fr a m) fun o es' n' e d=>?_;exact ⟨o,es',n',hs.extBut a o q e,d⟩
 ·refine ZL (W.mu a m e) fun n f o ho r=>?_
  exact ⟨n,f,o,hs.extBut a o (fun q=>f (q▸hL)) ho,r.mono fz⟩
theorem Wd.other {w:World}{h₁:Heap}{Fs:List Addr}{N:Addr->Prop}{μ:Mu}{h h':Heap}{c:Addr} (W:Wd w h₁ Fs N μ h) (hN:N c) (hF:c∉Fs) (hm:μ c=none)
  (hs:Heap.SameBut c h h') (al:∃ o,h'.get? c=some o):Wd w h₁ Fs N μ h':=by
 have fz:Fz N N h h':=⟨fun a o n e=>hs.extBut a o (fun q=>n (q▸hN)) e,fun Z y=>.inl y⟩
 refine ⟨fun b o e=>hs.extBut b o (fun q=>W.notN e (q▸hN)) (W.stays b o e),W.nlo,fun a n=>?_,W.fsN,fun a m=>?_,fun a m e=>?_,W.mm⟩
 ·by_cases q:a=c
  ·exact q▸al
  ·refine xE (W.nhi a n) fun o e=>?_;exact ⟨o,hs.extBut a o q e⟩
 ·refine ZE (W.fr a m) fun o es' n' e d=>?_;exact ⟨o,es',n',hs.extBut a o (fun q=>hF (q▸m)) e,d⟩
 ·refine ZL (W.mu a m e) fun n f o ho r=>?_
  exact ⟨n,f,o,hs.extBut a o (fun q=>by rw [q,hm] at e;exact noS e) ho,r.mono fz⟩
section
variable {C:Cx}{μ:Mu}{l:List (Str×AV)}{N:Addr->Prop}
theorem ZJ {l:List (Str×AV)}{x y:Str}{d e:AV} (h:((x,d)::l).lookup y=some e):(y=x/\e=d)∨(y≠x/\l.lookup y=some e):=by
 replace h:=Eq.trans (Eq.symm List.lookup_cons) h
 cases q:y == x with
 | true=>rw [q] at h;obtain rfl:=Option.some.inj h;exact .inl ⟨beq_iff_eq.mp q,rfl⟩
 | false=>rw [q] at h;exact .inr ⟨fun e=>(by rw [e,beq_self_eq_true] at q;exact tF q),h⟩
theorem St.store (O:C.Ok) {h0:Heap} (W0:Own C N μ h0) {s:Shared} (S:St C N μ l s.heap) {x:Str}{v:Value}{d:AV} (R:RdA N s.heap v d)
  (hk:C.env.kindOf x=some .local∨(C.env.kindOf x=some .cell/\∃ c v₀,C.env.cells.lookup x=some c/\s.heap.IsCell c v₀)) {Q:Unit->Shared->Prop}{E:Value->Shared->Prop}
  (q:∀ h' tk,St C N μ ((x,d)::l) h'->Fz N N s.heap h'->(∀ F0,Pu F0 h0 s.heap->Pu F0 h0 h')->(∀ n c v₀,C.env.cells.lookup n=some c->s.heap.IsCell c v₀->∃ v₁,h'.IsCell c v₁)->Q () { s with heap:=h',toks:=tk }) :
  wpAny (model pg C.w) C.A (storeName C.env x v) Q E s:=by
 rcases hk with hk|⟨hk,c,v₀,hc,hv⟩
 ·refine xEA S.fm.ns fun m n r=>?_
  refine wpAny_storeName_local hk n (fun h' hn hs=>?_) (by rw [O.kind];rfl)
  have nL:=S.wd.fsN _ W0.loc
  have fz:Fz N N s.heap h':=⟨fun a o n e=>hs.extBut a o (fun q=>n (q▸nL)) e,fun Z y=>.inl y⟩
  refine q h' _ ⟨S.wd.frame W0.loc hs hn,⟨⟨_,hn,fun y e he hy=>?_⟩,fun y e he hy=>?_⟩⟩ fz (fun F0 P=>P.write hs W0.locF) fun n c v₀ hc hv=>⟨v₀,hv.sameBut hs fun q=>(W0.cell n c hc).2.1 (q▸W0.loc)⟩
  ·rcases ZJ he with ⟨rfl,rfl⟩|⟨ne,he⟩
   ·exact ⟨v,by simp,R.mono fz⟩
   ·refine xEA (r y e he hy) fun u a b=>?_
    exact ⟨u,by simp [ne,a],b.mono fz⟩
  ·rcases ZJ he with ⟨rfl,rfl⟩|⟨ne,he⟩
   ·rw [hk] at hy;cases hy
   ·refine Zn (S.fm.cl y e he hy) fun c u a b g=>?_
    exact ⟨c,u,a,b.sameBut hs fun q=>(W0.cell y c a).2.1 (q▸W0.loc),g.mono fz⟩
 ·refine VA (W0.cell x c hc) fun nc fc mc f0=>?_
  refine wpAny_storeName_cell O.kind hk hc hv fun h' hn hs=>?_
  have fz:Fz N N s.heap h':=⟨fun a o n e=>hs.extBut a o (fun q=>n (q▸nc)) e,fun Z y=>.inl y⟩
  refine xEA S.fm.ns fun m n r=>?_
  refine q h' s.toks ⟨S.wd.other nc fc mc hs (let ⟨o,e,_⟩:=hn;⟨o,e⟩),⟨⟨m,n.sameBut hs fun q=>fc (q▸W0.loc),fun y e he hy=>?_⟩,fun y e he hy=>?_⟩⟩ fz (fun F0 P=>P.write hs f0) fun n c' v₁ hc' hv'=>?_
  ·rcases ZJ he with ⟨rfl,rfl⟩|⟨ne,he⟩
   ·rw [hk] at hy;cases hy
   ·refine xEA (r y e he hy) fun u a b=>?_
    exact ⟨u,a,b.mono fz⟩
  ·rcases ZJ he with ⟨rfl,rfl⟩|⟨ne,he⟩
   ·exact ⟨c,v,hc,hn,R.mono fz⟩
   ·refine Zn (S.fm.cl y e he hy) fun c' u a b g=>?_
    exact ⟨c',u,a,b.sameBut hs fun q=>ne (W0.inj y x c (q▸a) hc),g.mono fz⟩
  ·by_cases q:c'=c
   ·exact ⟨some v,q▸hn⟩
   ·exact ⟨v₁,hv'.sameBut hs q⟩
end
section
variable {prog:Program}{w:World}{A:Around}
theorem YR {I:Addr}{fp wr:List Addr}{n:Nat}{P:Nat->Value->Prop}{T:Nat->Heap->Prop} (W:Walks prog w A I fp wr n P T):∀ (k i:Nat) (s:Shared) (Q:List Value->Shared->Prop) (E:Value->Shared->Prop),i+k≤n->T i s.heap ->
  (∀ vs h' tk,vs.length=k->(∀ j v,vs[j]?=some v->P (i+j) v)->T (i+k) h'->(∀ b o,b∉wr->s.heap.get? b=some o->h'.get? b=some o)->Q vs { s with heap:=h',toks:=tk })->wpAny (model prog w) A (draw (.ref I) k) Q E s
 | 0,i,s,Q,E,_,hT,q=>wpAny_pure (q [] s.heap s.toks rfl (by simp) hT fun Z Z Z e=>e)
 | k+1,i,s,Q,E,hi,hT,q=>by
  refine wpAny_bind (W.item i s _ _ (by exact oq4 ‹_›) hT fun v h1 t1 Pv T1 K1=>?_)
  refine wpAny_bind (wpAny_holding (YR W k (i+1) _ _ _ (by exact oq3 ‹_›) T1 fun vs h2 t2 hl hP T2 K2=>wpAny_pure ?_))
  refine q (v::vs) h2 t2 (by simp [hl]) (fun j u hj=>?_) (by rw [show i+(k+1)=i+1+k by lia];exact T2) fun b o hb e=>K2 b o hb (K1 b o hb e)
  cases j with
  | zero=>simp at hj;subst hj;exact Pv
  | succ j=>simp at hj;have:=hP j u hj;rwa [show i+1+j=i+(j+1) by lia] at this
theorem UX {l:Addr}{vs:List Value}{s:Shared}{Q:List Value->Shared->Prop}{E:Value->Shared->Prop} (hh:A.handled=none) (hl:s.heap.IsList l vs.toArray)
  (q:∀ h' tk,(∀ b o,s.heap.get? b=some o->h'.get? b=some o)->Q vs { s with heap:=h',toks:=tk }):wpAny (model prog w) A (unpackItems (.ref l) vs.length none) Q E s:=by
 refine xEA (id hl) fun ol hol Z=>?_
 have hne:l≠s.heap.objs.size:=Nat.ne_of_lt (Heap.lt_size hol)
 refine wpAny_bind ?_
 refine wpAny_bind (wpAny_specialOf hl.typeIs F.slot_list_iter.lookup ?_)
 refine wpAny_pure ?_
 refine wpAny_bind (wpAny_holding (wpAny_pyIter_list hl ?_))
 have W:=Walks.list (prog:=prog) (w:=w) hh s.heap.objs.size l hne vs.toArray
 have up:∀ b o,s.heap.get? b=some o->b∉[s.heap.objs.size]:=fun b o e m=>by rw [List.mem_singleton.mp m,get?_size_none] at e;exact noS e
 refine wpAny_bind (wpAny_holding (YR W vs.length 0 _ _ _ (by simp) ⟨⟨_,Heap.get?_push_size _ rfl,rfl,rfl⟩,hl.at fun o e=>Heap.get?_push_of_some _ e⟩ fun us h1 t1 hlen hP T1 K1=>?_))
 have e:us=vs:=by
  have:=list_of_places (items:=vs.toArray) (vs:=us) (by simp [hlen]) (fun j v hj=>by have:=hP j v hj;rwa [Nat.zero_add] at this)
  exact this
 subst e
 rw [if_neg (by simp)]
 refine wpAny_bind (wpAny_holding (W.done _ _ _ (by simpa using T1) fun h2 t2 K2=>?_))
 exact wpAny_pure (q h2 t2 fun b o e=>K2 b o (up b o e) (K1 b o (up b o e) (Heap.get?_push_of_some _ e)))
end
structure Sb (C:Cx) (N:Addr->Prop) (μ:Mu) (l:List (Str×AV)) (F0:List Addr) (h0 h:Heap):Prop where
 st:St C N μ l h
 own:Own C N μ h0
 pu:Pu F0 h0 h
 cel:∀ n c,C.env.cells.lookup n=some c->∃ v₀,h.IsCell c v₀
 sub:∀ a∈C.Fs,a∈F0∨h0.get? a=none
theorem Sb.step {C:Cx}{N:Addr->Prop}{μ:Mu}{l:List (Str×AV)}{F0:List Addr}{h0 h h':Heap} (B:Sb C N μ l F0 h0 h) (P:Pu C.Fs h h'):Sb C N μ l F0 h0 h' where
 st:=B.st.pu P
 own:=B.own
 pu:=⟨fun a o n e=>P.keep a o (fun m=>(B.sub a m).elim n fun q=>by replace e:=Eq.trans (Eq.symm q) e;exact noS e) (B.pu.keep a o n e),fun a o e=>let ⟨_,x⟩:=B.pu.fr a o e;let ⟨sl,y⟩:=P.fr a _ x;⟨sl,y⟩⟩
 cel:=fun n c e=>let ⟨v,x⟩:=B.cel n c e;⟨v,P.cell x⟩
 sub:=B.sub
section
variable {C:Cx}{μ:Mu}{l:List (Str×AV)}
noncomputable def Zp (C:Cx) (x:Str):Prop:=C.env.kindOf x=some .local∨(C.env.kindOf x=some .cell/\(C.env.cells.lookup x).isSome=true)
theorem Sb.store (O:C.Ok) {N:Addr->Prop}{F0:List Addr}{h0:Heap}{s:Shared} (B:Sb C N μ l F0 h0 s.heap) {x:Str}{v:Value}{d:AV} (R:RdA N s.heap v d) (hk:Zp C x)
  {Q:Unit->Shared->Prop}{E:Value->Shared->Prop} (q:∀ h' tk,Sb C N μ ((x,d)::l) F0 h0 h'->Fz N N s.heap h'->Q () { s with heap:=h',toks:=tk }):wpAny (model pg C.w) C.A (storeName C.env x v) Q E s:=by
 refine St.store O B.own B.st R ?_ fun h' tk S' fz P' K'=>q h' tk ⟨S',B.own,P' F0 B.pu,fun n c e=>let ⟨v₀,x⟩:=B.cel n c e;K' n c v₀ e x,B.sub⟩ fz
 rcases hk with hk|⟨hk,hc⟩
 ·exact .inl hk
 ·clear q
  refine xE (Option.isSome_iff_exists.mp hc) fun c hc=>?_
  refine xE (B.cel x c hc) fun v₀ hv=>?_
  exact .inr ⟨hk,c,v₀,hc,hv⟩
noncomputable def Bd (C:Cx) (μ:Mu) (l:List (Str×AV)) (body:List Stmt) (d:AV):Prop :=
 ∀ (F0:List Addr) (h0:Heap) (N:Addr->Prop) (s:Shared),Sb C N μ l F0 h0 s.heap->∀ (Q:Flow->Shared->Prop) (E:Value->Shared->Prop),
  (∀ v h' tk,Pu F0 h0 h'->RdA N h' v d->Q (.ret v) { s with heap:=h',toks:=tk })->wpAny (model pg C.w) C.A (execs body C.env) Q E s
theorem Bd.ret {e:Expr}{pos:Pos}{r:List Stmt}{d:AV} (h:Ev C μ l e d):Bd C μ l (.Return (some e) pos::r) d:=by
 intro F0 h0 N s B Q E q
 refine wpAny_execs_cons (wpAny_Return_some (h N s B.st _ _ fun v h1 t1 P1 R1=>?_))
 exact q v h1 t1 (B.step P1).pu R1
theorem Bd.assign (O:C.Ok) {e:Expr}{x:Str}{p pos:Pos}{r:List Stmt}{a d:AV} (h:Ev C μ l e a) (hk:Zp C x) (hs:swapsWith e (some (.Name x p)) pos.line C.env=pure false)
  (hr:Bd C μ ((x,a)::l) r d):Bd C μ l (.Assign [.Name x p] e pos::r) d:=by
 intro F0 h0 N s B Q E q
 refine wpAny_execs_cons (wpAny_Assign_Name (h N s B.st _ _ fun v h1 t1 P1 R1=>?_) hs)
 refine (B.step P1).store O (s:={ s with heap:=h1,toks:=t1 }) R1 hk fun h2 t2 B2 Z=>?_
 exact hr F0 h0 N _ B2 Q E fun v h3 t3 P3 R3=>q v h3 t3 P3 R3
theorem Bd.comp (O:C.Ok) {elt iter:Expr}{ifs:List Expr}{x y:Str}{px py pos spos:Pos}{sc:Scope}{xs:List AV}{p:AV->Bool}{f:AV->PyData}{r:List Stmt}{d:AV}
  (K:ZD sc C.env.scope.names l x) (hfs:∀ v,foldedSetIterable iter C.env v=pure v) (hit:Itr C μ l iter xs)
  (ht:∀ L,∀ d∈xs,Vr (C.comp sc (Zi C.env sc.names []) L) μ ((x,d)::l) ifs (p d))
  (he:∀ L,∀ d∈xs,p d=true->Ev (C.comp sc (Zi C.env sc.names []) L) μ ((x,d)::l) elt (.dat (f d)))
  (hz:xs.length≤sizeLine) (hk:C.env.kindOf y=some .local)
  (hs:swapsWith (.ListComp elt [⟨.Name x px,iter,ifs,0⟩] sc pos) (some (.Name y py)) spos.line C.env=pure true)
  (hr:Bd C μ ((y,.dat (.list ((xs.filter p).map f)))::l) r d):Bd C μ l (.Assign [.Name y py] (.ListComp elt [⟨.Name x px,iter,ifs,0⟩] sc pos) spos::r) d:=by
 intro F0 h0 N s B Q E q
 have S:=B.st
 refine wpAny_execs_cons ?_
 rw [exec_Assign_Name_used _ _ _ _ hs]
 refine wpAny_bind (wpAny_standAt (wpAny_bind ?_))
 show wpAny _ C.A (do let _ ← comprehension (.ListComp elt [⟨.Name x px,iter,ifs,0⟩] sc pos) sc C.env _ (newList []) false (eval iter C.env) (some (PySem.assign (.Name y py) C.env))) _ _ s
 have hcl:closureFor sc C.env=pure (Zi C.env sc.names []):=Qb fun n hn=>by
  refine xA (K.free n hn) fun k hl=>?_
  refine xE (Option.isSome_iff_exists.mp hl) fun d hd=>?_
  refine QE (S.fm.cl n d hd k) fun c v a Z=>?_
  rw [a];rfl
 have key:∀ (Q':Value->Shared->Prop) (E':Value->Shared->Prop),
   (∀ h' tk,Sb C N μ ((y,.dat (.list ((xs.filter p).map f)))::l) F0 h0 h'->Q' .none { s with heap:=h',toks:=tk }) ->
   wpAny (model pg C.w) C.A (comprehension (.ListComp elt [⟨.Name x px,iter,ifs,0⟩] sc pos) sc C.env (firstIterPos [⟨.Name x px,iter,ifs,0⟩] pos) (newList []) false (eval iter C.env) (some (PySem.assign (.Name y py) C.env))) Q' E' s:=by
  intro Q' E' q'
  refine wpAny_comprehension_free (g:=⟨.Name x px,iter,ifs,0⟩) (gs:=[]) rfl hfs hcl K.kind K.locs (use:=some (PySem.assign (.Name y py) C.env)) ?_
  refine U1 O K hit ht he hz S (RR:=fun acc L r s'=>compPost (model pg C.w) C.A E' (some (PySem.assign (.Name y py) C.env)) Q' acc L r s') fun D L h' tk m' P R hn fL hDL fD Z=>?_
  refine PyProof.Rows.assign_Name ?_
  have B':=B.step P
  have Ll:L≠C.env.locals:=fun q=>by refine ZE (S.wd.fr _ B.own.loc) fun Z Z Z q' Z=>?_;rw [← q,fL] at q';exact noS q'
  have RD:RdA (Un N [L]) h' (.ref D) (.dat (.list ((xs.filter p).map f))):=R
  refine xEA S.fm.ns fun m n rr=>?_
  refine wpAny_storeName_local hk (P.ns n) (fun h2 hn2 hs2=>?_) (by rw [O.kind];rfl)
  refine ⟨m',hn.sameBut hs2 Ll,fun h3 hs3=>?_⟩
  have nL:=S.wd.fsN _ B.own.loc
  have hn3:h3.Ns C.env.locals (fun z=>if z=y then some (.ref D) else m z):=hn2.sameBut hs3 (Ne.symm Ll)
  have k3:∀ a o,a≠C.env.locals->a≠L->h'.get? a=some o->h3.get? a=some o:=fun a o n1 n2 e=>hs3.extBut a o n2 (hs2.extBut a o n1 e)
  have fzL:Fz (Un N [L]) N h' h3:=⟨fun a o n e=>k3 a o (fun q=>n (.inl (q▸nL))) (fun q=>n (.inr (by simp [q]))) e,fun a n=>.inl (.inl n)⟩
  have fz0:Fz N N s.heap h3:=⟨fun a o n e=>k3 a o (fun q=>n (q▸nL)) (fun q=>by rw [q,fL] at e;exact noS e) (P.keep a o (fun m=>n (S.wd.fsN a m)) e),fun Z x=>.inl x⟩
  have P3:∀ F0,Pu F0 h0 h'->Pu F0 h0 h3:=fun F0 p=>(p.write hs2 B.own.locF).ext (wr:=[L]) (fun b o nb e=>hs3.extBut b o (fun q=>nb (by simp [q])) e) fun b mb=>by
   rw [List.mem_singleton.mp mb]
   cases q:h0.get? L with
   | none=>rfl
   | some o=>refine xE (B.pu.fr L o q) fun Z e=>?_;replace e:=Eq.trans (Eq.symm fL) e;exact noS e
  have ne:∀ b o,s.heap.get? b=some o->b≠L:=fun b o e q=>by rw [q,fL] at e;exact noS e
  have W3:Wd C.w C.h₁ C.Fs N μ h3:=by
   have W:=S.wd.pu P
   (refine xE (id hn3) fun oL Zr0=>?_;refine Zn Zr0 fun es ep eL dL Z=>?_;clear Zr0)
   refine ⟨fun b o e=>k3 b o (fun q=>W.notN e (q▸nL)) (ne b o (S.wd.stays b o e)) (W.stays b o e),S.wd.nlo,fun a n=>?_,S.wd.fsN,fun a ma=>?_,fun a mo e=>?_,S.wd.mm⟩
   ·clear K hfs ht he hk hs hr
    by_cases q:a=C.env.locals
    ·exact ⟨oL,q▸eL⟩
    ·refine xE (S.wd.nhi a n) fun o e=>?_
     refine xE (P.fr a o e) fun Z e'=>?_
     exact ⟨_,k3 a _ q (ne a o e) e'⟩
   ·clear K hfs ht he hk hs hr
    by_cases q:a=C.env.locals
    ·exact ⟨oL,es,ep,q▸eL,dL⟩
    ·refine ZE (S.wd.fr a ma) fun o es' n' e d'=>?_
     refine xE (P.fr a o e) fun Z e'=>?_
     exact ⟨_,es',n',k3 a _ q (ne a o e) e',d'⟩
   ·clear K hfs ht he hk hs hr
    refine ZL (S.wd.mu a mo e) fun n1 f1 o ho ro=>?_
    exact ⟨n1,f1,o,k3 a o (fun q=>f1 (q▸B.own.loc)) (ne a o ho) (P.keep a o f1 ho),ro.mono fz0⟩
  refine q' h3 _ ⟨⟨W3,⟨⟨_,hn3,fun z e hz' hkz=>?_⟩,fun z e hz' hkz=>?_⟩⟩,B.own,P3 F0 B'.pu,fun n c hc=>?_,B.sub⟩
  ·clear K hfs ht he hk hs hr q
   rcases ZJ hz' with ⟨rfl,rfl⟩|⟨nz,hz'⟩
   ·exact ⟨.ref D,by simp,RD.mono fzL⟩
   ·refine xEA (rr z e hz' hkz) fun u a b=>?_
    exact ⟨u,by simp [nz,a],b.mono fz0⟩
  ·clear K hfs ht he hs hr
   rcases ZJ hz' with ⟨rfl,rfl⟩|⟨nz,hz'⟩
   ·clear q
    rw [hk] at hkz;cases hkz
   ·clear hk
    refine Zn (S.fm.cl z e hz' hkz) fun c u a b g=>?_
    have hcl':c≠C.env.locals:=fun q=>(B.own.cell z c a).2.1 (q▸B.own.loc)
    refine xEA (id b) fun oc ec dc=>?_
    refine xE (P.fr c oc ec) fun Z ec'=>?_
    exact ⟨c,u,a,⟨_,k3 c _ hcl' (ne c oc ec) ec',dc⟩,g.mono fz0⟩
  ·clear K hfs ht he hk hs hr
   refine QE (B.cel n c hc) fun v₀ oc ec dc=>?_
   refine xE (P.fr c oc ec) fun Z ec'=>?_
   exact ⟨v₀,_,k3 c _ (fun q=>(B.own.cell n c hc).2.1 (q▸B.own.loc)) (ne c oc ec) ec',dc⟩
 refine wpAny_bind (key _ _ fun h' tk B'=>wpAny_pure ?_)
 exact wpAny_pure (hr F0 h0 N _ B' Q E fun v h3 t3 P3 R3=>q v h3 t3 P3 R3)
theorem KT {α β:Type}:∀ {xs:List α}{ys:List β},xs.length=ys.length->xs.reverse.zip ys.reverse=(xs.zip ys).reverse
 | [],[],_=>rfl
 | x::xs,y::ys,h=>by
  have h':xs.length=ys.length:=by simpa using h
  rw [List.reverse_cons,List.reverse_cons,List.zip_append (by simpa using h'),KT h']
  simp
noncomputable def nm?:Expr->Option (Str×Pos)
 | .Name x p=>some (x,p)
 | _=>none
theorem nm?_some {e:Expr}{q:Str×Pos} (h:nm? e=some q):e=.Name q.1 q.2:=by
 cases e <;> first|exact noS h|(obtain rfl:=Option.some.inj h;rfl)
noncomputable def W_:List Expr->Option (List Str)
 | []=>some []
 | e::r=>(nm? e).bind fun q=>(W_ r).map (q.1::·)
theorem Qj {env:Env}:∀ {ts:List Expr}{xs:List Str},W_ ts=some xs->(assignEach ts env).length=xs.length/\(assignEach ts env).findIdx? (·.1)=Option.none/\∃ ps:List Pos,ps.length=xs.length/\(assignEach ts env).map (·.2)=(xs.zip ps).map fun q=>PySem.assign (.Name q.1 q.2) env
 | [],xs,h=>by obtain rfl:=Option.some.inj h;exact ⟨rfl,rfl,[],rfl,rfl⟩
 | e::r,xs,h=>by
  (refine xEA (Option.bind_eq_some_iff.mp h) fun Z0 hq h=>?_;rcases Z0 with ⟨x,p⟩)
  have h:(W_ r).map (x::·)=some xs:=h
  (refine xEA (Option.map_eq_some_iff.mp h) fun ys h2 Z0=>?_;subst Z0)
  refine ZL (Qj (env:=env) h2) fun a b ps c d=>?_
  rw [nm?_some hq]
  have e:assignEach (.Name x p::r) env=(false,PySem.assign (.Name x p) env)::assignEach r env:=rfl
  refine ⟨by rw [e,List.length_cons,a];rfl,?_,p::ps,congrArg (·+1) c,?_⟩
  ·rw [e,List.findIdx?_cons,b];rfl
  ·rw [e,List.map_cons,d];rfl
theorem Sb.storeAll (O:C.Ok) {N:Addr->Prop}{F0:List Addr}{h0:Heap}:∀ (xs:List Str) (fs:List (Value->Sem Unit)) (vs:List Value) (ds:List AV) (l:List (Str×AV)) (s:Shared) (Q:Unit->Shared->Prop) (E:Value->Shared->Prop),
  Sb C N μ l F0 h0 s.heap->Zr N s.heap vs ds->xs.length=ds.length->fs.length=xs.length->(∀ x∈xs,Zp C x) ->
  (∀ (i:Nat) (x:Str) (f:Value->Sem Unit),xs[i]?=some x->fs[i]?=some f->∀ (v:Value) (s:Shared) (Q:Unit->Shared->Prop),wpAny (model pg C.w) C.A (storeName C.env x v) Q E s->wpAny (model pg C.w) C.A (f v) Q E s) ->
  (∀ h' tk,Sb C N μ ((xs.zip ds).reverse++l) F0 h0 h'->Q () { s with heap:=h',toks:=tk })->wpAny (model pg C.w) C.A (assignInOrder fs vs) Q E s
 | [],fs,vs,ds,l,s,Q,E,B,R,hl,hf,_,_,q=>by
  cases fs with
  | nil=>exact wpAny_pure (q s.heap s.toks (by exact B))
  | cons=>cases hf
 | x::xs,fs,vs,ds,l,s,Q,E,B,R,hl,hf,hk,hs,q=>by
  cases fs with
  | nil=>cases hf
  | cons f fs =>
   cases R with
   | nil=>cases hl
   | @cons v vs d ds Rv Rs =>
    refine wpAny_bind (wpAny_holding (hs 0 x f rfl rfl v s _ (B.store O Rv (hk x (by simp)) fun h1 t1 B1 fz=>?_)))
    refine Sb.storeAll O xs fs vs ds _ _ Q E B1 (Rs.mono fz) (by simpa using hl) (by simpa using hf) (fun y hy=>hk y (by simp [hy])) (fun i y g hy hg=>hs (i+1) y g (by simpa using hy) (by simpa using hg)) fun h2 t2 B2=>?_
    refine q h2 t2 ?_
    simpa using B2
theorem Bd.unpack (O:C.Ok) {ts:List Expr}{k:Nat}{tp pos:Pos}{e:Expr}{xs:List Str}{ds:List PyData}{r:List Stmt}{d:AV} (ht:W_ ts=some xs) (h:Ev C μ l e (.dat (.list ds))) (hl:xs.length=ds.length)
  (hk:∀ x∈xs,Zp C x) (hs:swapsWithSole [.Tuple ts k tp] e pos.line C.env=pure false) (hw:swappedStores [.Tuple ts k tp] e C.env=pure Option.none)
  (hr:Bd C μ ((xs.zip (ds.map .dat)).reverse++l) r d):Bd C μ l (.Assign [.Tuple ts k tp] e pos::r) d:=by
 intro F0 h0 N s B Q E q
 refine wpAny_execs_cons (Assign_Tuple (h N s B.st _ _ fun v h1 t1 P1 R1=>?_) hs hw)
 (refine Zf (Rd.listE R1) fun a vs Z0 na la ra za=>?_;subst Z0)
 have B1:=B.step P1
 refine ZL (Qj (env:=C.env) ht) fun e1 e2 ps e3 e4=>?_
 show wpAny _ _ (do standAt tp;PySem.unpack (.ref a) (assignEach ts C.env)) _ _ _
 refine wpAny_bind (wpAny_standAt ?_)
 unfold PySem.unpack
 rw [e2,e1,hl,← ra.length]
 refine wpAny_bind (wpAny_holding (UX O.handled la fun h2 t2 K2=>?_))
 have P2:Pu C.Fs h1 h2:=.of_keeps K2
 rw [e4]
 refine Sb.storeAll O xs _ vs (ds.map .dat) l _ _ E (B1.step P2) ((ra.mono (P2.fz B1.st.wd.fsN)).datsA) (by simpa using hl) (by simp [e3]) hk (fun i x f hx hf v s Q hQ=>?_) fun h3 t3 B3=>?_
 ·clear h hs hw hr q
  replace hf:=Eq.trans (Eq.symm (List.getElem?_map)) hf
  (refine xEA (Option.map_eq_some_iff.mp hf) fun Z0 hz Z1=>?_;rcases Z0 with ⟨y,p⟩;subst Z1)
  have:y=x:=by
   have:=List.getElem?_zip_eq_some.mp hz
   rw [hx] at this;exact (Option.some.inj this.1).symm
  subst this
  exact PyProof.Rows.assign_Name hQ
 ·exact hr F0 h0 N _ B3 Q E fun v h4 t4 P4 R4=>q v h4 t4 P4 R4
theorem Bd.swapped (O:C.Ok) {ts:List Expr}{k:Nat}{tp pos:Pos}{e:Expr}{xs:List Str}{ds:List PyData}{r:List Stmt}{d:AV} (h:Ev C μ l e (.dat (.tuple ds))) (hl:xs.length=ds.length)
  (hk:∀ x∈xs,Zp C x) (hs:swapsWithSole [.Tuple ts k tp] e pos.line C.env=pure false) (hw:swappedStores [.Tuple ts k tp] e C.env=pure (some xs))
  (hr:Bd C μ ((xs.zip (ds.map .dat))++l) r d):Bd C μ l (.Assign [.Tuple ts k tp] e pos::r) d:=by
 intro F0 h0 N s B Q E q
 refine wpAny_execs_cons (Assign_Tuple_swapped (h N s B.st _ _ fun v h1 t1 P1 R1=>?_) hs hw)
 (refine Zf (Rd.tupleE R1) fun a vs Z0 na la ra za=>?_;subst Z0)
 have B1:=B.step P1
 have e0:xs.length=vs.toArray.size:=by rw [List.size_toArray,ra.length,hl]
 rw [e0]
 refine wpAny_unpackItems_tuple O.handled la fun h2 K2=>?_
 have P2:Pu C.Fs h1 h2:=.of_keeps fun b o e=>K2 b o (fun q=>by rw [q,get?_size_none] at e;exact noS e) e
 have rs:Zr N h2 vs.reverse ((ds.map AV.dat).reverse):=by
  have:=(ra.mono (P2.fz B1.st.wd.fsN)).reverse.datsA
  rwa [← List.map_reverse]
 refine Sb.storeAll O xs.reverse _ _ _ l _ _ E (B1.step P2) (by simpa using rs) (by simpa using hl) (by simp) (fun x hx=>hk x (by simpa using hx)) (fun i x f hx hf v s Q hQ=>?_) fun h3 t3 B3=>?_
 ·clear h hs hw hr q
  rw [List.getElem?_map,hx] at hf
  obtain rfl:=Option.some.inj hf
  exact wpAny_bindName hQ
 ·refine hr F0 h0 N _ ?_ Q E fun v h4 t4 P4 R4=>q v h4 t4 P4 R4
  have ez:(xs.reverse.zip (ds.map AV.dat).reverse).reverse=xs.zip (ds.map AV.dat):=by
   rw [KT (by simpa using hl),List.reverse_reverse]
  rw [ez] at B3
  exact B3
end
structure AOk (A:Around) (envs:List Env) (k:Nat):Prop where
 frames:A.frames=some envs
 efr:∀ e∈envs,e.scope.kind≠.module/\∃ L,e.frame=some L
 depth:A.depth+k≤900
 units:A.units+20 * k≤9000
 handled:A.handled=none
theorem Cx.Ok.aok {C:Cx} (O:C.Ok) {k:Nat} (hk:k≤C.k):AOk C.A C.envs k :=
 ⟨O.frames,O.efr,by have:=O.depth;lia,by have:=O.units;lia,O.handled⟩
noncomputable abbrev Qv (envs:List Env):List Addr:=envs.filterMap (·.frame)
noncomputable def Zt (w:World) (h₁:Heap) (k:Nat) (μ:Mu) (f:Addr) (ds:List AV) (d:AV):Prop :=
 ∀ (A:Around) (envs:List Env) (N:Addr->Prop) (s:Shared) (vs:List Value),AOk A envs k->Wd w h₁ (Qv envs) N μ s.heap->Zr N s.heap vs ds->∀ (R:Result->Shared->Prop),
  (∀ v h' tk,Pu (Qv envs) s.heap h'->RdA N h' v d->R (.ok (.ret v)) { s with heap:=h',toks:=tk })->codeAny (model pg w) A (.call (.ref f) ⟨vs,[]⟩) R s
theorem Zt.fn {C:Cx} (O:C.Ok) {μ:Mu}{k:Nat}{f:Addr}{ds:List AV}{d:AV} (h:Zt C.w C.h₁ k μ f ds d) (hk:k≤C.k):Fn C μ (.ref f) ds d :=
 fun N s vs W R Z Z q=>wpAny_call (h C.A C.envs N s vs (O.aok hk) W R _ fun v h' tk P r=>q v h' tk P r)
theorem J5 {kindOf:Str->Option NameKind}{x:Str}:∀ (binds:List (Str×Value)) (m:Str->Option Value),x∉binds.map (·.1)->bindL kindOf binds m x=m x
 | [],_,_=>rfl
 | (n,v)::r,m,h=>by
  simp only [List.map_cons,List.mem_cons,not_or] at h
  unfold bindL
  refine Eq.trans (J5 r _ h.2) ?_
  split
  ·simp [h.1]
  ·rfl
theorem JJ {kindOf:Str->Option NameKind}{x:Str}{v:Value}:∀ (binds:List (Str×Value)) (m:Str->Option Value),(binds.map (·.1)).Nodup->binds.lookup x=some v->kindOf x=some .local->bindL kindOf binds m x=some v
 | [],_,_,h,_=>by exact noS h
 | (n,u)::r,m,hn,h,hk=>by
  rw [List.map_cons,List.nodup_cons] at hn
  replace h:=Eq.trans (Eq.symm List.lookup_cons) h
  unfold bindL
  cases q:x == n with
  | true =>
   rw [q] at h;obtain rfl:=Option.some.inj h
   have e:=beq_iff_eq.mp q
   subst e
   rw [J5 r _ hn.1,if_pos hk];simp
  | false=>rw [q] at h;exact JJ r _ hn.2 h hk
theorem Ka {kindOf:Str->Option NameKind}{x:Str}:∀ (binds:List (Str×Value)) (m:Str->Option Value),x∉binds.map (·.1)->bindC kindOf binds m x=m x
 | [],_,_=>rfl
 | (n,v)::r,m,h=>by
  simp only [List.map_cons,List.mem_cons,not_or] at h
  unfold bindC
  refine Eq.trans (Ka r _ h.2) ?_
  split
  ·rfl
  ·simp [h.1]
theorem JK {kindOf:Str->Option NameKind}{x:Str}{v:Value}:∀ (binds:List (Str×Value)) (m:Str->Option Value),(binds.map (·.1)).Nodup->binds.lookup x=some v->kindOf x=some .cell->bindC kindOf binds m x=some v
 | [],_,_,h,_=>by exact noS h
 | (n,u)::r,m,hn,h,hk=>by
  rw [List.map_cons,List.nodup_cons] at hn
  replace h:=Eq.trans (Eq.symm List.lookup_cons) h
  unfold bindC
  cases q:x == n with
  | true =>
   rw [q] at h;obtain rfl:=Option.some.inj h
   have e:=beq_iff_eq.mp q
   subst e
   rw [Ka r _ hn.1,if_neg (by rw [hk];decide)];simp
  | false=>rw [q] at h;exact JK r _ hn.2 h hk
theorem WB {N:Addr->Prop}{h:Heap}{x:Str}{d:AV}:∀ (ps:List Str) {vs:List Value}{ds:List AV},Zr N h vs ds->(ps.zip ds).lookup x=some d->∃ v,(ps.zip vs).lookup x=some v/\RdA N h v d
 | [],_,_,_,e=>by simp at e
 | p::ps,_,_,.nil,e=>by simp at e
 | p::ps,_,_,.cons (v:=v) (vs:=vs) a b,e=>by
  rw [List.zip_cons_cons,List.lookup_cons] at e ⊢
  cases q:x == p with
  | true=>rw [q] at e;obtain rfl:=Option.some.inj e;exact ⟨v,rfl,a⟩
  | false=>rw [q] at e;exact WB ps b e
theorem V5 {β:Type}:∀ {ps:List Str}{vs:List β},ps.length=vs.length->(ps.zip vs).map (·.1)=ps
 | [],[],_=>rfl
 | p::ps,v::vs,h=>by simp [V5 (ps:=ps) (vs:=vs) (by exact Nat.succ.inj h)]
structure OR (h₁:Heap) (f:Addr) (fd:FuncData) (body:List Stmt) (ps:List Str):Prop where
 at_:∃ o,h₁.get? f=some o/\o.data=.func fd
 code:h₁.CodeRec fd.code fd.qualname
 body:fd.body=.stmts body
 clo:fd.closure=[]
 glob:fd.globals=mainGlobals
 bui:fd.builtins=builtinsNs
 nd:ps.Nodup
 kind:∀ p∈ps,fd.scope.names.lookup p=some .local∨fd.scope.names.lookup p=some .cell
 cells:((cellsFrom 0 fd.scope.names []).map (·.1)).Nodup
 co:fd.scope.isCoroutine=false
 gen:fd.scope.isGenerator=false
 sk:fd.scope.kind=.function
 bind:∀ vs:List Value,vs.length=ps.length->bindArgs fd ⟨vs,[]⟩=pure (ps.zip vs)
structure Frm (w:World) (h₁:Heap) (k:Nat) (fd:FuncData) (C:Cx):Prop where
 ok:C.Ok
 w:C.w=w
 h₁:C.h₁=h₁
 k:C.k=k
 sc:C.env.scope=fd.scope
 cells:∀ n,fd.scope.names.lookup n=some .cell->(C.env.cells.lookup n).isSome=true
theorem YJ {w:World}{h₁:Heap}{k:Nat}{μ:Mu}{f:Addr}{fd:FuncData}{body:List Stmt}{ps:List Str}{ds:List AV} (nms:Nms h₁) (nd:ps.Nodup) (kcells:((cellsFrom 0 fd.scope.names []).map (·.1)).Nodup) (sk:fd.scope.kind=.function) (glob:fd.globals=mainGlobals) (bui:fd.builtins=builtinsNs)
  {A:Around}{envs:List Env}{N:Addr->Prop}{s s₁:Shared}{vs:List Value} (AO:AOk A envs (k+1)) (W:Wd w h₁ (Qv envs) N μ s.heap) (R:Zr N s.heap vs ds) (hl:ps.length=ds.length) {RR:Result->Shared->Prop}
  (X:InCallC s (callEnvC fd s.heap.objs.size f).locals (bindL (callEnvC fd s.heap.objs.size f).kindOf (ps.zip vs) fun Z=>none) (callEnvC fd s.heap.objs.size f).cells (bindC (callEnvC fd s.heap.objs.size f).kindOf (ps.zip vs) fun Z=>none) s₁)
  (q:∀ (C:Cx) (N':Addr->Prop) (h:Heap) (tk:Nat),Frm w h₁ k fd C->C.A=A.deeper C.env->C.envs=C.env::envs->Sb C N' μ (ps.zip ds) (Qv envs) s.heap h->(∀ a,N a->N' a)->(∀ a,N' a->N a∨s.heap.get? a=none)->C.env.frame=some C.env.locals ->
   wpAny (model pg w) C.A (execs body C.env) (fun f s'=>RR (.ok (.ret (match f with|.ret v=>v|_=>.none))) s')
    (fun e s'=>wpAny (model pg w) C.A (leaving C.env e) (fun Z s''=>RR (.error e) s'') (fun e' s''=>RR (.error e') s'') s') { s with heap:=h,toks:=tk }) :
  wpAny (model pg w) (A.deeper (callEnvC fd s.heap.objs.size f)) (execs body (callEnvC fd s.heap.objs.size f)) (fun f s'=>RR (.ok (.ret (match f with|.ret v=>v|_=>.none))) s')
    (fun e s'=>wpAny (model pg w) (A.deeper (callEnvC fd s.heap.objs.size f)) (leaving (callEnvC fd s.heap.objs.size f) e) (fun Z s''=>RR (.error e) s'') (fun e' s''=>RR (.error e') s'') s') s₁:=by
 have hlv:ps.length=vs.length:=by rw [hl,R.length]
 (refine xEE X.toInCall.same fun h tk Z0=>?_;subst Z0)
 let env:=callEnvC fd s.heap.objs.size f
 let C:Cx:={ w:=w,h₁:=h₁,A:=A.deeper env,env:=env,envs:=env::envs,k:=k }
 let N':Addr->Prop:=Un N (s.heap.objs.size::env.cells.map (·.2))
 have hLn:s.heap.get? s.heap.objs.size=none:=get?_size_none _
 have cellsNd:(env.cells.map (·.1)).Nodup:=by
  have:env.cells.map (·.1)=(cellsFrom 0 fd.scope.names []).map (·.1):=cellsFrom_names fd.scope.names _ _ [] [] rfl
  rw [this];exact kcells
 have memCell:∀ n c,(n,c)∈env.cells->env.cells.lookup n=some c:=fun n c hm=>lookup_of_mem_nodup cellsNd hm
 have cellNone:∀ n c,(n,c)∈env.cells->s.heap.get? c=none:=fun n c hm=>Heap.get?_none_of_le (Nat.le_of_lt (X.above n c hm))
 have newF:∀ a∈s.heap.objs.size::env.cells.map (·.2),s.heap.get? a=none:=fun a ha=>by
  rcases List.mem_cons.mp ha with rfl|ha
  ·exact hLn
  ·(refine xEA (List.mem_map.mp ha) fun Z0 hm Z1=>?_;rcases Z0 with ⟨n,c⟩;subst Z1)
   exact cellNone n c hm
 have hns:h.Ns s.heap.objs.size (bindL env.kindOf (ps.zip vs) fun Z=>none):=X.toInCall.ns
 have hcell:∀ n c,env.cells.lookup n=some c->h.IsCell c (bindC env.kindOf (ps.zip vs) (fun Z=>none) n):=X.cell
 have keep:∀ b o,s.heap.get? b=some o->h.get? b=some o:=X.toInCall.keep
 have P:Pu (Qv envs) s.heap h:=.of_keeps keep
 have fz:Fz N N' s.heap h:=Fz.un keep newF
 have W':Wd w h₁ (Qv envs) N' μ h:=W.grow P newF fun a ha=>by
  rcases List.mem_cons.mp ha with rfl|ha
  ·(refine ZE hns fun o Z Z e Z=>?_;clear hns);exact ⟨o,e⟩
  ·(refine xEA (List.mem_map.mp ha) fun Z0 hm Z1=>?_;rcases Z0 with ⟨n,c⟩;subst Z1)
   refine xEA (hcell n c (memCell n c hm)) fun o e Z=>?_;exact ⟨o,e⟩
 have R':=R.mono fz
 have hFs:C.Fs=s.heap.objs.size::Qv envs:=rfl
 have alive:∀ a∈Qv envs,∃ o,s.heap.get? a=some o:=fun a ha=>let ⟨o,_,_,e,_⟩:=W.fr a ha;⟨o,e⟩
 have WC:Wd C.w C.h₁ C.Fs N' μ h:=by
  refine ⟨W'.stays,W'.nlo,W'.nhi,fun a ha=>?_,fun a ha=>?_,fun a m e=>?_,W'.mm⟩
  ·rw [hFs] at ha
   rcases List.mem_cons.mp ha with rfl|ha
   ·exact .inr (by exact List.mem_cons_self)
   ·exact W'.fsN a ha
  ·rw [hFs] at ha
   rcases List.mem_cons.mp ha with rfl|ha
   ·(refine xE hns fun o Zr0=>?_;refine Zn Zr0 fun es n e d Z=>?_;clear Zr0;clear hns);exact ⟨o,es,n,e,d⟩
   ·exact W'.fr a ha
  ·refine ZL (W'.mu a m e) fun n1 f1 o e1 r1=>?_
   refine ⟨n1,fun ha=>?_,o,e1,r1⟩
   rw [hFs] at ha
   rcases List.mem_cons.mp ha with rfl|ha
   ·refine ZL (W.mu _ m e) fun Z Z o' e' Z=>?_;exact noS (Eq.trans (Eq.symm hLn) e')
   ·exact f1 ha
 have OC:C.Ok:={
  nms:=nms
  frames:=by show A.frames.map _=_;rw [AO.frames];rfl
  efr:=fun e he=>by
   rcases List.mem_cons.mp he with rfl|he
   ·exact ⟨by show fd.scope.kind≠.module;rw [sk];decide,_,rfl⟩
   ·exact AO.efr e he
  depth:=by have:=AO.depth;show A.depth+1+k≤900;exact oq3 ‹_›
  units:=by have:=AO.units;show A.units+3+20 * k≤9000;omega
  handled:=AO.handled
  kind:=sk
  glob:=glob
  bui:=bui }
 refine q C N' h tk ⟨OC,rfl,rfl,rfl,rfl,fun n hn=>cellsFrom_some _ _ _ (.inl hn)⟩ rfl rfl ⟨⟨WC,⟨⟨_,hns,fun x d hx hk=>?_⟩,fun x d hx hk=>?_⟩⟩,⟨?_,hLn,fun n c hc=>?_,fun n n' c h1 h2=>?_⟩,P,fun n c hc=>⟨_,hcell n c hc⟩,fun a ha=>?_⟩ (fun a n=>.inl n) (fun a n=>n.elim .inl fun m=>.inr (newF a m)) rfl
 ·refine xEA (WB ps R' hx) fun v hv r=>?_
  exact ⟨v,JJ _ _ (by rw [V5 hlv];exact nd) hv hk,r⟩
 ·refine xEA (WB ps R' hx) fun v hv r=>?_
  refine xE (Option.isSome_iff_exists.mp (cellsFrom_some (x:=x) fd.scope.names (s.heap.objs.size+1) [] (.inl hk))) fun c hc=>?_
  have:=hcell x c hc
  rw [JK _ _ (by rw [V5 hlv];exact nd) hv hk] at this
  exact ⟨c,v,hc,this,r⟩
 ·rw [hFs];exact List.mem_cons_self
 ·have hm:=ZV hc
  have hn:=cellNone n c hm
  refine ⟨.inr (List.mem_cons_of_mem _ (List.mem_map.mpr ⟨_,hm,rfl⟩)),fun ha=>?_,?_,hn⟩
  ·rw [hFs] at ha
   rcases List.mem_cons.mp ha with e|ha
   ·exact absurd (X.above n c hm) (by rw [e];exact Nat.lt_irrefl _)
   ·refine xE (alive c ha) fun o e=>?_;exact noS (Eq.trans (Eq.symm hn) e)
  ·cases q:μ c with
   | none=>rfl
   | some m=>refine ZL (W.mu c m q) fun Z Z o e Z=>?_;exact noS (Eq.trans (Eq.symm hn) e)
 ·exact name_of_addr X.apart (ZV h1) (ZV h2)
 ·rw [hFs] at ha
  rcases List.mem_cons.mp ha with rfl|ha
  ·exact .inr hLn
  ·exact .inl ha
theorem DG {w:World}{h₁:Heap}{k:Nat}{μ:Mu}{f:Addr}{fd:FuncData}{body:List Stmt}{ps:List Str}{ds:List AV} (nms:Nms h₁) (FO:OR h₁ f fd body ps)
  {A:Around}{envs:List Env}{N:Addr->Prop}{s:Shared}{vs:List Value} (AO:AOk A envs (k+1)) (W:Wd w h₁ (Qv envs) N μ s.heap) (R:Zr N s.heap vs ds) (hl:ps.length=ds.length) {RR:Result->Shared->Prop}
  (q:∀ (C:Cx) (N':Addr->Prop) (h:Heap) (tk:Nat),Frm w h₁ k fd C->C.A=A.deeper C.env->C.envs=C.env::envs->Sb C N' μ (ps.zip ds) (Qv envs) s.heap h->(∀ a,N a->N' a)->(∀ a,N' a->N a∨s.heap.get? a=none)->C.env.frame=some C.env.locals ->
   wpAny (model pg w) C.A (execs body C.env) (fun f s'=>RR (.ok (.ret (match f with|.ret v=>v|_=>.none))) s')
    (fun e s'=>wpAny (model pg w) C.A (leaving C.env e) (fun Z s''=>RR (.error e) s'') (fun e' s''=>RR (.error e') s'') s') { s with heap:=h,toks:=tk }) :
  codeAny (model pg w) A (.call (.ref f) ⟨vs,[]⟩) RR s:=by
 refine xEA FO.at_ fun o ho hd=>?_
 have hlv:ps.length=vs.length:=by rw [hl,R.length]
 have hroom:A.depth < recursionLimit:=by have:=AO.depth;show A.depth < 1000;exact ra ‹_› rfl
 refine codeAny_call_cells (binds:=ps.zip vs) hroom (W.stays f o ho) hd (nms.nolimit.keeps W.stays) (FO.code.keeps W.stays) FO.body (FO.bind vs hlv.symm) FO.clo (fun x hx=>?_) (fun s₁ X=>?_) FO.co FO.gen FO.sk
 ·have hm:x.1∈ps:=by have:=List.mem_map_of_mem (f:=(·.1)) hx;rwa [V5 hlv] at this
  rcases FO.kind x.1 hm with h|h
  ·exact .inl h
  ·exact .inr ⟨h,cellsFrom_some _ _ _ (.inl h)⟩
 exact YJ nms FO.nd FO.cells FO.sk FO.glob FO.bui AO W R hl X q
theorem Zt.of_body {w:World}{h₁:Heap}{k:Nat}{μ:Mu}{f:Addr}{fd:FuncData}{body:List Stmt}{ps:List Str}{ds:List AV}{d:AV} (nms:Nms h₁) (FO:OR h₁ f fd body ps) (hl:ps.length=ds.length)
  (hB:∀ C:Cx,Frm w h₁ k fd C->Bd C μ (ps.zip ds) body d):Zt w h₁ (k+1) μ f ds d:=by
 intro A envs N s vs AO W R RR q
 refine DG nms FO AO W R hl fun C N' h tk F hA hE B sub Z Z=>?_
 have:=hB C F (Qv envs) s.heap N' { s with heap:=h,toks:=tk } B (fun f s'=>RR (.ok (.ret (match f with|.ret v=>v|_=>.none))) s') (fun e s'=>wpAny (model pg w) C.A (leaving C.env e) (fun Z s''=>RR (.error e) s'') (fun e' s''=>RR (.error e') s'') s')
  fun v h' tk' P r=>q v h' tk' P (r.weak sub)
 rw [← F.w];rw [← F.w] at this;exact this
section
variable {C:Cx}{μ:Mu}
theorem Zr.inv1 {N:Addr->Prop}{h:Heap}{vs:List Value}{a:AV} (r:Zr N h vs [a]):∃ v,vs=[v]/\RdA N h v a:=by
 cases r with|cons x y=>cases y;exact ⟨_,rfl,x⟩
theorem Zr.inv2 {N:Addr->Prop}{h:Heap}{vs:List Value}{a b:AV} (r:Zr N h vs [a,b]):∃ v u,vs=[v,u]/\RdA N h v a/\RdA N h u b:=by
 cases r with|cons x y=>(refine xEA y.inv1 fun u Z0 z=>?_;subst Z0);exact ⟨_,u,rfl,x,z⟩
theorem Zr.inv3 {N:Addr->Prop}{h:Heap}{vs:List Value}{a b c:AV} (r:Zr N h vs [a,b,c]):∃ v u x,vs=[v,u,x]/\RdA N h v a/\RdA N h u b/\RdA N h x c:=by
 cases r with|cons x y=>(refine Zn y.inv2 fun u z Z0 p q=>?_;subst Z0);exact ⟨_,u,z,rfl,x,p,q⟩
theorem Yg (xs:List PyData):Fn C μ (.builtin "len") [.dat (.list xs)] (.dat (.int xs.length)):=by
 intro N s vs W R Q E q
 (refine xEA R.inv1 fun v Z0 r=>?_;subst Z0)
 (refine Zf (Rd.listE r) fun a us Z0 na la ra za=>?_;subst Z0)
 refine len_list la (by rw [List.size_toArray,ra.length];rw [sizeLine_eq] at za;lia) ?_
 rw [List.size_toArray,ra.length]
 exact q _ _ _ (.refl _ _) (.int _ _)
set_option tactic.hygienic true in
theorem HU (O:C.Ok) (a b:Int):Fn C μ (.builtin "max") [.dat (.int a),.dat (.int b)] (.dat (.int (if b > a then b else a))):=by
 intro N s vs W R Q E q
 (refine Zn R.inv2 fun v u Z0 r1 r2=>?_;subst Z0)
 obtain ⟨_,rfl⟩:=Rd.invI r1;obtain ⟨_,rfl⟩:=Rd.invI r2
 refine max_two_ints O.handled fun h' tk k=>?_
 split
 ·rename_i hc
  rw [if_pos hc] at q
  exact q _ _ _ (.of_keeps k) (.int _ _)
 ·rename_i hc
  rw [if_neg hc] at q
  exact q _ _ _ (.of_keeps k) (.int _ _)
theorem Wi (xs:List PyData):Fn C μ (.type "list") [.dat (.tuple xs)] (.dat (.list xs)):=by
 intro N s vs W R Q E q
 (refine xEA R.inv1 fun v Z0 r=>?_;subst Z0)
 (refine Zf (Rd.tupleE r) fun a us Z0 na la ra za=>?_;subst Z0)
 refine VE (id la) fun o ho hc n hd=>?_
 refine call_list_seq a (.inr rfl) ho hc hd (fun h' c' k e=>q _ _ s.toks (.of_keeps k) ?_) (by rw [List.size_toArray,ra.length];exact za)
 refine .list e W.freshN rfl rfl ?_ za rfl
 exact ra.mono (Pu.fz (.of_keeps k) W.fsN)
theorem Rds.strs {N:Addr->Prop}{h:Heap}:∀ {vs:List Value}{xs:List Str},Rds N h vs (xs.map .str)->∃ l:List (Str×Tok),vs=strValues l/\l.map (·.1)=xs/\StrsAre vs xs/\∀ x∈xs,ZO x=true
 | vs,[],r=>by cases r;exact ⟨[],rfl,rfl,.nil,fun Z h=>by exact absurd h List.not_mem_nil⟩
 | vs,x::xs,r=>by
  cases r with
  | cons a b =>
   (refine Z6 (Rds.strs b) fun l Z0 h2 h3 h4=>?_;subst Z0)
   cases a with
   | str t k=>exact ⟨(x,t)::l,rfl,by simp [h2],.cons x t h3,fun y hy=>by rcases List.mem_cons.mp hy with rfl|hy;exact k;exact h4 y hy⟩
theorem Rds.ofStrs {N:Addr->Prop}{h:Heap}:∀ (l:List (Str×Tok)),(∀ x∈l.map (·.1),ZO x=true)->Rds N h (strValues l) ((l.map (·.1)).map .str)
 | [],_=>.nil
 | (x,t)::l,k=>.cons (.str t (k x (by exact List.mem_cons_self))) (Rds.ofStrs l fun y hy=>k y (by simp at hy ⊢;exact .inr hy))
theorem Rds.ofStrsAre {N:Addr->Prop}{h:Heap}:∀ {vs:List Value}{xs:List Str},StrsAre vs xs->(∀ x∈xs,ZO x=true)->Rds N h vs (xs.map .str)
 | _,_,.nil,_=>.nil
 | _,_,.cons y t r,k=>.cons (.str t (k y (by exact List.mem_cons_self))) (Rds.ofStrsAre r fun z hz=>k z (by simp [hz]))
theorem Gi {sep:Str}{xs:List Str} (h1:JoinOk sep xs=true) (h2:ZO (Txt.join sep xs)=true):Fn C μ (.builtin "str.join") [.dat (.str sep),.dat (.list (xs.map .str))] (.dat (.str (Txt.join sep xs))):=by
 intro N s vs W R Q E q
 (refine Zn R.inv2 fun v u Z0 r1 r2=>?_;subst Z0)
 obtain ⟨t,k,rfl⟩:=Rd.invS r1
 (refine Zf (Rd.listE r2) fun a us Z0 na la ra za=>?_;subst Z0)
 (refine Z6 ra.strs fun l Z0 Z1 Z Z=>?_;subst Z0;subst Z1)
 delta JoinOk at h1
 rw [Bool.not_eq_true'] at h1
 refine call_meets F.slot_str_join (typeIs_str _ _ _) F.entry_str_join (F.args_str_join_2 _ _) (meets_str_join_list sep t a l h1) ⟨la,?_⟩
 exact post_join l ⟨Q8 h2,fun t' k'=>q _ _ _ (.refl _ _) (.str _ h2)⟩
theorem B_ {x y:Str} (hy:(y.length == 0)=false) (hn:(Builtin.Str.partsBetween x (Builtin.Str.occurrences x y 0 x.length (x.length+1)) y.length).length≤sizeLine)
  (hk:∀ z∈Txt.split x y,ZO z=true) (hz:(Txt.split x y).length≤sizeLine):Fn C μ (.builtin "str.split") [.dat (.str x),.dat (.str y)] (.dat (.list ((Txt.split x y).map .str))):=by
 intro N s vs W R Q E q
 (refine Zn R.inv2 fun v u Z0 r1 r2=>?_;subst Z0)
 obtain ⟨t,k,rfl⟩:=Rd.invS r1
 obtain ⟨t',k',rfl⟩:=Rd.invS r2
 have hx:=Q8 k
 have fin:∀ (l:List (Str×Tok)) (tk:Nat),l.map (·.1)=Txt.split x y->Q (.ref s.heap.objs.size) { s with heap:=s.heap.push { cls:=.type "list",data:=.seq (strValues l).toArray },toks:=tk }:=fun l tk e=>by
  refine q _ _ _ (.push _ _ _) (Rd.newList W.nhi ?_ (by simpa using hz))
  rw [← e]
  exact Rds.ofStrs l fun z hz'=>hk z (e▸hz')
 cases h1:(decide (x.length < y.length) || decide (Builtin.Str.strKind x < Builtin.Str.strKind y))
 ·cases hf:(Builtin.Str.occurrences x y 0 x.length (x.length+1)).isEmpty
  ·refine call_meets F.slot_str_split (typeIs_str _ _ _) F.entry_str_split (F.args_str_split_2 _ _) (meets_str_split_sep x y t t' h1 hy hf hx hn) ?_
   show wants Q E _ { s with toks:=_,heap:=s.heap.push { cls:=.type "list",data:=.seq (strsFrom s.toks (Builtin.Str.partsBetween x (Builtin.Str.occurrences x y 0 x.length (x.length+1)) y.length)).toArray } }
   rw [strsFrom_eq]
   exact fin (numbered s.toks _) _ ((numbered_texts _ _).trans ((if_neg (ne_true_of_eq_false h1)).trans (if_neg (ne_true_of_eq_false hf))).symm)
  ·refine call_meets F.slot_str_split (typeIs_str _ _ _) F.entry_str_split (F.args_str_split_2 _ _) (meets_str_split_not_found x y t t' h1 hy hf) ?_
   exact fin [(x,t)] s.toks ((if_neg (ne_true_of_eq_false h1)).trans (if_pos hf)).symm
 ·refine call_meets F.slot_str_split (typeIs_str _ _ _) F.entry_str_split (F.args_str_split_2 _ _) (meets_str_split_cannot_occur x y t t' h1) ?_
  exact fin [(x,t)] s.toks (if_pos h1).symm
theorem HV (xs:List Str) (x:Str):Fn C μ (.builtin "list.count") [.dat (.list (xs.map .str)),.dat (.str x)] (.dat (.int (xs.count x:Nat))):=by
 intro N s vs W R Q E q
 (refine Zn R.inv2 fun v u Z0 r1 r2=>?_;subst Z0)
 obtain ⟨t,k,rfl⟩:=Rd.invS r2
 (refine Zf (Rd.listE r1) fun a us Z0 na la ra za=>?_;subst Z0)
 (refine Z6 ra.strs fun l Z0 Z1 Z Z=>?_;subst Z0;subst Z1)
 (refine VE (id la) fun Z0 ho hc n hd=>?_;rcases Z0 with ⟨cls,dd,data,sl⟩)
 simp only at hc hd
 subst hc hd
 let e:Value->Bool:=fun v=>match v with|.str y _=>y == x|_=>false
 refine call_meets PySem.F.slot_list_count ⟨_,ho,rfl⟩ PySem.F.entry_list_count (PySem.F.args_list_count_2 _ _) (SeqAt.list_countAt a (strValues l).toArray n dd sl (.str x t) e) ⟨ho,fun y hy=>?_,?_⟩
 ·have hy':y∈strValues l:=by simpa using hy
  (refine xEA (List.mem_map.mp hy') fun Z0 Z Z1=>?_;rcases Z0 with ⟨z,tz⟩;subst Z1)
  exact (eqGives_str z x tz t).at _ _
 ·have ec:((strValues l).toArray.toList.countP e)=(l.map (·.1)).count x:=by
   show (strValues l).countP e=_
   delta strValues List.count
   rw [List.countP_map,List.countP_map]
   rfl
  rw [ec]
  exact q _ _ _ (.refl _ _) (.int _ _)
end
section
variable {C:Cx}{μ:Mu}{l:List (Str×AV)}
theorem Ev.idx {v i:Expr}{pos:Pos}{xs:List PyData}{k:Int}{d:PyData} (hv:Ev C μ l v (.dat (.list xs))) (hi:Ev C μ l i (.dat (.int k))) (h0:0≤k) (hk:k < 2 ^ 63) (hx:xs[k.toNat]?=some d)
  (hs:∀ a u,subscripted i false (.ref a) (.int k u)=operate [.ref a,.int k u] (getItem (.ref a) (.int k u))):Ev C μ l (.Subscript v i pos) (.dat d):=by
 intro N s S Q E q
 refine PyProof.Rows.Subscript_ (hv N s S _ _ fun vv h1 t1 P1 R1=>hi N _ (S.pu P1) _ _ fun iv h2 t2 P2 R2=>?_)
 obtain ⟨u,rfl⟩:=Rd.invI R2
 have R1':=Rd.mono ((S.pu P1).fz P2) R1
 (refine Zf (Rd.listE R1') fun a vs Z0 na la ra za=>?_;subst Z0)
 refine xEA (ra.get hx) fun x e1 e2=>?_
 refine tail_any la.typeIs slot_list_getitem.lookup (wpAny_getItem_list (x:=x) la h0 hk (by simpa using e1) ?_) (hs a u)
 exact q x h2 t2 (P1.trans P2) e2
noncomputable def Pt (C:Cx) (μ:Mu) (l:List (Str×AV)):Option Expr->Option Int->Prop
 | none,none=>True
 | some e,some i=>Ev C μ l e (.dat (.int i))
 | _,_=>False
theorem Pt.ev {e:Option Expr}{i:Option Int} (h:Pt C μ l e i) (N:Addr->Prop) (s:Shared) (S:St C N μ l s.heap) (Q:Value->Shared->Prop) (E:Value->Shared->Prop)
  (q:∀ v h' tk,Pu C.Fs s.heap h'->IsPart v i->Q v { s with heap:=h',toks:=tk }):wpAny (model pg C.w) C.A (evalPart e C.env) Q E s:=by
 cases e with
 | none=>cases i with
  | none=>rw [evalPart_none];exact wpAny_pure (q _ _ _ (.refl _ _) .none)
  | some i=>exact h.elim
 | some e=>cases i with
  | none=>exact h.elim
  | some i =>
   rw [evalPart_some]
   exact (show Ev C μ l e (.dat (.int i)) from h) N s S _ _ fun v h1 t1 P1 R1=>by obtain ⟨_,rfl⟩:=Rd.invI R1;exact q _ _ _ P1 (.int _ _)
noncomputable def Qx (xs:List PyData) (lo hi st:Option Int) (ys:List PyData):Prop :=
 ∀ (N:Addr->Prop) (h:Heap) (vs:List Value),Rds N h vs xs->Rds N h (slicePick vs.toArray lo hi st).toList ys
theorem Qx.upto (xs:List PyData) (k:Nat):Qx xs none (some (k:Int)) none (xs.take k):=fun N h vs r=>by
 rw [slicePick_upto'];simpa using r.take k
theorem Qx.from (xs:List PyData) (k:Nat):Qx xs (some (k:Int)) none none (xs.drop k):=fun N h vs r=>by
 rw [slicePick_from'];simpa using r.drop k
theorem Qx.butLast (xs:List PyData):Qx xs none (some (-1)) none (xs.take (xs.length - 1)):=fun N h vs r=>by
 have:=slicePick_butLast vs.toArray 1 (Nat.le_refl _)
 rw [show (-((1:Nat):Int))=-1 from rfl] at this
 rw [this]
 simpa [r.length] using r.take (xs.length - 1)
theorem BM {α:Type} (xs:Array α):∀ k:Nat,k≤xs.size->((List.range k).map fun (j:Nat)=>(((xs.size:Int) - 1)+(-1) * (j:Int)).toNat).filterMap (xs[·]?)=xs.toList.reverse.take k
 | 0,_=>by rfl
 | k+1,hk=>by
  rw [List.range_succ,List.map_append,List.filterMap_append,BM xs k (by exact Nat.le_of_lt ‹_›),List.take_add_one]
  congr 1
  have e:(((xs.size:Int) - 1)+(-1) * (k:Int)).toNat=xs.size - 1 - k:=by omega
  simp only [List.map_cons,List.map_nil,e]
  have hlt:xs.size - 1 - k < xs.size:=by omega
  rw [List.getElem?_reverse (by rw [Array.length_toList];assumption)]
  simp [hlt]
theorem Qx.rev (xs:List PyData):Qx xs none none (some (-1)) xs.reverse:=fun N h vs r=>by
 have e:slicePick vs.toArray none none (some (-1))=vs.reverse.toArray:=by
  unfold slicePick
  have eb:sliceBounds none none (some (-1)) vs.toArray.size=((vs.toArray.size:Int) - 1,-1,-1):=by simp [sliceBounds]
  rw [eb]
  unfold sliceRange
  simp only [show ¬ ((-1:Int) > 0) by decide,if_false]
  congr 1
  by_cases h0:vs.toArray.size=0
  ·have:vs=[]:=by simpa using h0
   subst this;rfl
  ·rw [if_pos (by omega)]
   have:(((vs.toArray.size:Int) - 1 - -1 - -1 - 1) / (- -1)).toNat=vs.toArray.size:=by
    rw [show (- -1:Int)=1 from rfl,Int.ediv_one];omega
   rw [this]
   have:=BM vs.toArray vs.toArray.size (Nat.le_refl _)
   refine Eq.trans this ?_
   rw [List.take_of_length_le (by simp)]
 rw [e]
 exact r.reverse
theorem Ev.slice {v:Expr}{lo hi st:Option Expr}{p pos:Pos}{xs ys:List PyData}{a b c:Option Int} (hv:Ev C μ l v (.dat (.list xs))) (h1:Pt C μ l lo a) (h2:Pt C μ l hi b) (h3:Pt C μ l st c) (hc:c≠some 0)
  (hp:Qx xs a b c ys) (hz:ys.length≤sizeLine) (ops:Value->Value->List Value) (hs:∀ o i,subscripted (.Slice lo hi st p) false o i=operate (ops o i) (getItem o i)) :
  Ev C μ l (.Subscript v (.Slice lo hi st p) pos) (.dat (.list ys)):=by
 intro N s S Q E q
 refine PyProof.Rows.Subscript_ (hv N s S _ _ fun vv g1 t1 P1 R1=>?_)
 have S1:=S.pu P1
 refine wpAny_Slice (h1.ev N { s with heap:=g1,toks:=t1 } S1 _ _ fun va g2 t2 P2 I2=>h2.ev N _ (S1.pu P2) _ _ fun vb g3 t3 P3 I3=>h3.ev N _ ((S1.pu P2).pu P3) _ _ fun vc g4 t4 P4 I4=>?_)
 have P14:=P2.trans (P3.trans P4)
 have S4:=S1.pu P14
 (refine Zf (Rd.listE (Rd.mono (S1.fz P14) R1)) fun aa vs Z0 na la ra za=>?_;subst Z0)
 have la':(g4.push { cls:=.type "slice",data:=.fields #[va,vb,vc] }).IsList aa vs.toArray:=la.at fun o e=>Heap.get?_push_of_some _ e
 refine tail_any la'.typeIs slot_list_getitem.lookup (wpAny_getItem_list_slice la' (Heap.IsSliceOf.new _ _ _ _) I2 I3 I4 hc ?_ (by rw [List.size_toArray,ra.length];exact za)) (hs _ _)
 have Pp:Pu C.Fs g4 (g4.push { cls:=.type "slice",data:=.fields #[va,vb,vc] }):=.push _ _ _
 have S5:=S4.pu Pp
 refine q _ _ _ (P1.trans (P14.trans (Pp.trans (.push _ _ _)))) ?_
 have r5:=hp N _ vs (ra.mono (S4.fz Pp))
 have:=Rd.newList S5.wd.nhi r5 hz
 show Rd _ _ _ _
 exact this
theorem Ev.strUpto {v:Expr}{hi:Expr}{p pos:Pos}{x:Str}{k:Int} (hv:Ev C μ l v (.dat (.str x))) (h2:Ev C μ l hi (.dat (.int k))) (hk:ZO (Txt.slice x Option.none (some k))=true) :
  Ev C μ l (.Subscript v (.Slice Option.none (some hi) Option.none p) pos) (.dat (.str (Txt.slice x Option.none (some k)))):=by
 intro N s S Q E q
 refine PyProof.Rows.Subscript_ (hv N s S _ _ fun vv g1 t1 P1 R1=>?_)
 have S1:=S.pu P1
 obtain ⟨t,kx,rfl⟩:=Rd.invS R1
 refine wpAny_Slice (by
  rw [evalPart_none]
  refine wpAny_pure ?_
  rw [evalPart_some]
  refine h2 N { s with heap:=g1,toks:=t1 } S1 _ _ fun vb g3 t3 P3 I3=>?_
  refine wpAny_pure ?_
  obtain ⟨u,rfl⟩:=Rd.invI I3
  refine tail_any (typeIs_str _ _ _) F.slot_str_getitem.lookup (wpAny_getItem_str_slice (l:=Option.none) (u:=some (k,u)) (st:=Option.none) ⟨_,Heap.get?_push_size _ rfl,rfl,rfl⟩ rfl
   (post_val_or_str ⟨Nat.le_trans (Txt.slice_le x _ _) (Q8 kx),fun t' tk=>?_⟩)) rfl
  exact q _ _ _ (P1.trans (P3.trans (.push _ _ _))) (.str _ hk))
end
section
variable {C:Cx}{μ:Mu}{l:List (Str×AV)}
theorem JQ (O:C.Ok) {N:Addr->Prop}{s:Shared} (_:Wd C.w C.h₁ C.Fs N μ s.heap) {r:Addr}{a b c:Int}{t u v:Tok}{n:Nat} (hr:IsRange s.heap r a b c t u v) (hsm:Builtin.Range.small a b c=true)
  (hn:Builtin.Range.rangeSize a b c=(n:Int)) {Q:Value->Shared->Prop}{E:Value->Shared->Prop}
  (q:∀ it h' tk,Pu C.Fs s.heap h'->Src C N s.heap it ((List.range n).map fun i=>.dat (.int (a+(i:Nat) * c))) h'->Q it { s with heap:=h',toks:=tk }):wpAny (model pg C.w) C.A (pyIter (.ref r)) Q E s:=by
 refine wpAny_pyIter_range hr hsm (q _ _ s.toks (.push _ _ _) ?_)
 refine ⟨s.heap,s.heap.objs.size,[s.heap.objs.size],[],rfl,fun Z o e=>⟨o,e⟩,.push _ _ _,fun b m=>?_,fun b m=>?_,fun b m=>(by exact absurd m List.not_mem_nil),fun b m=>(by exact absurd m List.not_mem_nil),fun N' h' P kw F nw=>?_⟩
 ·rw [List.mem_singleton.mp m];exact get?_size_none _
 ·rw [List.mem_singleton.mp m];exact ⟨_,Heap.get?_push_size _ rfl⟩
 have Ww:=Walks.range (prog:=pg) (w:=C.w) (A:=C.A) O.handled s.heap.objs.size a c n
 refine ⟨fun i h=>IsRangeIter h s.heap.objs.size (a+(i:Nat) * c) ((n:Int) - (i:Nat)) c,⟨?_,?_,?_,?_,?_⟩,?_⟩
 ·intro i h st b m
  rw [List.mem_singleton.mp m];exact ⟨_,st⟩
 ·intro i h h' st k1 k2 F'
  exact k1 _ (by exact List.mem_cons_self) _ st
 ·intro i d s' Q' E' hx st hQ
  replace hx:=Eq.trans (Eq.symm (List.getElem?_map)) hx
  (refine xEA (Option.map_eq_some_iff.mp hx) fun j hj Z0=>?_;subst Z0)
  have hi:i < n:=by have:=(List.getElem?_eq_some_iff.mp hj).1;simpa using this
  have hji:j=i:=by replace hj:=Eq.trans (Eq.symm (List.getElem?_range hi)) hj;exact (Option.some.inj hj).symm
  subst hji
  refine Ww.item j s' Q' E' hi st fun v h'' tk hP st' kk=>?_
  (refine xE hP fun t' Z0=>?_;clear hP;subst Z0)
  exact hQ _ h'' tk (.int _ _) st' kk
 ·intro s' Q' E' st hQ
  refine Ww.done s' Q' E' ?_ hQ
  simpa using st
 ·intro i s' Q' E' st hQ
  exact Ww.self i s' Q' E' st hQ
 ·have:=kw _ (by exact List.mem_cons_self) _ (Heap.get?_push_size s.heap (o:={ cls:=.type "range_iterator",data:=.fields #[rawInt a,rawInt (Builtin.Range.rangeSize a b c),rawInt c] }) rfl)
  show IsRangeIter _ _ _ _ _
  rw [hn] at this
  simpa [IsRangeIter] using this
theorem GS {n:Int} (h:n < 2 ^ 62) (h':0≤n):Builtin.Range.small 0 n 1=true:=by
 unfold Builtin.Range.small
 have e:Builtin.Range.rangeSize 0 n 1=n:=by simp [Builtin.Range.rangeSize];omega
 simp [Builtin.Range.rangeFitsLong,e]
 omega
theorem Itr.range1 (O:C.Ok) {x:Str}{p pos:Pos}{e:Expr}{n:Nat} (hf:Ev C μ l (.Name x p) (.cal (.type "range"))) (hn:Zu [e]=true) (he:Ev C μ l e (.dat (.int n))) (hb:n < 2 ^ 62) :
  Itr C μ l (.Call (.Name x p) [e] [] pos) ((List.range n).map fun i=>.dat (.int (i:Nat))):=by
 intro N s S Q E q
 refine Call_Name rfl (hf N s S _ _ fun fv h1 t1 P1 R1=>?_)
 subst R1
 refine Qq (C:=C) (f:=.type "range") trivial hn ((Evs.cons hn he Evs.nil) pos N _ (S.pu P1) _ _ fun vs h2 t2 P2 R2=>⟨((S.pu P1).pu P2).wd.stays,?_⟩)
 (refine xEA R2.inv1 fun v Z0 r=>?_;subst Z0)
 obtain ⟨tk,rfl⟩:=Rd.invI r
 refine call_range_1 ?_
 have S3:=((S.pu P1).pu P2).pu (.push _ _ { cls:=.type "range",data:=.fields #[.int 0 t2,.int n tk,.int 1 (t2+1)] })
 refine JQ O (n:=n) (a:=0) (b:=n) (c:=1) S3.wd (Heap.get?_push_size _ rfl) (GS (by omega) (by exact Int.natCast_nonneg _)) ?_ fun it h4 t4 P4 R4=>?_
 ·simp [Builtin.Range.rangeSize];omega
 ·refine q it h4 t4 (P1.trans (P2.trans ((Pu.push _ _ _).trans P4))) ?_
  have:=R4.old (h₀:=s.heap) fun a o e=>by
   refine xE (P1.fr a o e) fun sl e1=>?_
   refine xE (P2.fr a _ e1) fun sl2 e2=>?_
   exact ⟨_,Heap.get?_push_of_some _ e2⟩
  simpa using this
theorem Itr.range3 (O:C.Ok) {x:Str}{p pos:Pos}{e f g:Expr}{n:Nat} (hf:Ev C μ l (.Name x p) (.cal (.type "range"))) (hn:Zu [e,f,g]=true) (he:Ev C μ l e (.dat (.int ((n:Int) - 1)))) (hg:Ev C μ l f (.dat (.int (-1))))
  (hh:Ev C μ l g (.dat (.int (-1)))) (hb:n < 2 ^ 62) :
  Itr C μ l (.Call (.Name x p) [e,f,g] [] pos) ((List.range n).map fun i=>.dat (.int ((n:Int) - 1+(i:Nat) * (-1)))):=by
 intro N s S Q E q
 have hn1:=hn
 refine Call_Name rfl (hf N s S _ _ fun fv h1 t1 P1 R1=>?_)
 subst R1
 refine xA (ZF (env:=C.env) hn) fun Z hn2=>?_
 refine xA (ZF (env:=C.env) hn2) fun Z hn3=>?_
 refine Qq (C:=C) (f:=.type "range") trivial hn ((Evs.cons hn he (Evs.cons hn2 hg (Evs.cons hn3 hh Evs.nil))) pos N _ (S.pu P1) _ _ fun vs h2 t2 P2 R2=>⟨((S.pu P1).pu P2).wd.stays,?_⟩)
 (refine VL R2.inv3 fun v1 v2 v3 Z0 r1 r2 r3=>?_;subst Z0)
 obtain ⟨k1,rfl⟩:=Rd.invI r1
 obtain ⟨k2,rfl⟩:=Rd.invI r2
 obtain ⟨k3,rfl⟩:=Rd.invI r3
 refine call_range_3 (by decide) ?_ (.inl (PyProof.noPylong_small (by exact Nat.le_add_left _ _)))
 have S3:=((S.pu P1).pu P2).pu (.push _ _ { cls:=.type "range",data:=.fields #[.int ((n:Int) - 1) k1,.int (-1) k2,.int (-1) k3] })
 refine JQ O (n:=n) (a:=(n:Int) - 1) (b:=-1) (c:=-1) S3.wd (Heap.get?_push_size _ rfl) ?_ ?_ fun it h4 t4 P4 R4=>?_
 ·unfold Builtin.Range.small
  have e:Builtin.Range.rangeSize ((n:Int) - 1) (-1) (-1)=n:=by simp [Builtin.Range.rangeSize];omega
  simp [Builtin.Range.rangeFitsLong,e]
  omega
 ·simp [Builtin.Range.rangeSize];omega
 ·refine q it h4 t4 (P1.trans (P2.trans ((Pu.push _ _ _).trans P4))) ?_
  exact R4.old (h₀:=s.heap) fun a o e=>by
   refine xE (P1.fr a o e) fun sl e1=>?_
   refine xE (P2.fr a _ e1) fun sl2 e2=>?_
   exact ⟨_,Heap.get?_push_of_some _ e2⟩
end
noncomputable def VK:Nat->Sre.M->Sre.M
 | 0,m=>m
 | n+1,m=>VK n m.step
theorem GU {m:Sre.M} (h:m.outcome.isSome=true):m.step=m:=by delta Sre.M.step;exact Eq.trans (if_pos h) rfl
theorem Q3 {m:Sre.M} (h:m.outcome.isSome=true):∀ n,VK n m=m
 | 0=>rfl
 | n+1=>by unfold VK;rw [GU h];exact Q3 h n
set_option tactic.hygienic true in
theorem WI:∀ (n:Nat) (m:Sre.M),m.runFor n=VK n m
 | 0,_=>rfl
 | n+1,m=>by
  unfold Sre.M.runFor
  split
  ·rename_i h;rw [Q3 h]
  ·exact WI n m.step
theorem Vx:∀ (n k:Nat) (m:Sre.M),VK (n+k) m=VK k (VK n m)
 | 0,k,m=>by rw [Nat.zero_add];rfl
 | n+1,k,m=>by rw [show n+1+k=(n+k)+1 by lia];exact Vx n k m.step
noncomputable def To (n:Nat) (m m':Sre.M):Prop:=VK n m=m'
theorem To.trans {n k:Nat}{a b c:Sre.M} (h:To n a b) (g:To k b c):To (n+k) a c:=by delta To at *;rw [Vx,h,g]
noncomputable def Qn:Array Nat:=#[14,4,0,1,1,6,1,16,46,1]
noncomputable def ZX:Array Nat:=#[14,9,4,1,2,16,10,16,13,0,7,7,16,13,16,10,15,18,5,16,10,15,13,11,16,13,5,5,0,16,10,1,15,2,0,1]
noncomputable def mst (code text:Array Nat) (start pc pos handed:Nat) (om:Bool) (frames:List Sre.Frame) (answer:Option Bool) (seen:Sre.Seen):Sre.M :=
 { code,text,lim:=text.size,start,lastStart:=text.size,pc,pos,handed,outermost:=om,marks:=#[],frames,weight:=frames.length,answer,seen }
noncomputable def fr1 (s:Nat) (om:Bool):Sre.Frame:={ wait:=.nextStart,pc:=5,pos:=s,outermost:=om }
noncomputable def Wp (text:Array Nat) (s:Nat):Bool:=(s == 0 || text.getD (s - 1) 0 == 10) && decide (s < text.size) && text.getD s 0 == 46
theorem VY {code text:Array Nat}{st pc p ha:Nat}{om:Bool}{fs:List Sre.Frame}{sn:Sre.Seen}{c:Nat} (h0:pc < code.size) (h1:code.getD pc 0=16) (h2:code.getD (pc+1) 0=c) :
  (mst code text st pc p ha om fs none sn).step=if p ≥ text.size then mst code text st pc p ha om fs (some false) (sn.add 16)
   else bif text.getD p 0 == c then mst code text st (pc+2) (p+1) ha om fs none (sn.add 16) else mst code text st pc p ha om fs (some false) (sn.add 16):=by
 have e0:(mst code text st pc p ha om fs none sn).step=(mst code text st pc p ha om fs none sn).exec:=by
  delta Sre.M.step
  rw [if_neg (by simp [mst])]
  exact if_pos h0
 refine Eq.trans e0 ?_
 delta Sre.M.exec
 have e1:Sre.ops[(mst code text st pc p ha om fs none sn).word 0]?=some .LITERAL:=by
  show Sre.ops[code.getD (pc+0) 0]?=_
  rw [Nat.add_zero,h1];rfl
 have e2:(mst code text st pc p ha om fs none sn).word 0=16:=h1
 rw [e2]
 have e3:Sre.accepts code pc (text.getD p 0) (sn.add 16)=.ok (text.getD p 0 == c,sn.add 16):=by
  delta Sre.accepts
  rw [h1,h2];rfl
 have e4:Sre.itemWidth code pc=2:=by delta Sre.itemWidth;rw [h1];rfl
 show (if p ≥ text.size then _ else _)=_
 split
 ·rfl
 ·simp only [mst,e3,e4]
  cases text.getD p 0 == c <;> rfl
structure End (m:Sre.M) (st ha:Nat):Prop where
 out:m.outcome=some .matched
 start:m.start=st
 handed:m.handed=ha
noncomputable def Qg (n:Nat) (m:Sre.M) (r:Option (Nat×Nat)):Prop :=
 ∃ k m',k≤n/\To k m m'/\match r with|some (a,b)=>End m' a b|none=>m'.outcome=some .failed
theorem Qg.after {n k:Nat}{m m':Sre.M}{r:Option (Nat×Nat)} (h:To k m m') (g:Qg n m' r):Qg (k+n) m r:=by
 obtain ⟨j,x,a,b,c⟩:=g
 exact ⟨k+j,x,by exact Nat.add_le_add_left ‹_› _,h.trans b,c⟩
theorem Qg.step {n:Nat}{m m':Sre.M}{r:Option (Nat×Nat)} (h:m.step=m') (g:Qg n m' r):Qg (n+1) m r:=by
 obtain ⟨j,x,a,b,c⟩:=g
 exact ⟨j+1,x,by exact Nat.lt_succ_of_le ‹_›,by delta To at *;show VK j m.step=x;rw [h,b],c⟩
theorem Qg.mono {n k:Nat}{m:Sre.M}{r:Option (Nat×Nat)} (h:Qg n m r) (hk:n≤k):Qg k m r:=by
 obtain ⟨j,x,a,b⟩:=h;exact ⟨j,x,by exact Nat.le_trans ‹_› ‹_›,b⟩
theorem Kt {m:Sre.M} (h:m.outcome=none) (hf:m.frames=[]):Qg 1 (m.say false) none:=by
 refine ⟨1,(m.say false).step,Nat.le_refl _,rfl,?_⟩
 show ((m.say false).step).outcome=_
 delta Sre.M.step Sre.M.say
 simp [h,hf]
theorem MV {text:Array Nat}{s:Nat}{om:Bool}{fs:List Sre.Frame}{sn:Sre.Seen} :
  (mst Qn text s 9 (s+1) s om fs none sn).step=mst Qn text s 9 (s+1) (s+1) om fs (some true) (sn.add 1):=by
 show (if (om && ((false && _) || (false && _)))=true then _ else _)=_
 simp only [Bool.false_and,Bool.or_false,Bool.and_false,Bool.false_eq_true,if_false]
 rfl
theorem MP {code text:Array Nat}{s pc pc' p q ha:Nat}{om om':Bool}{sn:Sre.Seen} (n:Nat) :
  Qg (n+2) (mst code text s pc p ha om [{ wait:=.nextStart,pc:=pc',pos:=q,outermost:=om' }] (some true) sn) (some (s,ha)):=by
 refine ⟨2,_,by exact Nat.le_add_left _ _,rfl,⟨rfl,rfl,rfl⟩⟩
noncomputable def VW (text:Array Nat):Nat->Nat->Option (Nat×Nat)
 | 0,s=>if Wp text s then some (s,s+1) else none
 | k+1,s=>if Wp text s then some (s,s+1) else VW text k (s+1)
theorem Mn {text:Array Nat}{s:Nat}{om:Bool}{fs:List Sre.Frame}{sn:Sre.Seen} :
  (mst Qn text s 5 s s om fs none sn).step=if (s == 0 || text.getD (s - 1) 0 == 10)=true then mst Qn text s 7 s s om fs none ((sn.add 6).add 44) else mst Qn text s 5 s s om fs (some false) ((sn.add 6).add 44):=by
 rfl
theorem PI {text:Array Nat}{s pc:Nat}{om:Bool}{sn:Sre.Seen} (h:s < text.size) :
  (mst Qn text s pc s s om [fr1 s om] (some false) sn).step=mst Qn text (s+1) 5 (s+1) (s+1) false [fr1 (s+1) false] none sn:=by
 show (if s < text.size then _ else _)=_
 exact (if_pos h)
theorem MY {text:Array Nat}{s pc:Nat}{om:Bool}{sn:Sre.Seen} (h:¬ s < text.size) (n:Nat) :
  Qg (n+2) (mst Qn text s pc s s om [fr1 s om] (some false) sn) none:=by
 have e:(mst Qn text s pc s s om [fr1 s om] (some false) sn).step=mst Qn text s 5 s s om [] (some false) sn:=by
  show (if s < text.size then _ else _)=_
  exact (if_neg h)
 exact Qg.step e ⟨1,_,by exact Nat.le_add_left _ _,rfl,rfl⟩
theorem Hx {text:Array Nat}{s:Nat}{om:Bool}{sn:Sre.Seen} (h:Wp text s=true):Qg 5 (mst Qn text s 5 s s om [fr1 s om] none sn) (some (s,s+1)):=by
 simp only [Wp,Bool.and_eq_true,decide_eq_true_eq] at h
 obtain ⟨⟨h1,h2⟩,h3⟩:=h
 refine Qg.step (by rw [Mn,if_pos h1]) (Qg.step (by rw [VY (c:=46) (by decide) rfl rfl,if_neg (by exact Nat.not_le_of_lt ‹_›),h3];rfl) (Qg.step MV ?_))
 exact MP 0
theorem DZ {text:Array Nat}{s:Nat}{om:Bool}{sn:Sre.Seen} (h:Wp text s=false):∃ k pc sn',k≤2/\To k (mst Qn text s 5 s s om [fr1 s om] none sn) (mst Qn text s pc s s om [fr1 s om] (some false) sn'):=by
 by_cases h1:(s == 0 || text.getD (s - 1) 0 == 10)=true
 ·refine ⟨2,7,((sn.add 6).add 44).add 16,by exact Nat.le_refl _,?_⟩
  show ((mst Qn text s 5 s s om [fr1 s om] none sn).step).step=_
  rw [Mn,if_pos h1,VY (c:=46) (by decide) rfl rfl]
  split
  ·rfl
  ·have:(text.getD s 0 == 46)=false:=by
    simp only [Wp,h1,Bool.true_and,Bool.and_eq_false_iff,decide_eq_false_iff_not] at h
    exact h.resolve_left fun x=>by lia
   rw [this];rfl
 ·refine ⟨1,5,(sn.add 6).add 44,by exact Nat.le_add_left _ _,?_⟩
  show (mst Qn text s 5 s s om [fr1 s om] none sn).step=_
  exact Eq.trans Mn (Eq.trans (if_neg h1) rfl)
theorem Gn {text:Array Nat}:∀ (k s:Nat) (om:Bool) (sn:Sre.Seen),s+k=text.size->Qg (5 * k+5) (mst Qn text s 5 s s om [fr1 s om] none sn) (VW text k s)
 | 0,s,om,sn,e=>by
  unfold VW
  cases h:Wp text s with
  | true=>exact Hx h
  | false =>
   obtain ⟨k,pc,sn',hk,ht⟩:=DZ (om:=om) (sn:=sn) h
   rw [if_neg (by decide)]
   exact (Qg.after ht (MY (by lia) 0)).mono (by exact oU ‹_› rfl)
 | k+1,s,om,sn,e=>by
  unfold VW
  cases h:Wp text s with
  | true=>exact (Hx h).mono (by exact Nat.le_add_left _ _)
  | false =>
   obtain ⟨j,pc,sn',hj,ht⟩:=DZ (om:=om) (sn:=sn) h
   rw [if_neg (by decide)]
   exact (Qg.after ht (Qg.step (PI (by exact oq5 ‹_›)) (Gn k (s+1) false sn' (by exact oV ‹_›)))).mono (by lia)
theorem Ow {text:Array Nat}{s:Nat} (h:s≤text.size):Qg (5 * text.size+5) (Sre.forSearch Qn text 0 s text.size false) (VW text (text.size - s) s):=by
 by_cases h1:s=text.size
 ·have hf:VW text (text.size - s) s=none:=by
   rw [h1,Nat.sub_self];unfold VW;rw [if_neg];simp [Wp]
  rw [hf]
  refine Qg.mono (n:=1) ?_ (by exact Nat.le_add_left _ _)
  delta Sre.forSearch
  have hc:(decide (s > text.size) || decide (text.size - s < (Sre.header Qn).1))=true:=by simp [h1];decide
  rw [if_pos hc]
  exact Kt rfl rfl
 ·have e:Sre.forSearch Qn text 0 s text.size false=mst Qn text s 5 s s true [fr1 s true] none (({}:Sre.Seen).add 14):=by
   show (if (decide (s > text.size) || decide (text.size - s < 1))=true then _ else _)=_
   rw [if_neg (by simp;lia)]
   rfl
  rw [e]
  exact (Gn _ s true _ (by exact Nat.add_sub_of_le ‹_›)).mono (by lia)
noncomputable abbrev fr2 (s:Nat) (om:Bool):Sre.Frame:={ wait:=.nextStart,pc:=10,pos:=s,outermost:=om }
noncomputable abbrev fb2 (alt s:Nat) (om:Bool):Sre.Frame:={ wait:=.nextBranch,pc:=alt,pos:=s,outermost:=om }
noncomputable def V_ (text:Array Nat):Nat->Nat->Option (Nat×Nat)
 | 0,_=>none
 | k+1,s=>if text.getD s 0 == 10 then some (s,s+1) else if text.getD s 0 == 13 then some (s,s+2) else V_ text k (s+1)
theorem Ht {text:Array Nat}{s e ha:Nat}{om:Bool}{alt:Nat}{sn:Sre.Seen}:Qg 4 (mst ZX text s 35 e ha om [fb2 alt s om,fr2 s om] none sn) (some (s,e)):=by
 have e1:(mst ZX text s 35 e ha om [fb2 alt s om,fr2 s om] none sn).step=mst ZX text s 35 e e om [fb2 alt s om,fr2 s om] (some true) (sn.add 1):=by
  show (if (om && ((false && _) || (false && _)))=true then _ else _)=_
  simp only [Bool.false_and,Bool.or_false,Bool.and_false,Bool.false_eq_true,if_false]
  rfl
 refine Qg.step e1 (Qg.step (m':=mst ZX text s alt s e om [fr2 s om] (some true) (sn.add 1)) rfl ?_)
 exact MP 0
theorem PC {text:Array Nat}{s:Nat}{om:Bool}{sn:Sre.Seen} (h1:s < text.size) (h:text.getD s 0=10):Qg 9 (mst ZX text s 10 s s om [fr2 s om] none sn) (some (s,s+1)):=by
 refine Qg.step (m':=mst ZX text s 12 s s om [fb2 11 s om,fr2 s om] none (sn.add 7)) rfl ?_
 refine Qg.step (m':=mst ZX text s 12 s s om [fb2 11 s om,fr2 s om] (some false) ((sn.add 7).add 16)) (by rw [VY (c:=13) (by decide) rfl rfl,if_neg (by exact Nat.not_le_of_lt ‹_›),h];rfl) ?_
 refine Qg.step (m':=mst ZX text s 19 s s om [fb2 18 s om,fr2 s om] none ((sn.add 7).add 16)) rfl ?_
 refine Qg.step (m':=mst ZX text s 21 (s+1) s om [fb2 18 s om,fr2 s om] none (((sn.add 7).add 16).add 16)) (by rw [VY (c:=10) (by decide) rfl rfl,if_neg (by exact Nat.not_le_of_lt ‹_›),h];rfl) ?_
 exact Qg.step (m':=mst ZX text s 35 (s+1) s om [fb2 18 s om,fr2 s om] none ((((sn.add 7).add 16).add 16).add 15)) rfl Ht
theorem Of {text:Array Nat}{s:Nat}{om:Bool}{sn:Sre.Seen} (h1:s+1 < text.size) (h:text.getD s 0=13) (h':text.getD (s+1) 0=10):Qg 8 (mst ZX text s 10 s s om [fr2 s om] none sn) (some (s,s+2)):=by
 refine Qg.step (m':=mst ZX text s 12 s s om [fb2 11 s om,fr2 s om] none (sn.add 7)) rfl ?_
 refine Qg.step (m':=mst ZX text s 14 (s+1) s om [fb2 11 s om,fr2 s om] none ((sn.add 7).add 16)) (by rw [VY (c:=13) (by decide) rfl rfl,if_neg (by lia),h];rfl) ?_
 refine Qg.step (m':=mst ZX text s 16 (s+2) s om [fb2 11 s om,fr2 s om] none (((sn.add 7).add 16).add 16)) (by rw [VY (c:=10) (by decide) rfl rfl,if_neg (by exact Nat.not_le_of_lt ‹_›),h'];rfl) ?_
 exact Qg.step (m':=mst ZX text s 35 (s+2) s om [fb2 11 s om,fr2 s om] none ((((sn.add 7).add 16).add 16).add 15)) rfl Ht
theorem Pm (c:Nat) (sn:Sre.Seen):∃ sn',Sre.inSet ZX c ZX.size 5 true sn=.ok (c == 10 || c == 13,sn'):=by
 show ∃ sn',(if (c == 10)=true then Except.ok (true,sn.add 16) else if (c == 13)=true then Except.ok (true,(sn.add 16).add 16) else Except.ok (!true,((sn.add 16).add 16).add 0))=_
 cases c == 10
 ·cases c == 13
  ·exact ⟨_,rfl⟩
  ·exact ⟨_,rfl⟩
 ·exact ⟨_,rfl⟩
noncomputable def Hm (text:Array Nat):Prop:=∀ s,s < text.size->text.getD s 0=13->s+1 < text.size/\text.getD (s+1) 0=10
theorem J8 {m:Sre.M} (hc:m.code=ZX) (hl:m.lim=m.text.size):∀ (k s:Nat) (sn:Sre.Seen),s+k=m.text.size ->
  ∃ sn',m.admitted (k+1) s sn=.ok ((V_ m.text k s).map (·.1),sn')/\(∀ x,V_ m.text k s=some x->x.1 < m.text.size/\((m.text.getD x.1 0=10/\x.2=x.1+1)∨(m.text.getD x.1 0=13/\x.2=x.1+2)))
 | 0,s,sn,e=>by
  refine ⟨sn,?_,fun x hx=>by exact noS hx⟩
  unfold Sre.M.admitted
  rw [if_pos (by lia)];rfl
 | k+1,s,sn,e=>by
  unfold Sre.M.admitted V_
  rw [if_neg (by lia)]
  obtain ⟨sn1,e1⟩:=Pm (m.text.getD s 0) sn
  rw [hc,e1]
  cases h1:m.text.getD s 0 == 10 with
  | true=>exact ⟨sn1,rfl,fun x hx=>by obtain rfl:=Option.some.inj hx;exact ⟨by show s < _;exact oq5 ‹_›,.inl ⟨beq_iff_eq.mp h1,rfl⟩⟩⟩
  | false =>
   cases h2:m.text.getD s 0 == 13 with
   | true=>exact ⟨sn1,rfl,fun x hx=>by obtain rfl:=Option.some.inj hx;exact ⟨by show s < _;exact oq5 ‹_›,.inr ⟨beq_iff_eq.mp h2,rfl⟩⟩⟩
   | false =>
    obtain ⟨sn2,e2,e3⟩:=J8 hc hl k (s+1) sn1 (by exact oV ‹_›)
    exact ⟨sn2,e2,e3⟩
theorem Ox {text:Array Nat}{s:Nat} (h:s≤text.size) (hk:Hm text):Qg 9 (Sre.forSearch ZX text 0 s text.size false) (V_ text (text.size - s) s):=by
 delta Sre.forSearch
 by_cases h1:s=text.size
 ·have hf:V_ text (text.size - s) s=none:=by rw [h1,Nat.sub_self];rfl
  rw [hf]
  refine Qg.mono (n:=1) ?_ (by exact Nat.le_add_left _ _)
  have hc:(decide (s > text.size) || decide (text.size - s < (Sre.header ZX).1))=true:=by simp [h1];decide
  rw [if_pos hc]
  exact Kt rfl rfl
 ·have hc:¬ (decide (s > text.size) || decide (text.size - s < (Sre.header ZX).1))=true:=by
   have:(Sre.header ZX).1=1:=rfl
   simp [this];lia
  rw [if_neg hc]
  show Qg 9 (Sre.M.attemptFrom (mst ZX text s 10 s s true [] none (({}:Sre.Seen).add 14)) s true) _
  delta Sre.M.attemptFrom
  rw [show (mst ZX text s 10 s s true [] none (({}:Sre.Seen).add 14)).hasFirstSet=true from rfl,if_neg (by decide)]
  obtain ⟨sn',e1,e2⟩:=J8 (m:=mst ZX text s 10 s s true [] none (({}:Sre.Seen).add 14)) rfl rfl (text.size - s) s (({}:Sre.Seen).add 14) (by show s+_=text.size;exact Nat.add_sub_of_le ‹_›)
  have e1':(mst ZX text s 10 s s true [] none (({}:Sre.Seen).add 14)).admitted ((mst ZX text s 10 s s true [] none (({}:Sre.Seen).add 14)).lim+1 - s) s (mst ZX text s 10 s s true [] none (({}:Sre.Seen).add 14)).seen=.ok ((V_ text (text.size - s) s).map (·.1),sn'):=by
   show (mst ZX text s 10 s s true [] none (({}:Sre.Seen).add 14)).admitted (text.size+1 - s) s (({}:Sre.Seen).add 14)=_
   rw [show text.size+1 - s=(text.size - s)+1 by exact Nat.succ_sub ‹_›]
   exact e1
  rw [e1']
  replace e2:∀ x,V_ text (text.size - s) s=some x->x.1 < text.size/\((text.getD x.1 0=10/\x.2=x.1+1)∨(text.getD x.1 0=13/\x.2=x.1+2)):=e2
  cases hf:V_ text (text.size - s) s with
  | none=>exact (Kt (m:={ mst ZX text s 10 s s true [] none (({}:Sre.Seen).add 14) with seen:=sn' }) rfl rfl).mono (by exact Nat.le_add_left _ _)
  | some x =>
   obtain ⟨p,e⟩:=x
   have hx:=e2 _ hf
   simp only at hx
   obtain ⟨hp,hx⟩:=hx
   rcases hx with ⟨c,rfl⟩|⟨c,rfl⟩
   ·exact PC (sn:=sn') (om:=true) hp c
   ·obtain ⟨a,b⟩:=hk p hp c
    exact (Of (sn:=sn') (om:=true) a c b).mono (by exact Nat.le_add_left _ _)
theorem YU:PlainAttrs "re.Pattern" :=
 ⟨⟨"object.__getattribute__",by rw [typeLookup_type,builtinLookup_eq_fast];kernel_rfl,by decide +kernel⟩,by rw [typeLookup_type,builtinLookup_eq_fast];kernel_rfl⟩
theorem Ur:Slot "re.Pattern" "sub" "re.Pattern.sub" :=
 .of (owner:="re.Pattern") (n:="sub") (by rw [typeLookup_type,builtinLookup_eq_fast];kernel_rfl) (by decide +kernel) (by decide +kernel) (by decide +kernel)
  (by first|exact .inl (by decide +kernel)|exact .inr (by decide +kernel)) (by refine Eq.trans (isSubtype_type _ _) ?_;kernel_rfl)
theorem Ki:typeOf (.builtin "re.Pattern.sub")=pure (.type "method_descriptor"):=by show builtinType _=_;rw [builtinType_eq_fast];kernel_rfl
theorem Jw:entryFor table "re.Pattern.sub"=some Builtin.«re.Pattern.sub»:=entryFor_of_tree (by kernel_rfl)
theorem Kk (a b c:Value):argsOk "re.Pattern.sub" ⟨[a,b,c],[]⟩:=by
 unfold argsOk;kernel_rfl
theorem VB:plainId "re.Pattern.sub.loop"=true:=by decide +kernel
theorem Jk:entryFor table "re.Pattern.sub.loop"=some Builtin.«re.Pattern.sub.loop»:=entryFor_of_tree (by kernel_rfl)
theorem Ba:typeLookup (.type "str") "__call__"=pure none:=by rw [typeLookup_type,builtinLookup_eq_fast];kernel_rfl
theorem Gj:Mth "re.Pattern" "sub" "re.Pattern.sub":=⟨YU,Ur,Ki⟩
section
variable {M:Model}{A:Around}{E:Value->Shared->Prop}
theorem Wb:∀ (t k:Nat) (m m':Sre.M) (Q:Sre.M->Shared->Prop) (s:Shared),k≤4 * t->To k m m'->m'.outcome.isSome=true->Q m' s->wpAny M A (Builtin.Re.reDrive (t+1) m) Q E s
 | t,k,m,m',Q,s,hk,ht,ho,q=>by
  unfold Builtin.Re.reDrive
  simp only [WI]
  by_cases h:(VK Builtin.Re.reTurnSteps m).outcome.isSome=true
  ·rw [if_pos h]
   have:VK 4 m=m':=by
    unfold To at ht
    by_cases h4:k≤4
    ·have:=Vx k (4 - k) m
     rw [ht,Q3 ho,show k+(4 - k)=4 by exact Nat.add_sub_of_le ‹_›] at this;exact this
    ·have:=Vx 4 (k - 4) m
     rw [show 4+(k - 4)=k by omega,ht,Q3 (m:=VK 4 m) h] at this;exact this.symm
   exact wpAny_pure (by rw [show Builtin.Re.reTurnSteps=4 from rfl,this];exact q)
  ·rw [if_neg h]
   refine wpAny_bind (wpAny_rule ?_)
   cases t with
   | zero =>
    exfalso
    have:k=0:=by exact Nat.eq_zero_of_le_zero ‹_›
    subst this
    have e:m=m':=ht
    rw [e,Q3 ho] at h
    exact h ho
   | succ t =>
    refine Wb t (k - 4) _ m' Q s (by exact Nat.sub_le_of_le_add ‹_›) ?_ ho q
    unfold To at *
    by_cases h4:k≤4
    ·exfalso
     have:=Vx k (4 - k) m
     rw [ht,Q3 ho,show k+(4 - k)=4 by exact Nat.add_sub_of_le ‹_›] at this
     rw [show Builtin.Re.reTurnSteps=4 from rfl,this] at h
     exact h ho
    ·show VK (k - 4) (VK 4 m)=m'
     rw [← Vx,show 4+(k - 4)=k by omega,ht]
theorem UR {s:Shared}{Q:PUnit->Shared->Prop} (m:Sre.M) (q:Q ⟨⟩ s):∀ l:List Nat,wpAny M A (forIn l PUnit.unit fun i Z=>(if m.seen.has i=true then do rule (Sre.names.getD i "");pure (ForInStep.yield PUnit.unit) else pure (ForInStep.yield PUnit.unit))) Q E s
 | []=>wpAny_pure q
 | i::l=>by
  rw [List.forIn_cons]
  refine wpAny_bind ?_
  split
  ·exact wpAny_bind (wpAny_rule (wpAny_pure (UR m q l)))
  ·exact wpAny_pure (UR m q l)
theorem UG {s:Shared}{n:Nat}{m:Sre.M}{r:Option (Nat×Nat)}{Q:Option Sre.M->Shared->Prop} (h:Qg n m r) (hn:n≤10 ^ 19)
  (q:match r with|some (a,b)=>∀ m',m'.start=a->m'.handed=b->Q (some m') s|none=>Q none s):wpAny M A (Builtin.Re.reRunToEnd m) Q E s:=by
 refine Zn h fun k m' hk ht e=>?_
 have ho:m'.outcome.isSome=true:=by
  cases r with
  | none=>simp only at e;rw [e];rfl
  | some x=>obtain ⟨a,b⟩:=x;simp only at e;rw [e.out];rfl
 unfold Builtin.Re.reRunToEnd
 refine wpAny_bind ?_
 rw [show (2:Nat) ^ 64=(2 ^ 64 - 1)+1 by decide]
 refine Wb (2 ^ 64 - 1) k m m' _ s (by exact oX ‹_› ‹_› rfl) ht ho ?_
 refine wpAny_bind (UR m' ?_ _)
 cases r with
 | none=>simp only at e;rw [e];exact wpAny_pure q
 | some x =>
  obtain ⟨a,b⟩:=x
  simp only at e
  rw [e.out]
  exact wpAny_pure (q m' e.start e.handed)
end
structure WW (h:Heap) (p:Addr) (code:Array Nat):Prop where
 ex:∃ o fs q oq vs n,h.get? p=some o/\o.cls=.type "re.Pattern"/\o.dict=none/\o.data=.fields fs/\fs.getD 5 .none=.ref q/\Builtin.Re.reRawNat (fs.getD 6 .none)=0/\Builtin.Re.reRawNat (fs.getD 2 .none)=0 /\
  h.get? q=some oq/\oq.data=.seq vs n/\(vs.map Builtin.Re.reRawOf).map (·.toNat)=code
noncomputable def tgt (p:Addr) (x:Str) (t:Tok) (code:Array Nat):Builtin.Re.ReTarget:={ pattern:=.ref p,string:=.str x t,code:=code,text:=x.cps,kind:=0,groups:=0,pos:=0,lim:=x.cps.size }
theorem VF {M:Model}{A:Around}{E:Value->Shared->Prop}{s:Shared}{p:Addr}{x:Str}{t:Tok}{code:Array Nat}{Q:Builtin.Re.ReTarget->Shared->Prop} (h:WW s.heap p code)
  (q:Q (tgt p x t code) s):wpAny M A (Builtin.Re.reWholeTarget (.ref p) (.str x t)) Q E s:=by
 (refine Ux h.ex fun o fs a oq Zr0=>?_;refine Zn Zr0 fun vs n h1 h2 Zr1=>?_;clear Zr0;refine ZK Zr1 fun h3 h4 h5 h6 h7 h8 h9 h10=>?_;clear Zr1)
 unfold Builtin.Re.reWholeTarget
 refine wpAny_bind (wpAny_fieldsOf h1 h4 ?_)
 refine wpAny_bind ?_
 show wpAny M A (pure (x.cps,0)) _ E s
 refine wpAny_pure ?_
 show wpAny M A (if (Builtin.Re.reRawNat (fs.getD 6 .none) == 0 && false)=true then _ else _) Q E s
 rw [h6]
 rw [if_neg (by decide)]
 show wpAny M A (if ((0:Nat) == 1 && true)=true then _ else _) Q E s
 rw [if_neg (by decide)]
 show wpAny M A (Builtin.Re.reNoCollectionInside (.str x t) 0 >>= _) Q E s
 refine wpAny_bind ?_
 show wpAny M A (pure ()) _ E s
 refine wpAny_pure ?_
 refine wpAny_bind ?_
 rw [h5]
 unfold Builtin.Re.reRawItems
 refine wpAny_bind (wpAny_seqItems h8 h9 (wpAny_pure (wpAny_pure ?_)))
 rw [h7]
 show Q { pattern:=.ref p,string:=.str x t,code:=(vs.map Builtin.Re.reRawOf).map (·.toNat),text:=x.cps,kind:=0,groups:=0,pos:=0,lim:=x.cps.size } s
 rw [h10];exact q
noncomputable def VO (find:Nat->Option (Nat×Nat)) (x r:Str):Nat->Nat->List Str
 | 0,_=>[]
 | k+1,d=>match find d with
  | some (a,b)=>(if d < a then [⟨x.cps.extract d a⟩] else [])++r::VO find x r k b
  | none=>if d < x.cps.size then [⟨x.cps.extract d x.cps.size⟩] else []
structure UJ (code:Array Nat) (x:Str) (find:Nat->Option (Nat×Nat)):Prop where
 ends:∀ d,d≤x.cps.size->∃ n,n≤10 ^ 19/\Qg n (Sre.forSearch code x.cps 0 d x.cps.size false) (find d)
 fwd:∀ d a b,find d=some (a,b)->d≤a/\a < b/\b≤x.cps.size
theorem Kg {x:Str}{d a:Nat} (hx:x.length≤sizeLine):(Str.mk (x.cps.extract d a)).length≤sizeLine:=by
 have:(x.cps.extract d a).size≤x.cps.size:=by rw [Array.size_extract];omega
 exact Nat.le_trans this hx
theorem MH {l:List (Str×Tok)}{y:Str}{t:Tok}:(strValues l).toArray.push (.str y t)=(strValues (l++[(y,t)])).toArray:=by simp [strValues]
theorem Wj {M:Model}{A:Around}{E:Value->Shared->Prop}{s:Shared}{D:Addr}{l:List (Str×Tok)}{y:Str}{t:Tok}{Q:Unit->Shared->Prop} (hD:s.heap.PlainList D (strValues l).toArray) (hl:l.length≤sizeLine)
  (q:∀ h',h'.PlainList D (strValues (l++[(y,t)])).toArray->Heap.SameBut D s.heap h'->Q () { s with heap:=h' }):wpAny M A (updateSeq D (·.push (.str y t))) Q E s:=by
 (refine xE hD fun n e=>?_;clear hD)
 have hz:(strValues l).toArray.size=l.length:=by simp [strValues]
 refine wpAny_updateSeq e rfl (q _ ⟨n+1,?_⟩ (Heap.SameBut.update ..)) (by rw [hz];exact hl) (by show ((strValues l).toArray.push _).size≤_;rw [Array.size_push,hz];exact oD ‹_› rfl)
 rw [Heap.get?_update_self _ e (by rw [Obj.mapSeq_push_plain];rfl),Obj.mapSeq_push_plain,MH]
theorem HC {w:World}{A:Around}{h₁:Heap}{p D:Addr}{code:Array Nat}{x r:Str}{t tr:Tok}{find:Nat->Option (Nat×Nat)} (S:UJ code x find) (hx:x.length≤sizeLine) (hP:WW h₁ p code)
  (hD1:h₁.get? D=none) {all:List Str} (h1:JoinOk ⟨#[]⟩ all=true) (h2:ZO (Txt.join ⟨#[]⟩ all)=true) (hal:all.length≤sizeLine) (R:Result->Shared->Prop) :
  ∀ (k d:Nat) (n:Int) (l:List (Str×Tok)) (s:Shared),d≤x.cps.size->x.cps.size - d < k->(∀ b o,h₁.get? b=some o->s.heap.get? b=some o)->s.heap.PlainList D (strValues l).toArray ->
   l.map (·.1)++VO find x r k d=all->(∀ h' tk t',(∀ b o,b≠D->s.heap.get? b=some o->h'.get? b=some o)->R (.ok (.ret (.str (Txt.join ⟨#[]⟩ all) t'))) { s with heap:=h',toks:=tk }) ->
   codeAny (model pg w) A (.builtin "re.Pattern.sub.loop" ⟨[.ref p,.str x t,.str r tr,rawInt 0,rawInt 0,rawInt n,rawInt d,rawInt d,.bool false,.ref D,.bool false],[]⟩) R s:=by
 intro k
 induction k with
 | zero=>intro d n l s _ h;exact absurd ‹_› (Nat.not_lt_zero _)
 | succ k ih =>
  intro d n l s hd hk hkeep hD hl hR
  have hll:l.length≤all.length:=by rw [← hl,List.length_append,List.length_map];exact Nat.le_add_right _ _
  have hPs:WW s.heap p code:=by
   (refine Ux hP.ex fun o fs a oq Zr0=>?_;refine QE Zr0 fun vs n h1 Zr1=>?_;clear Zr0;refine ZK Zr1 fun h2 h3 h4 h5 h6 h7 h8 r=>?_;clear Zr1)
   exact ⟨o,fs,a,oq,vs,n,hkeep _ _ h1,h2,h3,h4,h5,h6,h7,hkeep _ _ h8,r⟩
  refine codeAny_builtin Jk ?_
  rw [Around.under_plainId VB _]
  unfold Builtin.«re.Pattern.sub.loop»
  show wpAny _ A.in1 (Builtin.Re.reWholeTarget (.ref p) (.str x t) >>= _) _ _ s
  refine wpAny_bind (VF hPs ?_)
  show wpAny _ A.in1 (Builtin.Re.reLiteralCannotBeTurned (.str r tr) >>= _) _ _ s
  refine wpAny_bind ?_
  show wpAny _ A.in1 (pure ()) _ _ s
  refine wpAny_pure ?_
  show wpAny _ A.in1 (Builtin.Re.reNextFound (tgt p x t code) d false >>= _) _ _ s
  refine wpAny_bind ?_
  refine xEA (S.ends d hd) fun N hN hE=>?_
  show wpAny _ A.in1 (Builtin.Re.reRunToEnd (Sre.forSearch code x.cps 0 d x.cps.size false)) _ _ s
  unfold VO at hl
  have fin:∀ (s':Shared) (l':List (Str×Tok)) ,s'.gens=s.gens->s'.drawn=s.drawn->s'.os=s.os->(∀ b o,b≠D->s.heap.get? b=some o->s'.heap.get? b=some o)->s'.heap.PlainList D (strValues l').toArray->l'.map (·.1)=all ->
    wpAny (model pg w) A.in1 (do
     let joiner ← Builtin.Re.reSlice x.cps 0 0 0
     let text ← if ((← seqItems? (.ref D)).getD #[]).isEmpty then pure joiner else call (.builtin (if (0:Nat) == 0 then "str.join" else "bytes.join")) [joiner,.ref D]
     ret text)
     (fun fin s'=>match fin with|.done f=>R (.ok f) s'|.again c'=>c'.quiet=true/\codeAny (model pg w) A c' R s') (fun e s'=>R (.error e) s') s':=by
   intro s' l' e1 e2 e3 hk' hD' hl'
   refine wpAny_bind (wpAny_mkStr ?_ (Kg hx))
   rw [show x.cps.extract 0 0=#[] by simp]
   (refine xE hD' fun nn eD=>?_;clear hD')
   refine wpAny_bind (wpAny_seqItems (s:={ s' with toks:=s'.toks+1 }) eD rfl ?_)
   have fin2:∀ tk t',R (.ok (.ret (.str (Txt.join ⟨#[]⟩ all) t'))) { s' with toks:=tk }:=fun tk t'=>by
    have:=hR s'.heap tk t' hk'
    have e:({ s with heap:=s'.heap,toks:=tk }:Shared)={ s' with toks:=tk }:=by
     cases s';cases s;simp only at e1 e2 e3;subst e1 e2 e3;rfl
    rw [e] at this;exact this
   cases l' with
   | nil =>
    have e:all=[]:=by exact (Eq.symm hl')
    subst e
    refine wpAny_bind (wpAny_pure (wpAny_pure ?_))
    exact fin2 _ _
   | cons y l' =>
    refine wpAny_bind ?_
    show wpAny _ _ (call (.builtin "str.join") [.str ⟨#[]⟩ _,.ref D]) _ _ _
    unfold JoinOk at h1
    rw [Bool.not_eq_true'] at h1
    refine call_meets F.slot_str_join (typeIs_str _ _ _) F.entry_str_join (F.args_str_join_2 _ _) (meets_str_join_list ⟨#[]⟩ _ D (y::l') (by rw [hl'];exact h1)) ⟨⟨_,eD,rfl,nn,rfl⟩,?_⟩
    refine post_join (y::l') ⟨by rw [hl'];exact Q8 h2,fun t' k'=>?_⟩
    rw [hl']
    exact wpAny_pure (fin2 _ _)
  cases hf:find d with
  | none =>
   rw [hf] at hE hl
   refine UG hE hN ?_
   simp only at hl
   show wpAny _ A.in1 (if d < x.cps.size then _ else _) _ _ s
   by_cases hlt:d < x.cps.size
   ·rw [if_pos hlt] at hl ⊢
    refine wpAny_bind (wpAny_mkStr ?_ (Kg hx))
    refine wpAny_bind (Wj (s:={ s with toks:=s.toks+1 }) hD (by exact Nat.le_trans ‹_› ‹_›) fun h' hD' hs'=>?_)
    exact fin _ (l++[(⟨x.cps.extract d x.cps.size⟩,s.toks)]) rfl rfl rfl (fun b o hb e=>hs'.extBut b o hb e) hD' (by simpa using hl)
   ·rw [if_neg hlt] at hl ⊢
    exact fin s l rfl rfl rfl (fun b o Z e=>e) hD (by simpa using hl)
  | some ab =>
   obtain ⟨a,b⟩:=ab
   refine xAA (S.fwd d a b hf) fun f1 f2 f3=>?_
   rw [hf] at hE hl
   refine UG hE hN ?_
   intro m' em eh
   simp only at hl
   have go:∀ (s':Shared) (l':List (Str×Tok)),s'.gens=s.gens->s'.drawn=s.drawn->s'.os=s.os->(∀ b o,b≠D->s.heap.get? b=some o->s'.heap.get? b=some o)->s'.heap.PlainList D (strValues l').toArray->l'.map (·.1)++r::VO find x r k b=all ->
     wpAny (model pg w) A.in1 (do
      updateSeq D (·.push (.str r tr))
      again (.builtin "re.Pattern.sub.loop" ⟨[.ref p,.str x t,.str r tr,rawInt 0,rawInt 0,rawInt (n+1),rawInt m'.handed,rawInt m'.handed,.bool (m'.handed == a),.ref D,.bool false],[]⟩))
      (fun fin s'=>match fin with|.done f=>R (.ok f) s'|.again c'=>c'.quiet=true/\codeAny (model pg w) A c' R s') (fun e s'=>R (.error e) s') s':=by
    intro s' l' e1 e2 e3 hk' hD' hl'
    have hll':l'.length≤sizeLine:=by
     have:l'.length≤all.length:=by rw [← hl',List.length_append,List.length_map];exact Nat.le_add_right _ _
     exact Nat.le_trans ‹_› ‹_›
    refine wpAny_bind (Wj hD' hll' fun h' hD2 hs2=>wpAny_pure ⟨plainId_quiet VB _,?_⟩)
    rw [eh,show (b == a)=false by simp;exact Nat.ne_of_gt ‹_›]
    refine ih b (n+1) (l'++[(r,tr)]) _ f3 (by omega) (fun c o e=>hs2.extBut c o (fun q=>by rw [q,hD1] at e;exact noS e) (hk' c o (fun q=>by rw [q,hD1] at e;exact noS e) (hkeep c o e))) hD2 (by simpa using hl') fun h3 tk t' k3=>?_
    have:=hR h3 tk t' fun c o hc e=>k3 c o hc (hs2.extBut c o hc (hk' c o hc e))
    have e:({ s with heap:=h3,toks:=tk }:Shared)={ ({ s' with heap:=h' }:Shared) with heap:=h3,toks:=tk }:=by
     cases s';cases s;simp only at e1 e2 e3;subst e1 e2 e3;rfl
    rw [e] at this;exact this
   show wpAny _ A.in1 (if d < m'.start then _ else _) _ _ s
   rw [em]
   by_cases hlt:d < a
   ·rw [if_pos hlt] at hl ⊢
    refine wpAny_bind (wpAny_mkStr ?_ (Kg hx))
    refine wpAny_bind (Wj (s:={ s with toks:=s.toks+1 }) hD (by exact Nat.le_trans ‹_› ‹_›) fun h' hD' hs'=>?_)
    exact go { s with heap:=h',toks:=s.toks+1 } (l++[(⟨x.cps.extract d a⟩,s.toks)]) rfl rfl rfl (fun b o hb e=>hs'.extBut b o hb e) hD' (by simpa using hl)
   ·rw [if_neg hlt] at hl ⊢
    exact go s l rfl rfl rfl (fun b o Z e=>e) hD (by exact hl)
theorem GX (a b:Value):Builtin.Re.reNamed "re.Pattern.sub" "sub" ["repl","string","count"] 2 [a,b] []=pure [some a,some b,none]:=by
 rfl
theorem OL {C:Cx}{μ:Mu}{p:Addr}{code:Array Nat}{x r:Str}{find:Nat->Option (Nat×Nat)} (hP:WW C.h₁ p code) (S:UJ code x find) (hr:r.cps.contains 92=false)
  (h1:JoinOk ⟨#[]⟩ (VO find x r (x.cps.size+1) 0)=true) (h2:ZO (Txt.join ⟨#[]⟩ (VO find x r (x.cps.size+1) 0))=true) (hal:(VO find x r (x.cps.size+1) 0).length≤sizeLine) :
  Fn C μ (.builtin "re.Pattern.sub") [.cal (.ref p),.dat (.str r),.dat (.str x)] (.dat (.str (Txt.join ⟨#[]⟩ (VO find x r (x.cps.size+1) 0)))):=by
 intro N s vs W R Q E q
 (refine VL R.inv3 fun v1 v2 v3 Z0 r1 r2 r3=>?_;subst Z0)
 subst r1
 obtain ⟨tr,kr,rfl⟩:=Rd.invS r2
 obtain ⟨t,k,rfl⟩:=Rd.invS r3
 have hPs:WW s.heap p code:=by
  (refine Ux hP.ex fun o fs a oq Zr0=>?_;refine QE Zr0 fun vs n h1 Zr1=>?_;clear Zr0;refine ZK Zr1 fun h2 h3 h4 h5 h6 h7 h8 r=>?_;clear Zr1)
  exact ⟨o,fs,a,oq,vs,n,W.stays _ _ h1,h2,h3,h4,h5,h6,h7,W.stays _ _ h8,r⟩
 (refine Ux (id hPs.ex) fun o Z Z Z Zr0=>?_;refine Zn Zr0 fun Z Z ho hc Z=>?_;clear Zr0)
 refine wpAny_call (codeAny_call_builtin Ur.plain Jw (Ur.check _ _ _ _ _ _ _ _ ⟨o,ho,hc⟩ (Kk _ _ _) ?_))
 show wpAny _ C.A.in1 (Builtin.Re.reNamed "re.Pattern.sub" "sub" ["repl","string","count"] 2 [.str r tr,.str x t] [] >>= _) _ _ s
 rw [GX]
 refine wpAny_bind (wpAny_pure ?_)
 refine wpAny_bind ?_
 show wpAny _ _ (pure 0) _ _ _
 refine wpAny_pure ?_
 refine wpAny_bind (wpAny_specialOf_val rfl Ba ?_)
 show wpAny _ _ ((pure (some r):Sem (Option Str)) >>= _) _ _ _
 refine wpAny_bind (wpAny_pure ?_)
 show wpAny _ _ ((pure (!r.cps.contains 92):Sem Bool) >>= _) _ _ _
 rw [hr]
 refine wpAny_bind (wpAny_pure ?_)
 show wpAny _ _ ((pure (Value.str r tr,(0:Int)):Sem (Value×Int)) >>= _) _ _ _
 refine wpAny_bind (wpAny_pure ?_)
 refine wpAny_bind (wpAny_holding (VF hPs ?_))
 show wpAny _ _ (newList [] >>= _) _ _ _
 refine wpAny_bind (wpAny_newObj_type ?_)
 refine wpAny_pure ⟨plainId_quiet VB _,?_⟩
 have hD1:C.h₁.get? s.heap.objs.size=none:=by
  cases e:C.h₁.get? s.heap.objs.size with
  | none=>rfl
  | some o=>have:=W.stays _ _ e;exact noS (Eq.trans (Eq.symm (get?_size_none _)) this)
 refine HC S (Q8 k) hP hD1 h1 h2 hal _ (x.cps.size+1) 0 0 [] _ (Nat.zero_le _) (by exact Nat.le_refl _) (fun b o e=>Heap.get?_push_of_some _ (W.stays b o e)) ⟨_,Heap.get?_push_size _ rfl⟩ (by rfl) fun h' tk t' kk=>?_
 refine q _ h' tk (.of_keeps fun b o e=>kk b o (fun q=>by rw [q,get?_size_none] at e;exact noS e) (Heap.get?_push_of_some _ e)) (.str _ h2)
theorem BI {C:Cx}{μ:Mu}{p:Addr}{code:Array Nat} (hP:WW C.h₁ p code):Jo C μ (.cal (.ref p)) "re.Pattern":=by
 intro N s va W R
 subst R
 (refine Ux hP.ex fun o fs a oq Zr0=>?_;refine Vk Zr0 fun vs n h1 h2 h3 Z=>?_;clear Zr0)
 exact ⟨⟨o,W.stays _ _ h1,h2⟩,fun b e=>by obtain rfl:=Value.ref.inj e;exact ⟨o,W.stays _ _ h1,h3⟩⟩
end Mine
namespace Mine
open PySem PySem.W PyProof.Rows
set_option maxHeartbeats 8000000
noncomputable def Qw:List Stmt:=PySem.Challenge.pw_of0071_01.main.body
noncomputable def inC (s:Option Stmt) (i:Nat):Option Stmt:=match s with
 | some (.ClassDef _ _ _ b _ _ _ _ _ _ _)=>b[i]?
 | _=>none
noncomputable def fdO (s:Option Stmt) (q:Str) (dfl md:Value) (c:Addr):Obj:=match s with
 | some (.FunctionDef n ps b _ _ _ sc _ _ _)=>{ cls:=.type "function",data:=.func { name:=n,qualname:=q,params:=ps,body:=.stmts b,scope:=sc,globals:=3,closure:=[],defaults:=dfl,kwdefaults:=.none,pyModule:=md,code:=.ref c } }
 | _=>{ cls:=.none }
noncomputable def coO (n q:Str) (t:Tok) (ln ac fl:Int) (r1 r2:Addr) (y z:Value) (r3:Addr) (t3:Nat):Obj :=
 { cls:=.type "code",data:=.fields #[.str n t,.str q (t+1),.str "/claim/cut.py" (t+2),.int ln 0,.int ac 0,.int 0 0,.int 0 0,.int fl 0,.ref r1,.bool true,.int 276 0,.ref r2,.none,y,z,.ref r3,.int t3 0,.int ln 0,.str "/claim/cut.py" (t3+1)] }
noncomputable def en (P:Params) (k:Str) (t:Tok) (v:Value):DictEntry:={ hash:=PyData.keyHash P k,key:=.str k t,val:=v }
noncomputable def WF (P:Params):Frag:=[(3,{ cls:=.type "dict",data:=.dict #[en P "__name__" 165 (.str "law_of0071_01" 566),en P "__doc__" 166 (.none),en P "__package__" 167 (.none),en P "__loader__" 168 (.builtin "__main__.__loader__#opaque"),en P "__spec__" 169 (.none),en P "__annotations__" 170 (.ref 6),en P "__builtins__" 171 (.ref 4),en P "__file__" 173 (.str "/claim/cut.py" 172),en P "__cached__" 174 (.none),en P "_sre" 275 (.ref 12),en P "_wall" 288 (.ref 38),en P "_twin_re_1" 306 (.ref 43),en P "_twin_re_2" 348 (.ref 48),en P "CRLF" 350 (.str "\x0d\n" 349),en P "quotedata" 357 (.ref 55),en P "_NODE_OUT" 362 (.int (-1) 361),en P "_NODE_DONE" 365 (.int (-2) 364),en P "_NodeInfo" 402 (.ref 74),en P "CycleError" 420 (.ref 89),en P "TopologicalSorter" 539 (.ref 171),en P "sorted_list_difference" 555 (.ref 182),en P "unorderable_list_difference" 565 (.ref 189),en P "_law_message" 580 (.ref 196),en P "_law_sent" 586 (.ref 201),en P "_law_run" 592 (.ref 206),en P "_law_only" 598 (.ref 211),en P "_law_told" 604 (.ref 216),en P "_law_due" 610 (.ref 221),en P "law" 616 (.ref 226)] 29 }),
 (42,{ cls:=.type "tuple",data:=.seq #[.int 14 0,.int 4 0,.int 0 0,.int 1 0,.int 1 0,.int 6 0,.int 1 0,.int 16 0,.int 46 0,.int 1 0] }),
 (43,{ cls:=.type "re.Pattern",data:=.fields #[.str "(?m)^\\." 292,.int 40 305,.int 0 0,.none,.none,.ref 42,.int 0 0] }),
 (47,{ cls:=.type "tuple",data:=.seq #[.int 14 0,.int 9 0,.int 4 0,.int 1 0,.int 2 0,.int 16 0,.int 10 0,.int 16 0,.int 13 0,.int 0 0,.int 7 0,.int 7 0,.int 16 0,.int 13 0,.int 16 0,.int 10 0,.int 15 0,.int 18 0,.int 5 0,.int 16 0,.int 10 0,.int 15 0,.int 13 0,.int 11 0,.int 16 0,.int 13 0,.int 5 0,.int 5 0,.int 0 0,.int 16 0,.int 10 0,.int 1 0,.int 15 0,.int 2 0,.int 0 0,.int 1 0] }),
 (48,{ cls:=.type "re.Pattern",data:=.fields #[.str "(?:\\r\\n|\\n|\\r(?!\\n))" 308,.int 32 347,.int 0 0,.none,.none,.ref 47,.int 0 0] }),
 (54,coO "quotedata" "quotedata" 351 9 1 3 49 50 (.ref 51) (.ref 52) 53 355),
 (55,fdO (Qw[6]?) "quotedata" (.none) (.str "cpy313.smtplib" 289) 54),
 (69,coO "__init__" "_NodeInfo.__init__" 382 17 2 3 64 65 (.ref 66) (.ref 67) 68 387),
 (70,fdO (inC (Qw[10]?) 1) "_NodeInfo.__init__" (.none) (.str "cpy313.graphlib" 358) 69),
 (73,{ cls:=.type "dict",data:=.dict #[en P "__module__" 373 (.str "cpy313.graphlib" 358),en P "__firstlineno__" 377 (.int 14 376),en P "__slots__" 381 (.ref 63),en P "__init__" 389 (.ref 70),en P "__static_attributes__" 393 (.ref 71),en P "node" 395 (.ref 75),en P "npredecessors" 397 (.ref 76),en P "successors" 399 (.ref 77),en P "__doc__" 400 (.none)] 5 }),
 (74,{ cls:=.type "type",data:=.cls { name:="_NodeInfo",bases:=[.type "object"],mro:=[.ref 74,.type "object"],ns:=73,qualname:="_NodeInfo",hasDict:=false,slotNames:=["node","npredecessors","successors"] },slots:=#[none,none,some (.str "_NodeInfo" 366),some (.str "_NodeInfo" 374),some (.builtin "object.__new__"),some (.bool false)] }),
 (75,{ cls:=.type "member_descriptor",data:=.fields #[.str "node" 394,.ref 74,.builtin "proto.slot",.builtin "proto.slot#set",.int 2 0] }),
 (76,{ cls:=.type "member_descriptor",data:=.fields #[.str "npredecessors" 396,.ref 74,.builtin "proto.slot",.builtin "proto.slot#set",.int 1 0] }),
 (77,{ cls:=.type "member_descriptor",data:=.fields #[.str "successors" 398,.ref 74,.builtin "proto.slot",.builtin "proto.slot#set",.int 0 0] }),
 (88,{ cls:=.type "dict",data:=.dict #[en P "__module__" 410 (.str "cpy313.graphlib" 358),en P "__firstlineno__" 414 (.int 21 413),en P "__static_attributes__" 415 (.ref 87),en P "__weakref__" 417 (.ref 90),en P "__doc__" 418 (.none)] 3 }),
 (89,{ cls:=.type "type",data:=.cls { name:="CycleError",bases:=[.type "ValueError"],mro:=[.ref 89,.type "ValueError",.type "Exception",.type "BaseException",.type "object"],ns:=88,qualname:="CycleError" },slots:=#[some (.ref 80),none,some (.str "CycleError" 403),some (.str "CycleError" 411),some (.builtin "ValueError.__new__"),some (.bool true)] }),
 (100,{ cls:=.type "tuple",data:=.seq #[.none] }),
 (106,coO "__init__" "TopologicalSorter.__init__" 433 25 2 3 101 102 (.ref 103) (.ref 104) 105 440),
 (107,fdO (inC (Qw[12]?) 0) "TopologicalSorter.__init__" (.ref 100) (.str "cpy313.graphlib" 358) 106),
 (113,coO "_get_nodeinfo" "TopologicalSorter._get_nodeinfo" 443 34 2 3 108 109 (.ref 110) (.ref 111) 112 449),
 (114,fdO (inC (Qw[12]?) 1) "TopologicalSorter._get_nodeinfo" (.none) (.str "cpy313.graphlib" 358) 113),
 (120,coO "add" "TopologicalSorter.add" 452 39 2 7 115 116 (.ref 117) (.ref 118) 119 461),
 (121,fdO (inC (Qw[12]?) 2) "TopologicalSorter.add" (.none) (.str "cpy313.graphlib" 358) 120),
 (125,coO "prepare" "TopologicalSorter.prepare" 464 48 1 3 122 123 (.none) (.none) 124 467),
 (126,fdO (inC (Qw[12]?) 3) "TopologicalSorter.prepare" (.none) (.str "cpy313.graphlib" 358) 125),
 (132,coO "get_ready" "TopologicalSorter.get_ready" 470 56 1 3 127 128 (.ref 129) (.ref 130) 131 477),
 (133,fdO (inC (Qw[12]?) 4) "TopologicalSorter.get_ready" (.none) (.str "cpy313.graphlib" 358) 132),
 (139,coO "is_active" "TopologicalSorter.is_active" 480 67 1 3 134 135 (.ref 136) (.ref 137) 138 484),
 (140,fdO (inC (Qw[12]?) 5) "TopologicalSorter.is_active" (.none) (.str "cpy313.graphlib" 358) 139),
 (146,coO "__bool__" "TopologicalSorter.__bool__" 487 72 1 3 141 142 (.ref 143) (.ref 144) 145 491),
 (147,fdO (inC (Qw[12]?) 6) "TopologicalSorter.__bool__" (.none) (.str "cpy313.graphlib" 358) 146),
 (153,coO "done" "TopologicalSorter.done" 494 75 1 7 148 149 (.ref 150) (.ref 151) 152 505),
 (154,fdO (inC (Qw[12]?) 7) "TopologicalSorter.done" (.none) (.str "cpy313.graphlib" 358) 153),
 (160,coO "_find_cycle" "TopologicalSorter._find_cycle" 508 98 1 3 155 156 (.ref 157) (.ref 158) 159 518),
 (161,fdO (inC (Qw[12]?) 8) "TopologicalSorter._find_cycle" (.none) (.str "cpy313.graphlib" 358) 160),
 (170,{ cls:=.type "dict",data:=.dict #[en P "__module__" 428 (.str "cpy313.graphlib" 358),en P "__firstlineno__" 432 (.int 23 431),en P "__init__" 442 (.ref 107),en P "_get_nodeinfo" 451 (.ref 114),en P "add" 463 (.ref 121),en P "prepare" 469 (.ref 126),en P "get_ready" 479 (.ref 133),en P "is_active" 486 (.ref 140),en P "__bool__" 493 (.ref 147),en P "done" 507 (.ref 154),en P "_find_cycle" 520 (.ref 161),en P "static_order" 527 (.ref 168),en P "__static_attributes__" 532 (.ref 169),en P "__dict__" 534 (.ref 172),en P "__weakref__" 536 (.ref 173),en P "__doc__" 537 (.none)] 4 }),
 (171,{ cls:=.type "type",data:=.cls { name:="TopologicalSorter",bases:=[.type "object"],mro:=[.ref 171,.type "object"],ns:=170,qualname:="TopologicalSorter" },slots:=#[none,none,some (.str "TopologicalSorter" 421),some (.str "TopologicalSorter" 429),some (.builtin "object.__new__"),some (.bool true)] }),
 (181,coO "sorted_list_difference" "sorted_list_difference" 542 130 2 3 176 177 (.ref 178) (.ref 179) 180 553),
 (182,fdO (Qw[14]?) "sorted_list_difference" (.none) (.str "cpy313.unittest.util" 540) 181),
 (188,coO "unorderable_list_difference" "unorderable_list_difference" 556 162 2 3 183 184 (.ref 185) (.ref 186) 187 563),
 (189,fdO (Qw[15]?) "unorderable_list_difference" (.none) (.str "cpy313.unittest.util" 540) 188),
 (195,coO "_law_message" "_law_message" 568 172 3 3 190 191 (.ref 192) (.ref 193) 194 578),
 (196,fdO (Qw[17]?) "_law_message" (.none) (.str "law_of0071_01" 566) 195),
 (200,coO "_law_sent" "_law_sent" 581 177 3 3 197 198 (.none) (.none) 199 584),
 (201,fdO (Qw[18]?) "_law_sent" (.none) (.str "law_of0071_01" 566) 200),
 (205,coO "_law_run" "_law_run" 587 185 1 3 202 203 (.none) (.none) 204 590),
 (206,fdO (Qw[19]?) "_law_run" (.none) (.str "law_of0071_01" 566) 205),
 (210,coO "_law_only" "_law_only" 593 200 2 3 207 208 (.none) (.none) 209 596),
 (211,fdO (Qw[20]?) "_law_only" (.none) (.str "law_of0071_01" 566) 210),
 (215,coO "_law_told" "_law_told" 599 203 1 3 212 213 (.none) (.none) 214 602),
 (216,fdO (Qw[21]?) "_law_told" (.none) (.str "law_of0071_01" 566) 215),
 (220,coO "_law_due" "_law_due" 605 208 1 3 217 218 (.none) (.none) 219 608),
 (221,fdO (Qw[22]?) "_law_due" (.none) (.str "law_of0071_01" 566) 220),
 (225,coO "law" "law" 611 219 1 3 222 223 (.none) (.none) 224 614),
 (226,fdO (Qw[23]?) "law" (.none) (.str "law_of0071_01" 566) 225)]
noncomputable def asK:List Addr:=[3,42,43,47,48,54,55,69,70,73,74,75,76,77,88,89,100,106,107,113,114,120,121,125,126,132,133,139,140,146,147,153,154,160,161,170,171,181,182,188,189,195,196,200,201,205,206,210,211,215,216,220,221,225,226]
theorem Pc (P:Params):asK=(WF P).map (·.1):=by kernel_rfl
noncomputable def hookK:Hook:=kHook WF asK Pc
noncomputable def viewK:Program:={ PySem.Challenge.pw_of0071_01 with main:={ PySem.Challenge.pw_of0071_01.main with body:=[0,1,3,4,5,6,8,9,10,11,12,14,15,17,18,19,20,21,22,23].filterMap fun i=>Qw[i]? } }
noncomputable def looseK:List Str:=["_twin_re_1","_twin_re_2","_NodeInfo"]
theorem leftK:LeftO PySem.Challenge.rw_of0071_01.row.toRowW.prog viewK looseK (fun s=>xlAt viewK [] s && recOk (RowW.records PySem.Challenge.rw_of0071_01.row.toRowW) s) hookK.obs hookK.val 3146:=fun w=>by kernel_rfl
theorem wsK:PySem.Challenge.rw_of0071_01.wellSaid=true:=by kernel_rfl
end Mine
namespace Mine
open PySem PySem.W PyProof.Rows PySem.Calls
structure K1 (w:World) (h₁:Heap):Prop where
 nms:Nms h₁
 kx:(WF w.params).In h₁
theorem PH {w:World}{h₁:Heap} (K:K1 w h₁):WW h₁ 43 Qn :=
 ⟨_,_,_,_,_,_,K.kx 43 _ rfl,rfl,rfl,rfl,rfl,rfl,rfl,K.kx 42 _ rfl,rfl,by simp [Qn,ZX,Builtin.Re.reRawOf]⟩
theorem PZ {w:World}{h₁:Heap} (K:K1 w h₁):WW h₁ 48 ZX :=
 ⟨_,_,_,_,_,_,K.kx 48 _ rfl,rfl,rfl,rfl,rfl,rfl,rfl,K.kx 47 _ rfl,rfl,by simp [Qn,ZX,Builtin.Re.reRawOf]⟩
theorem Zs {w:World}{h₁:Heap} (K:K1 w h₁) {c:Addr}{q:Str}{o:Obj}{vs:Array Value}{t:Tok} (h:(WF w.params).lookup c=some o) (hd:o.data=.fields vs) (hq:vs[1]?=some (.str q t)):h₁.CodeRec (.ref c) q :=
 ⟨c,o,vs,t,rfl,K.kx c o h,hd,hq⟩
theorem Frm.kindOf {w:World}{h₁:Heap}{k:Nat}{fd:FuncData}{C:Cx} (F:Frm w h₁ k fd C) {x:Str}{q:Option NameKind} (h:fd.scope.names.lookup x=q):C.env.kindOf x=q:=by
 unfold Env.kindOf;rw [F.sc];exact h
set_option maxHeartbeats 1000000
theorem Kj {w:World}{h₁:Heap} (K:K1 w h₁) {k:Nat}{μ:Mu}{x y z:Str}
  (h2:∀ C:Cx,C.h₁=h₁->Fn C μ (.builtin "re.Pattern.sub") [.cal (.ref 48),.dat (.str "\r\n"),.dat (.str x)] (.dat (.str y)))
  (h1:∀ C:Cx,C.h₁=h₁->Fn C μ (.builtin "re.Pattern.sub") [.cal (.ref 43),.dat (.str ".."),.dat (.str y)] (.dat (.str z))) :
  Zt w h₁ (k+1) μ 55 [.dat (.str x)] (.dat (.str z)):=by
 refine Zt.of_body (ps:=["data"]) K.nms ⟨⟨_,K.kx 55 _ rfl,rfl⟩,Zs K rfl rfl rfl,rfl,rfl,rfl,rfl,by decide,by decide,by decide,rfl,rfl,rfl,fun vs hl=>?_⟩ rfl fun C F=>?_
 ·revert vs;exact KO fun Z=>rfl
 have O:=F.ok
 have e1:=F.h₁
 refine Bd.ret (Ev.meth Gj rfl rfl rfl (by decide) (Ev.glob O rfl (F.kindOf rfl) rfl) (BI (e1▸PH K)) (Evs.cons rfl (Ev.str (by decide +kernel) _ _) (Evs.cons rfl ?_ Evs.nil)) (h1 C e1))
 refine Ev.meth Gj rfl rfl rfl (by decide) (Ev.glob O rfl (F.kindOf rfl) rfl) (BI (e1▸PZ K)) (Evs.cons rfl (Ev.glob O rfl (F.kindOf rfl) rfl) (Evs.cons rfl (Ev.loc O rfl (F.kindOf rfl) rfl) Evs.nil)) (h2 C e1)
inductive Ph where
 | new
 | tr (fl:Option Addr)
noncomputable def flV:Option Addr->Value
 | none=>.none
 | some L=>rawInt L
structure Vg (Fs:List Addr) (h0:Heap) (e:Addr) (cls ctx:Value) (ph:Ph) (h:Heap):Prop where
 pu:Pu Fs h0 h
 new:h0.get? e=none
 at_:∃ ob vs,h.get? e=some ob/\ob.cls=cls/\ob.data=.fields vs/\vs[2]?=some ctx /\
  match ph with
  | .new=>vs[1]?=some .none
  | .tr fl=>∃ T oT ts,vs[1]?=some (.ref T)/\h0.get? T=none/\T≠e/\h.get? T=some oT/\oT.data=.fields ts/\ts[3]?=some (flV fl)
noncomputable def Mk:Heap:={ objs:=#[] }
theorem B6 (a:Addr):Mk.get? a=none:=Heap.get?_none_of_le (Nat.zero_le _)
noncomputable def DFr (envs:List Env) (h:Heap):Prop:=∀ e∈envs,e.scope.kind≠.module/\∃ L o es n,e.frame=some L/\h.get? L=some o/\o.data=.dict es n
theorem DFr.fun {envs:List Env}{h:Heap} (d:DFr envs h):h.FunFrames Mk envs:=by
 induction envs with
 | nil=>trivial
 | cons e r ih =>
  (refine xA (d e List.mem_cons_self) fun k Zr0=>?_;refine xEE Zr0 fun L o Zr1=>?_;clear Zr0;refine Zn Zr1 fun es n hf ho hd=>?_;clear Zr1)
  exact ⟨k,⟨L,o,hf,B6 L,ho,fun vs q=>by rw [hd] at q;cases q⟩,ih fun x hx=>d x (List.mem_cons_of_mem _ hx)⟩
theorem DFr.pu {envs:List Env}{h h':Heap}{Fs:List Addr} (d:DFr envs h) (P:Pu Fs h h'):DFr envs h':=fun e he=>by
 (refine xA (d e he) fun k Zr0=>?_;refine xEE Zr0 fun L o Zr1=>?_;clear Zr0;refine Zn Zr1 fun es n hf ho hd=>?_;clear Zr1)
 refine xE (P.fr L o ho) fun sl e'=>?_
 exact ⟨k,L,_,es,n,hf,e',hd⟩
section
variable {M:Model}{A:Around}{E:Value->Shared->Prop}{s:Shared}
theorem Jf {env:Env}{outer:List Env}{L e:Addr}{ob:Obj}{vs:Array Value}{h0:Heap}{ctx head:Value}{hadNext:Bool}{Q:Unit->Shared->Prop} (hfr:A.frames=some (env::outer)) (hf:env.frame=some L) (hd:DFr (env::outer) h0)
  (pu:Pu (Qv (env::outer)) h0 s.heap) (new:h0.get? e=none) (ho:s.heap.get? e=some ob) (hv:ob.data=.fields vs) (h1:1 < vs.size) (h2:vs[2]?=some ctx)
  (q:∀ h',Vg (Qv (env::outer)) h0 e ob.cls ctx (.tr (some L)) h'->Q () { s with heap:=h' }) :
  wpAny M A (do let a ← frameOf env;let pl ← entryPlaceOf L hadNext;let b ← EntryCells.newEntry head a .none (rawInt L) .none pl;setField (.ref e) 1 b) Q E s:=by
 have dh:=hd.pu pu
 have ene:e∉(env::outer).filterMap (·.frame):=fun hm=>by
  refine xEA (List.mem_filterMap.mp hm) fun x hx hxf=>?_
  (refine xA (hd x hx) fun Z Zr0=>?_;refine xEE Zr0 fun L' o Zr1=>?_;clear Zr0;refine Zn Zr1 fun es n hf' ho' Z=>?_;clear Zr1)
  rw [hf'] at hxf;obtain rfl:=Option.some.inj hxf;exact noS (Eq.trans (Eq.symm new) ho')
 refine wpAny_bind (wpAny_frameOf_fun hfr dh.fun hf fun g1 hs1=>?_)
 refine wpAny_bind (wpAny_entryPlaceOf fun pl hpl=>?_)
 unfold EntryCells.newEntry newFields
 refine wpAny_bind (wpAny_newObj_type ?_ (hpl.sizeOk5 _ _ _ _ _))
 have he1:g1.get? e=some ob:=(hs1.2.1 e ene).trans ho
 generalize hTo:({ cls:=.type "traceback",dict:=none,data:=.fields ([head,.ref L,.none,rawInt L,.none]++(if pl.isEmpty then List.replicate 6 Value.none else pl)).toArray }:Obj)=oT
 have hTd:oT.data=.fields ([head,.ref L,.none,rawInt L,.none]++(if pl.isEmpty then List.replicate 6 Value.none else pl)).toArray:=by rw [← hTo]
 have hTf:oT.isFreed=false:=Obj.isFreed_of_fields hTd
 have he2:=Heap.get?_push_of_some (h:=g1) oT he1
 refine wpAny_setField he2 hv h1 (q _ ?_)
 have hTe:g1.objs.size≠e:=Nat.ne_of_gt (Heap.lt_size he1)
 have hd3:=Obj.data_mapFields hv (·.setIfInBounds 1 (Value.ref g1.objs.size))
 have he3:=Heap.get?_update_self (Obj.mapFields (·.setIfInBounds 1 (Value.ref g1.objs.size))) he2 (Obj.isFreed_of_fields hd3)
 have hT3:=(Heap.get?_update_other (g1.push oT) (Obj.mapFields (·.setIfInBounds 1 (Value.ref g1.objs.size))) (Ne.symm hTe)).trans (Heap.get?_push_size g1 hTf)
 have kp:∀ b o,b≠e->g1.get? b=some o->((g1.push oT).update e (Obj.mapFields (·.setIfInBounds 1 (Value.ref g1.objs.size)))).get? b=some o:=fun b o hb x=>by
  exact Eq.trans (Heap.get?_update_other _ _ (Ne.symm hb)) (Heap.get?_push_of_some _ x)
 have P1:Pu (Qv (env::outer)) h0 g1:=⟨fun a o n x=>(hs1.2.1 a n).trans (pu.keep a o n x),fun a o x=>let ⟨_,y⟩:=pu.fr a o x;let ⟨sl,z⟩:=hs1.2.2 a _ y;⟨sl,z⟩⟩
 refine ⟨⟨fun a o n x=>kp a o (fun y=>by rw [y,new] at x;exact noS x) (P1.keep a o n x),fun a o x=>let ⟨sl,y⟩:=P1.fr a o x;⟨sl,kp a _ (fun z=>by rw [z,new] at x;exact noS x) y⟩⟩,new,
  ⟨_,_,he3,Obj.cls_mapFields _ _,hd3,by rw [Array.getElem?_setIfInBounds_ne (by decide)];exact h2,g1.objs.size,oT,_,by simp [h1],?_,hTe,hT3,hTd,by simp [flV]⟩⟩
 cases y:h0.get? g1.objs.size with
 | none=>rfl
 | some o=>refine xE (P1.fr _ _ y) fun Z z=>?_;exact noS (Eq.trans (Eq.symm (get?_size_none _)) z)
theorem Dn {env:Env}{outer:List Env}{L e:Addr}{h0:Heap}{cls ctx:Value}{ph:Ph}{Q:Unit->Shared->Prop} (hfr:A.frames=some (env::outer)) (hf:env.frame=some L) (hd:DFr (env::outer) h0)
  (X:Vg (Qv (env::outer)) h0 e cls ctx ph s.heap) (hph:ph=.new∨ph=.tr none∨ph=.tr (some L))
  (q:∀ h',Vg (Qv (env::outer)) h0 e cls ctx (.tr (some L)) h'->Q () { s with heap:=h' }):wpAny M A (noteFrame (.ref e) env) Q E s:=by
 obtain ⟨pu,new,ob,vs,ho,rfl,hv,hc,st⟩:=X
 have h12:2 < vs.size:=(Array.getElem?_eq_some_iff.mp hc).1
 unfold noteFrame
 simp only [hf]
 rcases hph with rfl|rfl|rfl
 ·refine wpAny_bind (wpAny_field ho hv st ?_)
  rw [if_neg (by decide)]
  exact Jf hfr hf hd pu new ho hv (by exact Nat.le_of_lt ‹_›) hc q
 ·(refine ZE st fun T oT ts t1 Zr0=>?_;refine Qe Zr0 fun t2 t3 t4 t5 t6=>?_;clear Zr0;clear st)
  refine wpAny_bind (wpAny_field ho hv t1 ?_)
  rw [if_pos (show (Value.ref T != Value.none)=true from by simp)]
  refine wpAny_bind (wpAny_field t4 t5 t6 ?_)
  rw [if_neg (show ¬ ((flV none == rawInt L)=true) from by simp [rawInt,flV])]
  refine wpAny_bind (wpAny_setField t4 t5 (Array.getElem?_eq_some_iff.mp t6).1 ?_)
  have oth:∀ b,b≠T->(s.heap.update T (Obj.mapFields (·.setIfInBounds 3 Value.none))).get? b=s.heap.get? b:=fun b hb=>Heap.get?_update_other _ _ (Ne.symm hb)
  have neT:∀ a o,h0.get? a=some o->a≠T:=fun a o x y=>by rw [y,t2] at x;exact noS x
  exact Jf hfr hf hd ⟨fun a o n x=>(oth a (neT a o x)).trans (pu.keep a o n x),fun a o x=>let ⟨sl,y⟩:=pu.fr a o x;⟨sl,(oth a (neT a o x)).trans y⟩⟩ new ((oth e (Ne.symm t3)).trans ho) hv (by exact Nat.le_of_lt ‹_›) hc q
 ·(refine ZE (id st) fun T oT ts t1 Zr0=>?_;refine Qe Zr0 fun t2 t3 t4 t5 t6=>?_;clear Zr0)
  refine wpAny_bind (wpAny_field ho hv t1 ?_)
  rw [if_pos (show (Value.ref T != Value.none)=true from by simp)]
  refine wpAny_bind (wpAny_field t4 t5 t6 ?_)
  rw [if_pos (show (flV (some L) == rawInt L)=true from by simp [flV])]
  exact wpAny_pure (q s.heap ⟨pu,new,ob,vs,ho,rfl,hv,hc,st⟩)
theorem Qu {Fs:List Addr}{e:Addr}{h0:Heap}{cls ctx:Value}{fl fl':Option Addr}{Q:Unit->Shared->Prop} (X:Vg Fs h0 e cls ctx (.tr fl) s.heap)
  (q:∀ h',Vg Fs h0 e cls ctx (.tr fl') h'->Q () { s with heap:=h' }):wpAny M A (setFlight (.ref e) fl') Q E s:=by
 obtain ⟨pu,new,ob,vs,ho,hcl,hv,hc,T,oT,ts,t1,t2,t3,t4,t5,t6⟩:=X
 have hsz3:3 < ts.size:=(Array.getElem?_eq_some_iff.mp t6).1
 unfold setFlight
 refine wpAny_bind (wpAny_field ho hv t1 ?_)
 rw [if_pos (show (Value.ref T != Value.none)=true from by simp)]
 have ev:(fl'.elim Value.none fun f=>rawInt f)=flV fl':=by cases fl' <;> rfl
 rw [ev]
 have oth:∀ b,b≠T->(s.heap.update T (Obj.mapFields (·.setIfInBounds 3 (flV fl')))).get? b=s.heap.get? b:=fun b hb=>Heap.get?_update_other _ _ (Ne.symm hb)
 have neT:∀ a o,h0.get? a=some o->a≠T:=fun a o x y=>by rw [y,t2] at x;exact noS x
 refine wpAny_setField t4 t5 hsz3 (q _ ⟨⟨fun a o n x=>(oth a (neT a o x)).trans (pu.keep a o n x),fun a o x=>let ⟨sl,y⟩:=pu.fr a o x;⟨sl,(oth a (neT a o x)).trans y⟩⟩,new,
  ob,vs,(oth e (Ne.symm t3)).trans ho,hcl,hv,hc,T,_,_,t1,t2,t3,Heap.get?_update_self _ t4 (Obj.isFreed_of_fields (Obj.data_mapFields t5 _)),Obj.data_mapFields t5 _,by simp [hsz3]⟩)
theorem JV {env:Env}{Fs:List Addr}{L e:Addr}{h0:Heap}{cls ctx:Value}{fl:Option Addr} (hf:env.frame=some L) (X:Vg Fs h0 e cls ctx (.tr fl) s.heap)
  (q:∀ h',Vg Fs h0 e cls ctx (.tr (some L)) h'->E (.ref e) { s with heap:=h' }):cameBackBy M A env E (.ref e) s:=by
 obtain ⟨pu,new,ob,vs,ho,hcl,hv,hc,T,oT,ts,t1,r⟩:=id X
 unfold cameBackBy
 refine wpAny_bind (wpAny_field ho hv t1 ?_)
 rw [if_neg (show ¬ (Value.ref T == Value.none)=true by simp)]
 rw [hf]
 exact Qu X q
theorem Oa {α:Type}{env:Env}{Fs:List Addr}{L e:Addr}{h0:Heap}{cls ctx:Value}{fl:Option Addr}{what:String}{Q:α->Shared->Prop} (hf:env.frame=some L) (X:Vg Fs h0 e cls ctx (.tr fl) s.heap)
  (q:∀ h',Vg Fs h0 e cls ctx (.tr (some L)) h'->E (.ref e) { s with heap:=h' }):wpAny M A (PySem.passOn what (.ref e) env:Sem α) Q E s:=by
 obtain ⟨pu,new,ob,vs,ho,hcl,hv,hc,T,oT,ts,t1,r⟩:=id X
 unfold PySem.passOn
 refine wpAny_bind (wpAny_field ho hv t1 ?_)
 rw [if_neg (show ¬ (Value.ref T == Value.none)=true by simp)]
 rw [hf]
 exact wpAny_bind (Qu X fun h' X'=>wpAny_throw (q h' X'))
theorem Vg.ofNew {Fs:List Addr}{h0 h:Heap}{e:Addr}{cls:String} (x:Heap.NewExc h0 h e cls):Vg Fs h0 e (.type cls) .none .new h:=by
 obtain ⟨k,n,ob,t,ho,hc,hv⟩:=x
 exact ⟨.of_keeps k,n,ob,_,ho,hc,hv,rfl,rfl⟩
end
structure Mt (Fs:List Addr) (D:Addr->Prop) (h h':Heap):Prop where
 keep:∀ a o,a∉Fs->¬ D a->h.get? a=some o->h'.get? a=some o
 fr:∀ a o,¬ D a->h.get? a=some o->∃ sl,h'.get? a=some { o with slots:=sl }
 al:∀ a o,h.get? a=some o->∃ o',h'.get? a=some o'
theorem Mt.toPu {Fs:List Addr}{h h':Heap} (m:Mt Fs (fun Z=>False) h h'):Pu Fs h h':=⟨fun a o n e=>m.keep a o n id e,fun a o e=>m.fr a o id e⟩
structure Ent where
 F0:List Addr
 h0:Heap
 D0:Addr->Prop
 N0:Addr->Prop
noncomputable def Ent.Wr (E:Ent) (a:Addr):Prop:=E.D0 a∨E.h0.get? a=none
structure Im (E:Ent) (C:Cx) (N:Addr->Prop) (μ:Mu) (l:List (Str×AV)) (h:Heap):Prop where
 st:St C N μ l h
 own:Own C N μ E.h0
 mt:Mt E.F0 E.D0 E.h0 h
 cel:∀ n c,C.env.cells.lookup n=some c->∃ v₀,h.IsCell c v₀
 sub:∀ a∈C.Fs,a∈E.F0∨E.h0.get? a=none
 gs:∀ a,E.N0 a->N a
 gr:∀ a,N a->E.N0 a∨E.h0.get? a=none
structure Kp (C:Cx) (μ:Mu) (h h':Heap):Prop where
 keep:∀ a o,a∉C.Fs->(∀ n,C.env.cells.lookup n≠some a)->μ a=none->h.get? a=some o->h'.get? a=some o
 al:∀ a o,h.get? a=some o->∃ o',h'.get? a=some o'
theorem Kp.refl (C:Cx) (μ:Mu) (h:Heap):Kp C μ h h:=⟨fun Z Z Z Z Z e=>e,fun Z o e=>⟨o,e⟩⟩
structure Gr (N N':Addr->Prop) (μ μ':Mu) (h:Heap):Prop where
 up:∀ a,N a->N' a
 new:∀ a,N' a->N a∨h.get? a=none
 mu:∀ a,μ' a≠none->μ a≠none∨h.get? a=none
theorem Gr.refl (N:Addr->Prop) (μ:Mu) (h:Heap):Gr N N μ μ h:=⟨fun Z x=>x,fun Z x=>.inl x,fun Z x=>.inl x⟩
theorem Gr.trans {N N' N'':Addr->Prop}{μ μ' μ'':Mu}{h h':Heap} (a:Gr N N' μ μ' h) (b:Gr N' N'' μ' μ'' h') (al:∀ x o,h.get? x=some o->∃ o',h'.get? x=some o'):Gr N N'' μ μ'' h:=by
 have nn:∀ x,h'.get? x=none->h.get? x=none:=fun x e=>by
  cases q:h.get? x with
  | none=>rfl
  | some o=>refine xE (al x o q) fun Z y=>?_;replace y:=Eq.trans (Eq.symm e) y;exact noS y
 exact ⟨fun x n=>b.up x (a.up x n),fun x n=>(b.new x n).elim (a.new x) fun e=>.inr (nn x e),fun x n=>(b.mu x n).elim (a.mu x) fun e=>.inr (nn x e)⟩
theorem Kp.trans {C:Cx}{N N':Addr->Prop}{μ μ':Mu}{h h' h'':Heap} (a:Kp C μ h h') (b:Kp C μ' h' h'') (g:Gr N N' μ μ' h):Kp C μ h h'' :=
 ⟨fun x o n1 n2 n3 e=>b.keep x o n1 n2 (by
   cases q:μ' x with
   | none=>rfl
   | some m =>
    rcases g.mu x (by rw [q];exact Option.some_ne_none m) with y|y
    ·exact absurd n3 y
    ·replace e:=Eq.trans (Eq.symm y) e;exact noS e) (a.keep x o n1 n2 n3 e),
  fun x o e=>let ⟨_,y⟩:=a.al x o e;b.al x _ y⟩
section
variable {E:Ent}{C:Cx}{N:Addr->Prop}{μ:Mu}{l:List (Str×AV)}{h:Heap}
theorem Kp.ofPu {h':Heap} (P:Pu C.Fs h h'):Kp C μ h h':=⟨fun a o n Z Z e=>P.keep a o n e,fun a o e=>let ⟨_,y⟩:=P.fr a o e;⟨_,y⟩⟩
theorem Im.pu {h':Heap} (I:Im E C N μ l h) (P:Pu C.Fs h h'):Im E C N μ l h' where
 st:=I.st.pu P
 own:=I.own
 mt:=⟨fun a o n d e=>P.keep a o (fun m=>(I.sub a m).elim n fun q=>by replace e:=Eq.trans (Eq.symm q) e;exact noS e) (I.mt.keep a o n d e),fun a o d e=>let ⟨_,x⟩:=I.mt.fr a o d e;let ⟨sl,y⟩:=P.fr a _ x;⟨sl,y⟩,
  fun a o e=>let ⟨_,x⟩:=I.mt.al a o e;let ⟨_,y⟩:=P.fr a _ x;⟨_,y⟩⟩
 cel:=fun n c e=>let ⟨v,x⟩:=I.cel n c e;⟨v,P.cell x⟩
 sub:=I.sub
 gs:=I.gs
 gr:=I.gr
noncomputable def upd (μ:Mu) (a:Addr) (m:MO):Mu:=fun x=>if x=a then some m else μ x
theorem Zb (μ:Mu) (a:Addr) (m:MO):upd μ a m a=some m:=if_pos rfl
theorem Za {μ:Mu}{a b:Addr}{m:MO} (h:b≠a):upd μ a m b=μ b:=if_neg h
theorem Wd.upd {w:World}{h₁:Heap}{Fs:List Addr}{h':Heap}{a:Addr}{m m':MO} (W:Wd w h₁ Fs N μ h) (ha:μ a=some m) (hdm:∀ kvs,m'=.dict kvs->∃ kvs',m=.dict kvs') (hs:Heap.SameBut a h h') {o:Obj} (ho:h'.get? a=some o) (r:Fz N N h h'->Yt w N h' o m'):Wd w h₁ Fs N (Mine.upd μ a m') h':=by
 refine xAA (W.mu a m ha) fun na fa Z=>?_
 have fz:Fz N N h h':=⟨fun b o n e=>hs.extBut b o (fun q=>n (q▸na)) e,fun Z y=>.inl y⟩
 refine ⟨fun b o e=>hs.extBut b o (fun q=>W.notN e (q▸na)) (W.stays b o e),W.nlo,fun b n=>?_,W.fsN,fun b mb=>?_,fun b mb e=>?_,fun b mb e=>?_⟩
 ·by_cases q:b=a
  ·exact ⟨o,q▸ho⟩
  ·refine xE (W.nhi b n) fun x e=>?_;exact ⟨x,hs.extBut b x q e⟩
 ·refine ZE (W.fr b mb) fun x es n e d=>?_;exact ⟨x,es,n,hs.extBut b x (fun q=>fa (q▸mb)) e,d⟩
 ·by_cases q:b=a
  ·subst q
   replace e:=Eq.trans (Eq.symm (Zb _ _ _)) e;obtain rfl:=Option.some.inj e
   exact ⟨na,fa,o,ho,r fz⟩
  ·replace e:=Eq.trans (Eq.symm (Za q)) e
   refine ZL (W.mu b mb e) fun n f x hx rx=>?_
   exact ⟨n,f,x,hs.extBut b x q hx,rx.mono fz⟩
 ·by_cases q:b=a
  ·subst q
   replace e:=Eq.trans (Eq.symm (Zb _ _ _)) e
   (refine xE (hdm mb (Option.some.inj e)) fun kvs' Z0=>?_;subst Z0)
   exact W.mm b kvs' ha
  ·replace e:=Eq.trans (Eq.symm (Za q)) e;exact W.mm b mb e
noncomputable def PY:Option MO->Nat
 | none=>0
 | some (.list _)=>1
 | some (.dict _)=>2
 | some (.set _)=>3
 | some (.inst _ _)=>4
 | some (.ns _)=>5
 | some (.info _ _ _)=>6
 | some (.iter _ _)=>7
 | some (.nxt _)=>8
 | some (.tup _)=>9
 | some .any=>10
 | some (.exc _ _)=>11
 | some (.part _)=>12
theorem kd2 {μ:Mu}{y z:Addr}{v v':Option MO} (h1:μ y=v) (h2:μ z=v') (h3:Nat.beq (PY v) (PY v')=false):y≠z:=fun q=>by
 rw [← q,h1] at h2;rw [h2,Nat.beq_refl] at h3;exact Bool.noConfusion h3
theorem Im.upd {h':Heap}{a:Addr}{m m':MO} (I:Im E C N μ l h) (ha:μ a=some m) (hdm:∀ kvs,m'=.dict kvs->∃ kvs',m=.dict kvs') (hw:E.Wr a) (hs:Heap.SameBut a h h') {o:Obj} (ho:h'.get? a=some o) (r:Fz N N h h'->Yt C.w N h' o m') :
  Im E C N (Mine.upd μ a m') l h'/\Kp C μ h h':=by
 refine xAA (I.st.wd.mu a m ha) fun na fa Z=>?_
 have fz:Fz N N h h':=⟨fun b o n e=>hs.extBut b o (fun q=>n (q▸na)) e,fun Z y=>.inl y⟩
 have cne:∀ n c,C.env.cells.lookup n=some c->c≠a:=fun n c e q=>by have:=(I.own.cell n c e).2.2.1;rw [q,ha] at this;exact sNo this
 have al:∀ b x,h.get? b=some x->∃ o',h'.get? b=some o':=fun b x e=>by
  by_cases q:b=a
  ·exact ⟨o,q▸ho⟩
  ·exact ⟨x,hs.extBut b x q e⟩
 have h0ne:∀ b x,¬ E.D0 b->E.h0.get? b=some x->b≠a:=fun b x d e q=>hw.elim (fun y=>d (q▸y)) fun y=>by rw [q,y] at e;exact noS e
 refine ⟨⟨⟨I.st.wd.upd ha hdm hs ho r,⟨?_,fun x d hx hk=>?_⟩⟩,⟨I.own.loc,I.own.locF,fun n c e=>?_,I.own.inj⟩,⟨fun b x n d e=>?_,fun b x d e=>?_,fun b x e=>?_⟩,fun n c e=>?_,I.sub,I.gs,I.gr⟩,⟨fun b x n1 n2 n3 e=>hs.extBut b x (fun q=>by rw [q,ha] at n3;exact sNo n3) e,al⟩⟩
 ·refine xEA I.st.fm.ns fun ms ns rr=>?_
  refine ⟨ms,ns.sameBut hs fun q=>fa (q▸I.own.loc),fun x d hx hk=>?_⟩
  refine xEA (rr x d hx hk) fun v e1 e2=>?_
  exact ⟨v,e1,e2.mono fz⟩
 ·refine Zn (I.st.fm.cl x d hx hk) fun c v e1 e2 e3=>?_
  exact ⟨c,v,e1,e2.sameBut hs (cne x c e1),e3.mono fz⟩
 ·refine VA (I.own.cell n c e) fun c1 c2 c3 c4=>?_
  exact ⟨c1,c2,by exact Eq.trans (Za (cne n c e)) c3,c4⟩
 ·exact hs.extBut b x (h0ne b x d e) (I.mt.keep b x n d e)
 ·refine xE (I.mt.fr b x d e) fun sl y=>?_
  exact ⟨sl,hs.extBut b _ (h0ne b x d e) y⟩
 ·refine xE (I.mt.al b x e) fun o' y=>?_
  exact al b o' y
 ·refine xE (I.cel n c e) fun v y=>?_
  exact ⟨v,y.sameBut hs (cne n c e)⟩
theorem Im.new {h':Heap}{a:Addr}{m':MO} (I:Im E C N μ l h) (hne:∀ kvs,m'=.dict kvs->a≠sysModules) (k:∀ b o,h.get? b=some o->h'.get? b=some o) (ha:h.get? a=none) {o:Obj} (ho:h'.get? a=some o) (r:Yt C.w (Un N [a]) h' o m') :
  Im E C (Un N [a]) (Mine.upd μ a m') l h'/\Kp C μ h h'/\Gr N (Un N [a]) μ (Mine.upd μ a m') h/\E.h0.get? a=none/\μ a=none:=by
 have hm:μ a=none:=by
  cases q:μ a with
  | none=>rfl
  | some m=>refine ZL (I.st.wd.mu a m q) fun Z Z x e Z=>?_;replace e:=Eq.trans (Eq.symm ha) e;exact noS e
 have h0:E.h0.get? a=none:=by
  cases q:E.h0.get? a with
  | none=>rfl
  | some x=>refine xE (I.mt.al a x q) fun Z y=>?_;replace y:=Eq.trans (Eq.symm ha) y;exact noS y
 have afs:a∉C.Fs:=fun mm=>by refine ZE (I.st.wd.fr a mm) fun x Z Z e Z=>?_;replace e:=Eq.trans (Eq.symm ha) e;exact noS e
 have nf:∀ b∈[a],h.get? b=none:=fun b hb=>by rw [List.mem_singleton.mp hb];exact ha
 have P:Pu C.Fs h h':=.of_keeps k
 have fz:Fz N (Un N [a]) h h':=Fz.un k nf
 have W:=I.st.wd.grow P nf fun b hb=>by rw [List.mem_singleton.mp hb];exact ⟨o,ho⟩
 have cne:∀ n c,C.env.cells.lookup n=some c->c≠a:=fun n c e q=>by refine QE (I.cel n c e) fun v x y Z=>?_;rw [q,ha] at y;exact noS y
 refine ⟨⟨⟨⟨W.stays,W.nlo,W.nhi,W.fsN,W.fr,fun b mb e=>?_,fun b mb e=>?_⟩,⟨?_,fun x d hx hk=>?_⟩⟩,⟨I.own.loc,I.own.locF,fun n c e=>?_,I.own.inj⟩,(I.pu P).mt,(I.pu P).cel,I.sub,fun x n=>.inl (I.gs x n),fun x n=>n.elim (I.gr x) fun q=>.inr (by rw [List.mem_singleton.mp q];exact h0)⟩,.ofPu P,⟨fun x n=>.inl n,fun x n=>n.elim .inl fun q=>.inr (nf x q),fun x n=>?_⟩,h0,hm⟩
 ·by_cases q:b=a
  ·subst q
   replace e:=Eq.trans (Eq.symm (Zb _ _ _)) e;obtain rfl:=Option.some.inj e
   exact ⟨.inr (by exact List.mem_cons_self),afs,o,ho,r⟩
  ·replace e:=Eq.trans (Eq.symm (Za q)) e;exact W.mu b mb e
 ·by_cases q:b=a
  ·subst q;replace e:=Eq.trans (Eq.symm (Zb _ _ _)) e;exact hne mb (Option.some.inj e)
  ·replace e:=Eq.trans (Eq.symm (Za q)) e;exact W.mm b mb e
 ·refine xEA I.st.fm.ns fun ms ns rr=>?_
  refine ⟨ms,P.ns ns,fun x d hx hk=>?_⟩
  refine xEA (rr x d hx hk) fun v e1 e2=>?_
  exact ⟨v,e1,e2.mono fz⟩
 ·refine Zn (I.st.fm.cl x d hx hk) fun c v e1 e2 e3=>?_
  exact ⟨c,v,e1,P.cell e2,e3.mono fz⟩
 ·refine VA (I.own.cell n c e) fun c1 c2 c3 c4=>?_
  exact ⟨.inl c1,c2,by exact Eq.trans (Za (cne n c e)) c3,c4⟩
 ·by_cases q:x=a
  ·exact .inr (q▸ha)
  ·rw [Za q] at n;exact .inl n
theorem Im.store (K:C.env.scope.kind=.function) {s:Shared} (I:Im E C N μ l s.heap) {x:Str}{v:Value}{d:AV} (R:RdA N s.heap v d) (hk:Zp C x)
  {Q:Unit->Shared->Prop}{X:Value->Shared->Prop} (q:∀ h' tk,Im E C N μ ((x,d)::l) h'->Fz N N s.heap h'->Kp C μ s.heap h'->Q () { s with heap:=h',toks:=tk }):wpAny (model pg C.w) C.A (storeName C.env x v) Q X s:=by
 have W0:=I.own
 have S:=I.st
 have mtOf:∀ (c:Addr) (h':Heap),E.h0.get? c=none->Heap.SameBut c s.heap h'->(∃ o,h'.get? c=some o)->Mt E.F0 E.D0 E.h0 h':=fun c h' hc hs al=>by
  have ne:∀ b o,E.h0.get? b=some o->b≠c:=fun b o e q=>by rw [q,hc] at e;exact noS e
  exact ⟨fun b o n d e=>hs.extBut b o (ne b o e) (I.mt.keep b o n d e),fun b o d e=>let ⟨sl,y⟩:=I.mt.fr b o d e;⟨sl,hs.extBut b _ (ne b o e) y⟩,
   fun b o e=>let ⟨o',y⟩:=I.mt.al b o e;⟨o',hs.extBut b o' (ne b o e) y⟩⟩
 have alOf:∀ (c:Addr) (h':Heap),Heap.SameBut c s.heap h'->(∃ o,h'.get? c=some o)->∀ b o,s.heap.get? b=some o->∃ o',h'.get? b=some o':=fun c h' hs al b o e=>by
  by_cases q:b=c
  ·exact q▸al
  ·exact ⟨o,hs.extBut b o q e⟩
 rcases hk with hk|⟨hk,hc⟩
 ·refine xEA S.fm.ns fun m n r=>?_
  refine wpAny_storeName_local hk n (fun h' hn hs=>?_) (by rw [K];rfl)
  have nL:=S.wd.fsN _ W0.loc
  have fz:Fz N N s.heap h':=⟨fun a o n e=>hs.extBut a o (fun q=>n (q▸nL)) e,fun Z y=>.inl y⟩
  have al:∃ o,h'.get? C.env.locals=some o:=let ⟨o,_,_,e,_⟩:=hn;⟨o,e⟩
  refine q h' _ ⟨⟨S.wd.frame W0.loc hs hn,⟨⟨_,hn,fun y e he hy=>?_⟩,fun y e he hy=>?_⟩⟩,W0,mtOf _ _ W0.locF hs al,fun n c hc=>?_,I.sub,I.gs,I.gr⟩ fz ⟨fun a o n1 n2 n3 e=>hs.extBut a o (fun q=>n1 (q▸W0.loc)) e,alOf _ _ hs al⟩
  ·rcases ZJ he with ⟨rfl,rfl⟩|⟨ne,he⟩
   ·exact ⟨v,by simp,R.mono fz⟩
   ·refine xEA (r y e he hy) fun u a b=>?_
    exact ⟨u,by simp [ne,a],b.mono fz⟩
  ·rcases ZJ he with ⟨rfl,rfl⟩|⟨ne,he⟩
   ·rw [hk] at hy;cases hy
   ·refine Zn (S.fm.cl y e he hy) fun c u a b g=>?_
    exact ⟨c,u,a,b.sameBut hs fun q=>(W0.cell y c a).2.1 (q▸W0.loc),g.mono fz⟩
  ·refine xE (I.cel n c hc) fun v₀ hv=>?_
   exact ⟨v₀,hv.sameBut hs fun q=>(W0.cell n c hc).2.1 (q▸W0.loc)⟩
 ·refine xE (Option.isSome_iff_exists.mp hc) fun c hc=>?_
  refine xE (I.cel x c hc) fun v₀ hv=>?_
  refine VA (W0.cell x c hc) fun nc fc mc f0=>?_
  refine wpAny_storeName_cell K hk hc hv fun h' hn hs=>?_
  have fz:Fz N N s.heap h':=⟨fun a o n e=>hs.extBut a o (fun q=>n (q▸nc)) e,fun Z y=>.inl y⟩
  have al:∃ o,h'.get? c=some o:=let ⟨o,e,_⟩:=hn;⟨o,e⟩
  refine xEA S.fm.ns fun m n r=>?_
  refine q h' s.toks ⟨⟨S.wd.other nc fc mc hs al,⟨⟨m,n.sameBut hs fun q=>fc (q▸W0.loc),fun y e he hy=>?_⟩,fun y e he hy=>?_⟩⟩,W0,mtOf _ _ f0 hs al,fun n c' hc'=>?_,I.sub,I.gs,I.gr⟩ fz ⟨fun a o n1 n2 n3 e=>hs.extBut a o (fun q=>n2 x (q▸hc)) e,alOf _ _ hs al⟩
  ·rcases ZJ he with ⟨rfl,rfl⟩|⟨ne,he⟩
   ·rw [hk] at hy;cases hy
   ·refine xEA (r y e he hy) fun u a b=>?_
    exact ⟨u,a,b.mono fz⟩
  ·rcases ZJ he with ⟨rfl,rfl⟩|⟨ne,he⟩
   ·exact ⟨c,v,hc,hn,R.mono fz⟩
   ·refine Zn (S.fm.cl y e he hy) fun c' u a b g=>?_
    exact ⟨c',u,a,b.sameBut hs fun q=>ne (W0.inj y x c (q▸a) hc),g.mono fz⟩
  ·by_cases q:c'=c
   ·exact ⟨some v,q▸hn⟩
   ·refine xE (I.cel n c' hc') fun v₁ hv'=>?_
    exact ⟨v₁,hv'.sameBut hs q⟩
inductive XF where
 | nxt
 | brk
 | cnt
 | ret (d:AV)
 | exc (cls ctx:Value)
noncomputable def Dk (N:Addr->Prop) (h:Heap):Flow->XF->Prop
 | .next,.nxt=>True
 | .brk,.brk=>True
 | .cont,.cnt=>True
 | .ret v,.ret d=>RdA N h v d
 | _,_=>False
noncomputable abbrev Zq:=XF->Mu->List (Str×AV)->Prop
noncomputable def Exc (E:Ent) (C:Cx) (N:Addr->Prop) (μ:Mu) (s:Shared) (Φ:Zq) (X:Value->Shared->Prop):Prop :=
 ∀ e cls ctx ph N' μ' l' h1 h' tk,Φ (.exc cls ctx) μ' l'->Im E C N' μ' l' h1->Kp C μ s.heap h1->Gr N N' μ μ' s.heap->Vg C.Fs h1 e cls ctx ph h'->(ph=.new∨ph=.tr none∨ph=.tr (some C.env.locals))->X (.ref e) { s with heap:=h',toks:=tk }
noncomputable def Xs (E:Ent) (C:Cx) (μ:Mu) (l:List (Str×AV)) (body:List Stmt) (Φ:Zq):Prop :=
 ∀ (N:Addr->Prop) (s:Shared),Im E C N μ l s.heap->∀ (Q:Flow->Shared->Prop) (X:Value->Shared->Prop),
  (∀ fl f N' μ' l' h' tk,Φ f μ' l'->Im E C N' μ' l' h'->Kp C μ s.heap h'->Gr N N' μ μ' s.heap->Dk N' h' fl f->Q fl { s with heap:=h',toks:=tk })->Exc E C N μ s Φ X ->
  wpAny (model pg C.w) C.A (execs body C.env) Q X s
noncomputable def X1 (E:Ent) (C:Cx) (μ:Mu) (l:List (Str×AV)) (st:Stmt) (Φ:Zq):Prop :=
 ∀ (N:Addr->Prop) (s:Shared),Im E C N μ l s.heap->∀ (Q:Flow->Shared->Prop) (X:Value->Shared->Prop),
  (∀ fl f N' μ' l' h' tk,Φ f μ' l'->Im E C N' μ' l' h'->Kp C μ s.heap h'->Gr N N' μ μ' s.heap->Dk N' h' fl f->Q fl { s with heap:=h',toks:=tk })->Exc E C N μ s Φ X ->
  wpAny (model pg C.w) C.A (exec st C.env) Q X s
noncomputable def Em (E:Ent) (C:Cx) (μ:Mu) (l:List (Str×AV)) (e:Expr) (Ψ:AV->Mu->Prop) (Φ:Zq):Prop :=
 ∀ (N:Addr->Prop) (s:Shared),Im E C N μ l s.heap->∀ (Q:Value->Shared->Prop) (X:Value->Shared->Prop),
  (∀ v d N' μ' h' tk,Ψ d μ'->Im E C N' μ' l h'->Kp C μ s.heap h'->Gr N N' μ μ' s.heap->RdA N' h' v d->Q v { s with heap:=h',toks:=tk })->Exc E C N μ s Φ X ->
  wpAny (model pg C.w) C.A (eval e C.env) Q X s
end
section
variable {E:Ent}{C:Cx}{μ:Mu}{l:List (Str×AV)}
theorem Exc.after {N N':Addr->Prop}{μ':Mu}{s s':Shared}{Φ:Zq}{X:Value->Shared->Prop} (x:Exc E C N μ s Φ X) (k:Kp C μ s.heap s'.heap) (g:Gr N N' μ μ' s.heap) (e:∀ h tk,{ s with heap:=h,toks:=tk }={ s' with heap:=h,toks:=tk }):Exc E C N' μ' s' Φ X :=
 fun ee cls ctx ph N'' μ'' l'' h1 h' tk a b c d f i=>by
  have:=x ee cls ctx ph N'' μ'' l'' h1 h' tk a b (k.trans c g) (g.trans d k.al) f i
  rw [e] at this;exact this
theorem Em.ofEv {e:Expr}{d:AV}{Φ:Zq} (h:Ev C μ l e d):Em E C μ l e (fun d' μ'=>d'=d/\μ'=μ) Φ :=
 fun N s I Q X q x=>h N s I.st _ _ fun v h' tk P R=>q v d N μ h' tk ⟨rfl,rfl⟩ (I.pu P) (.ofPu P) (.refl _ _ _) R
theorem Xs.nil {Φ:Zq} (h:Φ .nxt μ l):Xs E C μ l [] Φ:=fun N s I Q X q x=>by
 exact wpAny_execs_nil (q .next .nxt N μ l s.heap s.toks h I (.refl _ _ _) (.refl _ _ _) trivial)
theorem Xs.mono {body:List Stmt}{Φ Ψ:Zq} (h:Xs E C μ l body Φ) (i:∀ f μ' l',Φ f μ' l'->Ψ f μ' l'):Xs E C μ l body Ψ :=
 fun N s I Q X q x=>h N s I Q X (fun fl f N' μ' l' h' tk a b c d e=>q fl f N' μ' l' h' tk (i _ _ _ a) b c d e) fun e cls ctx ph N' μ' l' h1 h' tk a b c d f g=>x e cls ctx ph N' μ' l' h1 h' tk (i _ _ _ a) b c d f g
noncomputable abbrev lp (I:Mu->List (Str×AV)->Prop) (Φ:Zq):Zq:=fun f μ' l'=>match f with|.nxt=>I μ' l'|.cnt=>I μ' l'|.brk=>Φ .nxt μ' l'|.ret d=>Φ (.ret d) μ' l'|.exc a b=>Φ (.exc a b) μ' l'
theorem Xs.post {r:List Stmt}{Φ:Zq} (h:∀ Ψ:Zq,(∀ f μ' l',Φ f μ' l'->Ψ f μ' l')->Xs E C μ l r Ψ):Xs E C μ l r Φ:=h Φ fun Z Z Z x=>x
theorem X1.post {r:Stmt}{Φ:Zq} (h:∀ Ψ:Zq,(∀ f μ' l',Φ f μ' l'->Ψ f μ' l')->X1 E C μ l r Ψ):X1 E C μ l r Φ:=h Φ fun Z Z Z x=>x
theorem Xs.seq {st:Stmt}{r:List Stmt}{Ψ Φ:Zq} (h:X1 E C μ l st Ψ) (hr:∀ f μ' l',Ψ f μ' l'->match f with|.nxt=>Xs E C μ' l' r Φ|f=>Φ f μ' l'):Xs E C μ l (st::r) Φ:=by
 intro N s I Q X q x
 refine wpAny_execs_cons (h N s I _ _ (fun fl f N' μ' l' h' tk a b c d e=>?_) fun e cls ctx ph N' μ' l' h1 h' tk a b c d f g=>x e cls ctx ph N' μ' l' h1 h' tk (hr _ _ _ a) b c d f g)
 cases f with
 | nxt =>
  cases fl <;> first|exact e.elim|skip
  have:=hr .nxt μ' l' a N' { s with heap:=h',toks:=tk } b Q X (fun fl f N'' μ'' l'' h'' tk' a' b' c' d' e'=>q fl f N'' μ'' l'' h'' tk' a' b' (c.trans c' d) (d.trans d' c.al) e') (x.after c d fun Z Z=>rfl)
  exact this
 | brk=>cases fl <;> first|exact e.elim|exact q _ _ N' μ' l' h' tk (hr _ _ _ a) b c d e
 | cnt=>cases fl <;> first|exact e.elim|exact q _ _ N' μ' l' h' tk (hr _ _ _ a) b c d e
 | ret dd=>cases fl <;> first|exact e.elim|exact q _ _ N' μ' l' h' tk (hr _ _ _ a) b c d e
 | exc a1 a2=>cases fl <;> exact e.elim
end
structure Hdr (C:Cx):Prop where
 envs:∃ outer,C.envs=C.env::outer
 frame:C.env.frame=some C.env.locals
 frames:C.A.frames=some C.envs
 kinds:∀ e∈C.envs,e.scope.kind≠.module/\∃ L,e.frame=some L
 kind:C.env.scope.kind=.function
theorem Hdr.mark {C:Cx} (H:Hdr C) (x:Option Value):Hdr { C with A:=C.A.mark x }:=⟨H.envs,H.frame,H.frames,H.kinds,H.kind⟩
section
variable {E:Ent}{C:Cx}{N:Addr->Prop}{μ:Mu}{l:List (Str×AV)}{h:Heap}
theorem Hdr.dfr (H:Hdr C) (W:Wd C.w C.h₁ C.Fs N μ h):DFr C.envs h:=fun e he=>by
 (refine xA (H.kinds e he) fun k Zr0=>?_;refine xE Zr0 fun L hL=>?_;clear Zr0)
 refine ZE (W.fr L (List.mem_filterMap.mpr ⟨e,he,hL⟩)) fun o es n ho hd=>?_
 exact ⟨k,L,o,es,n,hL,ho,hd⟩
theorem Wa {E':Value->Shared->Prop} (H:Hdr C) {h1:Heap} (W:Wd C.w C.h₁ C.Fs N μ h1) {s:Shared}{e:Addr}{cls ctx:Value}{ph:Ph}{Q:Unit->Shared->Prop} (X:Vg C.Fs h1 e cls ctx ph s.heap) (hph:ph=.new∨ph=.tr none∨ph=.tr (some C.env.locals))
  (q:∀ h',Vg C.Fs h1 e cls ctx (.tr (some C.env.locals)) h'->Q () { s with heap:=h' }):wpAny (model pg C.w) C.A (noteFrame (.ref e) C.env) Q E' s:=by
 refine xE H.envs fun outer ho=>?_
 have d:=H.dfr W
 have hfr:=H.frames
 unfold Cx.Fs at X q
 rw [ho] at X q d hfr
 exact Dn hfr H.frame d X hph q
theorem Exc.noted (H:Hdr C) {s:Shared}{Φ:Zq}{X:Value->Shared->Prop} (x:Exc E C N μ s Φ X):Exc E C N μ s Φ (notedBy (model pg C.w) C.A C.env (cameBackBy (model pg C.w) C.A C.env X)):=by
 intro e cls ctx ph N' μ' l' h1 h' tk a b c d f g
 unfold notedBy
 refine Wa H b.st.wd f g fun h2 X2=>?_
 exact JV H.frame X2 fun h3 X3=>x e cls ctx _ N' μ' l' h1 h3 tk a b c d X3 (.inr (.inr rfl))
theorem Exc.mono {s:Shared}{Φ Ψ:Zq}{X:Value->Shared->Prop} (x:Exc E C N μ s Ψ X) (i:∀ a b μ' l',Φ (.exc a b) μ' l'->Ψ (.exc a b) μ' l'):Exc E C N μ s Φ X :=
 fun e cls ctx ph N' μ' l' h1 h' tk a b c d f g=>x e cls ctx ph N' μ' l' h1 h' tk (i _ _ _ _ a) b c d f g
end
section
variable {E:Ent}{C:Cx}{μ:Mu}{l:List (Str×AV)}{Φ:Zq}{r:List Stmt}{Ψ:AV->Mu->Prop}
theorem Xs.ret {e:Expr}{pos:Pos} (h:Em E C μ l e Ψ Φ) (hq:∀ d μ',Ψ d μ'->Φ (.ret d) μ' l):Xs E C μ l (.Return (some e) pos::r) Φ:=by
 intro N s I Q X q x
 refine wpAny_execs_cons (wpAny_Return_some (h N s I _ _ (fun v d N' μ' h' tk a b c g R=>?_) x))
 exact q _ (.ret d) N' μ' l h' tk (hq d μ' a) b c g R
theorem Xs.brk {pos:Pos} (hq:Φ .brk μ l):Xs E C μ l (.Break pos::r) Φ:=by
 intro N s I Q X q x
 exact wpAny_execs_cons (wpAny_Break (q .brk .brk N μ l s.heap s.toks hq I (.refl _ _ _) (.refl _ _ _) trivial))
theorem Xs.cnt {pos:Pos} (hq:Φ .cnt μ l):Xs E C μ l (.Continue pos::r) Φ:=by
 intro N s I Q X q x
 exact wpAny_execs_cons (wpAny_Continue (q .cont .cnt N μ l s.heap s.toks hq I (.refl _ _ _) (.refl _ _ _) trivial))
theorem Xs.expr {e:Expr}{pos:Pos} (H:Hdr C) (h:Em E C μ l e Ψ Φ) (hs:swapsWith e none pos.line C.env=pure false) (hr:∀ d μ',Ψ d μ'->Xs E C μ' l r Φ):Xs E C μ l (.Expr e pos::r) Φ:=by
 intro N s I Q X q x
 refine wpAny_execs_cons (wpAny_Expr_any (h N s I _ _ (fun v d N' μ' h' tk a b c g R=>?_) x) (by unfold interactive;rw [H.kind];rfl) hs)
 exact hr d μ' a N' { s with heap:=h',toks:=tk } b Q X (fun fl f N'' μ'' l'' h'' tk' a' b' c' d' e'=>q fl f N'' μ'' l'' h'' tk' a' b' (c.trans c' g) (g.trans d' c.al) e') (x.after c g fun Z Z=>rfl)
theorem Xs.assign {e:Expr}{x:Str}{p pos:Pos} (H:Hdr C) (h:Em E C μ l e Ψ Φ) (hk:Zp C x) (hs:swapsWith e (some (.Name x p)) pos.line C.env=pure false) (hr:∀ d μ',Ψ d μ'->Xs E C μ' ((x,d)::l) r Φ) :
  Xs E C μ l (.Assign [.Name x p] e pos::r) Φ:=by
 intro N s I Q X q xx
 refine wpAny_execs_cons (wpAny_Assign_Name (h N s I _ _ (fun v d N' μ' h' tk a b c g R=>?_) xx) hs)
 refine b.store H.kind (s:={ s with heap:=h',toks:=tk }) R hk fun h2 tk2 b2 fz2 c2=>?_
 have c12:Kp C μ s.heap h2:=c.trans c2 g
 exact hr d μ' a N' { s with heap:=h2,toks:=tk2 } b2 Q X (fun fl f N'' μ'' l'' h'' tk' a' b' c' d' e'=>q fl f N'' μ'' l'' h'' tk' a' b' (c12.trans c' g) (g.trans d' c12.al) e') (xx.after c12 g fun Z Z=>rfl)
theorem Xs.assign2 {e:Expr}{x y:Str}{p p' pos:Pos}{d:AV} (H:Hdr C) (h:Ev C μ l e d) (hk:Zp C x) (hk':Zp C y) (hw:swappedStores [.Name x p,.Name y p'] e C.env=pure none) (hr:Xs E C μ ((y,d)::(x,d)::l) r Φ) :
  Xs E C μ l (.Assign [.Name x p,.Name y p'] e pos::r) Φ:=by
 intro N s I Q X q xx
 refine wpAny_execs_cons (wpAny_Assign_two (h N s I.st _ _ fun v h1 t1 P1 R1=>?_) rfl hw)
 refine PyProof.Rows.assign_Name ((I.pu P1).store H.kind (s:={ s with heap:=h1,toks:=t1 }) R1 hk fun h2 t2 b2 f2 c2=>?_)
 refine PyProof.Rows.assign_Name (b2.store H.kind (s:={ s with heap:=h2,toks:=t2 }) (R1.mono f2) hk' fun h3 t3 b3 f3 c3=>?_)
 have c13:Kp C μ s.heap h3:=((Kp.ofPu P1).trans c2 (.refl N μ s.heap)).trans c3 (.refl N μ s.heap)
 exact hr N { s with heap:=h3,toks:=t3 } b3 Q X (fun fl f N'' μ'' l'' h'' tk' a' b' c' d' e'=>q fl f N'' μ'' l'' h'' tk' a' b' (c13.trans c' (.refl N μ s.heap)) ((Gr.refl N μ s.heap).trans d' c13.al) e') (xx.after c13 (.refl _ _ _) fun Z Z=>rfl)
theorem Xs.aug {e:Expr}{x:Str}{p pos:Pos}{op:Operator}{a b d:AV} (H:Hdr C) (hx:∀ (N:Addr->Prop) (s:Shared),St C N μ l s.heap->∀ (Q:Value->Shared->Prop) (X:Value->Shared->Prop),Mf C N s a Q->wpAny (model pg C.w) C.A (loadName C.env x) Q X s)
  (h:Ev C μ l e b) (ho:Op2 C μ (inplaceOp op) a b d) (hk:Zp C x) (hr:Xs E C μ ((x,d)::l) r Φ):Xs E C μ l (.AugAssign (.Name x p) op e pos::r) Φ:=by
 intro N s I Q X q xx
 refine wpAny_execs_cons (wpAny_AugAssign_Name (hx N s I.st _ _ fun v0 h0 t0 P0 R0=>h N _ (I.st.pu P0) _ _ fun v1 h1 t1 P1 R1=>?_))
 refine ho N _ v0 v1 ((I.st.pu P0).pu P1).wd (R0.mono ((I.st.pu P0).fz P1)) R1 _ _ fun v2 h2 t2 P2 R2=>?_
 have P:=P0.trans (P1.trans P2)
 refine (I.pu P).store H.kind (s:={ s with heap:=h2,toks:=t2 }) R2 hk fun h3 t3 b3 f3 c3=>?_
 have c13:Kp C μ s.heap h3:=(Kp.ofPu P).trans c3 (.refl N μ s.heap)
 exact hr N { s with heap:=h3,toks:=t3 } b3 Q X (fun fl f N'' μ'' l'' h'' tk' a' b' c' d' e'=>q fl f N'' μ'' l'' h'' tk' a' b' (c13.trans c' (.refl N μ s.heap)) ((Gr.refl N μ s.heap).trans d' c13.al) e') (xx.after c13 (.refl _ _ _) fun Z Z=>rfl)
theorem V9 (K:C.env.scope.kind=.function) {x:Str}{d:AV} (hl:l.lookup x=some d) (hk:C.env.kindOf x=some .local):∀ (N:Addr->Prop) (s:Shared),St C N μ l s.heap->∀ (Q:Value->Shared->Prop) (X:Value->Shared->Prop),Mf C N s d Q->wpAny (model pg C.w) C.A (loadName C.env x) Q X s:=by
 intro N s S Q X q
 refine xEA S.fm.ns fun m n r=>?_
 refine xEA (r x d hl hk) fun v a b=>?_
 exact wpAny_loadName_local K hk n a (q v s.heap s.toks (.refl _ _) b)
theorem X1.ite {t:Expr}{body orelse:List Stmt}{pos:Pos}{b:Bool} (ht:Tst C μ l t b) (h1:b=true->Xs E C μ l body Φ) (h2:b=false->Xs E C μ l orelse Φ):X1 E C μ l (.If t body orelse pos) Φ:=by
 intro N s I Q X q xx
 refine wpAny_If (ht N s I.st _ _ fun h1' t1 P1=>?_)
 have go:∀ bd,Xs E C μ l bd Φ->wpAny (model pg C.w) C.A (execs bd C.env) Q X { s with heap:=h1',toks:=t1 }:=fun bd hb =>
  hb N { s with heap:=h1',toks:=t1 } (I.pu P1) Q X (fun fl f N'' μ'' l'' h'' tk' a' b' c' d' e'=>q fl f N'' μ'' l'' h'' tk' a' b' ((Kp.ofPu P1).trans c' (.refl N μ s.heap)) ((Gr.refl N μ s.heap).trans d' (Kp.ofPu (C:=C) (μ:=μ) P1).al) e') (xx.after (.ofPu P1) (.refl _ _ _) fun Z Z=>rfl)
 cases b with
 | true=>exact go _ (h1 rfl)
 | false=>exact go _ (h2 rfl)
noncomputable def GW (E:Ent) (C:Cx) (μ:Mu) (l:List (Str×AV)) (t:Expr) (cls ctx:Value):Prop :=
 ∀ (N:Addr->Prop) (s:Shared),Im E C N μ l s.heap->∀ (Q:Bool->Shared->Prop) (X:Value->Shared->Prop),
  (∀ e h1 h' tk,Pu C.Fs s.heap h1->Vg C.Fs h1 e cls ctx .new h'->X (.ref e) { s with heap:=h',toks:=tk })->wpAny (model pg C.w) C.A (isTrue t C.env (eval t C.env)) Q X s
theorem X1.while {t:Expr}{body orelse:List Stmt}{pos:Pos} (H:Hdr C) (inv:Nat->Mu->List (Str×AV)->Prop)
  (step:∀ n μ l,inv n μ l ->
   (Tst C μ l t true/\Xs E C μ l body (lp (fun μ' l'=>∃ m,m < n/\inv m μ' l') Φ)) ∨
   (Tst C μ l t false/\Xs E C μ l orelse Φ)∨(∃ cls ctx,GW E C μ l t cls ctx/\Φ (.exc cls ctx) μ l))
  (n:Nat) (h0:inv n μ l):X1 E C μ l (.While t body orelse pos) Φ:=by
 intro N s I Q X q xx
 refine wpAny_While (codeAny_whileLoop (fun n s'=>∃ N' μ' l' h' tk,s'={ s with heap:=h',toks:=tk }/\inv n μ' l'/\Im E C N' μ' l' h'/\Kp C μ s.heap h'/\Gr N N' μ μ' s.heap) ?_ n ⟨N,μ,l,s.heap,s.toks,rfl,h0,I,.refl _ _ _,.refl _ _ _⟩)
 (intro n s' Z0;refine Ux Z0 fun N1 μ1 l1 g1 Zr0=>?_;refine ZU Zr0 fun t1 Z1 hi I1 K1 G1=>?_;clear Zr0;clear Z0;subst Z1)
 have x1:Exc E C N1 μ1 { s with heap:=g1,toks:=t1 } Φ (notedBy (model pg C.w) C.A C.env (cameBackBy (model pg C.w) C.A C.env X)):=Exc.noted H (xx.after (s':={ s with heap:=g1,toks:=t1 }) K1 G1 fun Z Z=>rfl)
 rcases step n μ1 l1 hi with ⟨ht,hb⟩|⟨ht,hb⟩|⟨cls,ctx,ht,hΦ⟩
 ·refine ht N1 { s with heap:=g1,toks:=t1 } I1.st _ _ fun g2 t2 P2=>?_
  simp only [if_true]
  refine hb N1 { s with heap:=g2,toks:=t2 } (I1.pu P2) _ _ (fun fl f N2 μ2 l2 g3 t3 a b c d e=>?_) ((x1.after (s':={ s with heap:=g2,toks:=t2 }) (.ofPu P2) (.refl _ _ _) fun Z Z=>rfl).mono fun Z Z Z Z z=>z)
  have K3:Kp C μ s.heap g3:=(K1.trans (.ofPu P2) G1).trans c G1
  have G3:Gr N N2 μ μ2 s.heap:=G1.trans d (K1.trans (.ofPu P2) G1:Kp C μ s.heap g2).al
  cases f with
  | nxt =>
   cases fl <;> first|exact e.elim|skip
   (refine xEA a fun m hm hi'=>?_;clear a)
   exact ⟨m,hm,N2,μ2,l2,g3,t3,rfl,hi',b,K3,G3⟩
  | cnt =>
   cases fl <;> first|exact e.elim|skip
   (refine xEA a fun m hm hi'=>?_;clear a)
   exact ⟨m,hm,N2,μ2,l2,g3,t3,rfl,hi',b,K3,G3⟩
  | brk=>cases fl <;> first|exact e.elim|exact q .next .nxt N2 μ2 l2 g3 t3 a b K3 G3 trivial
  | ret dd=>cases fl <;> first|exact e.elim|exact q _ (.ret dd) N2 μ2 l2 g3 t3 a b K3 G3 e
  | exc a1 a2=>cases fl <;> exact e.elim
 ·refine ht N1 { s with heap:=g1,toks:=t1 } I1.st _ _ fun g2 t2 P2=>?_
  simp only [Bool.false_eq_true,if_false]
  refine hb N1 { s with heap:=g2,toks:=t2 } (I1.pu P2) _ _ (fun fl f N2 μ2 l2 g3 t3 a b c d e=>?_) (x1.after (s':={ s with heap:=g2,toks:=t2 }) (.ofPu P2) (.refl _ _ _) fun Z Z=>rfl)
  exact q fl f N2 μ2 l2 g3 t3 a b ((K1.trans (.ofPu P2) G1).trans c G1) (G1.trans d (K1.trans (.ofPu P2) G1:Kp C μ s.heap g2).al) e
 ·refine ht N1 { s with heap:=g1,toks:=t1 } I1 _ _ fun e g2 g3 t3 P2 X3=>?_
  exact x1 e cls ctx .new N1 μ1 l1 g2 g3 t3 hΦ (I1.pu P2) (.ofPu P2) (.refl _ _ _) X3 (.inl rfl)
noncomputable abbrev PB (E:Ent) (C:Cx) (μ:Mu) (l:List (Str×AV)) (t:Expr) (body orelse:List Stmt) (n:Nat) (J:Nat->Mu->List (Str×AV)->Prop) (Φ:Zq):Prop :=
 (Tst C μ l t true/\Xs E C μ l body (lp (fun μ' l'=>∃ m,m < n/\J m μ' l') Φ))∨(Tst C μ l t false/\Xs E C μ l orelse Φ)∨(∃ cls ctx,GW E C μ l t cls ctx/\Φ (.exc cls ctx) μ l)
theorem X1.whileP {t:Expr}{body orelse:List Stmt}{pos:Pos} (H:Hdr C) (inv:Nat->Mu->List (Str×AV)->Prop)
  (step:∀ (J:Nat->Mu->List (Str×AV)->Prop) (Ψ:Zq),(∀ n μ l,inv n μ l->J n μ l)->(∀ f μ l,Φ f μ l->Ψ f μ l)->∀ n μ l,inv n μ l->PB E C μ l t body orelse n J Ψ)
  (n:Nat) (h0:inv n μ l):X1 E C μ l (.While t body orelse pos) Φ :=
 X1.while H inv (step inv Φ (fun Z Z Z h=>h) fun Z Z Z h=>h) n h0
end
section
variable {E:Ent}{C:Cx}{N:Addr->Prop}{μ:Mu}{l:List (Str×AV)}{h:Heap}
theorem Im.fz {N':Addr->Prop}{μ':Mu}{h':Heap} (I:Im E C N μ l h) (k:Kp C μ h h') (g:Gr N N' μ μ' h):Fz N N' h h' :=
 ⟨fun a o n e=>k.keep a o (fun m=>n (I.st.wd.fsN a m)) (fun x q=>n (I.own.cell x a q).1) (by
  cases q:μ a with
  | none=>rfl
  | some m=>exact absurd (I.st.wd.mu a m q).1 n) e,g.new⟩
structure Ys (E:Ent) (C:Cx) (N:Addr->Prop) (μ:Mu) (c:Addr):Prop where
 n:N c
 fs:c∉C.Fs
 cl:∀ x,C.env.cells.lookup x≠some c
 mu:μ c=none
 h0:E.h0.get? c=none
 n0:¬ E.N0 c
theorem Ys.step {c:Addr}{N':Addr->Prop}{μ':Mu} (p:Ys E C N μ c) (g:Gr N N' μ μ' h) (al:∃ o,h.get? c=some o):Ys E C N' μ' c :=
 ⟨g.up c p.n,p.fs,p.cl,(by
  cases q:μ' c with
  | none=>rfl
  | some m =>
   (refine xE al fun o e=>?_;clear al)
   rcases g.mu c (by rw [q];exact Option.some_ne_none m) with y|y
   ·exact absurd p.mu y
   ·replace e:=Eq.trans (Eq.symm y) e;exact noS e),p.h0,p.n0⟩
theorem Im.newPrivs {h':Heap}{cs:List Addr} (I:Im E C N μ l h) (P:Pu C.Fs h h') (hc:∀ c∈cs,h.get? c=none) (ho:∀ c∈cs,∃ o,h'.get? c=some o) :
  Im E C (Un N cs) μ l h'/\Kp C μ h h'/\Gr N (Un N cs) μ μ h/\∀ c∈cs,Ys E C (Un N cs) μ c:=by
 have hm:∀ c∈cs,μ c=none:=fun c m=>by
  cases q:μ c with
  | none=>rfl
  | some mo=>refine ZL (I.st.wd.mu c mo q) fun Z Z x e Z=>?_;replace e:=Eq.trans (Eq.symm (hc c m)) e;exact noS e
 have h0:∀ c∈cs,E.h0.get? c=none:=fun c m=>by
  cases q:E.h0.get? c with
  | none=>rfl
  | some x=>refine xE (I.mt.al c x q) fun Z y=>?_;replace y:=Eq.trans (Eq.symm (hc c m)) y;exact noS y
 have fz:Fz N (Un N cs) h h':=⟨fun a o n e=>P.keep a o (fun m=>n (I.st.wd.fsN a m)) e,fun a n=>n.elim .inl fun m=>.inr (hc a m)⟩
 have W:=I.st.wd.grow P hc ho
 refine ⟨⟨⟨W,⟨?_,fun x d hx hk=>?_⟩⟩,⟨I.own.loc,I.own.locF,fun n c e=>?_,I.own.inj⟩,(I.pu P).mt,(I.pu P).cel,I.sub,fun x n=>.inl (I.gs x n),fun x n=>n.elim (I.gr x) fun q=>.inr (h0 x q)⟩,.ofPu P,⟨fun x n=>.inl n,fun x n=>n.elim .inl fun q=>.inr (hc x q),fun x n=>.inl n⟩,
  fun c m=>⟨.inr m,fun mf=>?_,fun x e=>?_,hm c m,h0 c m,fun n=>(by refine xE (I.st.wd.nhi c (I.gs c n)) fun o e=>?_;replace e:=Eq.trans (Eq.symm (hc c m)) e;exact noS e)⟩⟩
 ·refine xEA I.st.fm.ns fun ms ns rr=>?_
  refine ⟨ms,P.ns ns,fun x d hx hk=>?_⟩
  refine xEA (rr x d hx hk) fun v e1 e2=>?_
  exact ⟨v,e1,e2.mono fz⟩
 ·refine Zn (I.st.fm.cl x d hx hk) fun c v e1 e2 e3=>?_
  exact ⟨c,v,e1,P.cell e2,e3.mono fz⟩
 ·refine VA (I.own.cell n c e) fun c1 c2 c3 c4=>?_
  exact ⟨.inl c1,c2,c3,c4⟩
 ·refine ZE (I.st.wd.fr c mf) fun x Z Z e Z=>?_;replace e:=Eq.trans (Eq.symm (hc c m)) e;exact noS e
 ·refine QE (I.cel x c e) fun v x y Z=>?_;replace y:=Eq.trans (Eq.symm (hc c m)) y;exact noS y
theorem Im.privs {h':Heap}{cs:List Addr} (I:Im E C N μ l h) (p:∀ c∈cs,Ys E C N μ c) (hs:∀ b o,b∉cs->h.get? b=some o->h'.get? b=some o) (al:∀ c∈cs,∃ o,h'.get? c=some o):Im E C N μ l h'/\Fz N N h h':=by
 have fz:Fz N N h h':=⟨fun b o n e=>hs b o (fun q=>n (p b q).n) e,fun Z y=>.inl y⟩
 have ne0:∀ b o,E.h0.get? b=some o->b∉cs:=fun b o e q=>by replace e:=Eq.trans (Eq.symm ((p b q).h0)) e;exact noS e
 have W:=I.st.wd
 refine ⟨⟨⟨⟨fun b o e=>hs b o (fun q=>W.notN e (p b q).n) (W.stays b o e),W.nlo,fun b n=>?_,W.fsN,fun b m=>?_,fun b m e=>?_,W.mm⟩,⟨?_,fun x d hx hk=>?_⟩⟩,I.own,⟨fun b o n d e=>hs b o (ne0 b o e) (I.mt.keep b o n d e),fun b o d e=>?_,fun b o e=>?_⟩,fun n a e=>?_,I.sub,I.gs,I.gr⟩,fz⟩
 ·by_cases q:b∈cs
  ·exact al b q
  ·refine xE (W.nhi b n) fun o e=>?_;exact ⟨o,hs b o q e⟩
 ·refine ZE (W.fr b m) fun o es n e d=>?_;exact ⟨o,es,n,hs b o (fun q=>(p b q).fs m) e,d⟩
 ·refine ZL (W.mu b m e) fun n f o ho r=>?_
  exact ⟨n,f,o,hs b o (fun q=>by replace e:=Eq.trans (Eq.symm ((p b q).mu)) e;exact noS e) ho,r.mono fz⟩
 ·refine xEA I.st.fm.ns fun ms ns rr=>?_
  refine ⟨ms,ns.at' fun o e=>hs _ o (fun q=>(p _ q).fs I.own.loc) e,fun x d hx hk=>?_⟩
  refine xEA (rr x d hx hk) fun v e1 e2=>?_
  exact ⟨v,e1,e2.mono fz⟩
 ·(refine QW fun ZG Zk=>?_;refine Zn (I.st.fm.cl x d hx hk) fun a v e1 Z0 e4=>?_;refine xEA Z0 fun o e2 e3=>?_;clear Z0;refine Zk ?_;clear Zk ZG)
  exact ⟨a,v,e1,⟨o,hs a o (fun q=>(p a q).cl x e1) e2,e3⟩,e4.mono fz⟩
 ·refine xE (I.mt.fr b o d e) fun sl y=>?_
  exact ⟨sl,hs b _ (ne0 b o e) y⟩
 ·refine xE (I.mt.al b o e) fun o' y=>?_
  exact ⟨o',hs b o' (ne0 b o e) y⟩
 ·refine QE (I.cel n a e) fun v o y z=>?_
  exact ⟨v,o,hs a o (fun q=>(p a q).cl n e) y,z⟩
theorem Im.drops {h':Heap}{cs:List Addr} (I:Im E C N μ l h) (p:∀ c∈cs,Ys E C N μ c) (hs:∀ b o,b∉cs->h.get? b=some o->h'.get? b=some o):Im E C (fun a=>N a/\a∉cs) μ l h':=by
 have fz:Fz N (fun a=>N a/\a∉cs) h h':=⟨fun b o n e=>hs b o (fun q=>n (p b q).n) e,fun Z y=>.inl y.1⟩
 have ne0:∀ b o,E.h0.get? b=some o->b∉cs:=fun b o e q=>by replace e:=Eq.trans (Eq.symm ((p b q).h0)) e;exact noS e
 have W:=I.st.wd
 refine ⟨⟨⟨fun b o e=>hs b o (fun q=>W.notN e (p b q).n) (W.stays b o e),fun a n=>W.nlo a n.1,fun b n=>?_,fun a m=>⟨W.fsN a m,fun q=>(p a q).fs m⟩,fun b m=>?_,fun b m e=>?_,W.mm⟩,⟨?_,fun x d hx hk=>?_⟩⟩,⟨I.own.loc,I.own.locF,fun n a e=>?_,I.own.inj⟩,⟨fun b o n d e=>hs b o (ne0 b o e) (I.mt.keep b o n d e),fun b o d e=>?_,fun b o e=>?_⟩,fun n a e=>?_,I.sub,fun a n=>⟨I.gs a n,fun q=>(p a q).n0 n⟩,fun a n=>I.gr a n.1⟩
 ·refine xE (W.nhi b n.1) fun o e=>?_;exact ⟨o,hs b o n.2 e⟩
 ·refine ZE (W.fr b m) fun o es n e d=>?_;exact ⟨o,es,n,hs b o (fun q=>(p b q).fs m) e,d⟩
 ·refine ZL (W.mu b m e) fun n f o ho r=>?_
  have bc:b∉cs:=fun q=>by replace e:=Eq.trans (Eq.symm ((p b q).mu)) e;exact noS e
  exact ⟨⟨n,bc⟩,f,o,hs b o bc ho,r.mono fz⟩
 ·refine xEA I.st.fm.ns fun ms ns rr=>?_
  refine ⟨ms,ns.at' fun o e=>hs _ o (fun q=>(p _ q).fs I.own.loc) e,fun x d hx hk=>?_⟩
  refine xEA (rr x d hx hk) fun v e1 e2=>?_
  exact ⟨v,e1,e2.mono fz⟩
 ·(refine QW fun ZG Zk=>?_;refine Zn (I.st.fm.cl x d hx hk) fun a v e1 Z0 e4=>?_;refine xEA Z0 fun o e2 e3=>?_;clear Z0;refine Zk ?_;clear Zk ZG)
  exact ⟨a,v,e1,⟨o,hs a o (fun q=>(p a q).cl x e1) e2,e3⟩,e4.mono fz⟩
 ·refine VA (I.own.cell n a e) fun c1 c2 c3 c4=>?_
  exact ⟨⟨c1,fun q=>(p a q).cl n e⟩,c2,c3,c4⟩
 ·refine xE (I.mt.fr b o d e) fun sl y=>?_
  exact ⟨sl,hs b _ (ne0 b o e) y⟩
 ·refine xE (I.mt.al b o e) fun o' y=>?_
  exact ⟨o',hs b o' (ne0 b o e) y⟩
 ·refine QE (I.cel n a e) fun v o y z=>?_
  exact ⟨v,o,hs a o (fun q=>(p a q).cl n e) y,z⟩
theorem Im.drop {h':Heap}{c:Addr} (I:Im E C N μ l h) (p:Ys E C N μ c) (hs:∀ b o,b≠c->h.get? b=some o->h'.get? b=some o):Im E C (fun a=>N a/\a≠c) μ l h':=by
 have r:=I.drops (cs:=[c]) (h':=h') (fun Z m=>List.mem_singleton.mp m▸p) fun b o n=>hs b o fun q=>n (q▸List.mem_cons_self)
 have e:(fun a=>N a/\a∉[c])=fun a=>N a/\a≠c:=funext fun a=>by rw [List.mem_singleton]
 rw [e] at r;exact r
end
structure Wf (C:Cx) (I:Addr) (xs:List AV) (T:(Addr->Prop)->Mu->Nat->Heap->Prop):Prop where
 item:∀ N μ i d (s:Shared) (Q:Option Value->Shared->Prop) (X:Value->Shared->Prop),xs[i]?=some d->Wd C.w C.h₁ C.Fs N μ s.heap->T N μ i s.heap ->
  (∀ v h' tk,RdA N s.heap v d->(∀ b o,b≠I->s.heap.get? b=some o->h'.get? b=some o)->(∃ o,h'.get? I=some o)->(Fz N N s.heap h'->T N μ (i+1) h')->Q (some v) { s with heap:=h',toks:=tk })->wpAny (model pg C.w) C.A (pyNext (.ref I)) Q X s
 done:∀ N μ (s:Shared) (Q:Option Value->Shared->Prop) (X:Value->Shared->Prop),Wd C.w C.h₁ C.Fs N μ s.heap->T N μ xs.length s.heap ->
  (∀ h' tk,(∀ b o,b≠I->s.heap.get? b=some o->h'.get? b=some o)->Q none { s with heap:=h',toks:=tk })->wpAny (model pg C.w) C.A (pyNext (.ref I)) Q X s
section
variable {E:Ent}{C:Cx}{μ:Mu}{l:List (Str×AV)}{Φ:Zq}
structure Wg (E:Ent) (C:Cx) (cs:List Addr) (I:Addr) (target:Expr) {D:Type} (xs:List D) (nm:Nat->D->List (Str×AV)->List (Str×AV)) (inv:Nat->Mu->List (Str×AV)->Prop) (T:(Addr->Prop)->Mu->Nat->Heap->Prop):Prop where
 item:∀ N μ l i d (s:Shared) (Q:Unit->Shared->Prop) (X:Value->Shared->Prop) (R:Option Value->Shared->Prop),xs[i]?=some d->Im E C N μ l s.heap->(∀ c∈cs,Ys E C N μ c)->T N μ i s.heap ->
  (∀ h' tk,Im E C N μ (nm i d l) h'->(∀ b o,b∉cs->b∉C.Fs->(∀ n,C.env.cells.lookup n≠some b)->μ b=none->s.heap.get? b=some o->h'.get? b=some o)->(∀ b o,s.heap.get? b=some o->∃ o',h'.get? b=some o') ->
   (∀ N' μ' l' h'',Im E C N' μ' l' h''->Kp C μ h' h''->Gr N N' μ μ' h'->inv (i+1) μ' l'->T N' μ' (i+1) h'')->Q () { s with heap:=h',toks:=tk }) ->
  (∀ v s₁,wpAny (model pg C.w) C.A (letOwnedTupleGo target (.ref I) v) (fun Z s'=>wpAny (model pg C.w) C.A (assign target C.env v) Q X s') X s₁->R (some v) s₁)->wpAny (model pg C.w) C.A (pyNext (.ref I)) R X s
 done:∀ N μ (s:Shared) (Q:Option Value->Shared->Prop) (X:Value->Shared->Prop),Wd C.w C.h₁ C.Fs N μ s.heap->T N μ xs.length s.heap ->
  (∀ h' tk,(∀ b o,b∉cs->s.heap.get? b=some o->h'.get? b=some o)->Q none { s with heap:=h',toks:=tk })->wpAny (model pg C.w) C.A (pyNext (.ref I)) Q X s
theorem Gr.muN {N N':Addr->Prop}{h:Heap}{μ':Mu} (G:Gr N N' μ μ' h) (a:Addr) (o:Obj) (n:μ a=none) (e:h.get? a=some o):μ' a=none:=by
 cases y:μ' a with
 | none=>rfl
 | some m =>
  rcases G.mu a (by rw [y];exact Option.some_ne_none m) with z|z
  ·exact absurd n z
  ·replace e:=Eq.trans (Eq.symm z) e;exact noS e
theorem Gd {target iter:Expr}{pos:Pos}{body orelse:List Stmt}{D:Type}{xs:List D}{nm:Nat->D->List (Str×AV)->List (Str×AV)} (H:Hdr C) (hfs:∀ v,foldedSetIterable iter C.env v=pure v)
  (inv:Nat->Mu->List (Str×AV)->Prop) (i0:inv 0 μ l)
  (step:∀ i μ l d,xs[i]?=some d->inv i μ l->Xs E C μ (nm i d l) body (lp (inv (i+1)) Φ))
  (fin:∀ μ l,inv xs.length μ l->Xs E C μ l orelse Φ)
  (src:∀ (N:Addr->Prop) (s:Shared),Im E C N μ l s.heap->∀ (Q:Value->Shared->Prop) (X:Value->Shared->Prop),
   (∀ cs I h1 h' tk T,Pu C.Fs s.heap h1->(∀ b o,h1.get? b=some o->h'.get? b=some o)->(∀ c∈cs,h1.get? c=none)->(∀ c∈cs,∃ o,h'.get? c=some o)->Wg E C cs I target xs nm inv T->T (Un N cs) μ 0 h'->Q (.ref I) { s with heap:=h',toks:=tk }) ->
   wpAny (model pg C.w) C.A (eval iter C.env) (fun v s₁=>wpAny (model pg C.w) C.A (pyIter v) Q X s₁) X s):X1 E C μ l (.For target iter body orelse pos) Φ:=by
 intro N s Im0 Q X q xx
 refine wpAny_For (src N s Im0 _ _ fun cs I h1 h2 t2 T P1 k2 n2 al2 w T0=>?_) hfs
 refine VA ((Im0.pu P1).newPrivs (.of_keeps k2) n2 al2) fun I2 Z Z P2=>?_
 have n0:∀ c∈cs,s.heap.get? c=none:=fun c m=>by
  cases y:s.heap.get? c with
  | none=>rfl
  | some o=>refine xE (P1.fr _ _ y) fun Z z=>?_;replace z:=Eq.trans (Eq.symm (n2 c m)) z;exact noS z
 have ne:∀ a o,s.heap.get? a=some o->a∉cs:=fun a o e m=>by replace e:=Eq.trans (Eq.symm (n0 a m)) e;exact noS e
 have nN:∀ c∈cs,¬ N c:=fun c m n=>by refine xE (Im0.st.wd.nhi c n) fun o e=>?_;exact ne c o e m
 refine codeAny_forLoop_any (fun k s'=>∃ i N' μ' l' h' tk,s'={ s with heap:=h',toks:=tk }/\k=xs.length+1 - i/\i≤xs.length/\inv i μ' l'/\T N' μ' i h'/\Im E C N' μ' l' h'/\(∀ c∈cs,Ys E C N' μ' c)/\Kp C μ s.heap h'/\Gr N N' μ μ' s.heap) ?_ (xs.length+1)
  ⟨0,Un N cs,μ,l,h2,t2,rfl,rfl,Nat.zero_le _,i0,T0,I2,P2,⟨fun a o n Z Z e=>k2 a o (P1.keep a o n e),fun a o e=>let ⟨_,y⟩:=P1.fr a o e;⟨_,k2 a _ y⟩⟩,⟨fun Z=>.inl,fun a n=>n.elim .inl fun m=>.inr (n0 a m),fun Z=>.inl⟩⟩
 (intro k s' Z0;refine Ux Z0 fun i N1 μ1 l1 Zr0=>?_;refine QE Zr0 fun g1 t1 Z1 Zr1=>?_;clear Zr0;refine ZK Zr1 fun Z2 hi hinv T1 I1 p1 K1 G1=>?_;clear Zr1;clear Z0;subst Z1;subst Z2)
 by_cases hlt:i < xs.length
 ·obtain ⟨d,hx⟩:∃ d,xs[i]?=some d:=⟨_,List.getElem?_eq_getElem hlt⟩
  refine w.item N1 μ1 l1 i d _ _ _ _ hx I1 p1 T1 (fun g3 t3 I3 k3 a3 tt=>?_) fun Z Z z=>z
  have K3:Kp C μ s.heap g3:=⟨fun a o n1 n2 n3 e=>k3 a o (ne a o e) n1 n2 (G1.muN a o n3 e) (K1.keep a o n1 n2 n3 e),fun a o e=>let ⟨o',y⟩:=K1.al a o e;a3 a o' y⟩
  refine step i μ1 l1 d hx hinv N1 { s with heap:=g3,toks:=t3 } I3 _ _ (fun fl f N2 μ2 l2 g4 t4 a b c dd e=>?_) (Exc.noted H (xx.after (s':={ s with heap:=g3,toks:=t3 }) K3 G1 fun Z Z=>rfl))
  have K4:=K3.trans c G1
  have G4:=G1.trans dd K3.al
  have nx:inv (i+1) μ2 l2->∃ m,m < xs.length+1 - i/\∃ i N' μ' l' h' tk,{ s with heap:=g4,toks:=t4 }={ s with heap:=h',toks:=tk }/\m=xs.length+1 - i/\i≤xs.length/\inv i μ' l'/\T N' μ' i h'/\Im E C N' μ' l' h'/\(∀ c∈cs,Ys E C N' μ' c)/\Kp C μ s.heap h'/\Gr N N' μ μ' s.heap:=fun hj =>
   ⟨xs.length+1 - (i+1),rs hlt,i+1,N2,μ2,l2,g4,t4,rfl,rfl,hlt,hj,tt N2 μ2 l2 g4 b c dd hj,b,fun c' m=>(p1 c' m).step dd (let ⟨o,y⟩:=I1.st.wd.nhi c' (p1 c' m).n;a3 c' o y),K4,G4⟩
  cases f with
  | nxt=>cases fl <;> first|exact e.elim|exact nx a
  | cnt=>cases fl <;> first|exact e.elim|exact nx a
  | brk=>cases fl <;> first|exact e.elim|exact q .next .nxt N2 μ2 l2 g4 t4 a b K4 G4 trivial
  | ret dd=>cases fl <;> first|exact e.elim|exact q _ (.ret dd) N2 μ2 l2 g4 t4 a b K4 G4 e
  | exc a1 a2=>cases fl <;> exact e.elim
 ·have hin:i=xs.length:=oG hi hlt
  subst hin
  refine w.done N1 μ1 _ _ _ I1.st.wd T1 fun g2 t2 k3=>?_
  have K3:Kp C μ s.heap g2:=⟨fun a o n1 n2 n3 e=>k3 a o (ne a o e) (K1.keep a o n1 n2 n3 e),fun a o e=>let ⟨o',y⟩:=K1.al a o e;⟨o',k3 a o' (ne a o e) y⟩⟩
  have G3:Gr N (fun a=>N1 a/\a∉cs) μ μ1 s.heap:=⟨fun a n=>⟨G1.up a n,fun m=>nN a m n⟩,fun a n=>G1.new a n.1,G1.mu⟩
  exact fin μ1 l1 hinv _ { s with heap:=g2,toks:=t2 } (I1.drops p1 k3) _ _ (fun fl f N2 μ2 l2 g4 t4 a b c dd e=>q fl f N2 μ2 l2 g4 t4 a b (K3.trans c G3) (G3.trans dd K3.al) e) (Exc.noted H (xx.after (s':={ s with heap:=g2,toks:=t2 }) K3 G3 fun Z Z=>rfl))
theorem Wf.toG {x:Str}{px:Pos}{I:Addr}{xs:List AV}{T:(Addr->Prop)->Mu->Nat->Heap->Prop} (H:Hdr C) (hk:Zp C x) (w:Wf C I xs T) {inv:Nat->Mu->List (Str×AV)->Prop}
  (keepT:∀ N N' μ μ' l' i h h',T N μ i h->Fz N N' h h'->(∃ j,inv j μ' l')->Im E C N' μ' l' h'->(∀ o,h.get? I=some o->h'.get? I=some o)->T N' μ' i h'):Wg E C [I] I (.Name x px) xs (fun Z d l=>(x,d)::l) inv T where
 item:=fun N μ l i d s Q X R hx Im0 p T1 q r=>by
  have p1:=p I List.mem_cons_self
  refine w.item N μ i d _ _ _ hx Im0.st.wd T1 fun v g2 t2 Rv k2 al2 T2=>r v _ ?_
  refine xA (Im0.privs p (fun b o n=>k2 b o fun q=>n (q▸List.mem_cons_self)) fun Z m=>List.mem_singleton.mp m▸al2) fun I2 fz2=>?_
  refine wpAny_of_eq (a:=()) (by rfl) ?_
  refine PyProof.Rows.assign_Name (I2.store H.kind (s:={ s with heap:=g2,toks:=t2 }) (Rv.mono fz2) hk fun g3 t3 I3 fz3 K3=>?_)
  (refine xE al2 fun o2 ho2=>?_;clear al2)
  have hI3:g3.get? I=some o2:=K3.keep I o2 p1.fs p1.cl p1.mu ho2
  refine q g3 t3 I3 (fun b o n1 n2 n3 n4 e=>K3.keep b o n2 n3 n4 (k2 b o (fun q=>n1 (q▸List.mem_cons_self)) e)) (fun b o e=>?_) fun N2 μ2 l2 g4 b c dd hj=>?_
  ·by_cases hq:b=I
   ·exact ⟨o2,hq▸hI3⟩
   ·exact K3.al b o (k2 b o hq e)
  ·refine keepT N N2 μ μ2 l2 (i+1) g2 g4 (T2 fz2) ⟨fun b o n y=>(I3.fz c dd).keep b o n (fz3.keep b o n y),fun b n=>(dd.new b n).elim .inl fun z=>.inr ?_⟩ ⟨_,hj⟩ b fun o y=>by replace y:=Eq.trans (Eq.symm ho2) y;obtain rfl:=Option.some.inj y;exact c.keep I o2 p1.fs p1.cl p1.mu hI3
   cases yy:g2.get? b with
   | none=>rfl
   | some o=>refine xE (K3.al b o yy) fun Z zz=>?_;replace zz:=Eq.trans (Eq.symm z) zz;exact noS zz
 done:=fun N μ s Q X W T q=>w.done N μ s Q X W T fun h' tk k=>q h' tk fun b o n=>k b o fun q=>n (q▸List.mem_cons_self)
end
noncomputable abbrev Cx.mk' (C:Cx) (e:Addr):Cx:={ C with A:=C.A.mark (some (.ref e)) }
section
variable {E:Ent}{C:Cx}{μ:Mu}{l:List (Str×AV)}{Φ:Zq}
noncomputable def Mch (C:Cx) (cls c:Value):Prop :=
 ∀ (e:Addr) (s:Shared) (ob:Obj) (Q:Bool->Shared->Prop) (X:Value->Shared->Prop),(∀ b o,C.h₁.get? b=some o->s.heap.get? b=some o)->s.heap.get? e=some ob->ob.cls=cls->Q true s->wpAny (model pg C.w) (C.mk' e).A (excMatches (.ref e) c) Q X s
theorem Im.mark {N:Addr->Prop}{h:Heap}{e:Addr} (I:Im E C N μ l h):Im E (C.mk' e) N μ l h :=
 ⟨⟨I.st.wd,⟨I.st.fm.ns,I.st.fm.cl⟩⟩,⟨I.own.loc,I.own.locF,I.own.cell,I.own.inj⟩,I.mt,I.cel,I.sub,I.gs,I.gr⟩
theorem Im.unmark {N:Addr->Prop}{h:Heap}{e:Addr} (I:Im E (C.mk' e) N μ l h):Im E C N μ l h :=
 ⟨⟨I.st.wd,⟨I.st.fm.ns,I.st.fm.cl⟩⟩,⟨I.own.loc,I.own.locF,I.own.cell,I.own.inj⟩,I.mt,I.cel,I.sub,I.gs,I.gr⟩
theorem Mch.builtin {X T:String} (hexc:isSubtype (.type T) (.type "BaseException")=pure true) (hnt:isSubtype (.type ((Manifest.find? T).elim "type" fun x=>x.metatype)) (.type "tuple")=pure false) (hsub:isSubtype (.type X) (.type T)=pure true):Mch C (.type X) (.type T) :=
 fun Z Z ob Z Z Z ho hc q=>wpAny_excMatches_type ⟨ob,ho,hc⟩ hexc hnt hsub q
theorem X1.try {body orelse suite:List Stmt}{t:Expr}{b₀:Stmt}{pos hp:Pos}{Ψ:Zq}{c:Value} (H:Hdr C)
  (hb:Xs E C μ l body Ψ)
  (ho:∀ f μ' l',Ψ f μ' l'->match f with
   | .nxt=>Xs E C μ' l' orelse Φ
   | .exc cls ctx=>Mch C cls c/\∀ e,Ev (C.mk' e) μ' l' t (.cal c)/\Xs E (C.mk' e) μ' l' (b₀::suite) (fun f μ l=>(∀ a b,f≠.exc a b)/\Φ f μ l)
   | f=>Φ f μ' l') :
  X1 E C μ l (.Try body [.ExceptHandler (some t) none (b₀::suite) hp] orelse [] pos) Φ:=by
 intro N s I Q X q xx
 refine wpAny_Try_except (hb N s I _ _ (fun fl f N1 μ1 l1 g1 t1 a b c1 d e=>?_) fun e cls ctx ph N1 μ1 l1 h1 g1 t1 a b c1 d f g=>?_)
 ·have hh:=ho f μ1 l1 a
  cases f with
  | nxt =>
   cases fl <;> first|exact e.elim|skip
   exact hh N1 { s with heap:=g1,toks:=t1 } b Q X (fun fl f N2 μ2 l2 g2 t2 a' b' c' d' e'=>q fl f N2 μ2 l2 g2 t2 a' b' (c1.trans c' d) (d.trans d' c1.al) e') (xx.after (s':={ s with heap:=g1,toks:=t1 }) c1 d fun Z Z=>rfl)
  | cnt=>cases fl <;> first|exact e.elim|exact q _ .cnt N1 μ1 l1 g1 t1 hh b c1 d e
  | brk=>cases fl <;> first|exact e.elim|exact q _ .brk N1 μ1 l1 g1 t1 hh b c1 d e
  | ret dd=>cases fl <;> first|exact e.elim|exact q _ (.ret dd) N1 μ1 l1 g1 t1 hh b c1 d e
  | exc a1 a2=>cases fl <;> exact e.elim
 ·refine xA (ho _ _ _ a) fun hm hh=>?_
  refine xA (hh e) fun hev hs=>?_
  refine Wa H b.st.wd (s:={ s with heap:=g1,toks:=t1 }) f g fun g2 X2=>?_
  refine Qu (s:={ s with heap:=g2,toks:=t1 }) X2 fun g3 X3=>?_
  have I3:Im E (C.mk' e) N1 μ1 l1 g3:=(b.pu X3.pu).mark
  refine wpAny_handleBy_cons (codeAny_handlers_test ?_) (by intro q;cases q)
  refine hev N1 { s with heap:=g3,toks:=t1 } I3.st _ _ fun v g4 t4 P4 R4=>?_
  cases R4
  (refine Zf X3.at_ fun ob vs x1 x2 x3 x4 Zr0=>?_;refine ZE Zr0 fun T oT ts y1 Zr1=>?_;clear Zr0;refine Qe Zr1 fun y2 y3 y4 y5 y6=>?_;clear Zr1)
  have fe:e∉C.Fs:=fun m=>by refine ZE (b.st.wd.fr e m) fun o Z Z z Z=>?_;exact noS (Eq.trans (Eq.symm X3.new) z)
  have fT:T∉C.Fs:=fun m=>by refine ZE (b.st.wd.fr T m) fun o Z Z z Z=>?_;exact noS (Eq.trans (Eq.symm y2) z)
  have he4:=P4.keep e ob fe x1
  refine hm e { s with heap:=g4,toks:=t4 } ob _ _ (I3.pu P4).st.wd.stays he4 x2 ?_
  refine codeAny_handlers_suite ?_
  have X4:Vg C.Fs h1 e cls ctx (.tr none) g4:=⟨X3.pu.trans P4,X3.new,ob,vs,he4,x2,x3,x4,T,oT,ts,y1,y2,y3,P4.keep T oT fT y4,y5,y6⟩
  refine Qu (s:={ s with heap:=g4,toks:=t4 }) X4 fun g5 X5=>?_
  have I5:Im E (C.mk' e) N1 μ1 l1 g5:=(b.pu X5.pu).mark
  have K5:Kp C μ s.heap g5:=c1.trans (.ofPu X5.pu) d
  refine hs N1 { s with heap:=g5,toks:=t4 } I5 _ _ (fun fl f N2 μ2 l2 g6 t6 a' b' c' d' e'=>?_) fun Z Z Z Z Z Z Z Z Z Z a'=>absurd rfl (a'.1 _ _)
  exact q fl f N2 μ2 l2 g6 t6 a'.2 b'.unmark (K5.trans ⟨c'.keep,c'.al⟩ d) (d.trans d' K5.al) e'
theorem Og (O:C.Ok) {I t:Addr} (hne:t≠I) (ds:List PyData):Wf C I (ds.map .dat) (fun N Z i h=>h.IsListIter I t i/\¬ N t/\∃ vs,h.IsList t vs.toArray/\Rds N h vs ds) where
 item:=fun N μ i d s Q X hx W T q=>by
  (refine ZL T fun it nt vs hl hr=>?_;clear T)
  (refine xEA (V8 hx) fun x hx' Z0=>?_;subst Z0)
  refine xEA (hr.get hx') fun v e1 e2=>?_
  refine wpAny_pyNext_list_item it hl (x:=v) (by simpa using e1) fun h' it' hs'=>?_
  exact q v h' s.toks e2 (fun b o hb e=>hs'.extBut b o hb e) (let ⟨o,e,_⟩:=it';⟨o,e⟩) fun fz=>⟨it',nt,vs,hl.at fun o e=>hs'.extBut t o hne e,hr.mono fz⟩
 done:=fun N μ s Q X W T q=>by
  (refine ZL T fun it nt vs hl hr=>?_;clear T)
  refine Walks.done (Walks.list (prog:=pg) (w:=C.w) (A:=C.A) O.handled I t hne vs.toArray) s Q X ?_ fun h' tk k=>q h' tk fun b o hb e=>k b o (fun m=>hb (List.mem_singleton.mp m)) e
  rw [List.length_map,← hr.length] at it
  simpa using ⟨it,hl⟩
theorem MM (O:C.Ok) {I t:Addr} (hne:t≠I) (ds:List PyData):Wf C I (ds.map .dat) (fun N Z i h=>h.IsTupleIter I t i/\¬ N t/\∃ vs,h.IsTuple t vs.toArray/\Rds N h vs ds) where
 item:=fun N μ i d s Q X hx W T q=>by
  (refine ZL T fun it nt vs hl hr=>?_;clear T)
  (refine xEA (V8 hx) fun x hx' Z0=>?_;subst Z0)
  refine xEA (hr.get hx') fun v e1 e2=>?_
  refine wpAny_pyNext_tuple_item it hl (x:=v) (by simpa using e1) fun h' it' hs'=>?_
  exact q v h' s.toks e2 (fun b o hb e=>hs'.extBut b o hb e) (let ⟨o,e,_⟩:=it';⟨o,e⟩) fun fz=>⟨it',nt,vs,hl.at fun o e=>hs'.extBut t o hne e,hr.mono fz⟩
 done:=fun N μ s Q X W T q=>by
  (refine ZL T fun it nt vs hl hr=>?_;clear T)
  refine Walks.done (Walks.tuple (prog:=pg) (w:=C.w) (A:=C.A) O.handled I t hne vs.toArray) s Q X ?_ fun h' tk k=>q h' tk fun b o hb e=>k b o (fun m=>hb (List.mem_singleton.mp m)) e
  rw [List.length_map,← hr.length] at it
  simpa using ⟨it,hl⟩
theorem Z7 {w:World}{h₁:Heap}{Fs:List Addr}{N:Addr->Prop}{h:Heap}{t:Addr}{xs:List AV} (W:Wd w h₁ Fs N μ h) (ht:μ t=some (.list xs)):∃ vs,h.IsList t vs.toArray/\h.PlainList t vs.toArray/\Zr N h vs xs:=by
 (refine Qh (W.mu t _ ht) fun Z Z o ho vs n Z0 r=>?_;subst Z0)
 exact ⟨vs,⟨_,ho,rfl,n,rfl⟩,⟨n,ho⟩,r⟩
theorem PS (O:C.Ok) {I t:Addr} (hne:t≠I) (xs:List AV):Wf C I xs (fun Z μ i h=>h.IsListIter I t i/\μ t=some (.list xs)) where
 item:=fun N μ i d s Q X hx W T q=>by
  (refine xA T fun it ht=>?_;clear T)
  refine QF (Z7 W ht) fun vs hl Z hr=>?_
  refine xEA (hr.get hx) fun v e1 e2=>?_
  refine wpAny_pyNext_list_item it hl (x:=v) (by simpa using e1) fun h' it' hs'=>?_
  exact q v h' s.toks e2 (fun b o hb e=>hs'.extBut b o hb e) (let ⟨o,e,_⟩:=it';⟨o,e⟩) fun fz=>⟨it',ht⟩
 done:=fun N μ s Q X W T q=>by
  (refine xA T fun it ht=>?_;clear T)
  refine QF (Z7 W ht) fun vs hl Z hr=>?_
  refine Walks.done (Walks.list (prog:=pg) (w:=C.w) (A:=C.A) O.handled I t hne vs.toArray) s Q X ?_ fun h' tk k=>q h' tk fun b o hb e=>k b o (fun m=>hb (List.mem_singleton.mp m)) e
  rw [← hr.length] at it
  simpa using ⟨it,hl⟩
theorem WV {x:Str}{px pos:Pos}{iter:Expr}{body orelse:List Stmt}{xs:List AV} (H:Hdr C) (hk:Zp C x) (hfs:∀ v,foldedSetIterable iter C.env v=pure v)
  (inv:Nat->Mu->List (Str×AV)->Prop) (i0:inv 0 μ l)
  (step:∀ i μ l d,xs[i]?=some d->inv i μ l->Xs E C μ ((x,d)::l) body (lp (inv (i+1)) Φ))
  (fin:∀ μ l,inv xs.length μ l->Xs E C μ l orelse Φ)
  (src:∀ (N:Addr->Prop) (s:Shared),Im E C N μ l s.heap->∀ (Q:Value->Shared->Prop) (X:Value->Shared->Prop),
   (∀ I h1 h' tk T,Pu C.Fs s.heap h1->(∀ b o,h1.get? b=some o->h'.get? b=some o)->h1.get? I=none->(∃ o,h'.get? I=some o)->Wf C I xs T->(∀ N',Fz N N' h1 h'->T N' μ 0 h') ->
    (∀ N N' μ μ' l' i h h',T N μ i h->Fz N N' h h'->(∃ j,inv j μ' l')->Im E C N' μ' l' h'->(∀ o,h.get? I=some o->h'.get? I=some o)->T N' μ' i h')->Q (.ref I) { s with heap:=h',toks:=tk }) ->
   wpAny (model pg C.w) C.A (eval iter C.env) (fun v s₁=>wpAny (model pg C.w) C.A (pyIter v) Q X s₁) X s):X1 E C μ l (.For (.Name x px) iter body orelse pos) Φ :=
 Gd (nm:=fun Z d l=>(x,d)::l) H hfs inv i0 step fin fun N s Im0 Q X q=>src N s Im0 Q X fun I h1 h' tk T P k n al wf T0 kT=>q [I] I h1 h' tk T P k (fun Z m=>List.mem_singleton.mp m▸n) (fun Z m=>List.mem_singleton.mp m▸al) (wf.toG H hk kT)
  (T0 _ ⟨fun a o n e=>k a o e,fun a m=>m.elim .inl fun y=>.inr (List.mem_singleton.mp y▸n)⟩)
theorem X1.forTuple {x:Str}{px pos:Pos}{iter:Expr}{body orelse:List Stmt}{ds:List PyData} (O:C.Ok) (H:Hdr C) (hk:Zp C x) (hfs:∀ v,foldedSetIterable iter C.env v=pure v) (hi:Ev C μ l iter (.dat (.tuple ds)))
  (inv:Nat->Mu->List (Str×AV)->Prop) (i0:inv 0 μ l)
  (step:∀ i μ l d,ds[i]?=some d->inv i μ l->Xs E C μ ((x,.dat d)::l) body (lp (inv (i+1)) Φ))
  (fin:∀ μ l,inv ds.length μ l->Xs E C μ l orelse Φ):X1 E C μ l (.For (.Name x px) iter body orelse pos) Φ:=by
 refine WV (xs:=ds.map .dat) H hk hfs inv i0 (fun i μ l d hx hi=>?_) (fun μ l h=>fin μ l (by simpa using h)) fun N s Im0 Q X q=>?_
 ·(refine xEA (V8 hx) fun y hy Z0=>?_;subst Z0)
  exact step i μ l y hy hi
 ·refine hi N s Im0.st _ _ fun v h1 t1 P1 R1=>?_
  (refine Zf (Rd.tupleE R1) fun a vs Z0 na la ra za=>?_;subst Z0)
  refine xEA (id la) fun oa ha Z=>?_
  have hne:a≠h1.objs.size:=Nat.ne_of_lt (Heap.lt_size ha)
  refine wpAny_pyIter_tuple la (q _ h1 _ t1 _ P1 (fun b o e=>Heap.get?_push_of_some _ e) (get?_size_none _) ⟨_,Heap.get?_push_size _ rfl⟩ (MM O hne ds) (fun N' fz=>⟨⟨_,Heap.get?_push_size _ rfl,rfl,rfl⟩,fz.not na ha,vs,la.at fun o e=>Heap.get?_push_of_some _ e,ra.mono fz⟩) ?_)
  (intro N1 N2 μ1 μ2 l2 i g g' Z0;refine ZL Z0 fun it nt us hl hr=>?_;clear Z0;intro fz Z Z kI)
  refine xEA (id hl) fun ot hot Z=>?_
  exact ⟨it.at kI,fz.not nt hot,us,hl.at fun o e=>fz.keep _ o nt e,hr.mono fz⟩
theorem X1.forList {x:Str}{px pos:Pos}{iter:Expr}{body orelse:List Stmt}{ds:List PyData} (O:C.Ok) (H:Hdr C) (hk:Zp C x) (hfs:∀ v,foldedSetIterable iter C.env v=pure v) (hi:Ev C μ l iter (.dat (.list ds)))
  (inv:Nat->Mu->List (Str×AV)->Prop) (i0:inv 0 μ l)
  (step:∀ i μ l d,ds[i]?=some d->inv i μ l->Xs E C μ ((x,.dat d)::l) body (lp (inv (i+1)) Φ))
  (fin:∀ μ l,inv ds.length μ l->Xs E C μ l orelse Φ):X1 E C μ l (.For (.Name x px) iter body orelse pos) Φ:=by
 refine WV (xs:=ds.map .dat) H hk hfs inv i0 (fun i μ l d hx hi=>?_) (fun μ l h=>fin μ l (by simpa using h)) fun N s Im0 Q X q=>?_
 ·(refine xEA (V8 hx) fun y hy Z0=>?_;subst Z0)
  exact step i μ l y hy hi
 ·refine hi N s Im0.st _ _ fun v h1 t1 P1 R1=>?_
  (refine Zf (Rd.listE R1) fun a vs Z0 na la ra za=>?_;subst Z0)
  refine xEA (id la) fun oa ha Z=>?_
  have hne:a≠h1.objs.size:=Nat.ne_of_lt (Heap.lt_size ha)
  refine wpAny_pyIter_list la (q _ h1 _ t1 _ P1 (fun b o e=>Heap.get?_push_of_some _ e) (get?_size_none _) ⟨_,Heap.get?_push_size _ rfl⟩ (Og O hne ds) (fun N' fz=>⟨⟨_,Heap.get?_push_size _ rfl,rfl,rfl⟩,fz.not na ha,vs,la.at fun o e=>Heap.get?_push_of_some _ e,ra.mono fz⟩) ?_)
  (intro N1 N2 μ1 μ2 l2 i g g' Z0;refine ZL Z0 fun it nt us hl hr=>?_;clear Z0;intro fz Z Z kI)
  refine xEA (id hl) fun ot hot Z=>?_
  exact ⟨it.at kI,fz.not nt hot,us,hl.at fun o e=>fz.keep _ o nt e,hr.mono fz⟩
theorem X1.forMu {x:Str}{px pos:Pos}{iter:Expr}{body orelse:List Stmt}{t:Addr}{xs:List AV} (O:C.Ok) (H:Hdr C) (hk:Zp C x) (hfs:∀ v,foldedSetIterable iter C.env v=pure v) (hi:Ev C μ l iter (.obj t)) (ht:μ t=some (.list xs))
  (inv:Nat->Mu->List (Str×AV)->Prop) (i0:inv 0 μ l) (hinv:∀ i μ l,inv i μ l->μ t=some (.list xs))
  (step:∀ i μ l d,xs[i]?=some d->inv i μ l->Xs E C μ ((x,d)::l) body (lp (inv (i+1)) Φ))
  (fin:∀ μ l,inv xs.length μ l->Xs E C μ l orelse Φ):X1 E C μ l (.For (.Name x px) iter body orelse pos) Φ:=by
 refine WV (xs:=xs) H hk hfs inv i0 step fin fun N s Im0 Q X q=>?_
 refine hi N s Im0.st _ _ fun v h1 t1 P1 R1=>?_
 cases R1
 refine QF (Z7 (Im0.pu P1).st.wd ht) fun vs hl Z hr=>?_
 refine xEA (id hl) fun oa ha Z=>?_
 have hne:t≠h1.objs.size:=Nat.ne_of_lt (Heap.lt_size ha)
 refine wpAny_pyIter_list hl (q _ h1 _ t1 _ P1 (fun b o e=>Heap.get?_push_of_some _ e) (get?_size_none _) ⟨_,Heap.get?_push_size _ rfl⟩ (PS O hne xs) (fun N' fz=>⟨⟨_,Heap.get?_push_size _ rfl,rfl,rfl⟩,ht⟩) ?_)
 (intro N1 N2 μ1 μ2 l2 i g g' Z0;refine xA Z0 fun it Z=>?_;clear Z0;intro fz Z1;refine xE Z1 fun j hj=>?_;clear Z1;intro Z kI)
 exact ⟨it.at kI,hinv j _ _ hj⟩
end
noncomputable def MFn (w:World) (h₁:Heap) (k:Nat) (μ:Mu) (f:Addr) (ds:List AV) (D:Addr->Prop) (Ψ:AV->Mu->Prop) (Θ:Value->Value->Mu->Prop):Prop :=
 ∀ (A:Around) (envs:List Env) (N:Addr->Prop) (s:Shared) (vs:List Value),AOk A envs k->Wd w h₁ (Qv envs) N μ s.heap->Zr N s.heap vs ds->∀ (R:Result->Shared->Prop),
  (∀ v d N' μ' h' tk,Ψ d μ'->Mt (Qv envs) D s.heap h'->Gr N N' μ μ' s.heap->Wd w h₁ (Qv envs) N' μ' h'->RdA N' h' v d->R (.ok (.ret v)) { s with heap:=h',toks:=tk }) ->
  (∀ e cls ctx N' μ' h1 h' tk,Θ cls ctx μ'->Mt (Qv envs) D s.heap h1->Gr N N' μ μ' s.heap->Wd w h₁ (Qv envs) N' μ' h1->Vg (Qv envs) h1 e cls ctx (.tr none) h'->R (.error (.ref e)) { s with heap:=h',toks:=tk }) ->
  codeAny (model pg w) A (.call (.ref f) ⟨vs,[]⟩) R s
theorem Wd.sub {w:World}{h₁:Heap}{Fs Gs:List Addr}{N:Addr->Prop}{μ:Mu}{h:Heap} (W:Wd w h₁ Fs N μ h) (s:∀ a∈Gs,a∈Fs):Wd w h₁ Gs N μ h :=
 ⟨W.stays,W.nlo,W.nhi,fun a m=>W.fsN a (s a m),fun a m=>W.fr a (s a m),fun a m e=>let ⟨n,f,r⟩:=W.mu a m e;⟨n,fun x=>f (s a x),r⟩,W.mm⟩
noncomputable abbrev Mj (Ψ:AV->Mu->Prop) (Θ:Value->Value->Mu->Prop):Zq:=fun f μ' Z=>match f with|.ret d=>Ψ d μ'|.nxt=>Ψ (.dat .none) μ'|.exc c x=>Θ c x μ'|_=>False
structure PO (h₁:Heap) (f:Addr) (fd:FuncData) (body:List Stmt) (ps:List Str):Prop where
 at_:∃ o,h₁.get? f=some o/\o.data=.func fd
 code:h₁.CodeRec fd.code fd.qualname
 body:fd.body=.stmts body
 clo:fd.closure=[]
 glob:fd.globals=mainGlobals
 bui:fd.builtins=builtinsNs
 nd:ps.Nodup
 kind:∀ p∈ps,fd.scope.names.lookup p=some .local∨fd.scope.names.lookup p=some .cell
 cells:((cellsFrom 0 fd.scope.names []).map (·.1)).Nodup
 co:fd.scope.isCoroutine=false
 gen:fd.scope.isGenerator=false
 sk:fd.scope.kind=.function
theorem MFn.of_bodyB {w:World}{h₁:Heap}{k:Nat}{μ:Mu}{f:Addr}{fd:FuncData}{body:List Stmt}{ps:List Str}{ds0 ds:List AV}{D:Addr->Prop}{Ψ:AV->Mu->Prop}{Θ:Value->Value->Mu->Prop}
  (nms:Nms h₁) (FO:PO h₁ f fd body ps) (hl:ps.length=ds.length)
  (hbind:∀ (A:Around) (envs:List Env) (N:Addr->Prop) (s:Shared) (vs:List Value),Wd w h₁ (Qv envs) N μ s.heap->Zr N s.heap vs ds0->∀ (Q:List (Str×Value)->Shared->Prop) (E':Value->Shared->Prop),
   (∀ vs' h' tk,(∀ b o,s.heap.get? b=some o->h'.get? b=some o)->Zr N h' vs' ds->Q (ps.zip vs') { s with heap:=h',toks:=tk })->wpAny (model pg w) A (bindArgs fd ⟨vs,[]⟩) Q E' s)
  (hB:∀ (E:Ent) (C:Cx),Frm w h₁ k fd C->Hdr C->E.D0=D->(∀ a m,μ a=some m->∃ o,E.h0.get? a=some o)->(∀ a m,μ a=some m->a∉E.F0)->Xs E C μ (ps.zip ds) body (Mj Ψ Θ)):MFn w h₁ (k+1) μ f ds0 D Ψ Θ:=by
 intro A envs N s0 vs0 AO W0 R0 RR q0 x0
 refine xEA FO.at_ fun o ho hd=>?_
 have hroom:A.depth < recursionLimit:=by have:=AO.depth;show A.depth < 1000;exact ra ‹_› rfl
 refine codeAny_call_function hroom (W0.stays f o ho) hd FO.co FO.gen FO.body (FO.code.keeps W0.stays) ?_
 refine hbind A.in1 envs N s0 vs0 W0 R0 _ _ fun vs h2 t2 kp R=>?_
 have W:Wd w h₁ (Qv envs) N μ h2:=W0.pu (.of_keeps kp)
 have n02:∀ a,h2.get? a=none->s0.heap.get? a=none:=fun a e=>by
  cases y:s0.heap.get? a with
  | none=>rfl
  | some o=>have:=kp a o y;exact noS (Eq.trans (Eq.symm e) this)
 have q:∀ v d N' μ' h' tk,Ψ d μ'->Mt (Qv envs) D h2 h'->Gr N N' μ μ' h2->Wd w h₁ (Qv envs) N' μ' h'->RdA N' h' v d->RR (.ok (.ret v)) { s0 with heap:=h',toks:=tk }:=fun v d N' μ' h' tk a b c W' r =>
  q0 v d N' μ' h' tk a ⟨fun a o n d e=>b.keep a o n d (kp a o e),fun a o d e=>b.fr a o d (kp a o e),fun a o e=>b.al a o (kp a o e)⟩ ⟨c.up,fun a n=>(c.new a n).elim .inl fun e=>.inr (n02 a e),fun a n=>(c.mu a n).elim .inl fun e=>.inr (n02 a e)⟩ W' r
 have x:∀ e cls ctx N' μ' h1 h' tk,Θ cls ctx μ'->Mt (Qv envs) D h2 h1->Gr N N' μ μ' h2->Wd w h₁ (Qv envs) N' μ' h1->Vg (Qv envs) h1 e cls ctx (.tr none) h'->RR (.error (.ref e)) { s0 with heap:=h',toks:=tk }:=fun e cls ctx N' μ' h1 h' tk a b c W' r =>
  x0 e cls ctx N' μ' h1 h' tk a ⟨fun a o n d e=>b.keep a o n d (kp a o e),fun a o d e=>b.fr a o d (kp a o e),fun a o e=>b.al a o (kp a o e)⟩ ⟨c.up,fun a n=>(c.new a n).elim .inl fun e=>.inr (n02 a e),fun a n=>(c.mu a n).elim .inl fun e=>.inr (n02 a e)⟩ W' r
 generalize hs:({ s0 with heap:=h2,toks:=t2 }:Shared)=s
 have hsh:s.heap=h2:=by rw [← hs]
 have hss:∀ h' tk,({ s0 with heap:=h',toks:=tk }:Shared)={ s with heap:=h',toks:=tk }:=fun h' tk=>by rw [← hs]
 simp only [hss] at q x
 rw [← hsh] at W R q x
 have hlv:ps.length=vs.length:=by rw [hl,R.length]
 rw [FO.clo]
 refine wpAny_newFunctionEnv_cells FO.sk (fun y hy=>?_) fun env he s' X=>?_
 ·have hm:y.1∈ps:=by have:=List.mem_map_of_mem (f:=(·.1)) hy;rwa [V5 hlv] at this
  rcases FO.kind y.1 hm with h|h
  ·exact .inl h
  ·exact .inr ⟨h,cellsFrom_some _ _ _ (.inl h)⟩
 subst he
 refine ⟨(nms.nolimit.keeps W.stays).keeps X.toInCall.keep,codeAny_func ?_⟩
 refine YJ nms FO.nd FO.cells FO.sk FO.glob FO.bui AO W R hl X fun C N' h tk F hA hE B sub gr fr=>?_
 have H:Hdr C:=⟨⟨envs,hE⟩,fr,F.ok.frames,F.ok.efr,F.ok.kind⟩
 let E:Ent:=⟨Qv envs,s.heap,D,N⟩
 have hFs:C.Fs=C.env.locals::Qv envs:=by unfold Cx.Fs;rw [hE];simp [List.filterMap_cons,fr]
 have hw:=F.w
 have hh1:=F.h₁
 subst hw hh1
 have I:Im E C N' μ (ps.zip ds) h:=⟨B.st,B.own,⟨fun a o n Z e=>B.pu.keep a o n e,fun a o Z e=>B.pu.fr a o e,fun a o e=>let ⟨_,y⟩:=B.pu.fr a o e;⟨_,y⟩⟩,B.cel,B.sub,sub,gr⟩
 have sb:∀ a∈Qv envs,a∈C.Fs:=fun a m=>by rw [hFs];exact List.mem_cons_of_mem _ m
 have al0:∀ a o,s.heap.get? a=some o->∃ o',h.get? a=some o':=fun a o e=>I.mt.al a o e
 have G0:Gr N N' μ μ s.heap:=⟨sub,gr,fun Z n=>.inl n⟩
 refine hB E C F H rfl (fun a m e=>let ⟨_,_,o,ho,_⟩:=W.mu a m e;⟨o,ho⟩) (fun a m e=>(W.mu a m e).2.1) N' { s with heap:=h,toks:=tk } I _ _ (fun fl fx N2 μ2 l2 h2 t2 a b c d e=>?_) fun e cls ctx ph N2 μ2 l2 h1 h2 t2 a b c d f g=>?_
 ·have G2:Gr N N2 μ μ2 s.heap:=G0.trans d al0
  cases fx with
  | ret dd =>
   cases fl <;> first|exact e.elim|skip
   exact q _ dd N2 μ2 h2 t2 a b.mt G2 (b.st.wd.sub sb) e
  | nxt =>
   cases fl <;> first|exact e.elim|skip
   exact q _ (.dat .none) N2 μ2 h2 t2 a b.mt G2 (b.st.wd.sub sb) .none
  | brk=>exact a.elim
  | cnt=>exact a.elim
  | exc _ _=>cases fl <;> exact e.elim
 ·have G2:Gr N N2 μ μ2 s.heap:=G0.trans d al0
  unfold leaving
  refine wpAny_bind (Wa H b.st.wd (s:={ s with heap:=h2,toks:=t2 }) f g fun h3 X3=>?_)
  refine Qu (s:={ s with heap:=h3,toks:=t2 }) X3 (fl':=none) fun h4 X4=>?_
  have hL:C.env.locals∈C.Fs:=b.own.loc
  refine ZE (b.st.wd.fr _ hL) fun oL es n eL dL=>?_
  refine xE (X4.pu.fr _ oL eL) fun sl eL4=>?_
  let h1':=h1.update C.env.locals fun o=>{ o with slots:=sl }
  have s1:Heap.SameBut C.env.locals h1 h1':=Heap.SameBut.update _ _ _
  have hfr:({ oL with slots:=sl }:Obj).isFreed=false:=Obj.isFreed_of_dict (o:={ oL with slots:=sl }) dL
  have eL1:h1'.get? C.env.locals=some { oL with slots:=sl }:=Heap.get?_update_self _ eL hfr
  have locF:s.heap.get? C.env.locals=none:=b.own.locF
  have nLe:C.env.locals∉Qv envs:=fun m=>by
   refine ZE (W.fr _ m) fun o Z Z z Z=>?_;exact noS (Eq.trans (Eq.symm locF) z)
  have nN:N2 C.env.locals:=b.st.wd.fsN _ hL
  have mN:μ2 C.env.locals=none:=by
   cases y:μ2 C.env.locals with
   | none=>rfl
   | some m=>exact absurd hL (b.st.wd.mu _ m y).2.1
  have W1:Wd C.w C.h₁ (Qv envs) N2 μ2 h1':=(b.st.wd.sub sb).other nN nLe mN s1 ⟨_,eL1⟩
  refine x e cls ctx N2 μ2 h1' h4 t2 a ?_ G2 W1 ?_
  ·have ne:∀ b' o,s.heap.get? b'=some o->b'≠C.env.locals:=fun b' o z y=>by rw [y,locF] at z;exact noS z
   exact ⟨fun a' o n d z=>s1.extBut a' o (ne a' o z) (b.mt.keep a' o n d z),fun a' o d z=>let ⟨sl',y⟩:=b.mt.fr a' o d z;⟨sl',s1.extBut a' _ (ne a' o z) y⟩,fun a' o z=>let ⟨o',y⟩:=b.mt.al a' o z;⟨o',s1.extBut a' o' (ne a' o z) y⟩⟩
  ·obtain ⟨pu,new,ob,vs',y1,y2,y3,y4,T,oT,ts,z1,z2,z3,z4,z5,z6⟩:=X4
   have back:∀ a' o,a'≠C.env.locals->h1'.get? a'=some o->h1.get? a'=some o:=fun a' o n z=>by exact Eq.trans (Eq.symm (s1.2 a' n)) z
   have new':∀ a',h1.get? a'=none->h1'.get? a'=none:=fun a' z=>by
    by_cases y:a'=C.env.locals
    ·rw [y,eL] at z;exact sNo z
    ·exact Eq.trans (s1.2 a' y) z
   refine ⟨⟨fun a' o n z=>?_,fun a' o z=>?_⟩,new' e new,ob,vs',y1,y2,y3,y4,T,oT,ts,z1,new' T z2,z3,z4,z5,z6⟩
   ·by_cases y:a'=C.env.locals
    ·subst y;rw [eL1] at z;obtain rfl:=Option.some.inj z;exact eL4
    ·exact pu.keep a' o (fun m=>by rw [hFs] at m;exact (List.mem_cons.mp m).elim y n) (back a' o y z)
   ·by_cases y:a'=C.env.locals
    ·subst y;rw [eL1] at z;obtain rfl:=Option.some.inj z;exact ⟨sl,eL4⟩
    ·exact pu.fr a' o (back a' o y z)
theorem MFn.of_body {w:World}{h₁:Heap}{k:Nat}{μ:Mu}{f:Addr}{fd:FuncData}{body:List Stmt}{ps:List Str}{ds:List AV}{D:Addr->Prop}{Ψ:AV->Mu->Prop}{Θ:Value->Value->Mu->Prop}
  (nms:Nms h₁) (FO:OR h₁ f fd body ps) (hl:ps.length=ds.length)
  (hB:∀ (E:Ent) (C:Cx),Frm w h₁ k fd C->Hdr C->E.D0=D->(∀ a m,μ a=some m->∃ o,E.h0.get? a=some o)->(∀ a m,μ a=some m->a∉E.F0)->Xs E C μ (ps.zip ds) body (Mj Ψ Θ)):MFn w h₁ (k+1) μ f ds D Ψ Θ :=
 MFn.of_bodyB (ds0:=ds) nms ⟨FO.at_,FO.code,FO.body,FO.clo,FO.glob,FO.bui,FO.nd,FO.kind,FO.cells,FO.co,FO.gen,FO.sk⟩ hl (fun A envs N s vs W R Q E' q=>by
  rw [FO.bind vs (R.length.trans hl.symm)];exact wpAny_pure (q vs s.heap s.toks (fun Z Z e=>e) R)) hB
section
variable {E:Ent}{C:Cx}{μ:Mu}{l:List (Str×AV)}{Φ:Zq}{Ψ:AV->Mu->Prop}
noncomputable def FnM (E:Ent) (C:Cx) (μ:Mu) (f:Value) (ds:List AV) (Ψ:AV->Mu->Prop) (Θ:Value->Value->Mu->Prop):Prop :=
 ∀ (l:List (Str×AV)) (N:Addr->Prop) (s:Shared) (vs:List Value),Im E C N μ l s.heap->Zr N s.heap vs ds->∀ (Q:Value->Shared->Prop) (X:Value->Shared->Prop),
  (∀ v d N' μ' h' tk,Ψ d μ'->Im E C N' μ' l h'->Kp C μ s.heap h'->Gr N N' μ μ' s.heap->RdA N' h' v d->Q v { s with heap:=h',toks:=tk }) ->
  (∀ e cls ctx ph N' μ' h1 h' tk,Θ cls ctx μ'->Im E C N' μ' l h1->Kp C μ s.heap h1->Gr N N' μ μ' s.heap->Vg C.Fs h1 e cls ctx ph h'->(ph=.new∨ph=.tr none)->X (.ref e) { s with heap:=h',toks:=tk }) ->
  wpAny (model pg C.w) C.A (call f vs) Q X s
theorem Im.called {N N':Addr->Prop}{μ':Mu}{h h':Heap}{D:Addr->Prop} (I:Im E C N μ l h) (mt:Mt C.Fs D h h') (gr:Gr N N' μ μ' h) (W:Wd C.w C.h₁ C.Fs N' μ' h') (hD:∀ a,D a->μ a≠none/\E.Wr a):Im E C N' μ' l h'/\Kp C μ h h':=by
 have nd:∀ a,μ a=none->¬ D a:=fun a e d=>(hD a d).1 e
 have cD:∀ n c,C.env.cells.lookup n=some c->¬ D c:=fun n c e=>nd c (I.own.cell n c e).2.2.1
 have lD:¬ D C.env.locals:=fun d=>by
  refine xA (hD _ d) fun x Z=>?_
  refine xE (Option.ne_none_iff_exists'.mp x) fun m e=>?_
  exact (I.st.wd.mu _ m e).2.1 I.own.loc
 have fz:Fz N N' h h':=⟨fun a o n e=>mt.keep a o (fun m=>n (I.st.wd.fsN a m)) (fun d=>by
  refine xE (Option.ne_none_iff_exists'.mp (hD a d).1) fun m y=>?_
  exact n (I.st.wd.mu a m y).1) e,gr.new⟩
 have K:Kp C μ h h':=⟨fun a o n Z n3 e=>mt.keep a o n (nd a n3) e,mt.al⟩
 have m0:∀ a o,¬ E.D0 a->E.h0.get? a=some o->¬ D a:=fun a o d e dd=>(hD a dd).2.elim d fun y=>by exact noS (Eq.trans (Eq.symm y) e)
 have cN:∀ n c,C.env.cells.lookup n=some c->∃ o,h.get? c=some o:=fun n c e=>let ⟨_,o,y,_⟩:=I.cel n c e;⟨o,y⟩
 refine ⟨⟨⟨W,⟨?_,fun x d hx hk=>?_⟩⟩,⟨I.own.loc,I.own.locF,fun n c e=>?_,I.own.inj⟩,⟨fun a o n d e=>?_,fun a o d e=>?_,fun a o e=>?_⟩,fun n c e=>?_,I.sub,fun a n=>gr.up a (I.gs a n),fun a n=>?_⟩,K⟩
 ·(refine QW fun ZG Zk=>?_;refine xEA I.st.fm.ns fun ms Z0 rr=>?_;refine xE Z0 fun o Zr0=>?_;refine Zn Zr0 fun es ep ho hd rr0=>?_;clear Zr0;clear Z0;refine Zk ?_;clear Zk ZG)
  refine xE (mt.fr _ o lD ho) fun sl y=>?_
  refine ⟨ms,⟨_,es,ep,y,hd,rr0⟩,fun x d hx hk=>?_⟩
  refine xEA (rr x d hx hk) fun v e1 e2=>?_
  exact ⟨v,e1,e2.mono fz⟩
 ·(refine QW fun ZG Zk=>?_;refine Zn (I.st.fm.cl x d hx hk) fun c v e1 Z0 e3=>?_;refine xEA Z0 fun o e2 e2'=>?_;clear Z0;refine Zk ?_;clear Zk ZG)
  refine xE (mt.fr c o (cD x c e1) e2) fun sl y=>?_
  exact ⟨c,v,e1,⟨_,y,e2'⟩,e3.mono fz⟩
 ·refine VA (I.own.cell n c e) fun c1 c2 c3 c4=>?_
  refine ⟨gr.up c c1,c2,?_,c4⟩
  cases y:μ' c with
  | none=>rfl
  | some m =>
   refine xE (cN n c e) fun o z=>?_
   rcases gr.mu c (by rw [y];exact Option.some_ne_none m) with q|q
   ·exact absurd c3 q
   ·exact noS (Eq.trans (Eq.symm q) z)
 ·have y:=I.mt.keep a o n d e
  by_cases hf:a∈C.Fs
  ·exact ((I.sub a hf).elim n fun z=>by exact noS (Eq.trans (Eq.symm z) e)).elim
  ·exact mt.keep a o hf (m0 a o d e) y
 ·refine xE (I.mt.fr a o d e) fun sl y=>?_
  refine xE (mt.fr a _ (m0 a o d e) y) fun sl' z=>?_
  exact ⟨sl',z⟩
 ·refine xE (I.mt.al a o e) fun o' y=>?_
  exact mt.al a o' y
 ·refine QE (I.cel n c e) fun v o y z=>?_
  refine xE (mt.fr c o (cD n c e) y) fun sl y'=>?_
  exact ⟨v,_,y',z⟩
 ·rcases gr.new a n with y|y
  ·exact I.gr a y
  ·right
   cases z:E.h0.get? a with
   | none=>rfl
   | some o=>refine xE (I.mt.al a o z) fun Z zz=>?_;exact noS (Eq.trans (Eq.symm y) zz)
theorem MFn.fnM (O:C.Ok) {k:Nat}{f:Addr}{ds:List AV}{D:Addr->Prop}{Θ:Value->Value->Mu->Prop} (h:MFn C.w C.h₁ k μ f ds D Ψ Θ) (hk:k≤C.k) (hD:∀ a,D a->μ a≠none/\E.Wr a):FnM E C μ (.ref f) ds Ψ Θ:=by
 intro l N s vs I R Q X q x
 refine wpAny_call (h C.A C.envs N s vs (O.aok hk) I.st.wd R _ (fun v d N' μ' h' tk a b c W r=>?_) fun e cls ctx N' μ' h1 h' tk a b c W X1=>?_)
 ·refine xA (I.called b c W hD) fun I' K'=>?_
  exact q v d N' μ' h' tk a I' K' c r
 ·refine xA (I.called b c W hD) fun I' K'=>?_
  exact x e cls ctx _ N' μ' h1 h' tk a I' K' c X1 (.inr rfl)
theorem Em.call {x:Str}{p pos:Pos}{es:List Expr}{f:Value}{ds:List AV}{Θ:Value->Value->Mu->Prop} (hf:Ev C μ l (.Name x p) (.cal f)) (hc:GB C.h₁ f) (hn:Zu es=true) (ha:Evs C μ l es ds) (hF:FnM E C μ f ds Ψ Θ)
  (hΘ:∀ c t μ',¬ Θ c t μ'):Em E C μ l (.Call (.Name x p) es [] pos) Ψ Φ:=by
 intro N s I Q X q xx
 refine Call_Name rfl (hf N s I.st _ _ fun fv h1 t1 P1 R1=>?_)
 subst R1
 refine Qq hc hn (ha pos N _ (I.st.pu P1) _ _ fun vs h2 t2 P2 R2=>⟨((I.st.pu P1).pu P2).wd.stays,?_⟩)
 refine hF l N _ vs ((I.pu P1).pu P2) R2 _ _ (fun v d N' μ' h' tk a b c g r=>?_) fun Z Z Z Z Z Z Z Z Z a=>absurd a (hΘ _ _ _)
 have K:Kp C μ s.heap h':=((Kp.ofPu P1).trans (.ofPu P2) (.refl N μ s.heap)).trans c (.refl N μ s.heap)
 exact q v d N' μ' h' tk a b K ((Gr.refl N μ s.heap).trans g (Kp.ofPu (C:=C) (μ:=μ) (P1.trans P2)).al) r
end
end Mine
namespace Mine
open PySem PySem.W PyProof.Rows PySem.Calls PySem.MeetsSeq
section
variable {E:Ent}{C:Cx}{μ:Mu}{l:List (Str×AV)}{Φ:Zq}{Ψ:AV->Mu->Prop}{Θ:Value->Value->Mu->Prop}
theorem Zr.eraseIdx {N:Addr->Prop}{h:Heap}:∀ {vs ds},Zr N h vs ds->∀ (i:Nat),Zr N h (vs.eraseIdx i) (ds.eraseIdx i):=Zr.ind (P:=fun vs ds=>∀ i:Nat,Zr N h (vs.eraseIdx i) (ds.eraseIdx i)) (fun i=>.nil) fun a b q i=>by
 cases i with
 | zero=>exact b
 | succ i=>exact .cons a (q i)
theorem Em.meth {o:Expr}{name:Str}{apos pos:Pos}{es:List Expr}{T id:String}{a:AV}{ds:List AV} (m:Mth T name id)
  (hb:attributeBase o name C.env (eval o C.env)=eval o C.env) (hl:(apos.endLine == pos.line)=true) (hn:Zu es=true) (hk:es.length < 30)
  (ho:Ev C μ l o a) (ht:Jo C μ a T) (ha:Evs C μ l es ds) (hF:FnM E C μ (.builtin id) (a::ds) Ψ Θ) (hΘ:∀ c t μ',Θ c t μ'->Φ (.exc c t) μ' l) :
  Em E C μ l (.Call (.Attribute o name apos) es [] pos) Ψ Φ:=by
 intro N s I Q X q xx
 refine wpAny_Call_method_lateS hb ?_ hl (ho N s I.st _ _ fun va h1 t1 P1 R1=>?_)
 ·have e1:(backTo pos (starEach es C.env)).all (fun x=>!x.1)=true:=by
   have:=Zj (env:=C.env) (pos:=pos) hn
   rw [List.any_eq_false] at this
   rw [List.all_eq_true];intro x hx;simpa using this x hx
  rw [e1]
  simpa [keywordEach,backToKw] using hk
 refine xA (ht N { s with heap:=h1,toks:=t1 } va (I.st.pu P1).wd R1) fun t hd=>?_
 refine ⟨T,id,m.pa,m.slot,m.ty,t,hd,?_⟩
 refine callWith_builtin (Zj hn) (Zw hn (ha pos N _ (I.st.pu P1) _ _ fun vs h2 t2 P2 R2=>?_))
 have K0:Kp C μ s.heap h2:=.ofPu (P1.trans P2)
 refine hF l N _ (va::vs) ((I.pu P1).pu P2) (.cons (R1.mono ((I.st.pu P1).fz P2)) R2) _ _ (fun v d N' μ' h' tk a b c g r=>?_) fun e cls ctx ph N' μ' h1' h' tk a b c g X1 hp=>?_
 ·exact q v d N' μ' h' tk a b (K0.trans c (.refl N μ s.heap)) ((Gr.refl N μ s.heap).trans g K0.al) r
 ·exact xx e cls ctx ph N' μ' l h1' h' tk (hΘ _ _ _ a) b (K0.trans c (.refl N μ s.heap)) ((Gr.refl N μ s.heap).trans g K0.al) X1 (hp.elim .inl fun y=>.inr (.inl y))
theorem ZN {t:Addr}{xs:List AV} (ht:μ t=some (.list xs)):Jo C μ (.obj t) "list":=by
 intro N s va W R
 subst R
 (refine Qh (W.mu t _ ht) fun Z Z o ho vs n Z0 r=>?_;subst Z0)
 exact ⟨⟨_,ho,rfl⟩,fun b e=>by obtain rfl:=Value.ref.inj e;exact ⟨_,ho,rfl⟩⟩
theorem Im.setList {N:Addr->Prop}{h h':Heap}{t:Addr}{xs xs':List AV}{vs':List Value} (I:Im E C N μ l h) (ht:μ t=some (.list xs)) (hw:E.Wr t) (hs:Heap.SameBut t h h') (hp:h'.PlainList t vs'.toArray) (r:Zr N h vs' xs') :
  Im E C N (Mine.upd μ t (.list xs')) l h'/\Kp C μ h h'/\Gr N N μ (Mine.upd μ t (.list xs')) h:=by
 (refine xE hp fun n e=>?_;clear hp)
 refine xA (I.upd ht (fun Z q=>by cases q) hw hs e (m':=.list xs') fun fz=>⟨vs',n,rfl,r.mono fz⟩) fun a b=>?_
 refine ⟨a,b,fun Z x=>x,fun Z x=>.inl x,fun x hx=>?_⟩
 by_cases q:x=t
 ·left;rw [q,ht];exact Option.some_ne_none _
 ·rw [Za q] at hx;exact .inl hx
theorem Qr:Mth "list" "append" "list.append":=⟨F.plainAttrs_list,F.slot_list_append,F.type_list_append⟩
theorem KI:Mth "list" "pop" "list.pop":=⟨F.plainAttrs_list,F.slot_list_pop,F.type_list_pop⟩
theorem GQ:Mth "list" "clear" "list.clear":=⟨F.plainAttrs_list,F.slot_list_clear,F.type_list_clear⟩
theorem YX:Mth "list" "extend" "list.extend":=⟨F.plainAttrs_list,F.slot_list_extend,F.type_list_extend⟩
theorem Y5:Mth "list" "remove" "list.remove":=⟨F.plainAttrs_list,F.slot_list_remove,F.type_list_remove⟩
theorem QJ {t:Addr}{xs:List AV}{d:AV} (ht:μ t=some (.list xs)) (hw:E.Wr t) (hz:xs.length≤sizeLine):FnM E C μ (.builtin "list.append") [.obj t,d] (fun d' μ'=>d'=.dat .none/\μ'=upd μ t (.list (xs++[d]))) Θ:=by
 intro l N s vs I R Q X q x
 (refine Zn R.inv2 fun v u Z0 r1 r2=>?_;subst Z0)
 subst r1
 refine QF (Z7 I.st.wd ht) fun us hl hp hr=>?_
 refine wpAny_list_append_plain hp (fun h' hp' hs'=>?_) (by rw [List.size_toArray,hr.length];exact hz)
 refine xAA (I.setList ht hw hs' (vs':=us++[u]) (by simpa using hp') (hr.append (.cons r2 .nil))) fun a b c=>?_
 exact q _ _ N _ h' s.toks ⟨rfl,rfl⟩ a b c .none
theorem Ye {h:Heap}{t:Addr}{xs:Array Value}{n:Nat} (f:Array Value->Array Value) (ho:h.get? t=some { cls:=.type "list",data:=.seq xs n }):(h.update t (Obj.mapSeq f)).PlainList t (f xs) :=
 ⟨_,by exact (Heap.get?_update_self _ ho rfl)⟩
theorem JG:∀ (l:List Str) (x:Str) (m:Nat) (h:m < l.length),m < l.idxOf x->l[m]≠x
 | y::l,x,m,h,hm,e=>by
  rw [List.idxOf_cons] at hm
  cases q:y == x with
  | true=>rw [q] at hm;simp at hm
  | false =>
   rw [q] at hm
   cases m with
   | zero=>simp at e;rw [e] at q;simp at q
   | succ m=>simp at hm e;exact JG l x m (by simpa using h) (by assumption) e
theorem Kc {α β:Type} (f:α->β):∀ (l:List α) (i:Nat),(l.map f).eraseIdx i=(l.eraseIdx i).map f
 | [],i=>by rfl
 | _::_,0=>by rfl
 | _::l,i+1=>by simp [Kc f l i]
theorem Dy {t:Addr}{xs:List AV}{d:AV} (ht:μ t=some (.list (xs++[d]))) (hw:E.Wr t) (hz:xs.length < sizeLine):FnM E C μ (.builtin "list.pop") [.obj t] (fun d' μ'=>d'=d/\μ'=upd μ t (.list xs)) Θ:=by
 intro l N s vs I R Q X q x
 (refine xEA R.inv1 fun v Z0 r1=>?_;subst Z0)
 subst r1
 (refine QF (Z7 I.st.wd ht) fun us hl Z0 hr=>?_;refine xE Z0 fun n ho=>?_;clear Z0)
 have hlen:us.length=xs.length+1:=by refine Eq.trans hr.length ?_;simp
 refine xEA (hr.get (i:=xs.length) (d:=d) (by simp)) fun v e1 e2=>?_
 have esz:us.toArray.size - 1=xs.length:=by rw [List.size_toArray,hlen];rfl
 refine call_meets F.slot_list_pop ⟨_,ho,rfl⟩ F.entry_list_pop (F.args_list_pop_1 _) (list_pop_last t us.toArray n v (by rw [esz];simpa using e1) (by rw [List.size_toArray,hlen];assumption)) ⟨ho,?_⟩
 have hs:=Heap.SameBut.update s.heap t (Obj.mapSeq fun xs=>xs.eraseIdxIfInBounds (us.toArray.size - 1))
 rw [esz] at hs ⊢
 have ho':(s.heap.update t (Obj.mapSeq fun xs'=>xs'.eraseIdxIfInBounds xs.length)).PlainList t (us.eraseIdx xs.length).toArray:=by
  have e:us.toArray.eraseIdxIfInBounds xs.length=(us.eraseIdx xs.length).toArray:=by
   rw [Array.eraseIdxIfInBounds,dif_pos (by rw [List.size_toArray,hlen];exact Nat.le_refl _)]
   simp
  have:=Ye (fun xs'=>xs'.eraseIdxIfInBounds xs.length) ho
  simp only [e] at this
  exact this
 obtain ⟨a,b,c⟩:=I.setList ht hw hs ho' (by have:=hr.eraseIdx xs.length;rwa [List.eraseIdx_append_of_length_le (by exact Nat.le_refl _),Nat.sub_self,List.eraseIdx_cons_zero,List.append_nil] at this)
 have fz:=I.fz b c
 exact q _ d N _ _ s.toks ⟨rfl,rfl⟩ a b c (e2.mono fz)
theorem Hu {t:Addr}{xs:List AV} (ht:μ t=some (.list xs)) (hw:E.Wr t) (hz:xs.length≤sizeLine):FnM E C μ (.builtin "list.clear") [.obj t] (fun d' μ'=>d'=.dat .none/\μ'=upd μ t (.list [])) Θ:=by
 intro l N s vs I R Q X q x
 (refine xEA R.inv1 fun v Z0 r1=>?_;subst Z0)
 subst r1
 (refine QF (Z7 I.st.wd ht) fun us hl Z0 hr=>?_;refine xE Z0 fun n ho=>?_;clear Z0)
 refine call_meets F.slot_list_clear ⟨_,ho,rfl⟩ F.entry_list_clear (F.args_list_clear_1 _) (AutoSeq1.list_clear_list_0 t us.toArray n (by rw [List.size_toArray,hr.length];exact hz)) ⟨ho,?_⟩
 have hs:=Heap.SameBut.update s.heap t (Obj.mapSeq fun Z=>#[])
 have ho':(s.heap.update t (Obj.mapSeq fun Z=>#[])).PlainList t ([]:List Value).toArray:=⟨_,by exact (Heap.get?_update_self _ ho rfl)⟩
 refine xAA (I.setList ht hw hs ho' (xs':=[]) .nil) fun a b c=>?_
 exact q _ _ N _ _ s.toks ⟨rfl,rfl⟩ a b c .none
theorem Hr {N:Addr->Prop}{h:Heap}:∀ {vs:List Value}{xs:List Str},Zr N h vs (xs.map fun x=>.dat (.str x))->∃ l:List (Str×Tok),vs=strValues l/\l.map (·.1)=xs
 | vs,[],r=>by cases r;exact ⟨[],rfl,rfl⟩
 | vs,x::xs,r=>by
  cases r with
  | cons a b =>
   (refine xEA (Hr b) fun l Z0 h2=>?_;subst Z0)
   cases a with
   | str t k=>exact ⟨(x,t)::l,rfl,by simp [h2]⟩
noncomputable def isStr (x:Str):Value->Bool:=fun v=>match v with|.str y _=>y == x|_=>false
theorem BX {x:Str}{t:Tok}{l:List (Str×Tok)}:∀ y,y∈(strValues l).toArray->EqGives y (.str x t) (isStr x y):=fun y hy=>by
 have hy':y∈strValues l:=by simpa using hy
 (refine xEA (List.mem_map.mp hy') fun Z0 Z Z1=>?_;rcases Z0 with ⟨z,tz⟩;subst Z1)
 exact eqGives_str z x tz t
theorem GZ {t:Addr}{xs:List Str}{x:Str} (ht:μ t=some (.list (xs.map fun x=>.dat (.str x)))) (hw:E.Wr t) (hz:xs.length≤sizeLine) (hx:x∈xs) :
  FnM E C μ (.builtin "list.remove") [.obj t,.dat (.str x)] (fun d' μ'=>d'=.dat .none/\μ'=upd μ t (.list ((xs.erase x).map fun x=>.dat (.str x)))) Θ:=by
 intro l N s vs I R Q X q xx
 (refine Zn R.inv2 fun v u Z0 r1 r2=>?_;subst Z0)
 subst r1
 obtain ⟨tk,k,rfl⟩:=Rd.invS r2
 (refine QF (Z7 I.st.wd ht) fun us hl Z0 hr=>?_;refine xE Z0 fun n ho=>?_;clear Z0)
 (refine xEA (Hr hr) fun ls Z0 Z1=>?_;subst Z0;subst Z1)
 have hi:(ls.map (·.1)).idxOf x < (ls.map (·.1)).length:=List.idxOf_lt_length_iff.mpr hx
 generalize hj:(ls.map (·.1)).idxOf x=j at hi
 have hjl:j < ls.length:=by simpa using hi
 have hjs:j < (strValues ls).toArray.size:=by simpa [strValues] using hjl
 have hat:∀ m (hm:m < (strValues ls).toArray.size),isStr x (strValues ls).toArray[m]=((ls.map (·.1))[m]'(by simpa [strValues] using hm) == x):=fun m hm=>by
  simp [strValues,isStr]
 refine call_meets F.slot_list_remove ⟨_,ho,rfl⟩ F.entry_list_remove (F.args_list_remove_2 _ _) (list_remove t (strValues ls).toArray n (.str x tk) (isStr x) BX j hjs ?_ ?_ (by simpa [strValues] using hz)) ⟨ho,?_⟩
 ·rw [hat j hjs,beq_iff_eq];subst hj;exact List.getElem_idxOf hi
 ·intro m hm hlt
  rw [hat m hm,beq_eq_false_iff_ne]
  subst hj
  exact JG _ x m (by simpa [strValues] using hm) hlt
 ·have hs:=Heap.SameBut.update s.heap t (Obj.mapSeq fun xs=>xs.eraseIdxIfInBounds j)
  have ho':(s.heap.update t (Obj.mapSeq fun xs'=>xs'.eraseIdxIfInBounds j)).PlainList t ((strValues ls).eraseIdx j).toArray:=by
   have e:(strValues ls).toArray.eraseIdxIfInBounds j=((strValues ls).eraseIdx j).toArray:=by
    rw [Array.eraseIdxIfInBounds,dif_pos hjs]
    simp
   have:=Ye (fun xs'=>xs'.eraseIdxIfInBounds j) ho
   simp only [e] at this
   exact this
  have hr':=hr.eraseIdx j
  have e:((ls.map (·.1)).map fun x=>AV.dat (.str x)).eraseIdx j=((ls.map (·.1)).erase x).map fun x=>AV.dat (.str x):=by
   rw [List.erase_eq_eraseIdx_of_idxOf hj,Kc]
  rw [e] at hr'
  refine xAA (I.setList ht hw hs ho' hr') fun a b c=>?_
  exact q _ _ N _ _ s.toks ⟨rfl,rfl⟩ a b c .none
theorem Jj (hh:C.A.handled=none) {t:Addr}{xs:List Str}{x:Str} (ht:μ t=some (.list (xs.map fun x=>.dat (.str x)))) (hx:x∉xs) :
  FnM E C μ (.builtin "list.remove") [.obj t,.dat (.str x)] (fun Z Z=>False) (fun c t μ'=>c=.type "ValueError"/\t=.none/\μ'=μ):=by
 intro l N s vs I R Q X q xx
 (refine Zn R.inv2 fun v u Z0 r1 r2=>?_;subst Z0)
 subst r1
 obtain ⟨tk,k,rfl⟩:=Rd.invS r2
 (refine QF (Z7 I.st.wd ht) fun us hl Z0 hr=>?_;refine xE Z0 fun n ho=>?_;clear Z0)
 (refine xEA (Hr hr) fun ls Z0 Z1=>?_;subst Z0;subst Z1)
 refine call_meets F.slot_list_remove ⟨_,ho,rfl⟩ F.entry_list_remove (F.args_list_remove_2 _ _) (list_remove_none t (strValues ls).toArray n (.str x tk) (isStr x) BX fun m hm=>?_) ⟨ho,hh,fun h' tk' e ne=>?_⟩
 ·have hm':m < ls.length:=by simpa [strValues] using hm
  have:isStr x (strValues ls).toArray[m]=(ls[m].1 == x):=by simp [strValues,isStr]
  rw [this,beq_eq_false_iff_ne]
  exact fun e=>hx (e▸List.mem_map.mpr ⟨ls[m],List.getElem_mem hm',rfl⟩)
 ·exact xx e _ _ .new N μ s.heap h' tk' ⟨rfl,rfl,rfl⟩ I (.refl _ _ _) (.refl _ _ _) (.ofNew ne) (.inl rfl)
end
section
variable {E:Ent}{C:Cx}{μ:Mu}{l:List (Str×AV)}{Φ:Zq}{Ψ:AV->Mu->Prop}{Θ:Value->Value->Mu->Prop}
noncomputable abbrev Dx (E:Ent) (μ:Mu) (m:MO):AV->Mu->Prop:=fun d μ'=>∃ a,d=.obj a/\μ'=upd μ a m/\E.h0.get? a=none/\μ a=none
theorem Im.sz {N:Addr->Prop}{h:Heap} (nms:Nms C.h₁) (I:Im E C N μ l h):h.objs.size≠sysModules:=fun q=>by
 refine xE nms.three fun o e=>?_
 have:=Heap.lt_size (I.st.wd.stays 3 o e)
 rw [q] at this
 exact absurd this (by decide)
theorem Em.list0 {pos:Pos}:Em E C μ l (.List [] pos) (Dx E μ (.list [])) Φ:=by
 intro N s I Q X q xx
 refine List_ (Evs.nil (C:=C) (μ:=μ) (l:=l) pos N s I.st _ _ fun vs h1 t1 P1 R1=>?_)
 cases R1
 refine wpAny_newObj_type ?_
 refine Qe ((I.pu P1).new (fun Z q=>by cases q) (m':=.list []) (h':=h1.push { cls:=.type "list",data:=.seq ([]:List Value).toArray }) (fun b o e=>Heap.get?_push_of_some _ e) (get?_size_none h1) (Heap.get?_push_size _ rfl) ⟨[],0,rfl,.nil⟩) fun a b c d e=>?_
 exact q _ (.obj h1.objs.size) _ _ _ _ ⟨_,rfl,rfl,d,e⟩ a ((Kp.ofPu P1).trans b (.refl N μ s.heap)) ((Gr.refl N μ s.heap).trans c (Kp.ofPu (C:=C) (μ:=μ) P1).al) rfl
theorem Em.tup {es:List Expr}{k:Nat}{pos:Pos}{ds:List AV} (h:Evs C μ l es ds) (hz:ds.length≤sizeLine):Em E C μ l (.Tuple es k pos) (Dx E μ (.tup ds)) Φ:=by
 intro N s I Q X q xx
 refine Tuple_ (h pos N s I.st _ _ fun vs h1 t1 P1 R1=>?_)
 refine wpAny_newObj_type ?_ (by show vs.toArray.size≤sizeLine;rw [List.size_toArray,R1.length];exact hz)
 have fz:Fz N (Un N [h1.objs.size]) h1 (h1.push { cls:=.type "tuple",data:=.seq vs.toArray }):=Fz.un (fun b o e=>Heap.get?_push_of_some _ e) fun b m=>by rw [List.mem_singleton.mp m];exact get?_size_none _
 refine Qe ((I.pu P1).new (fun Z q=>by cases q) (m':=.tup ds) (h':=h1.push { cls:=.type "tuple",data:=.seq vs.toArray }) (fun b o e=>Heap.get?_push_of_some _ e) (get?_size_none h1) (Heap.get?_push_size _ rfl) ⟨vs,0,rfl,R1.mono fz⟩) fun a b c d e=>?_
 exact q _ (.obj h1.objs.size) _ _ _ _ ⟨_,rfl,rfl,d,e⟩ a ((Kp.ofPu P1).trans b (.refl N μ s.heap)) ((Gr.refl N μ s.heap).trans c (Kp.ofPu (C:=C) (μ:=μ) P1).al) rfl
theorem DY {t:Addr}{xs:List AV} (ht:μ t=some (.list xs)) (hz:xs.length≤sizeLine):Tr C μ (.obj t) (!xs.isEmpty):=by
 intro N s va W R Q X q
 subst R
 refine QF (Z7 W ht) fun vs hl Z hr=>?_
 have hlen:=hr.length
 refine wpAny_truthy_list hl (by rw [List.size_toArray,hlen];rw [sizeLine_eq] at hz;omega) ?_
 have e:(!vs.toArray.isEmpty)=!xs.isEmpty:=by cases hr <;> rfl
 rw [e]
 exact q _ _ (.refl _ _)
theorem Hd {t:Addr}{xs:List AV} (ht:μ t=some (.list xs)) (hz:xs.length≤sizeLine):Fn C μ (.builtin "len") [.obj t] (.dat (.int xs.length)):=by
 intro N s vs W R Q X q
 (refine xEA R.inv1 fun v Z0 r=>?_;subst Z0)
 subst r
 refine QF (Z7 W ht) fun us hl Z hr=>?_
 refine len_list hl (by rw [List.size_toArray,hr.length];rw [sizeLine_eq] at hz;omega) ?_
 rw [List.size_toArray,hr.length]
 exact q _ _ _ (.refl _ _) (.int _ _)
theorem Ev.lastMu {v i:Expr}{pos:Pos}{t:Addr}{xs:List AV}{d:AV} (hv:Ev C μ l v (.obj t)) (ht:μ t=some (.list (xs++[d]))) (hi:Ev C μ l i (.dat (.int (-1))))
  (hs:∀ a u,subscripted i false (.ref a) (.int (-1) u)=operate [.ref a,.int (-1) u] (getItem (.ref a) (.int (-1) u))):Ev C μ l (.Subscript v i pos) d:=by
 intro N s S Q X q
 refine PyProof.Rows.Subscript_ (hv N s S _ _ fun vv h1 t1 P1 R1=>hi N _ (S.pu P1) _ _ fun iv h2 t2 P2 R2=>?_)
 obtain ⟨u,rfl⟩:=Rd.invI R2
 subst R1
 refine QF (Z7 ((S.pu P1).pu P2).wd ht) fun us hl Z hr=>?_
 refine xEA (hr.get (i:=xs.length) (d:=d) (by simp)) fun x e1 e2=>?_
 have hlen:us.length=xs.length+1:=by refine Eq.trans hr.length ?_;simp
 refine tail_any hl.typeIs slot_list_getitem.lookup (wpAny_getItem_list_neg (x:=x) hl (by decide) (by rw [List.size_toArray,hlen];omega) (by decide) ?_ ?_) (hs t u)
 ·rw [List.size_toArray,hlen,show ((-1:Int)+((xs.length+1:Nat):Int)).toNat=xs.length by omega];simpa using e1
 ·exact q x h2 t2 (P1.trans P2) e2
theorem JP {t:Addr}{xs:List AV}{ys:List PyData} (ht:μ t=some (.list xs)) (hw:E.Wr t) (hz:xs.length+ys.length≤10000000):FnM E C μ (.builtin "list.extend") [.obj t,.dat (.list ys)] (fun d' μ'=>d'=.dat .none/\μ'=upd μ t (.list (xs++ys.map .dat))) Θ:=by
 intro l N s vs I R Q X q x
 (refine Zn R.inv2 fun v u Z0 r1 r2=>?_;subst Z0)
 subst r1
 (refine Zf (Rd.listE r2) fun b ws Z0 nb lb rb zb=>?_;subst Z0)
 (refine QF (Z7 I.st.wd ht) fun us hl Z0 hr=>?_;refine xE Z0 fun n ho=>?_;clear Z0)
 refine VE (id lb) fun ob hob hcb nb' hdb=>?_
 refine wpAny_call_entry F.slot_list_extend ⟨_,ho,rfl⟩ F.entry_list_extend ?_ (F.args_list_extend_2 _ _)
 show wpAny _ _ (Builtin.List.listExtendWith (.ref t) (.ref b) .none) _ _ s
 unfold Builtin.List.listExtendWith
 refine wpAny_bind (wpAny_typeOf ⟨ob,hob,hcb⟩ ?_)
 rw [if_pos (by simp)]
 refine wpAny_bind ?_
 unfold Builtin.List.listItems
 refine wpAny_bind (wpAny_seqItems hob hdb (wpAny_pure ?_))
 refine wpAny_bind (wpAny_bind (wpAny_seqItems ho rfl (wpAny_pure ?_)))
 have hlu:=hr.length
 have hlw:=rb.length
 rw [if_neg (by
  simp only [Bool.and_eq_true,not_and]
  intro _
  simp [Builtin.List.listTooLong,sizeLine_eq,hlu,hlw];exact oA ‹_› rfl)]
 refine wpAny_bind ?_
 show wpAny _ _ (updateSeq t (·++ws.toArray)) _ _ s
 refine wpAny_updateSeq ho rfl ?_ (by rw [List.size_toArray,hlu,sizeLine_eq];exact oR ‹_› rfl) (by show (us.toArray++ws.toArray).size≤_;rw [Array.size_append,List.size_toArray,List.size_toArray,hlu,hlw,sizeLine_eq];exact oA ‹_› rfl)
 have hs:=Heap.SameBut.update s.heap t (Obj.mapSeq (·++ws.toArray))
 have ho':(s.heap.update t (Obj.mapSeq (·++ws.toArray))).PlainList t (us++ws).toArray:=by
  have:=Ye (·++ws.toArray) ho
  simpa using this
 refine xAA (I.setList ht hw hs ho' (hr.append rb.datsA)) fun a b' c=>?_
 exact wpAny_pure ⟨_,rfl,q _ _ N _ _ s.toks ⟨rfl,rfl⟩ a b' c .none⟩
end
theorem Jz:plainId "proto.unchain"=true:=by decide +kernel
theorem Jv:entryFor table "proto.unchain"=some Builtin.«proto.unchain»:=entryFor_of_fast (by kernel_rfl)
section
variable {α:Type}{w:World}{A:Around}{X:Value->Shared->Prop}{s:Shared}
theorem He {cls:String}{args:List Value}{a1:Addr}{o1:Obj}{vs1:Array Value}{Fs:List Addr}{Q:α->Shared->Prop} (hp:PlainExc cls) (hh:A.handled=some (.ref a1)) (h1:s.heap.get? a1=some o1) (d1:o1.data=.fields vs1) (c1:vs1[2]?=some .none) (hargs:args.length≤sizeLine)
  (q:∀ h' e,Vg Fs s.heap e (.type cls) (.ref a1) .new h'->X (.ref e) { s with heap:=h' }):wpAny (model pg w) A (do let e ← newExc (.type cls) args;raiseNew e:Sem α) Q X s:=by
 refine wpAny_bind ?_
 unfold newExc newTuple
 refine wpAny_bind (wpAny_newObj_type ?_ (by show args.toArray.size≤sizeLine;rw [List.size_toArray];exact hargs))
 refine wpAny_bind (m:=firstArgMember _ _) (wpAny_of_eq (a:=Value.none) (by simp only [firstArgMember,hp.first];rfl) ?_)
 rw [hp.own]
 refine wpAny_newObj_type ?_
 generalize ht1:s.heap.push { cls:=.type "tuple",data:=.seq args.toArray }=g1
 have hk1:∀ b o,s.heap.get? b=some o->g1.get? b=some o:=fun b o e=>by rw [← ht1];exact Heap.get?_push_of_some _ e
 generalize hob:({ cls:=.type cls,data:=.fields (#[.ref s.heap.objs.size,.none,.none,.none,.bool false,.none]++#[]) }:Obj)=ob
 have hobd:ob.data=.fields #[.ref s.heap.objs.size,.none,.none,.none,.bool false,.none]:=by rw [← hob];rfl
 have hobc:ob.cls=.type cls:=by rw [← hob]
 have hof:ob.isFreed=false:=Obj.isFreed_of_fields hobd
 have hk2:∀ b o,s.heap.get? b=some o->(g1.push ob).get? b=some o:=fun b o e=>Heap.get?_push_of_some _ (hk1 b o e)
 have he:(g1.push ob).get? g1.objs.size=some ob:=Heap.get?_push_size _ hof
 have hnew:s.heap.get? g1.objs.size=none:=by
  cases y:s.heap.get? g1.objs.size with
  | none=>rfl
  | some o=>have:=hk1 _ _ y;exact noS (Eq.trans (Eq.symm (get?_size_none _)) this)
 have hne:a1≠g1.objs.size:=fun y=>by rw [y,hnew] at h1;exact noS h1
 unfold raiseNew
 refine wpAny_bind (wpAny_handled ?_)
 rw [hh]
 show wpAny _ A (if (Value.ref a1 != Value.ref g1.objs.size)=true then _ else _) Q X _
 rw [if_pos (by simpa using hne)]
 refine wpAny_bind (wpAny_holding (wpAny_runValue (codeAny_builtin Jv ?_)))
 rw [Around.under_plainId Jz _]
 show wpAny _ A.in1 (field (.ref a1) 2 >>= _) _ _ _
 refine wpAny_bind (wpAny_field (s:={ s with heap:=g1.push ob }) (hk2 _ _ h1) d1 c1 ?_)
 refine wpAny_pure ?_
 refine wpAny_bind ?_
 unfold updateField
 refine wpAny_bind (wpAny_load (s:={ s with heap:=g1.push ob }) he ?_)
 rw [hobd]
 refine wpAny_update (s:={ s with heap:=g1.push ob }) he ?_
 refine wpAny_throw ?_
 have hd3:=Obj.data_mapFields hobd (·.setIfInBounds 2 (Value.ref a1))
 have he3:=Heap.get?_update_self (Obj.mapFields (·.setIfInBounds 2 (Value.ref a1))) he (Obj.isFreed_of_fields hd3)
 refine q _ g1.objs.size ⟨.of_keeps fun b o e=>(Heap.get?_update_other _ _ (fun y=>by rw [← y,hnew] at e;exact noS e)).trans (hk2 b o e),hnew,_,_,he3,(Obj.cls_mapFields _ _).trans hobc,hd3,by rfl,by rfl⟩
theorem QV {cls msg:String}{a1:Addr}{o1:Obj}{vs1:Array Value}{Fs:List Addr}{Q:α->Shared->Prop} (hp:PlainExc cls) (hh:A.handled=some (.ref a1)) (h1:s.heap.get? a1=some o1) (d1:o1.data=.fields vs1) (c1:vs1[2]?=some .none)
  (q:∀ h' tk e,Vg Fs s.heap e (.type cls) (.ref a1) .new h'->X (.ref e) { s with heap:=h',toks:=tk }):wpAny (model pg w) A (raiseErrorWords cls msg:Sem α) Q X s:=by
 unfold raiseErrorWords
 refine wpAny_bind (wpAny_mkText ?_)
 exact He (s:={ s with toks:=s.toks+1 }) hp hh h1 d1 c1 (by show 1≤sizeLine;rw [sizeLine_eq];decide) fun h' e x=>q h' _ e x
theorem Yv {l:Addr}{items:Array Value}{k:Int}{t:Tok}{a1:Addr}{o1:Obj}{vs1:Array Value}{Fs:List Addr}{Q:Value->Shared->Prop} (hh:A.handled=some (.ref a1)) (h1:s.heap.get? a1=some o1) (d1:o1.data=.fields vs1) (c1:vs1[2]?=some .none) (hl:s.heap.IsList l items)
  (hout:(items.size:Int)≤k) (hhi:k < 2 ^ 63) (hE:∀ h' tk e,Vg Fs s.heap e (.type "IndexError") (.ref a1) .new h'->X (.ref e) { s with heap:=h',toks:=tk }) :
  wpAny (model pg w) A (getItem (.ref l) (.int k t)) Q X s:=by
 refine VE (id hl) fun o ho hc ne hd=>?_
 unfold getItem
 try with_reducible refine wpAny_holding ?_
 first|refine wpAny_bind (wpAny_pure ?_)|skip
 refine wpAny_bind (wpAny_sequenceKey hl.typeIs (by decide) ?_)
 refine wpAny_bind (wpAny_callSpecial?_slot (name:=Str.ofString "__getitem__") hl.typeIs slot_list_getitem
  (wpAny_call_entry slot_list_getitem hl.typeIs entry_list_getitem ?_ (args_list_getitem _ _)))
 show wpAny _ _ (Builtin.List.listSubscript? (.int k t) >>= _) _ _ s
 refine wpAny_bind (wpAny_listSubscript_int (fitsIndex_both (by omega) hhi) ?_)
 clear hhi
 cases k with
 | negSucc j=>exact absurd hout (by have:=Int.negSucc_lt_zero j;omega)
 | ofNat j =>
 have hx:items[j]?=none:=Array.getElem?_eq_none (by have:(items.size:Int)≤(j:Int):=hout;exact Int.ofNat_le.mp ‹_›)
 show wpAny _ _ ((seqItemAt l j >>= fun r=>pure (r.map (j,·))) >>= _) _ _ s
 refine wpAny_bind (wpAny_bind (wpAny_seqItemAt ho hd (wpAny_pure ?_)))
 rw [hx]
 first
  | exact wpAny_bind (wpAny_rule (QV plainExc_IndexError hh h1 d1 c1 hE))
  | exact wpAny_bind (wpAny_rule (wpAny_bind (QV plainExc_IndexError hh h1 d1 c1 hE)))
  | exact wpAny_bind (wpAny_bind (wpAny_rule (QV plainExc_IndexError hh h1 d1 c1 hE)))
  | exact wpAny_rule (QV plainExc_IndexError hh h1 d1 c1 hE)
end
structure Fg (e T:Addr) (h h':Heap):Prop where
 keep:∀ b o,b≠e->b≠T->h.get? b=some o->h'.get? b=some o
 re:∀ o,h.get? e=some o->∃ vs,o.data=.fields vs
 rT:∀ o,h.get? T=some o->∃ vs,o.data=.fields vs
theorem Fg.seq {e T:Addr}{h h':Heap} (f:Fg e T h h') {a:Addr}{o:Obj}{vs:Array Value}{n:Nat} (ha:h.get? a=some o) (hd:o.data=.seq vs n):h'.get? a=some o :=
 f.keep a o (fun q=>by subst q;refine xE (f.re o ha) fun us y=>?_;rw [hd] at y;cases y) (fun q=>by subst q;refine xE (f.rT o ha) fun us y=>?_;rw [hd] at y;cases y) ha
mutual
theorem Rd.fg {N:Addr->Prop}{e T:Addr}{h h':Heap} (f:Fg e T h h'):∀ {v d},Rd N h v d->Rd N h' v d
 | _,_,.none=>.none
 | _,_,.bool b=>.bool b
 | _,_,.int i t=>.int i t
 | _,_,.str t k=>.str t k
 | _,_,.list e n c d r z y=>.list (f.seq e d) n c d (Rds.fg f r) z y
 | _,_,.tuple e n c d r z=>.tuple (f.seq e d) n c d (Rds.fg f r) z
theorem Rds.fg {N:Addr->Prop}{e T:Addr}{h h':Heap} (f:Fg e T h h'):∀ {vs ds},Rds N h vs ds->Rds N h' vs ds
 | _,_,.nil=>.nil
 | _,_,.cons a b=>.cons (Rd.fg f a) (Rds.fg f b)
end
theorem RdA.fg {N:Addr->Prop}{e T:Addr}{h h':Heap} (f:Fg e T h h') {v:Value}:∀ {d},RdA N h v d->RdA N h' v d
 | .dat _,r=>Rd.fg f r
 | .obj _,r=>r
 | .cal _,r=>r
theorem Zr.fg {N:Addr->Prop}{e T:Addr}{h h':Heap} (f:Fg e T h h'):∀ {vs ds},Zr N h vs ds->Zr N h' vs ds:=Zr.ind (P:=Zr N h') .nil fun a Z q=>.cons (RdA.fg f a) q
theorem ZQ.fg {N:Addr->Prop}{e T:Addr}{h h':Heap} (f:Fg e T h h'):∀ {vs ds},ZQ N h vs ds->ZQ N h' vs ds:=ZQ.ind (P:=ZQ N h') .nil fun a Z q=>.cons (RdA.fg f a) q
theorem Qm.fg {w:World}{N:Addr->Prop}{e T:Addr}{h h':Heap} (f:Fg e T h h'):∀ {vs ds},Qm w N h vs ds->Qm w N h' vs ds:=Qm.ind (P:=Qm w N h') .nil fun a Z q=>.cons (RdA.fg f a) q
theorem Yt.fg {w:World}{N:Addr->Prop}{e T:Addr}{h h':Heap} (f:Fg e T h h') {o:Obj}:∀ {m},Yt w N h o m->Yt w N h' o m
 | .list _,⟨vs,n,e,r⟩=>⟨vs,n,e,Zr.fg f r⟩
 | .dict _,⟨ps,e,r⟩=>⟨ps,e,ZQ.fg f r⟩
 | .set _,r=>r
 | .inst _ _,r=>r
 | .ns _,⟨es,n,e,r⟩=>⟨es,n,e,Qm.fg f r⟩
 | .info _ _ _,⟨t,t',dx,e,n,g⟩=>⟨t,t',dx,e,n,f.keep _ _ (fun q=>by subst q;refine xE (f.re _ g) fun us y=>?_;cases y) (fun q=>by subst q;refine xE (f.rT _ g) fun us y=>?_;cases y) g⟩
 | .iter _ _,r=>r
 | .nxt _,r=>r
 | .tup _,⟨vs,n,e,r⟩=>⟨vs,n,e,Zr.fg f r⟩
 | .any,r=>r
 | .exc _ _,r=>r
 | .part _,⟨vs,dx,e,n,g,r⟩=>⟨vs,dx,e,n,f.keep _ _ (fun q=>by subst q;refine xE (f.re _ g) fun us y=>?_;cases y) (fun q=>by subst q;refine xE (f.rT _ g) fun us y=>?_;cases y) g,Zr.fg f r⟩
section
variable {E:Ent}{C:Cx}{N:Addr->Prop}{μ:Mu}{l:List (Str×AV)}{h:Heap}
theorem Im.forget {h':Heap}{e T:Addr} (I:Im E C N μ l h) (f:Fg e T h h') (ne:¬ N e) (nT:¬ N T) (he:E.h0.get? e=none) (hT:E.h0.get? T=none) (h1e:C.h₁.get? e=none) (h1T:C.h₁.get? T=none):Im E C N μ l h':=by
 have W:=I.st.wd
 have k1:∀ b o,C.h₁.get? b=some o->h.get? b=some o->h'.get? b=some o:=fun b o y z=>f.keep b o (fun q=>by rw [q,h1e] at y;exact noS y) (fun q=>by rw [q,h1T] at y;exact noS y) z
 have k0:∀ b x,E.h0.get? b=some x->∀ o,h.get? b=some o->h'.get? b=some o:=fun b x y o z=>f.keep b o (fun q=>by rw [q,he] at y;exact noS y) (fun q=>by rw [q,hT] at y;exact noS y) z
 have kN:∀ b o,N b->h.get? b=some o->h'.get? b=some o:=fun b o n z=>f.keep b o (fun q=>ne (q▸n)) (fun q=>nT (q▸n)) z
 refine ⟨⟨⟨fun b o y=>k1 b o y (W.stays b o y),W.nlo,fun b n=>let ⟨o,y⟩:=W.nhi b n;⟨o,kN b o n y⟩,W.fsN,fun b m=>let ⟨o,es,n,y,d⟩:=W.fr b m;⟨o,es,n,kN b o (W.fsN b m) y,d⟩,
   fun b m y=>let ⟨n,g,o,ho,r⟩:=W.mu b m y;⟨n,g,o,kN b o n ho,r.fg f⟩,W.mm⟩,⟨?_,fun x d hx hk=>?_⟩⟩,I.own,
  ⟨fun b o n d y=>k0 b o y o (I.mt.keep b o n d y),fun b o d y=>let ⟨sl,z⟩:=I.mt.fr b o d y;⟨sl,k0 b o y _ z⟩,fun b o y=>let ⟨o',z⟩:=I.mt.al b o y;⟨o',k0 b o y _ z⟩⟩,fun n c y=>?_,I.sub,I.gs,I.gr⟩
 ·refine xEA I.st.fm.ns fun ms ns rr=>?_
  refine ⟨ms,ns.at' fun o y=>kN _ o (W.fsN _ I.own.loc) y,fun x d hx hk=>?_⟩
  refine xEA (rr x d hx hk) fun v e1 e2=>?_
  exact ⟨v,e1,e2.fg f⟩
 ·(refine QW fun ZG Zk=>?_;refine Zn (I.st.fm.cl x d hx hk) fun a v e1 Z0 e4=>?_;refine xEA Z0 fun o e2 e3=>?_;clear Z0;refine Zk ?_;clear Zk ZG)
  exact ⟨a,v,e1,⟨o,kN a o (I.own.cell x a e1).1 e2,e3⟩,e4.fg f⟩
 ·refine QE (I.cel n c y) fun v o z u=>?_
  exact ⟨v,o,kN c o (I.own.cell n c y).1 z,u⟩
theorem Im.adopt {h':Heap}{a:Addr}{m':MO} (I:Im E C N μ l h) (hne:∀ kvs,m'=.dict kvs->a≠sysModules) (P:Pu C.Fs h h') (ha:h.get? a=none) {o:Obj} (ho:h'.get? a=some o) (r:Yt C.w (Un N [a]) h' o m') :
  Im E C (Un N [a]) (Mine.upd μ a m') l h'/\E.h0.get? a=none/\μ a=none/\¬ E.N0 a/\¬ N a/\a∉C.Fs:=by
 have hm:μ a=none:=by
  cases q:μ a with
  | none=>rfl
  | some m=>refine ZL (I.st.wd.mu a m q) fun Z Z x e Z=>?_;replace e:=Eq.trans (Eq.symm ha) e;exact noS e
 have h0:E.h0.get? a=none:=by
  cases q:E.h0.get? a with
  | none=>rfl
  | some x=>refine xE (I.mt.al a x q) fun Z y=>?_;replace y:=Eq.trans (Eq.symm ha) y;exact noS y
 have nN:¬ N a:=fun n=>by refine xE (I.st.wd.nhi a n) fun x e=>?_;replace e:=Eq.trans (Eq.symm ha) e;exact noS e
 have afs:a∉C.Fs:=fun mm=>by refine ZE (I.st.wd.fr a mm) fun x Z Z e Z=>?_;replace e:=Eq.trans (Eq.symm ha) e;exact noS e
 have nf:∀ b∈[a],h.get? b=none:=fun b hb=>by rw [List.mem_singleton.mp hb];exact ha
 have fz:Fz N (Un N [a]) h h':=⟨fun b o n e=>P.keep b o (fun m=>n (I.st.wd.fsN b m)) e,fun b n=>n.elim .inl fun y=>.inr (nf b y)⟩
 have W:=I.st.wd.grow P nf fun b hb=>by rw [List.mem_singleton.mp hb];exact ⟨o,ho⟩
 have cne:∀ n c,C.env.cells.lookup n=some c->c≠a:=fun n c e q=>by refine QE (I.cel n c e) fun v x y Z=>?_;rw [q,ha] at y;exact noS y
 refine ⟨⟨⟨⟨W.stays,W.nlo,W.nhi,W.fsN,W.fr,fun b mb e=>?_,fun b mb e=>?_⟩,⟨?_,fun x d hx hk=>?_⟩⟩,⟨I.own.loc,I.own.locF,fun n c e=>?_,I.own.inj⟩,(I.pu P).mt,(I.pu P).cel,I.sub,fun x n=>.inl (I.gs x n),fun x n=>n.elim (I.gr x) fun q=>.inr (by rw [List.mem_singleton.mp q];exact h0)⟩,h0,hm,fun n=>nN (I.gs a n),nN,afs⟩
 ·clear hne
  by_cases q:b=a
  ·subst q
   replace e:=Eq.trans (Eq.symm (Zb _ _ _)) e;obtain rfl:=Option.some.inj e
   exact ⟨.inr (by exact List.mem_cons_self),afs,o,ho,r⟩
  ·replace e:=Eq.trans (Eq.symm (Za q)) e;exact W.mu b mb e
 ·clear r
  by_cases q:b=a
  ·subst q;replace e:=Eq.trans (Eq.symm (Zb _ _ _)) e;exact hne mb (Option.some.inj e)
  ·replace e:=Eq.trans (Eq.symm (Za q)) e;exact W.mm b mb e
 ·clear hne r
  refine xEA I.st.fm.ns fun ms ns rr=>?_
  refine ⟨ms,P.ns ns,fun x d hx hk=>?_⟩
  refine xEA (rr x d hx hk) fun v e1 e2=>?_
  exact ⟨v,e1,e2.mono fz⟩
 ·clear hne r
  refine Zn (I.st.fm.cl x d hx hk) fun c v e1 e2 e3=>?_
  exact ⟨c,v,e1,P.cell e2,e3.mono fz⟩
 ·clear hne r
  refine VA (I.own.cell n c e) fun c1 c2 c3 c4=>?_
  exact ⟨.inl c1,c2,by exact Eq.trans (Za (cne n c e)) c3,c4⟩
theorem Im.dropMu {a:Addr}{m:MO} (I:Im E C N (Mine.upd μ a m) l h) (hm:μ a=none) (hn:¬ E.N0 a):Im E C (fun x=>N x/\x≠a) μ l h:=by
 have W:=I.st.wd
 have afs:a∉C.Fs:=(W.mu a m (Zb _ _ _)).2.1
 have fz:Fz N (fun x=>N x/\x≠a) h h:=⟨fun Z Z Z e=>e,fun Z y=>.inl y.1⟩
 have cne:∀ n c,C.env.cells.lookup n=some c->c≠a:=fun n c e q=>by have:=(I.own.cell n c e).2.2.1;rw [q,Zb] at this;exact sNo this
 refine ⟨⟨⟨W.stays,fun x n=>W.nlo x n.1,fun x n=>W.nhi x n.1,fun x mm=>⟨W.fsN x mm,fun q=>afs (q▸mm)⟩,W.fr,fun b mb e=>?_,fun b mb e=>W.mm b mb (by rw [Za fun q=>by rw [q,hm] at e;cases e];exact e)⟩,⟨?_,fun x d hx hk=>?_⟩⟩,⟨I.own.loc,I.own.locF,fun n c e=>?_,I.own.inj⟩,I.mt,I.cel,I.sub,fun x n=>⟨I.gs x n,fun q=>hn (q▸n)⟩,fun x n=>I.gr x n.1⟩
 ·clear I
  have ba:b≠a:=fun q=>by rw [q,hm] at e;exact noS e
  obtain ⟨n,g,o,ho,r⟩:=W.mu b mb (by exact Eq.trans (Za ba) e)
  exact ⟨⟨n,ba⟩,g,o,ho,r.mono fz⟩
 ·refine xEA I.st.fm.ns fun ms ns rr=>?_
  refine ⟨ms,ns,fun x d hx hk=>?_⟩
  refine xEA (rr x d hx hk) fun v e1 e2=>?_
  exact ⟨v,e1,e2.mono fz⟩
 ·refine Zn (I.st.fm.cl x d hx hk) fun c v e1 e2 e3=>?_
  exact ⟨c,v,e1,e2,e3.mono fz⟩
 ·refine VA (I.own.cell n c e) fun c1 c2 c3 c4=>?_
  exact ⟨⟨c1,cne n c e⟩,c2,by have:=Za (μ:=μ) (m:=m) (cne n c e);exact Eq.trans (Eq.symm this) c3,c4⟩
end
noncomputable def Qp (h:Heap) (a:Addr):Heap:=h.update a fun o=>{ o with data:=.freed }
theorem Qc (h:Heap) {a b:Addr} (hb:b≠a):(Qp h a).get? b=h.get? b:=Heap.get?_update_other _ _ (Ne.symm hb)
theorem Uf (h:Heap) (a:Addr):(Qp h a).get? a=none:=by
 cases q:(Qp h a).get? a with
 | none=>rfl
 | some o =>
  refine xA (Heap.get?_some_iff.mp q) fun e1 e2=>?_
  unfold Qp at e1
  cases h
  simp only [Heap.update,Array.getElem?_modify,if_true] at e1
  (refine xEA (Option.map_eq_some_iff.mp e1) fun x Z Z0=>?_;subst Z0)
  simp [Obj.isFreed] at e2
theorem fg2 {h:Heap}{e T:Addr}{oe oT:Obj}{vs ts:Array Value} (he:h.get? e=some oe) (de:oe.data=.fields vs) (hT:h.get? T=some oT) (dT:oT.data=.fields ts):Fg e T h (Qp (Qp h e) T) :=
 ⟨fun b o n1 n2 y=>by exact Eq.trans (Qc _ n2) (Eq.trans (Qc _ n1) y),fun o y=>by replace y:=Eq.trans (Eq.symm he) y;obtain rfl:=Option.some.inj y;exact ⟨vs,de⟩,fun o y=>by replace y:=Eq.trans (Eq.symm hT) y;obtain rfl:=Option.some.inj y;exact ⟨ts,dT⟩⟩
section
variable {E:Ent}{C:Cx}{μ:Mu}{l:List (Str×AV)}{Φ:Zq}
theorem X1.tryFin {body:List Stmt}{f₀:Stmt}{fs:List Stmt}{pos:Pos}{Ψ:Zq} (H:Hdr C)
  (hb:Xs E C μ l body Ψ)
  (ho:∀ f μ' l',Ψ f μ' l'->match f with
   | .nxt=>Xs E C μ' l' (f₀::fs) Φ
   | .exc cls ctx=>ctx=.none/\∀ e T,μ' e=none->Xs E (C.mk' e) (upd μ' e (.exc cls T)) l' (f₀::fs)
     (fun f μ2 l2=>μ2=upd μ' e (.exc cls T)/\((f=.nxt/\Φ (.exc cls ctx) μ' l2)∨∃ c2 t2,f=.exc c2 t2/\Φ (.exc c2 t2) μ' l2))
   | _=>False) :
  X1 E C μ l (.Try body [] [] (f₀::fs) pos) Φ:=by
 intro N s I Q X q xx
 refine wpAny_Try_finally (hb N s I _ _ (fun fl f N1 μ1 l1 g1 t1 a b c1 d e=>?_) fun e cls ctx ph N1 μ1 l1 h1 g1 t1 a b c1 d f g=>?_)
 ·have hh:=ho f μ1 l1 a
  cases f with
  | nxt =>
   cases fl <;> first|exact e.elim|skip
   refine wpAny_execs_nil ?_
   refine hh N1 { s with heap:=g1,toks:=t1 } b _ _ (fun fl f N2 μ2 l2 g2 t2 a' b' c' d' e'=>?_) (Exc.noted H (xx.after (s':={ s with heap:=g1,toks:=t1 }) c1 d fun Z Z=>rfl))
   have Q2:=q fl f N2 μ2 l2 g2 t2 a' b' (c1.trans c' d) (d.trans d' c1.al) e'
   cases fl <;> exact Q2
  | cnt=>exact hh.elim
  | brk=>exact hh.elim
  | ret dd=>exact hh.elim
  | exc a1 a2=>cases fl <;> exact e.elim
 ·(refine xA (ho _ _ _ a) fun Z0 hh=>?_;subst Z0)
  refine Wa H b.st.wd (s:={ s with heap:=g1,toks:=t1 }) f g fun g2 X2=>?_
  refine ⟨(by intro z;cases z),Wa H b.st.wd (s:={ s with heap:=g2,toks:=t1 }) X2 (.inr (.inr rfl)) fun g3 X3=>?_⟩
  refine Qu (s:={ s with heap:=g3,toks:=t1 }) X3 (fl':=none) fun g4 X4=>?_
  obtain ⟨P4,new4,ob,vs,x1,x2,x3,x4,T,oT,ts,y1,y2,y3,y4,y5,y6⟩:=id X4
  refine ZR (b.adopt (fun Z q=>by cases q) P4 new4 x1 (m':=.exc cls T) ⟨x2,vs,x3,y1,x4⟩) fun I4 h0e me n0e nNe fe=>?_
  have nNT:¬ N1 T:=fun n=>by refine xE (b.st.wd.nhi T n) fun x z=>?_;replace z:=Eq.trans (Eq.symm y2) z;exact noS z
  have h0T:E.h0.get? T=none:=by
   cases z:E.h0.get? T with
   | none=>rfl
   | some x=>refine xE (b.mt.al T x z) fun Z zz=>?_;replace zz:=Eq.trans (Eq.symm y2) zz;exact noS zz
  have h1e:C.h₁.get? e=none:=by
   cases z:C.h₁.get? e with
   | none=>rfl
   | some x=>have zz:=b.st.wd.stays e x z;replace zz:=Eq.trans (Eq.symm new4) zz;exact noS zz
  have h1T:C.h₁.get? T=none:=by
   cases z:C.h₁.get? T with
   | none=>rfl
   | some x=>have zz:=b.st.wd.stays T x z;replace zz:=Eq.trans (Eq.symm y2) zz;exact noS zz
  have fT:T∉C.Fs:=fun m=>by refine ZE (b.st.wd.fr T m) fun x Z Z z Z=>?_;replace z:=Eq.trans (Eq.symm y2) z;exact noS z
  have cT:∀ n,C.env.cells.lookup n≠some T:=fun n z=>by refine QE (b.cel n T z) fun v x y Z=>?_;replace y:=Eq.trans (Eq.symm y2) y;exact noS y
  have ce:∀ n,C.env.cells.lookup n≠some e:=fun n z=>by refine QE (b.cel n e z) fun v x y Z=>?_;replace y:=Eq.trans (Eq.symm new4) y;exact noS y
  have mT:μ1 T=none:=by
   cases z:μ1 T with
   | none=>rfl
   | some x=>exact absurd (b.st.wd.mu T x z).1 nNT
  have mT':upd μ1 e (.exc cls T) T=none:=by exact Eq.trans (Za y3) mT
  have K4:Kp C μ s.heap g4:=c1.trans (.ofPu P4) d
  have back:∀ (N2:Addr->Prop) (l2:List (Str×AV)) (g5:Heap),Im E (C.mk' e) N2 (upd μ1 e (.exc cls T)) l2 g5->Kp (C.mk' e) (upd μ1 e (.exc cls T)) g4 g5->Gr (Un N1 [e]) N2 (upd μ1 e (.exc cls T)) (upd μ1 e (.exc cls T)) g4 ->
    Im E C (fun x=>N2 x/\x≠e) μ1 l2 g5/\(∀ x,N2 x/\x≠e->N1 x∨g4.get? x=none)/\(∃ ob' us,g5.get? e=some ob'/\ob'.cls=cls/\ob'.data=.fields us/\us[1]?=some (.ref T)/\us[2]?=some .none)/\g5.get? T=some oT:=fun N2 l2 g5 i5 k5 gr5=>by
   refine ⟨i5.unmark.dropMu me n0e,fun x n=>(gr5.new x n.1).elim (fun z=>z.elim .inl fun zz=>absurd (List.mem_singleton.mp zz) n.2) .inr,?_,k5.keep T oT fT cT mT' y4⟩
   refine VX (i5.st.wd.mu e _ (Zb _ _ _)) fun Z Z o5 ho5 hc5 us hu hu1 hu2=>?_
   exact ⟨o5,us,ho5,hc5,hu,hu1,hu2⟩
  have a01:∀ x o,s.heap.get? x=some o->x≠e/\x≠T:=fun x o z=>by
   refine xE (c1.al x o z) fun o' zz=>?_
   exact ⟨fun w=>(by rw [w,new4] at zz;exact noS zz),fun w=>(by rw [w,y2] at zz;exact noS zz)⟩
  have mu1:∀ x o,μ x=none->s.heap.get? x=some o->μ1 x=none:=fun x o n z=>by
   cases w:μ1 x with
   | none=>rfl
   | some m =>
    rcases d.mu x (by rw [w];exact Option.some_ne_none m) with u|u
    ·exact absurd n u
    ·clear ho q xx
     replace z:=Eq.trans (Eq.symm u) z;exact noS z
  have kp5:∀ (g5:Heap),Kp (C.mk' e) (upd μ1 e (.exc cls T)) g4 g5->Kp C μ s.heap g5:=fun g5 k5=>⟨fun x o n1 n2 n3 z=>k5.keep x o n1 n2 (by exact Eq.trans (Za (a01 x o z).1) (mu1 x o n3 z)) (K4.keep x o n1 n2 n3 z),fun x o z=>let ⟨o',w⟩:=K4.al x o z;k5.al x o' w⟩
  have n04:∀ x,g4.get? x=none->s.heap.get? x=none:=fun x z=>by
   cases w:s.heap.get? x with
   | none=>rfl
   | some o=>refine xE (K4.al x o w) fun Z u=>?_;replace u:=Eq.trans (Eq.symm z) u;exact noS u
  have gr5:∀ (N2:Addr->Prop),Gr (Un N1 [e]) N2 (upd μ1 e (.exc cls T)) (upd μ1 e (.exc cls T)) g4->(∀ x,N2 x/\x≠e->N1 x∨g4.get? x=none)->Gr N (fun x=>N2 x/\x≠e) μ μ1 s.heap:=fun N2 k5 nw =>
   ⟨fun x n=>⟨k5.up x (.inl (d.up x n)),fun w=>nNe (w▸d.up x n)⟩,fun x n=>(nw x n).elim (d.new x) fun z=>.inr (n04 x z),d.mu⟩
  refine hh e T me (Un N1 [e]) { s with heap:=g4,toks:=t1 } I4.mark _ _ (fun fl f N2 μ2 l2 g5 t5 a' b' c' d' e'=>?_) fun e2 cls2 ctx2 ph2 N2 μ2 l2 h5 g5 t5 a' b' c' d' X5 hp=>?_
  ·clear ho q
   (refine xA a' fun Z0 Z1=>?_;clear a';subst Z0;rcases Z1 with ⟨rfl,hΦ⟩|⟨_,_,rfl,_⟩)
   ·cases fl <;> first|exact e'.elim|skip
    (refine QW fun ZG Zk=>?_;refine VA (back N2 l2 g5 b' c' d') fun I5 nw Z0 hT5=>?_;refine Zf Z0 fun ob5 us5 hob5 hc5 hd5 hu1 hu2=>?_;clear Z0;refine Zk ?_;clear Zk ZG)
    have nT2:¬ (N2 T/\T≠e):=fun n=>(nw T n).elim nNT fun z=>by replace z:=Eq.trans (Eq.symm y4) z;exact sNo z
    have If:=I5.forget (fg2 hob5 hd5 hT5 y5) (fun n=>n.2 rfl) nT2 h0e h0T h1e h1T
    have fe':(Qp (Qp g5 e) T).get? e=none:=by exact Eq.trans (Qc _ (Ne.symm y3)) (Uf _ _)
    have kb:∀ x o,(Qp (Qp g5 e) T).get? x=some o->g5.get? x=some o:=fun x o z=>by
     have n1:x≠T:=fun w=>by rw [w,Uf] at z;exact noS z
     have n2:x≠e:=fun w=>by rw [w,fe'] at z;exact noS z
     exact Eq.trans (Eq.symm (Qc _ n2)) (Eq.trans (Eq.symm (Qc _ n1)) z)
    have kf:∀ x o,x≠e->x≠T->g5.get? x=some o->(Qp (Qp g5 e) T).get? x=some o:=fun x o n1 n2 z=>by exact Eq.trans (Qc _ n2) (Eq.trans (Qc _ n1) z)
    have Xf:Vg C.Fs (Qp (Qp g5 e) T) e cls .none (.tr none) g5:=⟨.of_keeps kb,fe',ob5,us5,hob5,hc5,hd5,hu2,T,oT,ts,hu1,Uf _ _,y3,hT5,y5,y6⟩
    have k5:=kp5 g5 c'
    refine Oa (s:={ s with heap:=g5,toks:=t5 }) H.frame Xf fun g6 X6=>?_
    exact xx e cls .none _ _ μ1 l2 _ g6 t5 hΦ If ⟨fun x o n1 n2 n3 z=>kf x o (a01 x o z).1 (a01 x o z).2 (k5.keep x o n1 n2 n3 z),fun x o z=>let ⟨o',w⟩:=k5.al x o z;⟨o',kf x o' (a01 x o z).1 (a01 x o z).2 w⟩⟩ (gr5 N2 d' nw) X6 (.inr (.inr rfl))
   ·clear xx
    cases fl <;> exact e'.elim
  ·clear ho q
   (refine xA a' fun Z0 Z1=>?_;clear a';subst Z0;rcases Z1 with ⟨hz,_⟩|⟨c2,t2,hz,hΦ⟩)
   ·clear xx
    cases hz
   ·cases hz
    refine VA (back N2 l2 h5 b' c' d') fun I5 nw Z Z=>?_
    refine Wa (H.mark (some (.ref e))) b'.st.wd (s:={ s with heap:=g5,toks:=t5 }) X5 hp fun g6 X6=>?_
    refine JV (s:={ s with heap:=g6,toks:=t5 }) H.frame X6 fun g7 X7=>?_
    exact xx e2 _ _ _ _ μ1 l2 h5 g7 t5 hΦ I5 (kp5 h5 c') (gr5 N2 d' nw) X7 (.inr (.inr rfl))
end
noncomputable abbrev Has (l:List (Str×AV)) (x:Str) (d:AV):Prop:=l.lookup x=some d
noncomputable abbrev strA (xs:List Str):List AV:=xs.map fun x=>.dat (.str x)
noncomputable abbrev Zo (xs:List Str):PyData:=.list (xs.map .str)
section
variable {E:Ent}{C:Cx}{μ:Mu}{l:List (Str×AV)}{Φ:Zq}
theorem Ev.locK (K:C.env.scope.kind=.function) {x:Str}{pos:Pos}{d:AV} (hl:l.lookup x=some d) (hk:C.env.kindOf x=some .local) (hd:(x == ("__debug__":Str))=false):Ev C μ l (.Name x pos) d:=by
 intro N s S Q E q
 refine xEA S.fm.ns fun m n r=>?_
 refine xEA (r x d hl hk) fun v a b=>?_
 exact wpAny_Name (wpAny_loadName_local K hk n a (q v s.heap s.toks (.refl _ _) b)) hd
theorem Ev.buiK (K:C.env.scope.kind=.function) (nms:Nms C.h₁) (hg:C.env.globals=mainGlobals) (hb:C.env.builtins=builtinsNs) {x:Str}{pos:Pos}{v:Value} (hl:BK.lookup x=some v) (hk:C.env.kindOf x=some .globalImplicit) (hd:(x == ("__debug__":Str))=false):Ev C μ l (.Name x pos) (.cal v):=by
 intro N s S Q E q
 refine Vk nms.nm fun mg mb a b c e=>?_
 refine xA (e x v hl) fun f g=>?_
 refine Name_function_global K hk (loadGlobal_builtin (mg:=mg) (mb:=mb) ?_ f ?_ g ?_) hd
 ·rw [hg];exact a.keeps S.wd.stays
 ·rw [hb];exact b.keeps S.wd.stays
 ·clear K hg hb hk hd
  exact q v s.heap s.toks (.refl _ _) rfl
noncomputable def Ub (E:Ent) (C:Cx) (μ:Mu) (ctx:Value):Prop :=
 ∀ (l:List (Str×AV)) (N:Addr->Prop) (s:Shared) (a:Addr) (vs:Array Value) (k:Int) (t:Tok) (Q:Value->Shared->Prop) (X:Value->Shared->Prop),Im E C N μ l s.heap->s.heap.IsList a vs->(vs.size:Int)≤k->k < 2 ^ 63 ->
  (∀ h' tk e,Vg C.Fs s.heap e (.type "IndexError") ctx .new h'->X (.ref e) { s with heap:=h',toks:=tk })->wpAny (model pg C.w) C.A (getItem (.ref a) (.int k t)) Q X s
theorem Ub.plain (hh:C.A.handled=none):Ub E C μ .none :=
 fun Z Z Z Z Z Z Z Z Z Z hl h1 h2 q=>wpAny_getItem_list_out hh hl (.inr h1) (by omega) h2 fun h' tk e x=>q h' tk e (.ofNew x)
theorem Ub.held {e:Addr}{cls:Value}{T:Addr} (hh:C.A.handled=some (.ref e)) (he:μ e=some (.exc cls T)):Ub E C μ (.ref e) :=
 fun Z Z Z Z Z Z Z Z Z I hl h1 h2 q=>by
  refine VX (I.st.wd.mu e _ he) fun Z Z o ho Z vs hd Z h3=>?_
  exact Yv hh ho hd h3 hl h1 h2 q
noncomputable def EvX (E:Ent) (C:Cx) (μ:Mu) (l:List (Str×AV)) (e:Expr) (cls ctx:Value):Prop :=
 ∀ (N:Addr->Prop) (s:Shared),Im E C N μ l s.heap->∀ (Q:Value->Shared->Prop) (X:Value->Shared->Prop),
  (∀ e h1 h' tk,Pu C.Fs s.heap h1->Vg C.Fs h1 e cls ctx .new h'->X (.ref e) { s with heap:=h',toks:=tk })->wpAny (model pg C.w) C.A (eval e C.env) Q X s
theorem EvX.idx {v i:Expr}{pos:Pos}{xs:List PyData}{k:Int}{ctx:Value} (hr:Ub E C μ ctx) (hv:Ev C μ l v (.dat (.list xs))) (hi:Ev C μ l i (.dat (.int k))) (h0:(xs.length:Int)≤k) (hk:k < 2 ^ 63)
  (hs:∀ a u,subscripted i false (.ref a) (.int k u)=operate [.ref a,.int k u] (getItem (.ref a) (.int k u))):EvX E C μ l (.Subscript v i pos) (.type "IndexError") ctx:=by
 intro N s I Q X q
 refine PyProof.Rows.Subscript_ (hv N s I.st _ _ fun vv h1 t1 P1 R1=>hi N _ (I.st.pu P1) _ _ fun iv h2 t2 P2 R2=>?_)
 obtain ⟨u,rfl⟩:=Rd.invI R2
 have R1':=Rd.mono ((I.st.pu P1).fz P2) R1
 (refine Zf (Rd.listE R1') fun a vs Z0 na la ra za=>?_;subst Z0)
 refine tail_any la.typeIs slot_list_getitem.lookup (hr l N _ a vs.toArray k u _ _ ((I.pu P1).pu P2) la (by rw [List.size_toArray,ra.length];exact h0) hk fun h' tk e x=>?_) (hs a u)
 exact q e h2 h' tk (P1.trans P2) x
theorem GW.cmp {le re:Expr}{op:CmpOp}{pos:Pos}{cls ctx:Value} (hm:behindInMarks op re=false) (hl:EvX E C μ l le cls ctx):GW E C μ l (.Compare le [op] [re] pos) cls ctx:=by
 intro N s I Q X q
 refine wpAny_isTrue_Compare1 (hl N s I _ _ fun e h1 h' tk P x=>?_) hm
 exact q e h1 h' tk P x
theorem Em.raises {e:Expr}{cls ctx:Value}{Ψ:AV->Mu->Prop} (h:EvX E C μ l e cls ctx) (hΦ:Φ (.exc cls ctx) μ l):Em E C μ l e Ψ Φ:=by
 intro N s I Q X q xx
 exact h N s I Q X fun ee h1 h' tk P x=>xx ee cls ctx .new N μ l h1 h' tk hΦ (I.pu P) (.ofPu P) (.refl _ _ _) x (.inl rfl)
theorem GN (H:Hdr C) {t:Expr}{body:List Stmt}{pos:Pos}{xs:List Str}{e:Str}{iv:Str}{i0:Nat}{ctx:Value} (h0:i0≤xs.length) (hi:Has l iv (.dat (.int i0)))
  (hT:∀ l' (idx:Nat) (x:Str),(∀ y,y≠iv->l'.lookup y=l.lookup y)->Has l' iv (.dat (.int idx))->xs[idx]?=some x->Tst C μ l' t (x == e))
  (hX:∀ l',(∀ y,y≠iv->l'.lookup y=l.lookup y)->Has l' iv (.dat (.int xs.length))->GW E C μ l' t (.type "IndexError") ctx)
  (hB:∀ l' (idx:Nat),(∀ y,y≠iv->l'.lookup y=l.lookup y)->Has l' iv (.dat (.int idx))->Xs E C μ l' body (fun f μ' l''=>f=.nxt/\μ'=μ/\l''=(iv,.dat (.int ((idx+1:Nat))))::l')) :
  X1 E C μ l (.While t body [] pos) (fun f μ' l'=>μ'=μ/\∃ idx:Nat,Has l' iv (.dat (.int idx))/\xs.drop idx=(xs.drop i0).dropWhile (· == e)/\(∀ y,y≠iv->l'.lookup y=l.lookup y)/\((f=.nxt/\idx < xs.length)∨(f=.exc (.type "IndexError") ctx/\idx=xs.length))):=by
 refine X1.while H (fun n μ' l'=>μ'=μ/\∃ idx:Nat,Has l' iv (.dat (.int idx))/\idx≤xs.length/\n=xs.length - idx/\(xs.drop idx).dropWhile (· == e)=(xs.drop i0).dropWhile (· == e)/\∀ y,y≠iv->l'.lookup y=l.lookup y) ?_ (xs.length - i0) ⟨rfl,i0,hi,h0,rfl,rfl,fun Z Z=>rfl⟩
 (intro n μ1 l1 Z0;refine xA Z0 fun Z1 Zr0=>?_;refine ZU Zr0 fun idx k1 k2 Z2 k3 k4=>?_;clear Zr0;clear Z0;subst Z1;subst Z2)
 by_cases hlt:idx < xs.length
 ·clear hi hX
  have hx:xs[idx]?=some xs[idx]:=by simp [hlt]
  have hd:xs.drop idx=xs[idx]::xs.drop (idx+1):=List.drop_eq_getElem_cons hlt
  generalize xs[idx]=x at hx hd
  have tt:=hT l1 idx x k4 k1 hx
  cases hq:(x == e) with
  | true =>
   rw [hq] at tt
   refine .inl ⟨tt,(hB l1 idx k4 k1).mono ?_⟩
   (intro f μ' l' Z0;refine xAA Z0 fun Z1 Z2 Z3=>?_;clear Z0;subst Z1;subst Z2;subst Z3)
   refine ⟨xs.length - (idx+1),by omega,rfl,idx+1,by simp [Has],hlt,rfl,?_,fun y hy=>?_⟩
   ·rw [← k3,hd,List.dropWhile_cons_of_pos (by exact hq)]
   ·rw [List.lookup_cons,show (y == iv)=false by exact beq_eq_false_iff_ne.mpr hy];exact k4 y hy
  | false =>
   rw [hq] at tt
   refine .inr (.inl ⟨tt,Xs.nil ⟨rfl,idx,k1,?_,k4,.inl ⟨rfl,hlt⟩⟩⟩)
   rw [← k3,hd,List.dropWhile_cons_of_neg (by simp [hq])]
 ·clear hi hT hB
  have hin:idx=xs.length:=by exact oG ‹_› ‹_›
  subst hin
  refine .inr (.inr ⟨_,_,hX l1 k4 k1,rfl,xs.length,k1,?_,k4,.inr ⟨rfl,rfl⟩⟩)
  rw [← k3];simp
end
noncomputable def Qt (kvs:List (Int×AV)) (k:Int):Option AV:=(kvs.find? fun kv=>kv.1=k).map (·.2)
noncomputable def VZ (kvs:List (Int×AV)) (k:Int) (d:AV):List (Int×AV) :=
 if kvs.any (fun kv=>kv.1=k) then kvs.map (fun kv=>if kv.1=k then (kv.1,d) else kv) else kvs++[(k,d)]
noncomputable def DB (kvs:List (Int×AV)) (k:Int):List (Int×AV):=kvs.filter fun kv=>decide (kv.1≠k)
theorem ZQ.get {N:Addr->Prop}{h:Heap}{k:Int}:∀ {ps:List (Int×Value)}{kvs:List (Int×AV)},ZQ N h ps kvs->match Qt kvs k with|some d=>∃ v,valueAt ps k=some v/\RdA N h v d|none=>valueAt ps k=none
 | _,_,.nil=>by rfl
 | _,_,.cons (k:=k') (v:=v) (d:=d) (vs:=vs) (ds:=ds) a b=>by
  have ih:=ZQ.get (k:=k) b
  by_cases hk:k'=k
  ·simp [Qt,valueAt,hk];exact a
  ·simpa [Qt,valueAt,hk] using ih
theorem ZQ.any {N:Addr->Prop}{h:Heap}{k:Int}:∀ {ps:List (Int×Value)}{kvs:List (Int×AV)},ZQ N h ps kvs->(ps.any fun kv=>kv.1=k)=kvs.any fun kv=>kv.1=k:=ZQ.ind (P:=fun ps kvs=>(ps.any fun kv=>kv.1=k)=kvs.any fun kv=>kv.1=k) rfl fun Z Z q=>by rw [List.any_cons,List.any_cons,q]
theorem ZQ.append {N:Addr->Prop}{h:Heap}:∀ {ps qs:List (Int×Value)}{kvs lvs:List (Int×AV)},ZQ N h ps kvs->ZQ N h qs lvs->ZQ N h (ps++qs) (kvs++lvs):=fun {ps qs kvs lvs} a r=>ZQ.ind (P:=fun ps kvs=>ZQ N h (ps++qs) (kvs++lvs)) r (fun a Z q=>.cons a q) a
theorem ZQ.put {N:Addr->Prop}{h:Heap}{k:Int}{v:Value}{d:AV} (r:RdA N h v d):∀ {ps:List (Int×Value)}{kvs:List (Int×AV)},ZQ N h ps kvs->ZQ N h (ps.map fun kv=>if kv.1=k then (kv.1,v) else kv) (kvs.map fun kv=>if kv.1=k then (kv.1,d) else kv):=ZQ.ind (P:=fun ps kvs=>ZQ N h (ps.map fun kv=>if kv.1=k then (kv.1,v) else kv) (kvs.map fun kv=>if kv.1=k then (kv.1,d) else kv)) .nil @fun k' v' d' vs ds a Z q=>by
 by_cases hk:k'=k
 ·simp [hk];exact .cons r q
 ·simp [hk];exact .cons a q
theorem ZQ.set {N:Addr->Prop}{h:Heap}{k:Int}{v:Value}{d:AV}{ps:List (Int×Value)}{kvs:List (Int×AV)} (r:RdA N h v d) (p:ZQ N h ps kvs):ZQ N h (stored ps k v) (VZ kvs k d):=by
 delta stored VZ
 rw [p.any]
 split
 ·exact p.put r
 ·exact p.append (.cons r .nil)
theorem ZQ.del {N:Addr->Prop}{h:Heap}{k:Int}:∀ {ps:List (Int×Value)}{kvs:List (Int×AV)},ZQ N h ps kvs->ZQ N h (without ps k) (DB kvs k)
 | _,_,.nil=>.nil
 | _,_,.cons (k:=k') a b=>by
  by_cases hk:k'=k
  ·simpa [without,DB,hk] using ZQ.del (k:=k) b
  ·simpa [without,DB,hk] using ZQ.cons a (ZQ.del (k:=k) b)
theorem ZQ.length {N:Addr->Prop}{h:Heap}:∀ {ps:List (Int×Value)}{kvs:List (Int×AV)},ZQ N h ps kvs->ps.length=kvs.length:=ZQ.ind (P:=fun vs ds=>vs.length=ds.length) rfl fun Z Z e=>congrArg Nat.succ e
section
variable {E:Ent}{C:Cx}{μ:Mu}{l:List (Str×AV)}{Φ:Zq}{Θ:Value->Value->Mu->Prop}
theorem Ul {w:World}{h₁:Heap}{Fs:List Addr}{N:Addr->Prop}{h:Heap} (W:Wd w h₁ Fs N μ h) {a:Addr}{kvs:List (Int×AV)} (hm:μ a=some (.dict kvs)):(a == sysModules)=false:=by
 simpa using W.mm a kvs hm
theorem Q9 {w:World}{h₁:Heap}{Fs:List Addr}{N:Addr->Prop}{h:Heap}{t:Addr}{kvs:List (Int×AV)} (W:Wd w h₁ Fs N μ h) (ht:μ t=some (.dict kvs)):N t/\∃ ps,h.DictOf (intKind pg w) t ps/\ZQ N h ps kvs:=by
 (refine ZL (W.mu t _ ht) fun n Z o ho Zr0=>?_;refine xEA Zr0 fun ps hd r=>?_;clear Zr0)
 exact ⟨n,ps,Heap.dictOf_iff.mpr ⟨o,ho,hd⟩,r⟩
theorem U0 {t:Addr}{kvs:List (Int×AV)} (ht:μ t=some (.dict kvs)):Jo C μ (.obj t) "dict":=by
 intro N s va W R
 subst R
 refine Y_ (Q9 W ht) fun Z ps hd r=>?_
 exact ⟨hd.typeIs,hd.mapOf.noDict⟩
theorem JA {t:Addr}{kvs:List (Int×AV)} (ht:μ t=some (.dict kvs)) (k:Int):Op2 C μ (compareOp .In) (.dat (.int k)) (.obj t) (.dat (.bool (Qt kvs k).isSome)):=by
 intro N s va vb W Ra Rb Q X q
 obtain ⟨tk,rfl⟩:=Rd.invI Ra
 subst Rb
 refine Y_ (Q9 W ht) fun hn ps hd r=>?_
 refine wpAny_in_of (intKind_is pg C.w k tk) (Ul W ht) hd.mapOf ?_
 have hb:(valueAt ps k).isSome=(Qt kvs k).isSome:=by
  have:=r.get (k:=k)
  cases hg:Qt kvs k with
  | none=>rw [hg] at this;rw [this];rfl
  | some d=>rw [hg] at this;(refine xEA this fun v e Z=>?_;clear this);rw [e];rfl
 rw [hb]
 exact q _ _ _ (.refl _ _) (.bool _)
theorem WQ {t:Addr}{kvs:List (Int×AV)} (ht:μ t=some (.dict kvs)) (k:Int):Op2 C μ (compareOp .NotIn) (.dat (.int k)) (.obj t) (.dat (.bool (!(Qt kvs k).isSome))):=by
 intro N s va vb W Ra Rb Q X q
 obtain ⟨tk,rfl⟩:=Rd.invI Ra
 subst Rb
 refine Y_ (Q9 W ht) fun hn ps hd r=>?_
 refine wpAny_notIn_of (intKind_is pg C.w k tk) (Ul W ht) hd.mapOf ?_
 have hb:(valueAt ps k).isSome=(Qt kvs k).isSome:=by
  have:=r.get (k:=k)
  cases hg:Qt kvs k with
  | none=>rw [hg] at this;rw [this];rfl
  | some d=>rw [hg] at this;(refine xEA this fun v e Z=>?_;clear this);rw [e];rfl
 rw [hb]
 exact q _ _ _ (.refl _ _) (.bool _)
theorem Ev.dictItem {v i:Expr}{pos:Pos}{t:Addr}{kvs:List (Int×AV)}{k:Int}{d:AV} (hv:Ev C μ l v (.obj t)) (ht:μ t=some (.dict kvs)) (hi:Ev C μ l i (.dat (.int k))) (hx:Qt kvs k=some d)
  (hs:∀ a u,subscripted i false (.ref a) (.int k u)=operate [.ref a,.int k u] (getItem (.ref a) (.int k u))):Ev C μ l (.Subscript v i pos) d:=by
 intro N s S Q X q
 refine PyProof.Rows.Subscript_ (hv N s S _ _ fun vv h1 t1 P1 R1=>hi N _ (S.pu P1) _ _ fun iv h2 t2 P2 R2=>?_)
 obtain ⟨u,rfl⟩:=Rd.invI R2
 subst R1
 refine Y_ (Q9 ((S.pu P1).pu P2).wd ht) fun hn ps hd r=>?_
 have:=r.get (k:=k)
 rw [hx] at this
 (refine xEA this fun v e rv=>?_;clear this)
 refine tail_any (s:={ s with heap:=h2,toks:=t2 }) hd.typeIs slot_dict_getitem.lookup (wpAny_getItem_of (intKind_is pg C.w k u) hd.mapOf e ?_) (hs t u)
 exact q v h2 _ (P1.trans P2) rv
theorem Im.setDict {N:Addr->Prop}{h h':Heap}{t:Addr}{kvs kvs':List (Int×AV)}{ps':List (Int×Value)} (I:Im E C N μ l h) (ht:μ t=some (.dict kvs)) (hw:E.Wr t) (hs:Heap.SameBut t h h') (hp:h'.DictOf (intKind pg C.w) t ps') (r:ZQ N h ps' kvs') :
  Im E C N (Mine.upd μ t (.dict kvs')) l h'/\Kp C μ h h'/\Gr N N μ (Mine.upd μ t (.dict kvs')) h:=by
 refine xEA (Heap.dictOf_iff.mp hp) fun o e hd=>?_
 refine xA (I.upd ht (fun Z Z=>⟨kvs,rfl⟩) hw hs e (m':=.dict kvs') fun fz=>⟨ps',hd,r.mono fz⟩) fun a b=>?_
 refine ⟨a,b,fun Z x=>x,fun Z x=>.inl x,fun x hx=>?_⟩
 by_cases q:x=t
 ·left;rw [q,ht];exact Option.some_ne_none _
 ·rw [Za q] at hx;exact .inl hx
theorem Bm {N:Addr->Prop}{s:Shared}{t:Addr}{kvs:List (Int×AV)}{k:Int}{tk:Tok}{v:Value}{d:AV}{Q:Unit->Shared->Prop}{X:Value->Shared->Prop} (I:Im E C N μ l s.heap) (ht:μ t=some (.dict kvs)) (hw:E.Wr t) (hz:kvs.length≤sizeLine) (r:RdA N s.heap v d)
  (q:∀ h' tk,Im E C N (upd μ t (.dict (VZ kvs k d))) l h'->Kp C μ s.heap h'->Gr N N μ (upd μ t (.dict (VZ kvs k d))) s.heap->Q () { s with heap:=h',toks:=tk }):wpAny (model pg C.w) C.A (setItem (.ref t) (.int k tk) v) Q X s:=by
 refine Y_ (Q9 I.st.wd ht) fun hn ps hd rp=>?_
 refine wpAny_setItem_pairs (intKind_is pg C.w k tk) hd (fun h' hd' hs'=>?_) (by rw [rp.length];exact hz)
 refine xAA (I.setDict ht hw hs' hd' (rp.set r)) fun a b c=>?_
 exact q h' _ a b c
theorem Ks:Mth "dict" "get" "dict.get":=⟨F.plainAttrs_dict,F.slot_dict_get,F.type_dict_get⟩
theorem fn_get {t:Addr}{kvs:List (Int×AV)} (ht:μ t=some (.dict kvs)) (k:Int):Fn C μ (.builtin "dict.get") [.obj t,.dat (.int k)] ((Qt kvs k).getD (.dat .none)):=by
 intro N s vs W R Q X q
 (refine Zn R.inv2 fun v u Z0 r1 r2=>?_;subst Z0)
 subst r1
 obtain ⟨tk,rfl⟩:=Rd.invI r2
 refine Y_ (Q9 W ht) fun hn ps hd r=>?_
 refine call_meetsIn F.slot_dict_get hd.typeIs F.entry_dict_get (F.args_dict_get_2 _ _) (meets_dict_get (intKind pg C.w) t (intKind_is pg C.w k tk) (Ul W ht)) ⟨_,hd.mapOf,?_⟩
 have:=r.get (k:=k)
 cases hg:Qt kvs k with
 | none =>
  rw [hg] at this q
  rw [this]
  exact q _ _ _ (.refl _ _) Rd.none
 | some d =>
  rw [hg] at this q
  (refine xEA this fun v e rv=>?_;clear this)
  rw [e]
  exact q _ _ _ (.refl _ _) rv
theorem Em.dict0 (nms:Nms C.h₁) {pos:Pos}:Em E C μ l (.Dict [] [] pos) (Dx E μ (.dict [])) Φ:=by
 intro N s I Q X q xx
 rw [eval_Dict_empty]
 refine wpAny_bind (wpAny_standAt ?_)
 refine wpAny_newObj_type ?_
 have hd:(s.heap.push { cls:=.type "dict",data:=.dict #[] }).DictOf (intKind pg C.w) s.heap.objs.size []:=Heap.DictOf.new _
 refine xEA (Heap.dictOf_iff.mp hd) fun o ho hdo=>?_
 refine Qe (I.new (fun Z Z=>I.sz nms) (m':=.dict []) (h':=s.heap.push { cls:=.type "dict",data:=.dict #[] }) (fun b o e=>Heap.get?_push_of_some _ e) (get?_size_none s.heap) ho ⟨[],hdo,.nil⟩) fun a b c d e=>?_
 exact q _ (.obj s.heap.objs.size) _ _ _ s.toks ⟨_,rfl,rfl,d,e⟩ a b c rfl
end
section
variable {w:World}{A:Around}{s:Shared}{K:Frag}{x C:Addr}{R:Result->Shared->Prop}
set_option tactic.hygienic true in
theorem Rh {ox od od':Obj}{dx:Addr}{name:Str}{tk:Tok}{v:Value}{es:List DictEntry}{n:Nat} (X:K.In s.heap)
  (I:InstAt s.heap x ox C (some od)) (hd:ox.dict=some dx) (hp:plainOver K C=true) (ht:takerIn K C name=some none) (hh:(clsIn K C).any (·.hasDict)=true)
  (hl:(lookIn name od).isSome=true) (hne:s.heap.get? dx=some od) (e:Obj.putName name (PyData.keyHash w.params name) (.str name s.toks) v od=od') (e':od'.data=.dict es.toArray n) (hz:es.length≤1000)
  (h:∀ h',Heap.SameBut dx s.heap h'->h'.get? dx=some od'->R (.ok (.ret .none)) { s with heap:=h',toks:=s.toks+1 }) :
  codeAny (model pg w) A (.call (.builtin "object.__setattr__") ⟨[.ref x,.str name tk,v],[]⟩) R s:=by
 refine osa_open X I hp ht fun b=>?_
 refine xEA (any_some hh) fun cd hc hd'=>?_
 have hof:od'.isFreed=false:=Obj.isFreed_of_dict e'
 have U2:(s.heap.update dx (Obj.putName name (PyData.keyHash w.params name) (.str name s.toks) v)).get? dx=some od':=by rw [← e];exact Heap.get?_update_self _ hne (by rw [e];exact hof)
 obtain ⟨hx,hcl,hn,-⟩:=I
 obtain ⟨oc,odi,oda,osl⟩:=ox
 dsimp only at hcl hd
 subst hcl hd
 refine wpAny_bind (wpAny_pure (wpAny_bind (wpAny_bind (wpAny_loadPart hx (wpAny_bind ((looks_clsIn X hc).here ?_))))))
 rw [hd']
 refine wpAny_pure (a:=some dx) (wpAny_bind (wpAny_pure (wpAny_bind ?_)))
 refine wpAny_bind (wpAny_bind (wpAny_askSetting (wpAny_pure (wpAny_bind (wpAny_mkText (wpAny_bind (wpAny_loadPart hne ?_)))))))
 unfold lookIn at hl
 split at hl
 ·rename_i es₀ n₀ q
  rw [q]
  dsimp only
  have c:(!es₀.any (·.key.isStr name) && es₀.any (·.refKey))=false:=by
   rw [← Array.any_toList,← Array.any_toList]
   split at hl
   ·rename_i en he
    rw [List.any_eq_true.mpr ⟨en,List.mem_of_find?_eq_some he,List.find?_some he⟩];rfl
   ·split at hl
    ·exact fT hl
    ·rename_i z;rw [Bool.not_eq_true] at z;rw [z,Bool.and_false]
  rw [aRefKeyMayBeTheName_at,c]
  refine wpAny_updatePart hne ?_
  refine wpAny_bind (wpAny_lookBehind U2 (by rw [e'];exact pastItsLine_dict (by rw [List.size_toArray,sizeLine_eq];exact oA ‹_› rfl)) ?_)
  exact wpAny_pure (h _ (Heap.SameBut.update _ _ _) U2)
 ·exact fT hl
end
section
variable {E:Ent}{C:Cx}{μ:Mu}{l:List (Str×AV)}{Φ:Zq}
noncomputable abbrev Kf (C:Cx):Frag:=WF C.w.params
theorem Qm.getL {w:World}{N:Addr->Prop}{h:Heap}{name:Str}{d:AV}:∀ {es:List DictEntry}{fs:List (Str×AV)},Qm w N h es fs->fs.lookup name=some d->∃ v,getL name es=some (some v)/\RdA N h v d
 | _,_,.nil,e=>by exact noS e
 | _,_,.cons (x:=x) (t:=t) (v:=v) (es:=es) (fs:=fs) a b,e=>by
  replace e:=Eq.trans (Eq.symm List.lookup_cons) e
  cases q:name == x with
  | true =>
   rw [q] at e;obtain rfl:=Option.some.inj e
   have hs:(Value.str x t).isStr name=true:=by rw [beq_iff_eq.mp q];simp [Value.isStr]
   exact ⟨v,by simp [PySem.W.getL,hs],a⟩
  | false =>
   rw [q] at e
   refine xEA (Qm.getL b e) fun v' h1 h2=>?_
   have hs:(Value.str x t).isStr name=false:=by
    have:x≠name:=fun z=>by rw [z] at q;simp at q
    simp [Value.isStr,this]
   refine ⟨v',?_,h2⟩
   unfold PySem.W.getL at h1 ⊢
   simp only [List.find?_cons,hs]
   exact h1
theorem Db {N:Addr->Prop}{s:Shared}{x dx cl:Addr}{fs:List (Str×AV)}{name:Str}{d:AV}{expr:Bool}{attr:Option Value}{Q:Value->Shared->Prop}{X:Value->Shared->Prop} (kx:(Kf C).In C.h₁) (W:Wd C.w C.h₁ C.Fs N μ s.heap) (hx:μ x=some (.inst cl dx)) (hd:μ dx=some (.ns fs))
  (hl:fs.lookup name=some d) (hg:plainGet (Kf C) cl name=true) (hh:hasDictIn (Kf C) cl=true) (ha:findIn (Kf C) (.ref cl) name=some attr) (hn:noGet (Kf C) attr=true) (hcal:∀ i,d≠.cal (.builtin i))
  (q:∀ v tk,RdA N s.heap v d->Q v { s with toks:=tk }):wpAny (model pg C.w) C.A (getAttr (.ref x) name expr) Q X s:=by
 (refine ZL (W.mu x _ hx) fun Z Z ox hox Z0=>?_;subst Z0)
 (refine Qh (W.mu dx _ hd) fun Z Z od hod es n Z0 rs=>?_;subst Z0)
 refine xEA (rs.getL hl) fun v h1 h2=>?_
 have I:InstAt s.heap x ⟨.ref cl,some dx,.plain,#[]⟩ cl (some (dictOf es n)):=⟨hox,rfl,rfl,hod⟩
 have hv:handedIn v=true:=by
  cases d with
  | dat d=>cases h2 <;> rfl
  | obj a=>subst h2;rfl
  | cal u=>subst h2;cases v <;> first|rfl|exact absurd rfl (hcal _)
 exact get_value (fun a o e=>W.stays a o (kx a o e)) I (plainGet_of hg).1 (findObj_own hh ha hn h1) hv (q v _ h2)
theorem Ev.attr {o:Expr}{pos:Pos}{x dx cl:Addr}{fs:List (Str×AV)}{name:Str}{d:AV}{attr:Option Value} (kx:(Kf C).In C.h₁) (ho:Ev C μ l o (.obj x)) (hb:attributeBase o name C.env (eval o C.env)=eval o C.env) (hx:μ x=some (.inst cl dx)) (hd:μ dx=some (.ns fs))
  (hl:fs.lookup name=some d) (hg:plainGet (Kf C) cl name=true) (hh:hasDictIn (Kf C) cl=true) (ha:findIn (Kf C) (.ref cl) name=some attr) (hn:noGet (Kf C) attr=true) (hcal:∀ i,d≠.cal (.builtin i)):Ev C μ l (.Attribute o name pos) d:=by
 intro N s S Q X q
 refine Attribute_any_ (ho N s S _ _ fun v h1 t1 P1 R1=>?_) (by rw [arm_eval_Attribute,hb])
 subst R1
 exact Db kx (S.pu P1).wd hx hd hl hg hh ha hn hcal fun v tk r=>q v h1 tk P1 r
noncomputable def WK:List (Str×AV)->Str->AV->List (Str×AV)
 | [],x,d=>[(x,d)]
 | (y,e)::r,x,d=>if x == y then (y,d)::r else (y,e)::WK r x d
theorem Qm.put {w:World}{N:Addr->Prop}{h:Heap}{name:Str}{t:Tok}{v:Value}{d:AV} (r:RdA N h v d):∀ {es:List DictEntry}{fs:List (Str×AV)},Qm w N h es fs->Qm w N h (putL name (PyData.keyHash w.params name) (.str name t) v es) (WK fs name d)
 | _,_,.nil=>.cons r .nil
 | _,_,.cons (x:=x) (t:=t') (v:=v') (es:=es) (fs:=fs) a b=>by
  unfold putL WK
  cases q:name == x with
  | true =>
   have hs:(Value.str x t').isStr name=true:=by rw [beq_iff_eq.mp q];simp [Value.isStr]
   simp only [hs,if_true]
   exact .cons r b
  | false =>
   have hs:(Value.str x t').isStr name=false:=by
    have:x≠name:=fun z=>by rw [z] at q;simp at q
    simp [Value.isStr,this]
   simp only [hs,Bool.false_eq_true,if_false]
   exact .cons a (Qm.put r b)
theorem Qm.noRef {w:World}{N:Addr->Prop}{h:Heap}:∀ {es:List DictEntry}{fs:List (Str×AV)},Qm w N h es fs->es.any (·.refKey)=false:=Qm.ind (P:=fun es Z=>es.any (·.refKey)=false) rfl fun Z Z q=>List.any_cons.trans (by rw [q];rfl)
theorem Qm.length {w:World}{N:Addr->Prop}{h:Heap}:∀ {es:List DictEntry}{fs:List (Str×AV)},Qm w N h es fs->es.length=fs.length:=Qm.ind (P:=fun es fs=>es.length=fs.length) rfl fun Z Z e=>congrArg Nat.succ e
theorem Yo (x:Str) (d:AV):∀ fs:List (Str×AV),(WK fs x d).length≤fs.length+1
 | []=>Nat.le_refl _
 | (y,e)::r=>by
  unfold WK
  split
  ·simp
  ·simp only [List.length_cons];have:=Yo x d r;exact Nat.lt_succ_of_le ‹_›
theorem Be {N:Addr->Prop}{s:Shared}{x dx cl:Addr}{fs:List (Str×AV)}{name:Str}{v:Value}{d:AV}{Q:Unit->Shared->Prop}{X:Value->Shared->Prop} (kx:(Kf C).In C.h₁) (I:Im E C N μ l s.heap) (hx:μ x=some (.inst cl dx)) (hd:μ dx=some (.ns fs)) (hw:E.Wr dx)
  (hs:findIn (Kf C) (.ref cl) "__setattr__"=some (some (.builtin "object.__setattr__"))) (hp:plainOver (Kf C) cl=true) (ht:takerIn (Kf C) cl name=some none) (hh:hasDictIn (Kf C) cl=true) (hz:fs.length≤900) (r:RdA N s.heap v d)
  (q:∀ h' tk,Im E C N (upd μ dx (.ns (WK fs name d))) l h'->Kp C μ s.heap h'->Gr N N μ (upd μ dx (.ns (WK fs name d))) s.heap->Q () { s with heap:=h',toks:=tk }):wpAny (model pg C.w) C.A (setAttr (.ref x) name v) Q X s:=by
 have W:=I.st.wd
 (refine ZL (W.mu x _ hx) fun Z Z ox hox Z0=>?_;subst Z0)
 (refine Qh (W.mu dx _ hd) fun Z Z od hod es n Z0 rs=>?_;subst Z0)
 have KX:(Kf C).In s.heap:=fun a o e=>W.stays a o (kx a o e)
 have II:InstAt s.heap x ⟨.ref cl,some dx,.plain,#[]⟩ cl (some (dictOf es n)):=⟨hox,rfl,rfl,hod⟩
 have hgl:(PySem.W.getL name es).isSome=true:=by
  unfold PySem.W.getL
  split
  ·rfl
  ·rw [rs.noRef];rfl
 refine set_plain KX II hs (Rh (s:={ s with toks:=s.toks+1 }) KX II rfl hp ht hh (by exact hgl) hod (putName_dict _ _ _ _ _ _) rfl ?_ fun h' s' e'=>?_)
 ·refine Nat.le_trans (Nat.le_of_eq (Qm.put (name:=name) r rs).length) ?_
  have e2:=Yo name d fs
  lia
 ·refine xA (I.upd hd (m':=.ns (WK fs name d)) (fun Z z=>by cases z) hw s' e' fun fz=>⟨_,_,rfl,(Qm.put r rs).mono fz⟩) fun a b=>?_
  refine q h' _ a b ⟨fun Z z=>z,fun Z z=>.inl z,fun y hy=>?_⟩
  by_cases z:y=dx
  ·left;rw [z,hd];exact Option.some_ne_none _
  ·rw [Za z] at hy;exact .inl hy
theorem Xs.setAttr {o e:Expr}{p pos:Pos}{r:List Stmt}{x dx cl:Addr}{fs:List (Str×AV)}{name:Str}{Ψ:AV->Mu->Prop} (kx:(Kf C).In C.h₁) (he:Em E C μ l e Ψ Φ) (ho:∀ d μ',Ψ d μ'->Ev C μ' l o (.obj x))
  (hx:∀ d μ',Ψ d μ'->μ' x=some (.inst cl dx)/\μ' dx=some (.ns fs)) (hw:E.Wr dx) (hsw:swapsWith e (some (.Attribute o name p)) pos.line C.env=pure false)
  (hs:findIn (Kf C) (.ref cl) "__setattr__"=some (some (.builtin "object.__setattr__"))) (hp:plainOver (Kf C) cl=true) (ht:takerIn (Kf C) cl name=some none) (hh:hasDictIn (Kf C) cl=true) (hz:fs.length≤900)
  (hr:∀ d μ',Ψ d μ'->Xs E C (upd μ' dx (.ns (WK fs name d))) l r Φ):Xs E C μ l (.Assign [.Attribute o name p] e pos::r) Φ:=by
 intro N s I Q X q xx
 refine wpAny_execs_cons (plainObj_wpAny_Assign_Attribute (he N s I _ _ (fun v d N1 μ1 h1 t1 a b c g R=>?_) xx) hsw)
 refine xA (hx d μ1 a) fun hx1 hx2=>?_
 refine ho d μ1 a N1 { s with heap:=h1,toks:=t1 } b.st _ _ fun ov h2 t2 P2 R2=>?_
 subst R2
 refine Be (s:={ s with heap:=h2,toks:=t2 }) kx (b.pu P2) hx1 hx2 hw hs hp ht hh hz (R.mono (b.st.fz P2)) fun h3 t3 b3 c3 g3=>?_
 have K3:Kp C μ s.heap h3:=(c.trans (.ofPu P2) g).trans c3 g
 have G3:Gr N N1 μ (upd μ1 dx (.ns (WK fs name d))) s.heap:=g.trans g3 (c.trans (.ofPu P2) g:Kp C μ s.heap h2).al
 exact hr d μ1 a N1 { s with heap:=h3,toks:=t3 } b3 Q X (fun fl f N'' μ'' l'' h'' tk' a' b' c' d' e'=>q fl f N'' μ'' l'' h'' tk' a' b' (K3.trans c' G3) (G3.trans d' K3.al) e') (xx.after (s':={ s with heap:=h3,toks:=t3 }) K3 G3 fun Z Z=>rfl)
end
end Mine
namespace Mine
open PySem PySem.W PyProof.Rows PySem.Calls PySem.MeetsSeq Builtin Builtin.ObjectAttr Builtin.Getset_descriptor
section
variable {w:World}{A:Around}{s:Shared}{K:Frag}{x C:Addr}{R:Result->Shared->Prop}
theorem Kx {od:Option Obj}{a g:Value}{name:Str} (hc:(clsIn K C).isSome=true) (ha:findIn K (.ref C) name=some (some a)) (hg:specialIn K a "__get__"=some (some g)) (ht:takesIn K a=some true):findObj K C od name=some (.bind g a):=by
 refine xE (Option.isSome_iff_exists.mp hc) fun cd hc=>?_
 delta findObj
 rw [hc,Option.bind_some,ha,Option.bind_some]
 simp [hg,ht]
theorem D2 {ox:Obj}{od:Option Obj}{v:Value}{p i:Nat} (X:K.In s.heap) (I:InstAt s.heap x ox C od) (hp:slotIn K p C=some i) (hi:i < 1000)
  (h:R (.ok (.ret .none)) { s with heap:=s.heap.update x fun o=>{ o with slots:=(o.slots++Array.replicate (i+1 - o.slots.size) none).setIfInBounds i (some v) } }) :
  codeAny (model pg w) A (.call (.builtin "member_descriptor.__set__") ⟨[.ref p,.ref x,v],[]⟩) R s:=by
 (refine xE (slot_of X hp) fun n Zr0=>?_;refine HW Zr0 fun tn owner behind tb d Zr1=>?_;clear Zr0;refine Zf Zr1 fun sl cd ho hc hm hb Z0=>?_;clear Zr1;subst Z0)
 obtain ⟨hh,g,dr,t,os⟩:=s
 have L0:=I.type (M:=model pg w)
 have L1:=looks_mroIn (M:=model pg w) X hm
 have L2:Looks (model pg w) hh (Slots.slotNamesOf (.ref C)) cd.slotNames:=(looks_clsIn X hc).andThen .now
 have hx:=I.at_
 dsimp only at ho hx L0 L1
 have f0:=looks_field (M:=model pg w) ho 0 (v:=.str n tn) rfl
 have f1:=looks_field (M:=model pg w) ho 1 (v:=owner) rfl
 have f3:=looks_field (M:=model pg w) ho 3 (v:=.builtin "proto.slot#set") rfl
 have f4:=looks_field (M:=model pg w) ho 4 (v:=.int behind tb) rfl
 refine codeAny_call_builtin KF.slot_mset.plain KF.entry_mset (KF.slot_mset.check _ _ _ _ _ _ _ _ ⟨_,ho,rfl⟩ (KF.args_mset _ _ _) ?_)
 delta Builtin.«member_descriptor.__set__» descrSet descrStoreThrough descrCheckInstance descrNameAndClass isInstance
 have f5:Looks (model pg w) hh (descrItself (.ref p)) [.ref p]:=((Looks.ld (part:=none) ho).andThen .now).andThen (Looks.of_pure (by kernel_rfl))
 repeat lk
 refine ⟨Code.quiet_builtin _ (by decide +kernel),codeAny_builtin KF.entry_slotset ?_⟩
 delta Builtin.«proto.slot#set» Slots.target
 repeat lk
 rw [if_neg hb]
 refine wpAny_pure (wpAny_bind ?_)
 delta setSlotAt
 dsimp only
 rw [if_neg (by rw [sizeLine_eq];lia)]
 exact wpAny_updatePart hx (wpAny_pure h)
end
section
variable {E:Ent}{C:Cx}{μ:Mu}{l:List (Str×AV)}{Φ:Zq}
structure Wx (C:Cx) (name:Str) (p i:Nat):Prop where
 hg:plainGet (Kf C) 74 name=true
 hc:(clsIn (Kf C) 74).isSome=true
 ha:findIn (Kf C) (.ref 74) name=some (some (.ref p))
 hn:specialIn (Kf C) (.ref p) "__get__"=some (some (.builtin "member_descriptor.__get__"))
 ht:takesIn (Kf C) (.ref p)=some true
 hp:slotIn (Kf C) p 74=some i
 hs:findIn (Kf C) (.ref 74) "__setattr__"=some (some (.builtin "object.__setattr__"))
 ho:plainOver (Kf C) 74=true
 hk:takerIn (Kf C) 74 name=some (some (.ref p))
 hT:typeIn (Kf C) (.ref p)=some (.type "member_descriptor")
theorem JY:Wx C "node" 75 0:=⟨rfl,rfl,rfl,rfl,rfl,rfl,rfl,rfl,rfl,rfl⟩
theorem U3:Wx C "npredecessors" 76 1:=⟨rfl,rfl,rfl,rfl,rfl,rfl,rfl,rfl,rfl,rfl⟩
theorem U6:Wx C "successors" 77 2:=⟨rfl,rfl,rfl,rfl,rfl,rfl,rfl,rfl,rfl,rfl⟩
noncomputable def B7 (node np:Int) (succ:Addr):Nat->Option AV
 | 0=>some (.dat (.int node))
 | 1=>some (.dat (.int np))
 | 2=>some (.obj succ)
 | _=>none
theorem JH {N:Addr->Prop}{s:Shared}{x:Addr}{node np:Int}{succ:Addr}{name:Str}{p i:Nat}{d:AV}{expr:Bool}{Q:Value->Shared->Prop}{X:Value->Shared->Prop} (kx:(Kf C).In C.h₁) (O:Wx C name p i) (W:Wd C.w C.h₁ C.Fs N μ s.heap) (hx:μ x=some (.info node np succ)) (hi:B7 node np succ i=some d)
  (q:∀ v tk,RdA N s.heap v d->Q v { s with toks:=tk }):wpAny (model pg C.w) C.A (getAttr (.ref x) name expr) Q X s:=by
 (refine ZL (W.mu x _ hx) fun Z Z ox hox Zr0=>?_;refine xE Zr0 fun t Zr1=>?_;clear Zr0;refine Zn Zr1 fun t' dd Z0 nd gd=>?_;clear Zr1;subst Z0)
 have KX:(Kf C).In s.heap:=fun a o e=>W.stays a o (kx a o e)
 have II:InstAt s.heap x ⟨.ref 74,some dd,.plain,#[some (.int node t'),some (.int np t),some (.ref succ)]⟩ 74 (some { cls:=.type "dict",data:=.dict #[] }):=⟨hox,rfl,rfl,gd⟩
 obtain ⟨v,hv,hr,hh⟩:∃ v,((#[some (Value.int node t'),some (.int np t),some (.ref succ)]:Array (Option Value))[i]?).join=some v/\RdA N s.heap v d/\handedIn v=true:=by
  match i,hi with
  | 0,hi=>obtain rfl:=Option.some.inj hi;exact ⟨_,rfl,.int _ _,rfl⟩
  | 1,hi=>obtain rfl:=Option.some.inj hi;exact ⟨_,rfl,.int _ _,rfl⟩
  | 2,hi=>obtain rfl:=Option.some.inj hi;exact ⟨_,rfl,rfl,rfl⟩
 exact get_bind KX II (plainGet_of O.hg).1 (Kx O.hc O.ha O.hn O.ht) (plainGet_of O.hg).2 (wpAny_call (slot_get (s:={ s with toks:=s.toks+1 }) KX II O.hp hv (handed_on hh (q v _ hr))))
theorem Ev.slot {o:Expr}{pos:Pos}{x:Addr}{node np:Int}{succ:Addr}{name:Str}{p i:Nat}{d:AV} (kx:(Kf C).In C.h₁) (O:Wx C name p i) (ho:Ev C μ l o (.obj x)) (hb:attributeBase o name C.env (eval o C.env)=eval o C.env) (hx:μ x=some (.info node np succ)) (hi:B7 node np succ i=some d):Ev C μ l (.Attribute o name pos) d:=by
 intro N s S Q X q
 refine Attribute_any_ (ho N s S _ _ fun v h1 t1 P1 R1=>?_) (by rw [arm_eval_Attribute,hb])
 subst R1
 exact JH kx O (S.pu P1).wd hx hi fun v tk r=>q v h1 tk P1 r
theorem HH {N:Addr->Prop}{s:Shared}{x:Addr}{node np np':Int}{succ:Addr}{tk:Tok}{Q:Unit->Shared->Prop}{X:Value->Shared->Prop} (kx:(Kf C).In C.h₁) (I:Im E C N μ l s.heap) (hx:μ x=some (.info node np succ)) (hw:E.Wr x)
  (q:∀ h' tk,Im E C N (upd μ x (.info node np' succ)) l h'->Kp C μ s.heap h'->Gr N N μ (upd μ x (.info node np' succ)) s.heap->Q () { s with heap:=h',toks:=tk }):wpAny (model pg C.w) C.A (setAttr (.ref x) "npredecessors" (.int np' tk)) Q X s:=by
 have W:=I.st.wd
 (refine ZL (W.mu x _ hx) fun Z Z ox hox Zr0=>?_;refine xE Zr0 fun t Zr1=>?_;clear Zr0;refine Zn Zr1 fun t' dd Z0 nd gd=>?_;clear Zr1;subst Z0)
 have KX:(Kf C).In s.heap:=fun a o e=>W.stays a o (kx a o e)
 have II:InstAt s.heap x ⟨.ref 74,some dd,.plain,#[some (.int node t'),some (.int np t),some (.ref succ)]⟩ 74 (some { cls:=.type "dict",data:=.dict #[] }):=⟨hox,rfl,rfl,gd⟩
 have O:=U3 (C:=C)
 refine set_plain KX II O.hs (osa_descr (s:={ s with toks:=s.toks+1 }) KF.slot_mset KX II O.ho O.hk O.hT (D2 (s:={ s with toks:=s.toks+1 }) KX II O.hp (by decide) ?_))
 have hs:=Heap.SameBut.update s.heap x (fun o=>{ o with slots:=(o.slots++Array.replicate (1+1 - o.slots.size) none).setIfInBounds 1 (some (.int np' tk)) })
 have he:=Heap.get?_update_self (fun o=>{ o with slots:=(o.slots++Array.replicate (1+1 - o.slots.size) none).setIfInBounds 1 (some (Value.int np' tk)) }) hox rfl
 refine xA (I.upd hx (m':=.info node np' succ) (fun Z z=>by cases z) hw hs he fun F=>⟨tk,t',dd,by rfl,F.not nd gd,F.keep _ _ nd gd⟩) fun a b=>?_
 refine q _ _ a b ⟨fun Z z=>z,fun Z z=>.inl z,fun y hy=>?_⟩
 by_cases z:y=x
 ·left;rw [z,hx];exact Option.some_ne_none _
 ·rw [Za z] at hy;exact .inl hy
end
end Mine
namespace Mine
open PySem PySem.W PyProof.Rows PySem.Calls PySem.MeetsSeq
section
variable {E:Ent}{C:Cx}{μ:Mu}{l:List (Str×AV)}{Φ:Zq}{Ψ:AV->Mu->Prop}{Θ:Value->Value->Mu->Prop}
theorem Qm.getL_none {w:World}{N:Addr->Prop}{h:Heap}{name:Str}:∀ {es:List DictEntry}{fs:List (Str×AV)},Qm w N h es fs->fs.lookup name=none->PySem.W.getL name es=some none:=by
 intro es fs r e
 have hf:es.find? (·.key.isStr name)=none:=by
  induction r with
  | nil=>rfl
  | @cons x t v d es fs a b ih =>
   replace e:=Eq.trans (Eq.symm List.lookup_cons) e
   cases q:name == x with
   | true=>rw [q] at e;exact sNo e
   | false =>
    rw [q] at e
    have hs:(Value.str x t).isStr name=false:=by
     have:x≠name:=fun z=>by rw [z] at q;simp at q
     simp [Value.isStr,this]
    refine Eq.trans (List.find?_cons) ?_
    simp only [hs]
    exact ih e
 unfold PySem.W.getL
 rw [hf]
 simp only
 rw [r.noRef];rfl
theorem Em.methOwn {o:Expr}{name:Str}{apos pos:Pos}{es:List Expr}{x dx cl f:Addr}{fs:List (Str×AV)}{ds:List AV} (kx:(Kf C).In C.h₁) (hfn:∃ o fd,C.h₁.get? f=some o/\o.data=.func fd)
  (hb:attributeBase o name C.env (eval o C.env)=eval o C.env) (hl:(apos.endLine == pos.line)=true) (hn:Zu es=true) (hk:es.length < 30)
  (ho:Ev C μ l o (.obj x)) (hx:μ x=some (.inst cl dx)) (hd:μ dx=some (.ns fs)) (hno:fs.lookup name=none) (hg:plainGet (Kf C) cl name=true) (hf:findIn (Kf C) (.ref cl) name=some (some (.ref f))) (ht:typeIn (Kf C) (.ref f)=some (.type "function"))
  (ha:Evs C μ l es ds) (hF:FnM E C μ (.ref f) (.obj x::ds) Ψ Θ) (hΘ:∀ c t μ',Θ c t μ'->Φ (.exc c t) μ' l):Em E C μ l (.Call (.Attribute o name apos) es [] pos) Ψ Φ:=by
 intro N s I Q X q xx
 rw [arm_eval_Call,hb]
 refine wpAny_bind (ho N s I.st _ _ fun va h1 t1 P1 R1=>?_)
 subst R1
 have W1:=(I.st.pu P1).wd
 (refine ZL (W1.mu x _ hx) fun Z Z ox hox Z0=>?_;subst Z0)
 (refine Qh (W1.mu dx _ hd) fun Z Z od hod en n Z0 rs=>?_;subst Z0)
 have KX:(Kf C).In h1:=fun a o e=>W1.stays a o (kx a o e)
 have II:InstAt h1 x ⟨.ref cl,some dx,.plain,#[]⟩ cl (some (dictOf en n)):=⟨hox,rfl,rfl,hod⟩
 refine wpAny_bind (wpAny_standAt ?_)
 have hfew:methodCallForm (es.length+([]:List Keyword).length) (backTo pos (starEach es C.env)) (backToKw pos (keywordEach [] C.env))=true:=by
  have e1:(backTo pos (starEach es C.env)).all (fun x=>!x.1)=true:=by
   have:=Zj (env:=C.env) (pos:=pos) hn
   rw [List.any_eq_false] at this
   rw [List.all_eq_true];intro x hx;simpa using this x hx
  unfold methodCallForm
  rw [e1]
  simpa [keywordEach,backToKw] using hk
 unfold methodCall
 rw [hfew]
 refine wpAny_bind (wpAny_holding ?_)
 refine method_fn (s:={ s with heap:=h1,toks:=t1 }) KX II (plainGet_of hg).1 (plainGet_of hg).2 hf ht (by show (lookIn name (dictOf en n)).map _=_;rw [lookIn_dict,rs.getL_none hno];rfl) ?_
 have hpos:methodCallPos true o C.env apos pos=pure pos:=by unfold methodCallPos;simp [hl]
 refine wpAny_bind (wpAny_of_eq hpos ?_)
 (refine QE hfn fun of fd hof hfd=>?_;clear hfn)
 refine callWith_function (Zw hn (ha pos N _ (I.st.pu P1) _ _ fun vs h2 t2 P2 R2=>⟨⟨((I.st.pu P1).pu P2).wd.stays f of hof,hfd⟩,?_⟩))
 have K0:Kp C μ s.heap h2:=.ofPu (P1.trans P2)
 refine hF l N _ (.ref x::vs) ((I.pu P1).pu P2) (.cons rfl R2) _ _ (fun v d N' μ' h' tk a b c g r=>?_) fun e cls ctx ph N' μ' h1' h' tk a b c g X1 hp=>?_
 ·exact q v d N' μ' h' tk a b (K0.trans c (.refl N μ s.heap)) ((Gr.refl N μ s.heap).trans g K0.al) r
 ·exact xx e cls ctx ph N' μ' l h1' h' tk (hΘ _ _ _ a) b (K0.trans c (.refl N μ s.heap)) ((Gr.refl N μ s.heap).trans g K0.al) X1 (hp.elim .inl fun y=>.inr (.inl y))
end
theorem Vu {C:Cx}{μ:Mu} (a b:Int):Op2 C μ (inplaceOp .Add) (.dat (.int a)) (.dat (.int b)) (.dat (.int (a+b))):=by
 intro N s va vb W Ra Rb Q E q;obtain ⟨_,rfl⟩:=Rd.invI Ra;obtain ⟨_,rfl⟩:=Rd.invI Rb;exact P.iadd_int (q _ _ _ (.refl _ _) (.int _ _))
theorem Zx {w:World}{h₁:Heap}{k:Nat}{fd:FuncData}{C:Cx} (F:Frm w h₁ k fd C) {x:Str} (h:fd.scope.names.lookup x=some .local):Zp C x:=.inl (F.kindOf h)
theorem O_ {C:Cx}:Mch C (.type "IndexError") (.type "IndexError") :=
 Mch.builtin (by refine Eq.trans (isSubtype_type _ _) ?_;kernel_rfl) (by refine Eq.trans (isSubtype_type _ _) ?_;kernel_rfl) (by refine Eq.trans (isSubtype_type _ _) ?_;kernel_rfl)
noncomputable def sLt (x y:Str):Bool:=decide (x.cps.toList < y.cps.toList)
noncomputable def sld:Nat->List Str->List Str->List Str->List Str->List Str×List Str
 | 0,e,a,m,u=>(m++e,u++a)
 | _+1,[],a,m,u=>(m,u++a)
 | _+1,e::es,[],m,u=>(m++e::es,u)
 | n+1,e::es,a::as,m,u =>
  if sLt e a then sld n (es.dropWhile (· == e)) (a::as) (m++[e]) u
  else if sLt a e then sld n (e::es) (as.dropWhile (· == a)) m (u++[a])
  else sld n (es.dropWhile (· == e)) (as.dropWhile (· == a)) m u
theorem Qd {α:Type} (p:α->Bool):∀ l:List α,(l.dropWhile p).length≤l.length
 | []=>Nat.le_refl _
 | x::l=>by
  rw [List.dropWhile_cons]
  split
  ·exact Nat.le_succ_of_le (Qd p l)
  ·exact Nat.le_refl _
theorem JX {α:Type}{xs:List α}{i:Nat}{x:α}{r:List α} (h:xs.drop i=x::r):xs[i]?=some x/\xs.drop (i+1)=r/\i < xs.length:=by
 have hlt:i < xs.length:=by
  rcases Nat.lt_or_ge i xs.length with y|y
  ·exact y
  ·rw [List.drop_of_length_le y] at h;cases h
 have:=List.drop_eq_getElem_cons hlt
 replace this:=Eq.trans (Eq.symm h) this
 refine xA (List.cons.inj this) fun e1 e2=>?_
 exact ⟨by simp [hlt,e1],e2.symm,hlt⟩
theorem drop_nil {α:Type}{xs:List α}{i:Nat} (h:xs.drop i=[]):xs.length≤i:=by
 simpa using h
theorem YY {xs:List Str}{i:Nat}{x:Str} (h:xs[i]?=some x):(xs.map PyData.str)[((i:Nat):Int).toNat]?=some (.str x):=by simp [h]
theorem JE (m es:List Str) (i:Nat):strA m++((es.map PyData.str).drop i).map AV.dat=strA (m++es.drop i):=by
 unfold strA;rw [← List.map_drop,List.map_map,List.map_append];rfl
theorem Xs.one {E:Ent}{C:Cx}{μ:Mu}{l:List (Str×AV)}{st:Stmt}{Φ:Zq} (h:X1 E C μ l st Φ):Xs E C μ l [st] Φ :=
 Xs.seq h fun f μ' l' hf=>by cases f <;> first|exact Xs.nil hf|exact hf
theorem BW {E:Ent}{C:Cx}{μ:Mu}{l:List (Str×AV)} (H:Hdr C) (hu:C.A.units≤9000) {xsN iN eN:Str}{p1 p2 p3 p4 p5 p6 p7 p8 pos:Pos}{kk:Nat} (kx:C.env.kindOf xsN=some .local) (ki:C.env.kindOf iN=some .local) (ke:C.env.kindOf eN=some .local)
  (dx:(xsN == ("__debug__":Str))=false) (di:(iN == ("__debug__":Str))=false) (de:(eN == ("__debug__":Str))=false) (n1:xsN≠iN) (n2:eN≠iN) {xs:List Str}{e:Str}{i0:Nat}{ctx:Value} (hr:Ub E C μ ctx) (hz:xs.length≤1000) (h0:i0≤xs.length)
  (k1:Has l iN (.dat (.int i0))) (k2:Has l xsN (.dat (Zo xs))) (k3:Has l eN (.dat (.str e))) :
  X1 E C μ l (.While (.Compare (.Subscript (.Name xsN p1) (.Name iN p2) p3) [.Eq] [.Name eN p4] p5) [.AugAssign (.Name iN p6) .Add (.Constant (.int 1) kk p7) p8] [] pos)
   (fun f μ' l'=>μ'=μ/\∃ idx:Nat,Has l' iN (.dat (.int idx))/\xs.drop idx=(xs.drop i0).dropWhile (· == e)/\(∀ y,y≠iN->l'.lookup y=l.lookup y)/\((f=.nxt/\idx < xs.length)∨(f=.exc (.type "IndexError") ctx/\idx=xs.length))):=by
 refine GN H h0 k1 (fun l' idx x hf hi hx=>?_) (fun l' hf hi=>?_) fun l' idx hf hi=>?_
 ·have hlt:idx < xs.length:=(List.getElem?_eq_some_iff.mp hx).1
  exact Tst.cmp rfl (Ev.idx (k:=(idx:Int)) (Ev.locK H.kind ((hf _ n1).trans k2) kx dx) (Ev.locK H.kind hi ki di) (by exact Int.natCast_nonneg _) (by lia) (YY hx) fun Z Z=>rfl) (Ev.locK H.kind ((hf _ n2).trans k3) ke de) (HZ _ _ hu)
 ·exact GW.cmp rfl (EvX.idx (k:=(xs.length:Int)) hr (Ev.locK H.kind ((hf _ n1).trans k2) kx dx) (Ev.locK H.kind hi ki di) (by simp) (by lia) fun Z Z=>rfl)
 ·exact Xs.aug H (V9 H.kind hi ki) (Ev.int 1 _ _) (Vu _ _) (.inl ki) (Xs.nil ⟨rfl,rfl,rfl⟩)
set_option maxHeartbeats 4000000
theorem O1 {w:World}{h₁:Heap} (K:K1 w h₁) {k:Nat}{μ:Mu}{es as:List Str} (hz:es.length≤1000) (hz':as.length≤1000) :
  MFn w h₁ (k+1) μ 182 [.dat (Zo es),.dat (Zo as)] (fun Z=>False)
   (fun d μ'=>∃ m u t,d=.obj t/\μ m=none/\μ u=none/\μ t=none/\μ' t=some (.tup [.obj m,.obj u])/\μ' m=some (.list (strA (sld (es.length+as.length+1) es as [] []).1))/\μ' u=some (.list (strA (sld (es.length+as.length+1) es as [] []).2))/\∀ x,μ x≠none->μ' x=μ x) (fun Z Z Z=>False):=by
 refine MFn.of_body (ps:=["expected","actual"]) K.nms ⟨⟨_,K.kx 182 _ rfl,rfl⟩,Zs K rfl rfl rfl,rfl,rfl,rfl,rfl,by decide,by decide,by decide,rfl,rfl,rfl,fun vs hl=>?_⟩ rfl fun E C F H hD hold Z=>?_
 ·revert vs;exact HJ fun Z Z=>rfl
 refine Xs.post fun Ψ0 k0=>?_
 have O:=F.ok
 have Kf:C.env.scope.kind=.function:=O.kind
 refine Xs.assign2 H (Ev.int _ _ _) (Zx F rfl) (Zx F rfl) rfl ?_
 refine Xs.assign H Em.list0 (Zx F rfl) rfl fun d0 μ0 hd0=>?_
 (refine Z6 hd0 fun m Z0 Z1 hm0 hm=>?_;clear hd0;subst Z0;subst Z1)
 refine Xs.assign H Em.list0 (Zx F rfl) rfl fun d0 μ0 hd0=>?_
 (refine Z6 hd0 fun u Z0 Z1 hu0 hu'=>?_;clear hd0;subst Z0;subst Z1)
 have hum:u≠m:=kd2 hu' (Zb _ _ _) rfl
 have hu:μ u=none:=by exact Eq.trans (Eq.symm (Za hum)) hu'
 have hwm:E.Wr m:=.inr hm0
 have hwu:E.Wr u:=.inr hu0
 generalize hR:sld (es.length+as.length+1) es as [] []=R at k0
 let St2 (i j:Nat) (m' u':List Str) (μ':Mu) (l':List (Str×AV)):Prop :=
  i≤es.length/\j≤as.length/\m'.length≤i/\u'.length≤j/\Has l' "i" (.dat (.int i))/\Has l' "j" (.dat (.int j))/\Has l' "expected" (.dat (Zo es))/\Has l' "actual" (.dat (Zo as))/\Has l' "missing" (.obj m)/\Has l' "unexpected" (.obj u) /\
   μ' m=some (.list (strA m'))/\μ' u=some (.list (strA u'))/\∀ x,x≠m->x≠u->μ' x=μ x
 let Done (μ':Mu) (l':List (Str×AV)):Prop:=Has l' "missing" (.obj m)/\Has l' "unexpected" (.obj u)/\μ' m=some (.list (strA R.1))/\μ' u=some (.list (strA R.2))/\∀ x,x≠m->x≠u->μ' x=μ x
 refine Xs.seq (X1.whileP (Φ:=fun f μ' l'=>f=.nxt/\Done μ' l') H
  (fun n μ' l'=>∃ i j m' u',St2 i j m' u' μ' l'/\sld n (es.drop i) (as.drop j) m' u'=R/\(es.drop i).length+(as.drop j).length < n) ?_ (es.length+as.length+1) ?_) ?_
 ·(intro J Ψw jw kw n μ1 l1 Z0;refine xEE Z0 fun i j Zr0=>?_;refine Zn Zr0 fun m' u' hs hR1 hn=>?_;clear Zr0;clear Z0)
  refine .inl ⟨Tst.ofEv (Ev.bool true _ _) (WN _ _) rfl,?_⟩
  obtain ⟨n',rfl⟩:∃ n',n=n'+1:=⟨n - 1,by exact rd ‹_›⟩
  refine Xs.seq (X1.try (Φ:=fun f μ' l'=>(f=.brk/\Done μ' l')∨(f=.nxt/\∃ i j m' u',St2 i j m' u' μ' l'/\sld n' (es.drop i) (as.drop j) m' u'=R/\(es.drop i).length+(as.drop j).length < n'))
   (Ψ:=fun f μ' l'=>(f=.nxt/\∃ i j m' u',St2 i j m' u' μ' l'/\sld n' (es.drop i) (as.drop j) m' u'=R/\(es.drop i).length+(as.drop j).length < n') ∨
    (∃ ctx,f=.exc (.type "IndexError") ctx/\∃ i j m' u',St2 i j m' u' μ' l'/\(m'++es.drop i,u'++as.drop j)=R)) (c:=.type "IndexError") H ?_ ?_) ?_
  ·refine Xs.post fun ΨA kA=>?_
   (refine ZR hs fun z1 z2 z3 z4 k1 Zr0=>?_;refine ZK Zr0 fun k2 k3 k4 k5 k6 e1 e2 fr=>?_;clear Zr0;clear hs)
   have hIE:Ub E C μ1 .none:=.plain O.handled
   cases hE:es.drop i with
   | nil =>
    have hi:i=es.length:=by have:=drop_nil hE;exact Nat.le_antisymm ‹_› ‹_›
    refine Xs.assign (Ψ:=fun Z Z=>False) H (Em.raises (EvX.idx (k:=(i:Int)) hIE (Ev.loc O k3 (F.kindOf rfl) rfl) (Ev.loc O k1 (F.kindOf rfl) rfl) (by simp;exact Nat.le_of_eq (Eq.symm ‹_›)) (by lia) fun Z Z=>rfl) (kA _ _ _ (.inr ⟨_,rfl,i,j,m',u',⟨z1,z2,z3,z4,k1,k2,k3,k4,k5,k6,e1,e2,fr⟩,?_⟩))) (Zx F rfl) rfl fun Z Z x=>x.elim
    rw [← hR1,hE];simp [sld]
   | cons e E' =>
    refine xAA (JX hE) fun hxe hdE hiE=>?_
    refine Xs.assign H (Em.ofEv (Ev.idx (k:=(i:Int)) (Ev.loc O k3 (F.kindOf rfl) rfl) (Ev.loc O k1 (F.kindOf rfl) rfl) (by exact Int.natCast_nonneg _) (by lia) (YY hxe) fun Z Z=>rfl)) (Zx F rfl) rfl fun d3 μ3 hd3=>?_
    (refine xA hd3 fun Z0 Z1=>?_;clear hd3;subst Z0;subst Z1)
    cases hA:as.drop j with
    | nil =>
     have hj:j=as.length:=by have:=drop_nil hA;exact Nat.le_antisymm ‹_› ‹_›
     refine Xs.assign (Ψ:=fun Z Z=>False) H (Em.raises (EvX.idx (k:=(j:Int)) hIE (Ev.loc O (show Has _ "actual" _ from k4) (F.kindOf rfl) rfl) (Ev.loc O (show Has _ "j" _ from k2) (F.kindOf rfl) rfl) (by simp;exact Nat.le_of_eq (Eq.symm ‹_›)) (by lia) fun Z Z=>rfl) (kA _ _ _ (.inr ⟨_,rfl,i,j,m',u',⟨z1,z2,z3,z4,k1,k2,k3,k4,k5,k6,e1,e2,fr⟩,?_⟩))) (Zx F rfl) rfl fun Z Z x=>x.elim
     rw [← hR1,hE,hA];simp [sld]
    | cons a A' =>
     refine xAA (JX hA) fun hxa hdA hjA=>?_
     refine Xs.assign H (Em.ofEv (Ev.idx (k:=(j:Int)) (Ev.loc O (show Has _ "actual" _ from k4) (F.kindOf rfl) rfl) (Ev.loc O (show Has _ "j" _ from k2) (F.kindOf rfl) rfl) (by exact Int.natCast_nonneg _) (by lia) (YY hxa) fun Z Z=>rfl)) (Zx F rfl) rfl fun d3 μc hd3=>?_
     (refine xA hd3 fun Z0 Z1=>?_;clear hd3;subst Z0;subst Z1)
     have ke:Has ((("a":Str),AV.dat (.str a))::(("e":Str),AV.dat (.str e))::l1) "e" (.dat (.str e)):=rfl
     have ka:Has ((("a":Str),AV.dat (.str a))::(("e":Str),AV.dat (.str e))::l1) "a" (.dat (.str a)):=rfl
     replace k1:Has ((("a":Str),AV.dat (.str a))::(("e":Str),AV.dat (.str e))::l1) "i" _:=k1
     replace k2:Has ((("a":Str),AV.dat (.str a))::(("e":Str),AV.dat (.str e))::l1) "j" _:=k2
     replace k3:Has ((("a":Str),AV.dat (.str a))::(("e":Str),AV.dat (.str e))::l1) "expected" _:=k3
     replace k4:Has ((("a":Str),AV.dat (.str a))::(("e":Str),AV.dat (.str e))::l1) "actual" _:=k4
     replace k5:Has ((("a":Str),AV.dat (.str a))::(("e":Str),AV.dat (.str e))::l1) "missing" _:=k5
     replace k6:Has ((("a":Str),AV.dat (.str a))::(("e":Str),AV.dat (.str e))::l1) "unexpected" _:=k6
     generalize ((("a":Str),AV.dat (.str a))::(("e":Str),AV.dat (.str e))::l1)=l2 at *
     rw [hE,hA] at hR1 hn
     simp only [List.length_cons] at hn
     have lenE:=Qd (· == e) E'
     have lenA:=Qd (· == a) A'
     refine Xs.one (X1.ite (b:=sLt e a) (Tst.cmp rfl (Ev.loc O ke (F.kindOf rfl) rfl) (Ev.loc O ka (F.kindOf rfl) rfl) (Qo O O3)) (fun hlt=>?_) fun hlt=>?_)
     ·-- e < a
      refine Xs.expr H (Em.meth Qr rfl rfl rfl (by decide) (Ev.loc O k5 (F.kindOf rfl) rfl) (ZN e1) (Evs.cons rfl (Ev.loc O ke (F.kindOf rfl) rfl) Evs.nil) (QJ (Θ:=fun Z Z Z=>False) e1 hwm (by rw [List.length_map,sizeLine_eq];lia)) (fun Z Z Z x=>x.elim)) rfl fun d3 μ3 hd3=>?_
      (refine xA hd3 fun Z0 Z1=>?_;clear hd3;subst Z0;subst Z1)
      refine Xs.aug H (V9 Kf k1 (F.kindOf rfl)) (Ev.int 1 _ _) (Vu _ _) (Zx F rfl) ?_
      refine Xs.seq (BW H (Up O) (F.kindOf rfl) (F.kindOf rfl) (F.kindOf rfl) rfl rfl rfl (by decide) (by decide) (xs:=es) (e:=e) (i0:=i+1) (.plain O.handled) hz hiE rfl (show Has _ "expected" _ from k3) (show Has _ "e" _ from ke)) ?_
      (intro f μ4 l3 Z0;refine VT Z0 fun hμ idx c1 c2 c3 c4=>?_;clear Z0)
      have ste:idx≤es.length->i+1≤idx->St2 idx j (m'++[e]) u' μ4 l3:=fun q1 q2=>by
       refine ⟨q1,z2,by simp;exact Nat.lt_of_le_of_lt ‹_› ‹_›,z4,c1,(c3 _ (by decide)).trans k2,(c3 _ (by decide)).trans k3,(c3 _ (by decide)).trans k4,(c3 _ (by decide)).trans k5,(c3 _ (by decide)).trans k6,?_,?_,fun x n1 n2=>?_⟩
       ·rw [hμ,Zb];simp
       ·rw [hμ,Za hum];exact e2
       ·rw [hμ,Za n1];exact fr x n1 n2
      rw [hdE] at c2
      have hlen:(es.drop idx).length≤E'.length:=by rw [c2];exact lenE
      have hlE:E'.length=es.length - (i+1):=by rw [← hdE];simp
      have hR3:sld n' (es.drop idx) (a::A') (m'++[e]) u'=R:=by rw [← hR1,c2];simp only [sld,hlt,if_true]
      have q2:i+1≤idx∨es.length < idx:=by simp only [List.length_drop] at hlen;lia
      rcases c4 with ⟨rfl,c5⟩|⟨rfl,c5⟩
      ·refine Xs.nil (kA _ _ _ (.inl ⟨rfl,idx,j,m'++[e],u',ste (by exact Nat.le_of_lt ‹_›) (by lia),by rw [hA];exact hR3,?_⟩))
       rw [hA];simp only [List.length_cons];lia
      ·refine kA _ _ _ (.inr ⟨_,rfl,idx,j,m'++[e],u',ste (by exact Nat.le_of_eq ‹_›) (by exact oN ‹_› (Eq.symm ‹_›)),?_⟩)
       have:es.drop idx=[]:=by rw [c5];simp
       rw [this] at hR3 ⊢
       rw [hA,← hR3]
       cases n' <;> simp [sld]
     ·refine Xs.one (X1.ite (b:=sLt a e) (Tst.cmp rfl (Ev.loc O ke (F.kindOf rfl) rfl) (Ev.loc O ka (F.kindOf rfl) rfl) (Qo O MB)) (fun hgt=>?_) fun hgt=>?_)
      ·-- e > a
       refine Xs.expr H (Em.meth Qr rfl rfl rfl (by decide) (Ev.loc O k6 (F.kindOf rfl) rfl) (ZN e2) (Evs.cons rfl (Ev.loc O ka (F.kindOf rfl) rfl) Evs.nil) (QJ (Θ:=fun Z Z Z=>False) e2 hwu (by rw [List.length_map,sizeLine_eq];lia)) (fun Z Z Z x=>x.elim)) rfl fun d3 μ3 hd3=>?_
       (refine xA hd3 fun Z0 Z1=>?_;clear hd3;subst Z0;subst Z1)
       refine Xs.aug H (V9 Kf k2 (F.kindOf rfl)) (Ev.int 1 _ _) (Vu _ _) (Zx F rfl) ?_
       refine Xs.seq (BW H (Up O) (F.kindOf rfl) (F.kindOf rfl) (F.kindOf rfl) rfl rfl rfl (by decide) (by decide) (xs:=as) (e:=a) (i0:=j+1) (.plain O.handled) hz' hjA rfl (show Has _ "actual" _ from k4) (show Has _ "a" _ from ka)) ?_
       (intro f μ4 l3 Z0;refine VT Z0 fun hμ idx c1 c2 c3 c4=>?_;clear Z0)
       have ste:idx≤as.length->j+1≤idx->St2 i idx m' (u'++[a]) μ4 l3:=fun q1 q2=>by
        refine ⟨z1,q1,z3,by simp;exact Nat.lt_of_le_of_lt ‹_› ‹_›,(c3 _ (by decide)).trans k1,c1,(c3 _ (by decide)).trans k3,(c3 _ (by decide)).trans k4,(c3 _ (by decide)).trans k5,(c3 _ (by decide)).trans k6,?_,?_,fun x n1 n2=>?_⟩
        ·rw [hμ,Za hum.symm];exact e1
        ·rw [hμ,Zb];simp
        ·rw [hμ,Za n2];exact fr x n1 n2
       rw [hdA] at c2
       have hlen:(as.drop idx).length≤A'.length:=by rw [c2];exact lenA
       have hlA:A'.length=as.length - (j+1):=by rw [← hdA];simp
       have hR3:sld n' (e::E') (as.drop idx) m' (u'++[a])=R:=by rw [← hR1,c2];simp only [sld,hlt,hgt,if_true,Bool.false_eq_true,if_false]
       have q2:j+1≤idx∨as.length < idx:=by simp only [List.length_drop] at hlen;lia
       rcases c4 with ⟨rfl,c5⟩|⟨rfl,c5⟩
       ·refine Xs.nil (kA _ _ _ (.inl ⟨rfl,i,idx,m',u'++[a],ste (by exact Nat.le_of_lt ‹_›) (by lia),by rw [hE];exact hR3,?_⟩))
        rw [hE];simp only [List.length_cons];lia
       ·refine kA _ _ _ (.inr ⟨_,rfl,i,idx,m',u'++[a],ste (by exact Nat.le_of_eq ‹_›) (by exact oN ‹_› (Eq.symm ‹_›)),?_⟩)
        have:as.drop idx=[]:=by rw [c5];simp
        rw [this] at hR3 ⊢
        rw [hE,← hR3]
        cases n' <;> simp [sld]
      ·-- the same
       refine Xs.aug H (V9 Kf k1 (F.kindOf rfl)) (Ev.int 1 _ _) (Vu _ _) (Zx F rfl) ?_
       have stS:∀ (idx jdx:Nat) (l4:List (Str×AV)),idx≤es.length->i+1≤idx->jdx≤as.length->j+1≤jdx->Has l4 "i" (.dat (.int idx))->Has l4 "j" (.dat (.int jdx))->(∀ y,y≠("i":Str)->y≠("j":Str)->l4.lookup y=l2.lookup y)->St2 idx jdx m' u' μc l4:=fun idx jdx l4 q1 q2 q3 q4 q5 q6 q7 =>
        ⟨q1,q3,by lia,by lia,q5,q6,(q7 _ (by decide) (by decide)).trans k3,(q7 _ (by decide) (by decide)).trans k4,(q7 _ (by decide) (by decide)).trans k5,(q7 _ (by decide) (by decide)).trans k6,e1,e2,fr⟩
       have hR3:sld n' (E'.dropWhile (· == e)) (A'.dropWhile (· == a)) m' u'=R:=by rw [← hR1];simp only [sld,hlt,hgt,Bool.false_eq_true,if_false]
       have hlE:E'.length=es.length - (i+1):=by rw [← hdE];simp
       have hlA:A'.length=as.length - (j+1):=by rw [← hdA];simp
       have fin:∀ (idx jdx:Nat) (l4:List (Str×AV)) (f:XF),(f=.nxt/\idx < es.length/\jdx < as.length∨∃ ctx,f=.exc (.type "IndexError") ctx/\(idx=es.length/\jdx≤as.length∨idx≤es.length/\jdx=as.length))->es.drop idx=E'.dropWhile (· == e)->as.drop jdx=A'.dropWhile (· == a)->Has l4 "i" (.dat (.int idx))->Has l4 "j" (.dat (.int jdx))->(∀ y,y≠("i":Str)->y≠("j":Str)->l4.lookup y=l2.lookup y)->ΨA f μc l4:=by
        intro idx jdx l4 f hf d1 d2 q5 q6 q7
        have hle:(es.drop idx).length≤E'.length:=by rw [d1];exact lenE
        have hla:(as.drop jdx).length≤A'.length:=by rw [d2];exact lenA
        simp only [List.length_drop] at hle hla
        rcases hf with ⟨rfl,x1,x2⟩|⟨ctx,rfl,x⟩
        ·refine kA _ _ _ (.inl ⟨rfl,idx,jdx,m',u',stS idx jdx l4 (by exact Nat.le_of_lt ‹_›) (by lia) (by exact Nat.le_of_lt ‹_›) (by lia) q5 q6 q7,by rw [d1,d2];exact hR3,?_⟩)
         simp only [List.length_drop];lia
        ·refine kA _ _ _ (.inr ⟨ctx,rfl,idx,jdx,m',u',stS idx jdx l4 (by lia) (by lia) (by lia) (by lia) q5 q6 q7,?_⟩)
         rw [← d1,← d2] at hR3
         rw [← hR3]
         rcases x with ⟨x1,_⟩|⟨_,x1⟩
         ·have:es.drop idx=[]:=by rw [x1];simp
          rw [this];cases n' <;> simp [sld]
         ·have:as.drop jdx=[]:=by rw [x1];simp
          rw [this]
          cases n' with
          | zero=>simp [sld]
          | succ n'=>cases es.drop idx <;> simp [sld]
       refine Xs.one (X1.tryFin H
        (Xs.one (BW H (Up O) (F.kindOf rfl) (F.kindOf rfl) (F.kindOf rfl) rfl rfl rfl (by decide) (by decide) (xs:=es) (e:=e) (i0:=i+1) (.plain O.handled) hz hiE rfl (show Has _ "expected" _ from k3) (show Has _ "e" _ from ke))) ?_)
       ·(intro f μ4 l3 Z0;refine VT Z0 fun hμ idx c1 c2 c3 c4=>?_;clear Z0)
        rw [hdE] at c2
        have g2:∀ y,y≠("i":Str)->l3.lookup y=l2.lookup y:=fun y hy=>by rw [c3 y hy,List.lookup_cons,show (y == ("i":Str))=false by exact beq_eq_false_iff_ne.mpr hy]
        rcases c4 with ⟨rfl,c5⟩|⟨rfl,c5⟩
        ·refine Xs.aug H (V9 Kf ((g2 _ (by decide)).trans k2) (F.kindOf rfl)) (Ev.int 1 _ _) (Vu _ _) (Zx F rfl) ?_
         refine Xs.seq (BW H (Up O) (F.kindOf rfl) (F.kindOf rfl) (F.kindOf rfl) rfl rfl rfl (by decide) (by decide) (xs:=as) (e:=a) (i0:=j+1) (.plain O.handled) hz' hjA rfl (show Has _ "actual" _ from (g2 _ (by decide)).trans k4) (show Has _ "a" _ from (g2 _ (by decide)).trans ka)) ?_
         (intro f μ5 l4 Z0;refine VT Z0 fun hμ5 jdx b1 b2 b3 b4=>?_;clear Z0)
         rw [hdA] at b2
         have g4:∀ y,y≠("i":Str)->y≠("j":Str)->l4.lookup y=l2.lookup y:=fun y hy hy'=>by rw [b3 y hy',List.lookup_cons,show (y == ("j":Str))=false by exact beq_eq_false_iff_ne.mpr hy',g2 y hy]
         have ci:Has l4 "i" (.dat (.int idx)):=(b3 _ (by decide)).trans c1
         rcases b4 with ⟨rfl,b5⟩|⟨rfl,b5⟩
         ·rw [hμ5,hμ]
          exact Xs.nil (fin idx jdx l4 _ (.inl ⟨rfl,c5,b5⟩) c2 b2 ci b1 g4)
         ·rw [hμ5,hμ]
          exact fin idx jdx l4 _ (.inr ⟨_,rfl,.inr ⟨by exact Nat.le_of_lt ‹_›,b5⟩⟩) c2 b2 ci b1 g4
        ·refine ⟨rfl,fun e' T hT=>?_⟩
         refine Xs.aug (H.mark _) (V9 (C:=C.mk' e') Kf ((g2 _ (by decide)).trans k2) (F.kindOf rfl)) (Ev.int 1 _ _) (Vu _ _) (Zx F rfl) ?_
         refine Xs.seq (BW (C:=C.mk' e') (H.mark _) (show C.A.units≤9000 from Up O) (F.kindOf rfl) (F.kindOf rfl) (F.kindOf rfl) rfl rfl rfl (by decide) (by decide) (xs:=as) (e:=a) (i0:=j+1) (.held rfl (Zb _ _ _)) hz' hjA rfl (show Has _ "actual" _ from (g2 _ (by decide)).trans k4) (show Has _ "a" _ from (g2 _ (by decide)).trans ka)) ?_
         (intro f μ5 l4 Z0;refine VT Z0 fun hμ5 jdx b1 b2 b3 b4=>?_;clear Z0)
         rw [hdA] at b2
         have g4:∀ y,y≠("i":Str)->y≠("j":Str)->l4.lookup y=l2.lookup y:=fun y hy hy'=>by rw [b3 y hy',List.lookup_cons,show (y == ("j":Str))=false by exact beq_eq_false_iff_ne.mpr hy',g2 y hy]
         have ci:Has l4 "i" (.dat (.int idx)):=(b3 _ (by decide)).trans c1
         rcases b4 with ⟨rfl,b5⟩|⟨rfl,b5⟩
         ·refine Xs.nil ⟨hμ5,.inl ⟨rfl,?_⟩⟩
          rw [hμ]
          exact fin idx jdx l4 _ (.inr ⟨_,rfl,.inl ⟨c5,by exact Nat.le_of_lt ‹_›⟩⟩) c2 b2 ci b1 g4
         ·refine ⟨hμ5,.inr ⟨_,_,rfl,?_⟩⟩
          rw [hμ]
          exact fin idx jdx l4 _ (.inr ⟨_,rfl,.inl ⟨c5,by exact Nat.le_of_eq ‹_›⟩⟩) c2 b2 ci b1 g4
  ·rintro f μ2 l2 (⟨rfl,h2⟩|⟨ctx,rfl,i2,j2,m2,u2,hs2,hR2⟩)
   ·exact Xs.nil (.inr ⟨rfl,h2⟩)
   ·refine ⟨O_,fun e=>⟨Ev.buiK (C:=C.mk' e) Kf O.nms O.glob O.bui rfl (F.kindOf rfl) rfl,?_⟩⟩
    (refine ZR hs2 fun z1 z2 z3 z4 k1 Zr0=>?_;refine ZK Zr0 fun k2 k3 k4 k5 k6 e1 e2 fr=>?_;clear Zr0;clear hs2)
    refine Xs.expr (H.mark _) (Em.meth YX rfl rfl rfl (by decide) (Ev.locK (C:=C.mk' e) Kf k5 (F.kindOf rfl) rfl) (ZN e1) (Evs.cons rfl (Ev.slice (C:=C.mk' e) (a:=some (i2:Int)) (b:=none) (c:=none) (Ev.locK (C:=C.mk' e) Kf k3 (F.kindOf rfl) rfl) (Ev.locK (C:=C.mk' e) Kf k1 (F.kindOf rfl) rfl) trivial trivial (by decide) (Qx.from _ i2) (by simp [sizeLine_eq];lia) (fun o i=>[i,o]) fun Z Z=>rfl) Evs.nil)
     (JP (Θ:=fun Z Z Z=>False) e1 hwm (by simp;lia)) (fun Z Z Z x=>x.elim)) rfl fun d3 μ3 hd3=>?_
    (refine xA hd3 fun Z0 Z1=>?_;clear hd3;subst Z0;subst Z1)
    have e2':upd μ2 m (.list (strA m2++((es.map PyData.str).drop i2).map .dat)) u=some (.list (strA u2)):=by exact Eq.trans (Za hum) e2
    refine Xs.expr (H.mark _) (Em.meth YX rfl rfl rfl (by decide) (Ev.locK (C:=C.mk' e) Kf k6 (F.kindOf rfl) rfl) (ZN e2') (Evs.cons rfl (Ev.slice (C:=C.mk' e) (a:=some (j2:Int)) (b:=none) (c:=none) (Ev.locK (C:=C.mk' e) Kf k4 (F.kindOf rfl) rfl) (Ev.locK (C:=C.mk' e) Kf k2 (F.kindOf rfl) rfl) trivial trivial (by decide) (Qx.from _ j2) (by simp [sizeLine_eq];lia) (fun o i=>[i,o]) fun Z Z=>rfl) Evs.nil)
     (JP (Θ:=fun Z Z Z=>False) e2' hwu (by simp;lia)) (fun Z Z Z x=>x.elim)) rfl fun d3 μ3 hd3=>?_
    (refine xA hd3 fun Z0 Z1=>?_;clear hd3;subst Z0;subst Z1)
    refine Xs.brk ⟨fun Z Z q=>(by cases q),.inl ⟨rfl,k5,k6,?_,?_,fun x n1 n2=>?_⟩⟩
    ·rw [Za hum.symm,Zb,JE,← hR2]
    ·rw [Zb,JE,← hR2]
    ·exact Eq.trans (Za n2) (Eq.trans (Za n1) (fr x n1 n2))
  ·rintro f μ2 l2 (⟨rfl,h2⟩|⟨rfl,i2,j2,m2,u2,hs2,hR2,hn2⟩)
   ·exact kw _ _ _ ⟨rfl,h2⟩
   ·exact Xs.nil ⟨n',by exact Nat.le_refl _,jw _ _ _ ⟨i2,j2,m2,u2,hs2,hR2,hn2⟩⟩
 ·refine ⟨0,0,[],[],⟨Nat.zero_le _,Nat.zero_le _,Nat.le_refl _,Nat.le_refl _,rfl,rfl,rfl,rfl,rfl,rfl,?_,Zb _ _ _,fun x n1 n2=>?_⟩,hR,by exact Nat.le_refl _⟩
  ·exact Eq.trans (Za hum.symm) (Zb _ _ _)
  ·exact Eq.trans (Za n2) (Eq.trans (Za n1) rfl)
 ·(intro f μ2 l2 Z0;refine ZR Z0 fun Z1 k1 k2 e1 e2 fr=>?_;clear Z0;subst Z1)
  refine Xs.ret (Em.tup (Evs.cons rfl (Ev.loc O k1 (F.kindOf rfl) rfl) (Evs.cons rfl (Ev.loc O k2 (F.kindOf rfl) rfl) Evs.nil)) (by show 2≤sizeLine;rw [sizeLine_eq];decide)) fun d3 μ3 hd3=>?_
  (refine Z6 hd3 fun t Z0 Z1 ht0 ht=>?_;clear hd3;subst Z0;subst Z1)
  have htm:m≠t:=kd2 e1 ht rfl
  have htu:u≠t:=kd2 e2 ht rfl
  refine k0 _ _ _ ⟨m,u,t,rfl,hm,hu,?_,Zb _ _ _,?_,?_,fun x n3=>?_⟩
  ·exact Eq.trans (Eq.symm (fr t htm.symm htu.symm)) ht
  ·exact Eq.trans (Za htm) e1
  ·exact Eq.trans (Za htu) e2
  ·have xm:x≠m:=fun q=>n3 (q▸hm)
   have xu:x≠u:=fun q=>n3 (q▸hu)
   have xt:x≠t:=fun q=>by rw [q,← fr t htm.symm htu.symm] at n3;exact n3 ht
   exact Eq.trans (Za xt) (fr x xm xu)
noncomputable def Qf:List Str->List Str->List Str->List Str×List Str
 | [],act,mis=>(mis,act)
 | x::r,act,mis=>if x∈act then Qf r (act.erase x) mis else Qf r act (mis++[x])
theorem OM {C:Cx}:Mch C (.type "ValueError") (.type "ValueError") :=
 Mch.builtin (by refine Eq.trans (isSubtype_type _ _) ?_;kernel_rfl) (by refine Eq.trans (isSubtype_type _ _) ?_;kernel_rfl) (by refine Eq.trans (isSubtype_type _ _) ?_;kernel_rfl)
theorem Frm.mkOk {w:World}{h₁:Heap}{k:Nat}{fd:FuncData}{C:Cx} (F:Frm w h₁ k fd C):C.env.scope.kind=.function:=F.ok.kind
set_option maxHeartbeats 2000000
theorem O2 {w:World}{h₁:Heap} (K:K1 w h₁) {k:Nat}{μ:Mu}{a b:Addr}{es as:List Str} (ha:μ a=some (.list (strA es))) (hb:μ b=some (.list (strA as))) (hab:a≠b) (hz:es.length≤1000) (hz':as.length≤1000) :
  MFn w h₁ (k+1) μ 189 [.obj a,.obj b] (fun x=>x=a∨x=b)
   (fun d μ'=>∃ m t,d=.obj t/\μ m=none/\μ t=none/\μ' t=some (.tup [.obj m,.obj b])/\μ' m=some (.list (strA (Qf es.reverse as []).1))/\μ' b=some (.list (strA (Qf es.reverse as []).2))/\m≠t/\∀ x,x≠a->x≠b->μ x≠none->μ' x=μ x) (fun Z Z Z=>False):=by
 refine MFn.of_body (ps:=["expected","actual"]) K.nms ⟨⟨_,K.kx 189 _ rfl,rfl⟩,Zs K rfl rfl rfl,rfl,rfl,rfl,rfl,by decide,by decide,by decide,rfl,rfl,rfl,fun vs hl=>?_⟩ rfl fun E C F H hD hold Z=>?_
 ·revert vs;exact HJ fun Z Z=>rfl
 refine Xs.post fun Ψ0 mk0=>?_
 have O:=F.ok
 have hwa:E.Wr a:=.inl (by rw [hD];exact .inl rfl)
 have hwb:E.Wr b:=.inl (by rw [hD];exact .inr rfl)
 refine Xs.assign H Em.list0 (Zx F rfl) rfl fun d0 μ0 hd0=>?_
 (refine Z6 hd0 fun m Z0 Z1 hm0 hm=>?_;clear hd0;subst Z0;subst Z1)
 have hma:m≠a:=kd2 hm ha rfl
 have hmb:m≠b:=kd2 hm hb rfl
 have hwm:E.Wr m:=.inr hm0
 refine Xs.seq (X1.whileP (Φ:=fun f μ' l'=>f=.nxt/\μ' m=some (.list (strA (Qf es.reverse as []).1))/\μ' b=some (.list (strA (Qf es.reverse as []).2))/\(∀ x,x≠a->x≠b->μ x≠none->μ' x=μ x)/\Has l' "missing" (.obj m)/\Has l' "actual" (.obj b)) H
  (fun n μ' l'=>∃ es' act mis,μ' a=some (.list (strA es'))/\μ' b=some (.list (strA act))/\μ' m=some (.list (strA mis))/\n=es'.length/\es'.length≤1000/\act.length≤1000/\mis.length+es'.length≤1000/\Qf es'.reverse act mis=Qf es.reverse as [] /\
   Has l' "expected" (.obj a)/\Has l' "actual" (.obj b)/\Has l' "missing" (.obj m)/\∀ x,x≠a->x≠b->μ x≠none->μ' x=μ x) ?_ es.length ?_) ?_
 ·(intro J Ψ1 j1 mk1 n μ1 l1 Z0;refine xE Z0 fun es1 Zr0=>?_;refine Zf Zr0 fun act mis e1 e2 e3 Z1 Zr1=>?_;clear Zr0;refine ZK Zr1 fun z1 z2 z3 hg k1 k2 k3 hfr=>?_;clear Zr1;clear Z0;subst Z1)
  have ev1:∀ p,Tst C μ1 l1 (.Name "expected" p) (!(strA es1).isEmpty):=fun p=>Tst.ofEv (Ev.loc O k1 (F.kindOf rfl) rfl) (DY e1 (by rw [List.length_map,sizeLine_eq];exact oA ‹_› rfl)) rfl
  rcases List.eq_nil_or_concat es1 with rfl|⟨es2,item,rfl⟩
  ·refine .inr (.inl ⟨ev1 _,Xs.nil (mk1 _ _ _ ⟨rfl,?_,?_,hfr,k3,k2⟩)⟩)
   ·rw [← hg];exact e3
   ·rw [← hg];exact e2
  ·have e0:(!(strA (es2.concat item)).isEmpty)=true:=by cases es2 <;> rfl
   rw [e0] at ev1
   refine .inl ⟨ev1 _,?_⟩
   have e1':μ1 a=some (.list (strA es2++[.dat (.str item)])):=by refine Eq.trans e1 ?_;simp
   have hg':Qf (item::es2.reverse) act mis=Qf es.reverse as []:=by rw [← hg];simp
   simp only [List.concat_eq_append,List.length_append,List.length_cons,List.length_nil] at z1 z3
   refine Xs.assign H (Em.meth KI rfl rfl rfl (by decide) (Ev.loc O k1 (F.kindOf rfl) rfl) (ZN e1) Evs.nil (Dy (Θ:=fun Z Z Z=>False) e1' hwa (by rw [List.length_map,sizeLine_eq];exact oA ‹_› rfl)) (fun Z Z Z x=>x.elim)) (Zx F rfl) rfl fun d2 μ2 hd2=>?_
   (refine xA hd2 fun Z0 Z1=>?_;clear hd2;subst Z0;subst Z1)
   have f2b:upd μ1 a (.list (strA es2)) b=some (.list (strA act)):=by exact Eq.trans (Za hab.symm) e2
   have f2m:upd μ1 a (.list (strA es2)) m=some (.list (strA mis)):=by exact Eq.trans (Za hma) e3
   have f2a:upd μ1 a (.list (strA es2)) a=some (.list (strA es2)):=Zb _ _ _
   have f2r:∀ x,x≠a->x≠b->μ x≠none->upd μ1 a (.list (strA es2)) x=μ x:=fun x n1 n2 n3=>by exact Eq.trans (Za n1) (hfr x n1 n2 n3)
   have k2':Has ((("item":Str),AV.dat (.str item))::l1) "actual" (.obj b):=k2
   have k1':Has ((("item":Str),AV.dat (.str item))::l1) "expected" (.obj a):=k1
   have k3':Has ((("item":Str),AV.dat (.str item))::l1) "missing" (.obj m):=k3
   have ki:Has ((("item":Str),AV.dat (.str item))::l1) "item" (.dat (.str item)):=rfl
   generalize hμ2:upd μ1 a (.list (strA es2))=μ2 at *
   generalize hl2:((("item":Str),AV.dat (.str item))::l1)=l2 at *
   by_cases hin:item∈act
   ·refine Xs.seq (X1.try (Φ:=fun f μ' l'=>f=.nxt/\μ'=upd μ2 b (.list (strA (act.erase item)))/\l'=l2) (Ψ:=fun f μ' l'=>f=.nxt/\μ'=upd μ2 b (.list (strA (act.erase item)))/\l'=l2) (c:=.type "ValueError") H
     (Xs.expr H (Em.meth Y5 rfl rfl rfl (by decide) (Ev.loc O k2' (F.kindOf rfl) rfl) (ZN f2b) (Evs.cons rfl (Ev.loc O ki (F.kindOf rfl) rfl) Evs.nil) (GZ (Θ:=fun Z Z Z=>False) f2b hwb (by rw [sizeLine_eq];exact oA ‹_› rfl) hin) (fun Z Z Z x=>x.elim)) rfl fun d3 μ3 hd3=>Xs.nil ⟨rfl,hd3.2,rfl⟩) ?_) ?_
    ·(intro f μ3 l3 Z0;refine xAA Z0 fun Z1 Z2 Z3=>?_;clear Z0;subst Z1;subst Z2;subst Z3)
     exact Xs.nil ⟨rfl,rfl,rfl⟩
    ·(intro f μ3 l3 Z0;refine xAA Z0 fun Z1 Z2 Z3=>?_;clear Z0;subst Z1;subst Z2;subst Z3)
     refine Xs.nil ⟨es2.length,by simp,j1 _ _ _ ⟨es2,act.erase item,mis,?_,Zb _ _ _,?_,rfl,by exact oB ‹_› rfl,?_,by exact oB ‹_› rfl,?_,k1',k2',k3',fun x n1 n2 n3=>?_⟩⟩
     ·exact Eq.trans (Za hab) f2a
     ·exact Eq.trans (Za hmb) f2m
     ·have:=List.length_erase_of_mem hin;omega
     ·rw [← hg'];simp only [Qf,if_pos hin]
     ·exact Eq.trans (Za n2) (f2r x n1 n2 n3)
   ·refine Xs.seq (X1.try (Φ:=fun f μ' l'=>f=.nxt/\μ'=upd μ2 m (.list (strA (mis++[item])))/\l'=l2) (Ψ:=fun f μ' l'=>f=.exc (.type "ValueError") .none/\μ'=μ2/\l'=l2) (c:=.type "ValueError") H
     (Xs.expr (Ψ:=fun Z Z=>False) H (Em.meth Y5 rfl rfl rfl (by decide) (Ev.loc O k2' (F.kindOf rfl) rfl) (ZN f2b) (Evs.cons rfl (Ev.loc O ki (F.kindOf rfl) rfl) Evs.nil) (Jj O.handled f2b hin) (fun c t μ' x=>by (refine xAA x fun Z0 Z1 Z2=>?_;clear x;subst Z0;subst Z1;subst Z2);exact ⟨rfl,rfl,rfl⟩)) rfl fun d3 μ3 hd3=>hd3.elim) ?_) ?_
    ·(intro f μ3 l3 Z0;refine xAA Z0 fun Z1 Z2 Z3=>?_;clear Z0;subst Z1;subst Z2;subst Z3)
     refine ⟨OM,fun e=>⟨Ev.buiK (C:=C.mk' e) F.mkOk O.nms O.glob O.bui rfl (F.kindOf rfl) rfl,?_⟩⟩
     refine Xs.expr (H.mark _) (Em.meth Qr rfl rfl rfl (by decide) (Ev.locK (C:=C.mk' e) F.mkOk k3' (F.kindOf rfl) rfl) (ZN f2m) (Evs.cons rfl (Ev.locK (C:=C.mk' e) F.mkOk ki (F.kindOf rfl) rfl) Evs.nil) (QJ (Θ:=fun Z Z Z=>False) f2m hwm (by rw [List.length_map,sizeLine_eq];exact oR ‹_› rfl)) (fun Z Z Z x=>x.elim)) rfl fun d3 μ3 hd3=>Xs.nil ⟨fun Z Z q=>(by cases q),rfl,?_,rfl⟩
     refine Eq.trans hd3.2 ?_;simp
    ·(intro f μ3 l3 Z0;refine xAA Z0 fun Z1 Z2 Z3=>?_;clear Z0;subst Z1;subst Z2;subst Z3)
     refine Xs.nil ⟨es2.length,by simp,j1 _ _ _ ⟨es2,act,mis++[item],?_,?_,Zb _ _ _,rfl,by exact oB ‹_› rfl,z2,?_,?_,k1',k2',k3',fun x n1 n2 n3=>?_⟩⟩
     ·exact Eq.trans (Za hma.symm) f2a
     ·exact Eq.trans (Za hmb.symm) f2b
     ·simp only [List.length_append,List.length_cons,List.length_nil];exact oq3 ‹_›
     ·rw [← hg'];simp only [Qf,if_neg hin]
     ·rw [Za fun q=>by rw [q,hm] at n3;exact n3 rfl];exact f2r x n1 n2 n3
 ·refine ⟨es,as,[],?_,?_,Zb _ _ _,rfl,hz,hz',by simpa using hz,rfl,rfl,rfl,rfl,fun x Z Z h=>?_⟩
  ·exact Eq.trans (Za hma.symm) ha
  ·exact Eq.trans (Za hmb.symm) hb
  ·exact Za fun q=>h (q▸hm)
 ·(intro f μ1 l1 Z0;refine ZR Z0 fun Z1 e3 e2 hfr k3 k2=>?_;clear Z0;subst Z1)
  refine Xs.ret (Em.tup (Evs.cons rfl (Ev.loc O k3 (F.kindOf rfl) rfl) (Evs.cons rfl (Ev.loc O k2 (F.kindOf rfl) rfl) Evs.nil)) (by show 2≤sizeLine;rw [sizeLine_eq];decide)) fun d2 μ2 hd2=>?_
  (refine Z6 hd2 fun t Z0 Z1 ht0 ht=>?_;clear hd2;subst Z0;subst Z1)
  have htm:m≠t:=kd2 e3 ht rfl
  have htb:b≠t:=kd2 e2 ht rfl
  refine mk0 _ _ _ ⟨m,t,rfl,hm,?_,Zb _ _ _,?_,?_,htm,fun x n1 n2 n3=>?_⟩
  ·cases q:μ t with
   | none=>rfl
   | some o=>refine xE (hold t o q) fun Z z=>?_;exact noS (Eq.trans (Eq.symm ht0) z)
  ·exact Eq.trans (Za htm) e3
  ·exact Eq.trans (Za htb) e2
  ·rw [Za fun q=>by rw [← hfr x n1 n2 n3,q] at n3;exact n3 ht];exact hfr x n1 n2 n3
theorem DR (xs:List Str):datas (strA xs)=some (xs.map .str):=by
 have:=QK (xs.map PyData.str)
 rwa [List.map_map] at this
theorem Um {w:World}{h₁:Heap}{Fs:List Addr}{N N':Addr->Prop}{μ':Mu}{h':Heap}{m:Addr}{a:List Str} (W':Wd w h₁ Fs N' μ' h') (up:∀ x,N x->N' x) (hn:¬ N m) (hm:μ' m=some (.list (strA a))) (hz:a.length≤sizeLine):Rd N h' (.ref m) (Zo a):=by
 (refine Qh (W'.mu m _ hm) fun Z Z o ho us n Z0 rs=>?_;subst Z0)
 refine .list ho hn rfl rfl ?_ (by rw [List.length_map];exact hz) rfl
 have:=(rs.datas (DR a)).weak up
 exact this
theorem MFn.toPure {w:World}{h₁:Heap}{k:Nat}{μ:Mu}{f:Addr}{ds:List AV}{a b:List Str}{P:Mu->Prop}
  (h:MFn w h₁ k μ f ds (fun Z=>False) (fun d μ'=>∃ m u t,d=.obj t/\μ m=none/\μ u=none/\μ t=none/\μ' t=some (.tup [.obj m,.obj u])/\μ' m=some (.list (strA a))/\μ' u=some (.list (strA b))/\P μ') (fun Z Z Z=>False))
  (ha:a.length≤sizeLine) (hb:b.length≤sizeLine):Zt w h₁ k μ f ds (.dat (.tuple [Zo a,Zo b])):=by
 intro A envs N s vs AO W R RR q
 refine h A envs N s vs AO W R RR (fun v d N' μ' h' tk hp mt gr W' r=>?_) fun Z Z Z Z Z Z Z Z x=>x.elim
 (refine VL hp fun m u t Z0 m0 u0 Zr0=>?_;refine Qe Zr0 fun t0 ht hm hu Z=>?_;clear Zr0;clear hp;subst Z0)
 subst r
 have nn:∀ x,μ x=none->μ' x≠none->¬ N x:=fun x e1 e2 n=>by
  refine xE (W.nhi x n) fun o e=>?_
  rcases gr.mu x e2 with y|y
  ·exact y e1
  ·exact noS (Eq.trans (Eq.symm y) e)
 refine q _ h' tk mt.toPu ?_
 (refine Qh (W'.mu t _ ht) fun Z Z o ho us n Z0 rs=>?_;subst Z0)
 (refine Zn rs.inv2 fun v1 v2 Z0 r1 r2=>?_;subst Z0)
 subst r1
 subst r2
 refine Rd.tuple ho (nn t t0 (by rw [ht];exact Option.some_ne_none _)) rfl rfl ?_ (by show 2≤sizeLine;rw [sizeLine_eq];decide)
 exact .cons (Um W' gr.up (nn m m0 (by rw [hm];exact Option.some_ne_none _)) hm ha) (.cons (Um W' gr.up (nn u u0 (by rw [hu];exact Option.some_ne_none _)) hu hb) .nil)
theorem Yz:∀ (n:Nat) (e a m u:List Str),(sld n e a m u).1.length≤m.length+e.length/\(sld n e a m u).2.length≤u.length+a.length
 | 0,e,a,m,u=>by simp [sld]
 | n+1,[],a,m,u=>by simp [sld]
 | n+1,e::es,[],m,u=>by simp [sld]
 | n+1,e::es,a::as,m,u=>by
  have le1:=Qd (· == e) es
  have le2:=Qd (· == a) as
  unfold sld
  split
  ·have:=Yz n (es.dropWhile (· == e)) (a::as) (m++[e]) u
   simp only [List.length_append,List.length_cons,List.length_nil] at this ⊢
   omega
  ·split
   ·have:=Yz n (e::es) (as.dropWhile (· == a)) m (u++[a])
    simp only [List.length_append,List.length_cons,List.length_nil] at this ⊢
    omega
   ·have:=Yz n (es.dropWhile (· == e)) (as.dropWhile (· == a)) m u
    simp only [List.length_cons] at this ⊢
    omega
theorem Hs {w:World}{h₁:Heap} (K:K1 w h₁) {k:Nat}{μ:Mu}{es as:List Str} (hz:es.length≤1000) (hz':as.length≤1000) :
  Zt w h₁ (k+1) μ 182 [.dat (Zo es),.dat (Zo as)] (.dat (.tuple [Zo (sld (es.length+as.length+1) es as [] []).1,Zo (sld (es.length+as.length+1) es as [] []).2])):=by
 have hl:=Yz (es.length+as.length+1) es as [] []
 refine MFn.toPure (O1 K hz hz') ?_ ?_
 ·rw [sizeLine_eq];simp at hl;omega
 ·rw [sizeLine_eq];simp at hl;omega
section
variable {E:Ent}{C:Cx}{μ:Mu}{l:List (Str×AV)}{Φ:Zq}
theorem QA (a:Addr):Op2 C μ (compareOp .Is) (.obj a) (.dat .none) (.dat (.bool false)):=by
 intro N s va vb W Ra Rb Q X q;subst Ra;obtain rfl:=Rd.invN Rb;exact wpAny_is_plain rfl (q _ _ s.toks (.refl _ _) (.bool _))
theorem Jq {w:World} (t:Addr) (vs:Array Value):MeetsIn pg w (Builtin.«bool.__new__» ⟨[.type "bool",.ref t],[]⟩) (fun Z R s=>s.heap.IsList t vs/\vs.size≤sizeLine/\∀ tk,R (.ok (.ret (.bool (!vs.isEmpty)))) { s with toks:=tk }) :=
 .of_wp fun A R s h=>by
  refine xAA h fun hl hz h=>?_
  unfold Builtin.«bool.__new__»
  show wpAny _ _ (isSubtype (.type "bool") (.type "bool") >>= _) _ _ s
  refine wpAny_bind (wpAny_of_eq F.conv_sub_bool ?_)
  show wpAny _ _ (truthy (.ref t) >>= _) _ _ s
  refine wpAny_bind (wpAny_truthy_list hl (by rw [sizeLine_eq] at hz;omega) ?_)
  exact wpAny_pure ⟨_,rfl,h _⟩
theorem KU {t:Addr}{xs:List AV} (ht:μ t=some (.list xs)) (hz:xs.length≤sizeLine):Fn C μ (.type "bool") [.obj t] (.dat (.bool (!xs.isEmpty))):=by
 intro N s vs W R Q X q
 (refine xEA R.inv1 fun v Z0 r=>?_;subst Z0)
 subst r
 refine QF (Z7 W ht) fun us hl Z hr=>?_
 refine callType_newIn F.called_bool F.newNe_bool (F.typeCall_bool_1 _) (F.newCall_bool_1 _) (fun obj=>F.args_object_init_2 obj _) F.entry_bool_new (Jq t us.toArray) ⟨hl,by rw [List.size_toArray,hr.length];exact hz,fun tk=>⟨rfl,?_⟩⟩
 have e:(!us.toArray.isEmpty)=!xs.isEmpty:=by cases hr <;> rfl
 rw [e]
 exact q _ _ _ (.refl _ _) (.bool _)
end
structure Ua (μ:Mu) (x dx d:Addr) (ready:AV) (po nf:Int):Prop where
 x:μ x=some (.inst 171 dx)
 dx:μ dx=some (.ns [("_node2info",.obj d),("_ready_nodes",ready),("_npassedout",.dat (.int po)),("_nfinished",.dat (.int nf))])
theorem KC {w:World}{h₁:Heap} (K:K1 w h₁) {k:Nat}{fd:FuncData}{C:Cx} (F:Frm w h₁ k fd C):(Kf C).In C.h₁:=by
 have h1:=F.w
 have h2:=F.h₁
 subst h1 h2
 exact K.kx
set_option maxHeartbeats 2000000
theorem Ko {w:World}{h₁:Heap} (K:K1 w h₁) {k:Nat}{μ:Mu}{x dx d r:Addr}{po nf:Int}{xs:List AV} (T:Ua μ x dx d (.obj r) po nf) (hr:μ r=some (.list xs)) (hz:xs.length≤1000) :
  MFn w h₁ (k+1) μ 140 [.obj x] (fun Z=>False) (fun d' μ'=>d'=.dat (.bool (decide (nf < po) || !xs.isEmpty))/\μ'=μ) (fun Z Z Z=>False):=by
 refine MFn.of_body (ps:=["self"]) K.nms ⟨⟨_,K.kx 140 _ rfl,rfl⟩,Zs K rfl rfl rfl,rfl,rfl,rfl,rfl,by decide,by decide,by decide,rfl,rfl,rfl,fun vs hl=>?_⟩ rfl fun E C F H hD hold Z=>?_
 ·revert vs;exact KO fun Z=>rfl
 have O:=F.ok
 have kx:=KC K F
 have es:∀ p,Ev C μ [(("self":Str),AV.obj x)] (.Name "self" p) (.obj x):=fun p=>Ev.loc O rfl (F.kindOf rfl) rfl
 refine Xs.seq (X1.ite (b:=false) (Φ:=fun f μ' l'=>f=.nxt/\μ'=μ/\l'=[(("self":Str),AV.obj x)]) (Tst.cmp rfl (Ev.attr kx (es _) rfl T.x T.dx rfl rfl rfl rfl rfl (by simp)) (Ev.none _ _) (QA r)) (fun h=>by exact fT h) fun Z=>Xs.nil ⟨rfl,rfl,rfl⟩) ?_
 (intro f μ1 l1 Z0;refine xAA Z0 fun Z1 Z2 Z3=>?_;clear Z0;subst Z1;subst Z2;subst Z3)
 cases hlt:decide (nf < po) with
 | true =>
  refine Xs.ret (Em.ofEv (Ev.or_tt (Ev.cmp rfl (Ev.attr kx (es _) rfl T.x T.dx rfl rfl rfl rfl rfl (by simp)) (Ev.attr kx (es _) rfl T.x T.dx rfl rfl rfl rfl rfl (by simp)) (hlt▸Qo O Me)) (WN _ _))) ?_
  (intro d2 μ2 Z0;refine xA Z0 fun Z1 Z2=>?_;clear Z0;subst Z1;subst Z2)
  exact ⟨rfl,rfl⟩
 | false =>
  refine Xs.ret (Em.ofEv (Ev.or_ff (Ev.cmp rfl (Ev.attr kx (es _) rfl T.x T.dx rfl rfl rfl rfl rfl (by simp)) (Ev.attr kx (es _) rfl T.x T.dx rfl rfl rfl rfl rfl (by simp)) (hlt▸Qo O Me)) (WN _ _)
   (Ev.call (Ev.bui O rfl (F.kindOf rfl) rfl) trivial rfl (Evs.cons rfl (Ev.attr kx (es _) rfl T.x T.dx rfl rfl rfl rfl rfl (by simp)) Evs.nil) (KU hr (by rw [sizeLine_eq];exact oA ‹_› rfl))))) ?_
  (intro d2 μ2 Z0;refine xA Z0 fun Z1 Z2=>?_;clear Z0;subst Z1;subst Z2)
  exact ⟨rfl,rfl⟩
section
variable {E:Ent}{C:Cx}{μ:Mu}{l:List (Str×AV)}{Φ:Zq}{r:List Stmt}
theorem Xs.setNp {o e:Expr}{p pos:Pos}{x:Addr}{node np np':Int}{succ:Addr} (kx:(Kf C).In C.h₁) (he:Ev C μ l e (.dat (.int np'))) (ho:Ev C μ l o (.obj x)) (hx:μ x=some (.info node np succ)) (hw:E.Wr x)
  (hsw:swapsWith e (some (.Attribute o "npredecessors" p)) pos.line C.env=pure false) (hr:Xs E C (upd μ x (.info node np' succ)) l r Φ):Xs E C μ l (.Assign [.Attribute o "npredecessors" p] e pos::r) Φ:=by
 intro N s I Q X q xx
 refine wpAny_execs_cons (plainObj_wpAny_Assign_Attribute (he N s I.st _ _ fun v h1 t1 P1 R1=>?_) hsw)
 obtain ⟨_,rfl⟩:=Rd.invI R1
 refine ho N { s with heap:=h1,toks:=t1 } (I.st.pu P1) _ _ fun ov h2 t2 P2 R2=>?_
 subst R2
 refine HH (s:={ s with heap:=h2,toks:=t2 }) (np':=np') kx ((I.pu P1).pu P2) hx hw fun h3 t3 b3 c3 g3=>?_
 have K2:Kp C μ s.heap h2:=.ofPu (P1.trans P2)
 have K3:Kp C μ s.heap h3:=K2.trans c3 (.refl N μ s.heap)
 have G3:Gr N N μ (upd μ x (.info node np' succ)) s.heap:=(Gr.refl N μ s.heap).trans g3 K2.al
 exact hr N { s with heap:=h3,toks:=t3 } b3 Q X (fun fl f N'' μ'' l'' h'' tk' a' b' c' d' e'=>q fl f N'' μ'' l'' h'' tk' a' b' (K3.trans c' G3) (G3.trans d' K3.al) e') (xx.after (s':={ s with heap:=h3,toks:=t3 }) K3 G3 fun Z Z=>rfl)
theorem Xs.augAttr {o e:Expr}{p pos:Pos}{op:Operator}{x dx cl:Addr}{fs:List (Str×AV)}{name:Str}{a b d:AV}{attr:Option Value} (kx:(Kf C).In C.h₁) (ho:Ev C μ l o (.obj x)) (he:Ev C μ l e b) (hop:Op2 C μ (inplaceOp op) a b d)
  (hx:μ x=some (.inst cl dx)) (hd:μ dx=some (.ns fs)) (hl:fs.lookup name=some a) (hg:plainGet (Kf C) cl name=true) (hh:hasDictIn (Kf C) cl=true) (ha:findIn (Kf C) (.ref cl) name=some attr) (hn:noGet (Kf C) attr=true) (hcal:∀ i,a≠.cal (.builtin i)) (hw:E.Wr dx)
  (hs:findIn (Kf C) (.ref cl) "__setattr__"=some (some (.builtin "object.__setattr__"))) (hp:plainOver (Kf C) cl=true) (ht:takerIn (Kf C) cl name=some none) (hz:fs.length≤900)
  (hr:Xs E C (upd μ dx (.ns (WK fs name d))) l r Φ):Xs E C μ l (.AugAssign (.Attribute o name p) op e pos::r) Φ:=by
 intro N s I Q X q xx
 refine wpAny_execs_cons (wpAny_AugAssign_AttributeAny (ho N s I.st _ _ fun ov h1 t1 P1 R1=>?_))
 subst R1
 have S1:=I.st.pu P1
 refine Db (s:={ s with heap:=h1,toks:=t1 }) kx S1.wd hx hd hl hg hh ha hn hcal fun va t1' Ra=>?_
 refine he N { s with heap:=h1,toks:=t1' } S1 _ _ fun vb h2 t2 P2 R2=>?_
 refine hop N { s with heap:=h2,toks:=t2 } va vb (S1.pu P2).wd (Ra.mono (S1.fz P2)) R2 _ _ fun v h3 t3 P3 R3=>?_
 have P13:=P1.trans (P2.trans P3)
 refine Be (s:={ s with heap:=h3,toks:=t3 }) kx (I.pu P13) hx hd hw hs hp ht hh hz R3 fun h4 t4 b4 c4 g4=>?_
 have K3:Kp C μ s.heap h3:=.ofPu P13
 have K4:Kp C μ s.heap h4:=K3.trans c4 (.refl N μ s.heap)
 have G4:Gr N N μ (upd μ dx (.ns (WK fs name d))) s.heap:=(Gr.refl N μ s.heap).trans g4 K3.al
 exact hr N { s with heap:=h4,toks:=t4 } b4 Q X (fun fl f N'' μ'' l'' h'' tk' a' b' c' d' e'=>q fl f N'' μ'' l'' h'' tk' a' b' (K4.trans c' G4) (G4.trans d' K4.al) e') (xx.after (s':={ s with heap:=h4,toks:=t4 }) K4 G4 fun Z Z=>rfl)
theorem Xs.augNp {o e:Expr}{p pos:Pos}{op:Operator}{x:Addr}{node np np':Int}{succ:Addr}{b:AV} (kx:(Kf C).In C.h₁) (ho:Ev C μ l o (.obj x)) (he:Ev C μ l e b) (hop:Op2 C μ (inplaceOp op) (.dat (.int np)) b (.dat (.int np')))
  (hx:μ x=some (.info node np succ)) (hw:E.Wr x) (hr:Xs E C (upd μ x (.info node np' succ)) l r Φ):Xs E C μ l (.AugAssign (.Attribute o "npredecessors" p) op e pos::r) Φ:=by
 intro N s I Q X q xx
 refine wpAny_execs_cons (wpAny_AugAssign_AttributeAny (ho N s I.st _ _ fun ov h1 t1 P1 R1=>?_))
 subst R1
 have S1:=I.st.pu P1
 refine JH (s:={ s with heap:=h1,toks:=t1 }) kx U3 S1.wd hx rfl fun va t1' Ra=>?_
 refine he N { s with heap:=h1,toks:=t1' } S1 _ _ fun vb h2 t2 P2 R2=>?_
 refine hop N { s with heap:=h2,toks:=t2 } va vb (S1.pu P2).wd (RdA.mono (d:=.dat (.int np)) (S1.fz P2) Ra) R2 _ _ fun v h3 t3 P3 R3=>?_
 obtain ⟨_,rfl⟩:=Rd.invI R3
 have P13:=P1.trans (P2.trans P3)
 refine HH (s:={ s with heap:=h3,toks:=t3 }) (np':=np') kx (I.pu P13) hx hw fun h4 t4 b4 c4 g4=>?_
 have K3:Kp C μ s.heap h3:=.ofPu P13
 have K4:Kp C μ s.heap h4:=K3.trans c4 (.refl N μ s.heap)
 have G4:Gr N N μ (upd μ x (.info node np' succ)) s.heap:=(Gr.refl N μ s.heap).trans g4 K3.al
 exact hr N { s with heap:=h4,toks:=t4 } b4 Q X (fun fl f N'' μ'' l'' h'' tk' a' b' c' d' e'=>q fl f N'' μ'' l'' h'' tk' a' b' (K4.trans c' G4) (G4.trans d' K4.al) e') (xx.after (s':={ s with heap:=h4,toks:=t4 }) K4 G4 fun Z Z=>rfl)
theorem Br {t:Addr}{ds:List PyData} (ht:μ t=some (.list (ds.map .dat))) (hz:ds.length≤sizeLine):Fn C μ (.type "tuple") [.obj t] (.dat (.tuple ds)):=by
 intro N s vs W R Q X q
 (refine xEA R.inv1 fun v Z0 r=>?_;subst Z0)
 subst r
 refine QF (Z7 W ht) fun us hl Z hr=>?_
 have hd:Rds N s.heap us ds:=hr.datas (QK ds)
 refine call_tuple_list hl (fun h' k=>?_) (by rw [List.size_toArray,hd.length];exact hz)
 have P:Pu C.Fs s.heap h':=.of_keeps k
 exact q _ _ s.toks (P.trans (.push _ _ _)) (Rd.newTuple (W.pu P).nhi (hd.mono (P.fz W.fsN)) hz)
end
structure Nd where
 n:Int
 ia:Addr
 np:Int
 sa:Addr
 su:List Int
structure QP (μ:Mu) (d:Addr) (ns:List Nd):Prop where
 dict:μ d=some (.dict (ns.map fun t=>(t.n,.obj t.ia)))
 info:∀ t∈ns,μ t.ia=some (.info t.n t.np t.sa)
 succ:∀ t∈ns,μ t.sa=some (.list (t.su.map fun i=>.dat (.int i)))
 nd:(ns.map (·.n)).Nodup
 sd:(ns.map (·.sa)).Nodup
noncomputable def ZI (ns:List Nd) (n np:Int):List Nd:=ns.map fun t=>if t.n=n then { t with np:=np } else t
theorem QP.get {μ:Mu}{d:Addr}{ns:List Nd} (H:QP μ d ns) {t:Nd} (ht:t∈ns):Qt (ns.map fun t=>(t.n,AV.obj t.ia)) t.n=some (.obj t.ia):=by
 have nd:=H.nd
 clear H
 induction ns with
 | nil=>exact absurd ht List.not_mem_nil
 | cons s r ih =>
  rw [List.map_cons,List.nodup_cons] at nd
  rcases List.mem_cons.mp ht with rfl|ht
  ·simp [Qt]
  ·have hne:s.n≠t.n:=fun e=>nd.1 (e▸List.mem_map.mpr ⟨t,ht,rfl⟩)
   have:=ih ht nd.2
   unfold Qt at this ⊢
   rw [List.map_cons,List.find?_cons]
   simp only [hne,decide_false]
   exact this
theorem QP.setNp {μ:Mu}{d:Addr}{ns:List Nd} (H:QP μ d ns) {t:Nd} (ht:t∈ns) (np:Int):QP (upd μ t.ia (.info t.n np t.sa)) d (ZI ns t.n np):=by
 have hd:d≠t.ia:=kd2 H.dict (H.info t ht) rfl
 refine ⟨?_,fun s hs=>?_,fun s hs=>?_,?_,?_⟩
 ·refine Eq.trans (Za hd) (Eq.trans H.dict ?_)
  unfold ZI
  rw [List.map_map]
  congr 2
  exact List.map_congr_left fun s Z=>by simp only [Function.comp];split <;> rfl
 ·(refine xEA (List.mem_map.mp hs) fun u hu Z0=>?_;subst Z0)
  by_cases q:u.n=t.n
  ·have hut:u=t:=by
    have i1:∀ {ns:List Nd},(ns.map (·.n)).Nodup->u∈ns->t∈ns->u=t:=fun {ns} nd h1 h2=>by
     induction ns with
     | nil=>exact absurd h1 List.not_mem_nil
     | cons s r ih =>
      rw [List.map_cons,List.nodup_cons] at nd
      rcases List.mem_cons.mp h1 with e1|h1'
      ·rcases List.mem_cons.mp h2 with e2|h2'
       ·rw [e1,e2]
       ·exact (nd.1 (List.mem_map.mpr ⟨t,h2',by rw [← q,e1]⟩)).elim
      ·rcases List.mem_cons.mp h2 with e2|h2'
       ·exact (nd.1 (List.mem_map.mpr ⟨u,h1',by rw [q,e2]⟩)).elim
       ·exact ih nd.2 h1' h2'
    exact i1 H.nd hu ht
   subst hut
   simp [Zb]
  ·rw [if_neg q]
   have:u.ia≠t.ia:=fun z=>by
    have h1:=H.info u hu
    rw [z,H.info t ht] at h1
    injection (Option.some.inj h1) with a1 a2 a3
    exact q a1.symm
   exact Eq.trans (Za this) (H.info u hu)
 ·(refine xEA (List.mem_map.mp hs) fun u hu Z0=>?_;subst Z0)
  have e1:(if u.n=t.n then { u with np:=np } else u).sa=u.sa:=by split <;> rfl
  have e2:(if u.n=t.n then { u with np:=np } else u).su=u.su:=by split <;> rfl
  rw [e1,e2]
  have:u.sa≠t.ia:=kd2 (H.succ u hu) (H.info t ht) rfl
  exact Eq.trans (Za this) (H.succ u hu)
 ·have:(ZI ns t.n np).map (·.n)=ns.map (·.n):=by
   unfold ZI;rw [List.map_map];exact List.map_congr_left fun s Z=>by simp only [Function.comp];split <;> rfl
  rw [this];exact H.nd
 ·have:(ZI ns t.n np).map (·.sa)=ns.map (·.sa):=by
   unfold ZI;rw [List.map_map];exact List.map_congr_left fun s Z=>by simp only [Function.comp];split <;> rfl
  rw [this];exact H.sd
theorem UL {ns:List Nd}{n np:Int}{t:Nd} (h:t∈ZI ns n np):∃ u∈ns,u.n=t.n/\u.ia=t.ia/\u.sa=t.sa/\u.su=t.su:=by
 (refine xEA (List.mem_map.mp h) fun u hu Z0=>?_;subst Z0)
 refine ⟨u,hu,?_⟩
 split <;> exact ⟨rfl,rfl,rfl,rfl⟩
theorem DH {ns:List Nd} (n np:Int) {u:Nd} (h:u∈ns):∃ t∈ZI ns n np,t.n=u.n/\t.ia=u.ia/\t.sa=u.sa/\t.su=u.su:=by
 refine ⟨_,List.mem_map.mpr ⟨u,h,rfl⟩,?_⟩
 split <;> exact ⟨rfl,rfl,rfl,rfl⟩
noncomputable def outs (ns:List Nd) (rs:List Int):List Nd:=rs.foldl (fun ns n=>ZI ns n (-1)) ns
theorem Vy:∀ (rs:List Int) {ns:List Nd}{t:Nd},t∈outs ns rs->∃ u∈ns,u.n=t.n/\u.ia=t.ia/\u.sa=t.sa/\u.su=t.su
 | [],_,t,h=>⟨t,h,rfl,rfl,rfl,rfl⟩
 | n::rs,ns,t,h=>by
  refine ZU (Vy rs h) fun u hu a b c d=>?_
  refine ZU (UL hu) fun v hv a' b' c' d'=>?_
  exact ⟨v,hv,a'.trans a,b'.trans b,c'.trans c,d'.trans d⟩
theorem BD:∀ (rs:List Int) {ns:List Nd}{u:Nd},u∈ns->∃ t∈outs ns rs,t.n=u.n/\t.ia=u.ia
 | [],_,u,h=>⟨u,h,rfl,rfl⟩
 | n::rs,ns,u,h=>by
  refine ZU (DH n (-1) h) fun v hv a b Z Z=>?_
  refine QF (BD rs hv) fun t ht a' b'=>?_
  exact ⟨t,ht,a'.trans a,b'.trans b⟩
theorem G_ (ns:List Nd) (rs:List Int) (n:Int):outs ns (rs++[n])=ZI (outs ns rs) n (-1):=by unfold outs;exact List.foldl_append
theorem WY {C:Cx}{μ:Mu} (xs:List PyData):Fn C μ (.builtin "len") [.dat (.tuple xs)] (.dat (.int xs.length)):=by
 intro N s vs W R Q E q
 (refine xEA R.inv1 fun v Z0 r=>?_;subst Z0)
 (refine Zf (Rd.tupleE r) fun a us Z0 na la ra za=>?_;subst Z0)
 refine PyProof.Rows.len_tuple la (by rw [List.size_toArray,ra.length];rw [sizeLine_eq] at za;omega) ?_
 rw [List.size_toArray,ra.length]
 exact q _ _ _ (.refl _ _) (.int _ _)
noncomputable abbrev Zc (rs:List Int):List PyData:=rs.map .int
set_option maxHeartbeats 2000000
theorem Kq {w:World}{h₁:Heap} (K:K1 w h₁) {k:Nat}{μ:Mu}{x dx d r:Addr}{po nf:Int}{ns:List Nd}{rs:List Int} (T:Ua μ x dx d (.obj r) po nf) (H0:QP μ d ns) (hr:μ r=some (.list ((Zc rs).map .dat))) (hz:rs.length≤1000) (hin:∀ n∈rs,∃ t∈ns,t.n=n) (hrs:∀ t∈ns,t.sa≠r) :
  MFn w h₁ (k+1) μ 133 [.obj x] (fun y=>y=dx∨y=r∨∃ t∈ns,y=t.ia)
   (fun d' μ'=>d'=.dat (.tuple (Zc rs))/\Ua μ' x dx d (.obj r) (po+rs.length) nf/\QP μ' d (outs ns rs)/\μ' r=some (.list [])/\∀ y,y≠dx->y≠r->(∀ t∈ns,y≠t.ia)->μ' y=μ y) (fun Z Z Z=>False):=by
 refine MFn.of_body (ps:=["self"]) K.nms ⟨⟨_,K.kx 133 _ rfl,rfl⟩,Zs K rfl rfl rfl,rfl,rfl,rfl,rfl,by decide,by decide,by decide,rfl,rfl,rfl,fun vs hl=>?_⟩ rfl fun E C F H hD hold Z=>?_
 ·revert vs;exact KO fun Z=>rfl
 refine Xs.post fun Ψ0 mk0=>?_
 have O:=F.ok
 have kx:=KC K F
 have wdx:E.Wr dx:=.inl (by rw [hD];exact .inl rfl)
 have wr:E.Wr r:=.inl (by rw [hD];exact .inr (.inl rfl))
 have wia:∀ t∈ns,E.Wr t.ia:=fun t ht=>.inl (by rw [hD];exact .inr (.inr ⟨t,ht,rfl⟩))
 have es:∀ (μ':Mu) (l':List (Str×AV)) p,Has l' "self" (.obj x)->Ev C μ' l' (.Name "self" p) (.obj x):=fun μ' l' p h=>Ev.loc O h (F.kindOf rfl) rfl
 refine Xs.seq (X1.ite (b:=false) (Φ:=fun f μ' l'=>f=.nxt/\μ'=μ/\l'=[(("self":Str),AV.obj x)]) (Tst.cmp rfl (Ev.attr kx (es _ _ _ rfl) rfl T.x T.dx rfl rfl rfl rfl rfl (by simp)) (Ev.none _ _) (QA r)) (fun h=>by exact fT h) fun Z=>Xs.nil ⟨rfl,rfl,rfl⟩) ?_
 (intro f μ1 l1 Z0;refine xAA Z0 fun Z1 Z2 Z3=>?_;clear Z0;subst Z1;subst Z2;subst Z3)
 refine Xs.assign H (Em.ofEv (Ev.call (Ev.bui O rfl (F.kindOf rfl) rfl) trivial rfl (Evs.cons rfl (Ev.attr kx (es _ _ _ rfl) rfl T.x T.dx rfl rfl rfl rfl rfl (by simp)) Evs.nil) (Br hr (by rw [List.length_map,sizeLine_eq];exact oA ‹_› rfl)))) (Zx F rfl) rfl fun d2 μ2 hd2=>?_
 (refine xA hd2 fun Z0 Z1=>?_;clear hd2;subst Z0;subst Z1)
 refine Xs.assign H (Em.ofEv (Ev.attr kx (es _ _ _ rfl) rfl T.x T.dx rfl rfl rfl rfl rfl (by simp))) (Zx F rfl) rfl fun d2 μc hd2=>?_
 (refine xA hd2 fun Z0 Z1=>?_;clear hd2;subst Z0;subst Z1)
 have xia:∀ t∈ns,x≠t.ia:=fun t ht q=>by have:=T.x;rw [q,H0.info t ht] at this;cases this
 have dxia:∀ t∈ns,dx≠t.ia:=fun t ht q=>by have:=T.dx;rw [q,H0.info t ht] at this;cases this
 have ria:∀ t∈ns,r≠t.ia:=fun t ht q=>by have:=hr;rw [q,H0.info t ht] at this;cases this
 refine Xs.seq (X1.forTuple (ds:=Zc rs) (Φ:=fun f μ' l'=>f=.nxt/\Has l' "self" (.obj x)/\Has l' "result" (.dat (.tuple (Zc rs)))/\QP μ' d (outs ns rs)/\∀ y,(∀ t∈ns,y≠t.ia)->μ' y=μc y) O H (Zx F rfl) (fun Z=>rfl) (Ev.loc O rfl (F.kindOf rfl) rfl)
  (fun i μ' l'=>Has l' "self" (.obj x)/\Has l' "result" (.dat (.tuple (Zc rs)))/\Has l' "n2i" (.obj d)/\QP μ' d (outs ns (rs.take i))/\∀ y,(∀ t∈ns,y≠t.ia)->μ' y=μc y) ⟨rfl,rfl,rfl,H0,fun Z Z=>rfl⟩ ?_ ?_) ?_
 ·(intro i μ3 l3 dd hx Z0;refine Qe Z0 fun k1 k2 k3 HN fr=>?_;clear Z0)
  replace hx:=Eq.trans (Eq.symm (List.getElem?_map)) hx
  (refine xEA (Option.map_eq_some_iff.mp hx) fun n hn Z0=>?_;subst Z0)
  have hmem:n∈rs:=List.mem_of_getElem? hn
  refine xEA (hin n hmem) fun u hu hun=>?_
  refine QF (BD (rs.take i) hu) fun t ht htn hti=>?_
  have htn':t.n=n:=htn.trans hun
  subst htn'
  refine Xs.setNp kx (Ev.glob O rfl (F.kindOf rfl) rfl) (Ev.dictItem (Ev.loc O (show Has _ "n2i" _ from k3) (F.kindOf rfl) rfl) HN.dict (Ev.loc O rfl (F.kindOf rfl) rfl) (HN.get ht) fun Z Z=>rfl) (HN.info t ht) (by rw [hti];exact wia u hu) rfl (Xs.nil ⟨k1,k2,k3,?_,fun y hy=>?_⟩)
  ·have e:rs.take (i+1)=rs.take i++[t.n]:=by rw [List.take_add_one,hn];rfl
   rw [e,G_]
   exact HN.setNp ht (-1)
  ·rw [Za (by rw [hti];exact hy u hu)];exact fr y hy
 ·(intro μ3 l3 Z0;refine Qe Z0 fun k1 k2 k3 HN fr=>?_;clear Z0)
  rw [List.length_map,List.take_length] at HN
  exact Xs.nil ⟨rfl,k1,k2,HN,fr⟩
 ·(intro f μ3 l3 Z0;refine Qe Z0 fun Z1 k1 k2 HN fr=>?_;clear Z0;subst Z1)
  have T3x:μ3 x=some (.inst 171 dx):=(fr x xia).trans T.x
  have T3d:=(fr dx dxia).trans T.dx
  have hr3:=(fr r ria).trans hr
  refine Xs.expr H (Em.meth GQ rfl rfl rfl (by decide) (Ev.attr kx (es _ _ _ k1) rfl T3x T3d rfl rfl rfl rfl rfl (by simp)) (ZN hr3) Evs.nil (Hu (Θ:=fun Z Z Z=>False) hr3 wr (by simp [sizeLine_eq];exact oA ‹_› rfl)) (fun Z Z Z z=>z.elim)) rfl fun d4 μ4 hd4=>?_
  (refine xA hd4 fun Z0 Z1=>?_;clear hd4;subst Z0;subst Z1)
  have rdx:dx≠r:=kd2 T3d hr3 rfl
  have rx:x≠r:=kd2 T3x hr3 rfl
  have T4x:upd μ3 r (.list []) x=some (.inst 171 dx):=by exact Eq.trans (Za rx) T3x
  have T4d:=(Za (μ:=μ3) (m:=MO.list []) rdx).trans T3d
  refine Xs.augAttr kx (es _ _ _ k1) (Ev.call (Ev.bui O rfl (F.kindOf rfl) rfl) trivial rfl (Evs.cons rfl (Ev.loc O k2 (F.kindOf rfl) rfl) Evs.nil) ?_) (Vu po rs.length) T4x T4d rfl rfl rfl rfl rfl (by simp) wdx rfl rfl rfl (by simp) ?_
  ·have:=WY (C:=C) (μ:=upd μ3 r (.list [])) (Zc rs)
   rwa [List.length_map] at this
  ·refine Xs.ret (Em.ofEv (Ev.loc O k2 (F.kindOf rfl) rfl)) ?_
   (intro d5 μ5 Z0;refine xA Z0 fun Z1 Z2=>?_;clear Z0;subst Z1;subst Z2)
   have xdx:x≠dx:=kd2 T.x T.dx rfl
   have ddx:d≠dx:=kd2 HN.dict T3d rfl
   have dr:d≠r:=kd2 HN.dict hr3 rfl
   refine mk0 _ _ _ ⟨rfl,⟨?_,?_⟩,⟨?_,fun t ht=>?_,fun t ht=>?_,HN.nd,HN.sd⟩,?_,fun y n1 n2 n3=>?_⟩
   ·exact Eq.trans (Za xdx) T4x
   ·exact (Zb _ _ _)
   ·exact Eq.trans (Za ddx) (Eq.trans (Za dr) HN.dict)
   ·refine ZU (Vy rs ht) fun u hu Z a2 Z Z=>?_
    rw [Za (by rw [← a2];exact (dxia u hu).symm),Za (by rw [← a2];exact (ria u hu).symm)];exact HN.info t ht
   ·refine ZU (Vy rs ht) fun u hu Z Z a3 Z=>?_
    have n1:t.sa≠dx:=kd2 (HN.succ t ht) T3d rfl
    rw [Za n1,Za (by rw [← a3];exact hrs u hu)];exact HN.succ t ht
   ·exact Eq.trans (Za rdx.symm) (Eq.trans (Zb _ _ _) rfl)
   ·exact Eq.trans (Za n1) (Eq.trans (Za n2) (fr y n3))
end Mine
namespace Mine
open PySem PySem.W PyProof.Rows PySem.Calls
section
variable {E:Ent}{C:Cx}{μ:Mu}{l:List (Str×AV)}{Φ:Zq}
theorem X1.iteNamed {x:Str}{e re:Expr}{op:CmpOp}{p q' pos pos':Pos}{body orelse:List Stmt}{a b:AV}{c:Bool} (H:Hdr C) (hm:behindInMarks op re=false) (he:Ev C μ l e a) (hk:Zp C x) (hb:Ev C μ ((x,a)::l) re b) (hop:Op2 C μ (compareOp op) a b (.dat (.bool c)))
  (h1:c=true->Xs E C μ ((x,a)::l) body Φ) (h2:c=false->Xs E C μ ((x,a)::l) orelse Φ):X1 E C μ l (.If (.Compare (.NamedExpr (.Name x p) e q') [op] [re] pos) body orelse pos') Φ:=by
 intro N s I Q X q xx
 refine wpAny_If (wpAny_isTrue_Compare1 (wpAny_NamedExpr (he N s I.st _ _ fun va g1 t1 P1 R1=>?_)) hm)
 refine PyProof.Rows.assign_Name ((I.pu P1).store H.kind (s:={ s with heap:=g1,toks:=t1 }) R1 hk fun g2 t2 I2 fz2 K2=>?_)
 refine hb N { s with heap:=g2,toks:=t2 } I2.st _ _ fun vb g3 t3 P3 R3=>?_
 refine hop N { s with heap:=g3,toks:=t3 } va vb (I2.st.pu P3).wd ((R1.mono fz2).mono (I2.st.fz P3)) R3 _ _ fun v g4 t4 P4 R4=>?_
 obtain rfl:=Rd.invB R4
 refine wpAny_truthy_bool ?_
 have K4:Kp C μ s.heap g4:=((Kp.ofPu P1).trans K2 (.refl N μ s.heap)).trans (.ofPu (P3.trans P4)) (.refl N μ s.heap)
 have go:∀ bd,Xs E C μ ((x,a)::l) bd Φ->wpAny (model pg C.w) C.A (execs bd C.env) Q X { s with heap:=g4,toks:=t4 }:=fun bd hb =>
  hb N { s with heap:=g4,toks:=t4 } (I2.pu (P3.trans P4)) Q X (fun fl f N'' μ'' l'' h'' tk' a' b' c' d' e'=>q fl f N'' μ'' l'' h'' tk' a' b' (K4.trans c' (.refl N μ s.heap)) ((Gr.refl N μ s.heap).trans d' K4.al) e') (xx.after (s':={ s with heap:=g4,toks:=t4 }) K4 (.refl _ _ _) fun Z Z=>rfl)
 cases c with
 | true=>exact go _ (h1 rfl)
 | false=>exact go _ (h2 rfl)
end
end Mine
namespace Mine
open PySem PySem.W PyProof.Rows PySem.Calls PySem.MeetsSeq
set_option maxHeartbeats 2000000
noncomputable def ZH (st:List Nd×List Int) (s:Int):List Nd×List Int :=
 match st.1.find? (fun t=>t.n=s) with
 | some t=>(ZI st.1 s (t.np - 1),if t.np - 1=0 then st.2++[s] else st.2)
 | none=>st
noncomputable def QX (st:List Nd×List Int) (n:Int):List Nd×List Int :=
 match st.1.find? (fun t=>t.n=n) with
 | some t=>t.su.foldl ZH (ZI st.1 n (-2),st.2)
 | none=>st
noncomputable def ZP (st:List Nd×List Int) (rs:List Int):List Nd×List Int:=rs.foldl QX st
noncomputable def ZA (a b:List Nd):Prop:=a.map (fun t=>(t.n,t.ia,t.sa,t.su))=b.map fun t=>(t.n,t.ia,t.sa,t.su)
theorem ZA.set (ns:List Nd) (n np:Int):ZA (ZI ns n np) ns:=by
 delta ZA ZI
 refine Eq.trans List.map_map ?_
 exact List.map_congr_left fun t Z=>by simp only [Function.comp];split <;> rfl
theorem ZA.trans {a b c:List Nd} (x:ZA a b) (y:ZA b c):ZA a c:=Eq.trans x y
theorem ZA.refl (a:List Nd):ZA a a:=rfl
theorem ZA.dec (st:List Nd×List Int) (s:Int):ZA (ZH st s).1 st.1:=by
 delta ZH;split
 ·exact .set _ _ _
 ·exact .refl _
theorem ZA.decs:∀ (su:List Int) (st:List Nd×List Int),ZA (su.foldl ZH st).1 st.1
 | [],st=>.refl _
 | s::su,st=>(ZA.decs su (ZH st s)).trans (.dec st s)
theorem ZA.done (st:List Nd×List Int) (n:Int):ZA (QX st n).1 st.1:=by
 delta QX;split
 ·exact (ZA.decs _ _).trans (.set _ _ _)
 ·exact .refl _
theorem ZA.dones:∀ (rs:List Int) (st:List Nd×List Int),ZA (ZP st rs).1 st.1
 | [],st=>.refl _
 | n::rs,st=>(ZA.dones rs (QX st n)).trans (.done st n)
theorem ZA.mem {a b:List Nd} (x:ZA a b) {t:Nd} (ht:t∈a):∃ u∈b,u.n=t.n/\u.ia=t.ia/\u.sa=t.sa/\u.su=t.su:=by
 have:(t.n,t.ia,t.sa,t.su)∈b.map fun t=>(t.n,t.ia,t.sa,t.su):=by rw [← x];exact List.mem_map.mpr ⟨t,ht,rfl⟩
 refine xEA (List.mem_map.mp this) fun u hu e=>?_
 simp only [Prod.mk.injEq] at e
 exact ⟨u,hu,e.1,e.2.1,e.2.2.1,e.2.2.2⟩
theorem ZA.symm {a b:List Nd} (x:ZA a b):ZA b a:=Eq.symm x
theorem UF {ns:List Nd} (nd:(ns.map (·.n)).Nodup) {t:Nd} (ht:t∈ns):ns.find? (fun u=>u.n=t.n)=some t:=by
 induction ns with
 | nil=>exact absurd ht List.not_mem_nil
 | cons s r ih =>
  rw [List.map_cons,List.nodup_cons] at nd
  rcases List.mem_cons.mp ht with e|h
  ·rw [e];simp
  ·have hne:s.n≠t.n:=fun e=>nd.1 (e▸List.mem_map.mpr ⟨t,h,rfl⟩)
   refine Eq.trans (List.find?_cons) ?_
   simp only [hne,decide_false]
   exact ih nd.2 h
theorem WD (st:List Nd×List Int) (rs:List Int) (n:Int):ZP st (rs++[n])=QX (ZP st rs) n:=by delta ZP;exact List.foldl_append
theorem K_:∀ (su:List Int) (st:List Nd×List Int),(su.foldl ZH st).2.length≤st.2.length+su.length
 | [],st=>Nat.le_refl _
 | s::su,st=>by
  have h1:=K_ su (ZH st s)
  have h2:(ZH st s).2.length≤st.2.length+1:=by
   delta ZH
   split
   ·simp only
    split
    ·simp
    ·exact Nat.le_add_right _ _
   ·exact Nat.le_add_right _ _
  simp only [List.foldl_cons,List.length_cons]
  lia
theorem Op {C:Cx}{μ:Mu} (a b:Int):Op2 C μ (inplaceOp .Sub) (.dat (.int a)) (.dat (.int b)) (.dat (.int (a - b))):=by
 intro N s va vb W Ra Rb Q E q;obtain ⟨_,rfl⟩:=Rd.invI Ra;obtain ⟨_,rfl⟩:=Rd.invI Rb;exact P.isub_int (q _ _ _ (.refl _ _) (.int _ _))
set_option tactic.hygienic true in
theorem Om {w:World}{h₁:Heap} (K:K1 w h₁) {k:Nat}{μ:Mu}{x dx d r:Addr}{po nf:Int}{ns:List Nd}{rs rd:List Int} (T:Ua μ x dx d (.obj r) po nf) (H0:QP μ d ns) (hr:μ r=some (.list ((Zc rd).map .dat))) (hz:rs.length≤1000)
  (hrs:∀ t∈ns,t.sa≠r) (hsu:∀ t∈ns,∀ s∈t.su,∃ u∈ns,u.n=s) (hok:∀ i n,rs[i]?=some n->∃ t∈(ZP (ns,rd) (rs.take i)).1,t.n=n/\t.np=-1)
  (hb:∀ i,(ZP (ns,rd) (rs.take i)).2.length≤1000) (hb2:∀ t∈ns,t.su.length≤100) :
  MFn w h₁ (k+1) μ 154 (.obj x::(Zc rs).map .dat) (fun y=>y=dx∨y=r∨∃ t∈ns,y=t.ia)
   (fun d' μ'=>d'=.dat .none/\Ua μ' x dx d (.obj r) po (nf+rs.length)/\QP μ' d (ZP (ns,rd) rs).1/\μ' r=some (.list ((Zc (ZP (ns,rd) rs).2).map .dat))/\∀ y,y≠dx->y≠r->(∀ t∈ns,y≠t.ia)->μ' y=μ y) (fun Z Z Z=>False):=by
 refine MFn.of_bodyB (ps:=["self","nodes"]) (ds:=[.obj x,.dat (.tuple (Zc rs))]) K.nms ⟨⟨_,K.kx 154 _ rfl,rfl⟩,Zs K rfl rfl rfl,rfl,rfl,rfl,rfl,by decide,by decide,by decide,rfl,rfl,rfl⟩ rfl (fun A envs N s vs W R Q E' q=>?_) fun E C F H hD hold Z=>?_
 ·cases R with
  | cons r1 r2 =>
   rename_i v rest
   have hd:Rds N s.heap rest (Zc rs):=r2.datas (QK _)
   have hl:(Zc rs).length≤sizeLine:=by rw [List.length_map,sizeLine_eq];exact oA ‹_› rfl
   show wpAny _ _ (if (decide (rest.length+1 > 1) && false)=true then _ else _) Q E' s
   rw [Bool.and_false,if_neg (by decide)]
   show wpAny _ _ (newTuple rest >>= fun t=>pure [(("self":Str),v),(("nodes":Str),t)]) Q E' s
   refine wpAny_bind (wpAny_newTuple ?_ ?_)
   ·refine wpAny_pure ?_
    exact q [v,.ref s.heap.objs.size] _ s.toks (fun b o e=>Heap.get?_push_of_some _ e) (.cons (r1.mono ⟨fun b o Z e=>Heap.get?_push_of_some _ e,fun Z y=>.inl y⟩) (.cons (Rd.newTuple W.nhi hd hl) .nil))
   ·rw [hd.length];exact hl
 refine Xs.post fun Ψ0 mk0=>?_
 have O:=F.ok
 have kx:=KC K F
 have wdx:E.Wr dx:=.inl (by rw [hD];exact .inl rfl)
 have wr:E.Wr r:=.inl (by rw [hD];exact .inr (.inl rfl))
 have wia:∀ t∈ns,E.Wr t.ia:=fun t ht=>.inl (by rw [hD];exact .inr (.inr ⟨t,ht,rfl⟩))
 have es:∀ (μ':Mu) (l':List (Str×AV)) p,Has l' "self" (.obj x)->Ev C μ' l' (.Name "self" p) (.obj x):=fun μ' l' p h=>Ev.loc O h (F.kindOf rfl) rfl
 refine Xs.seq (X1.ite (b:=false) (Φ:=fun f μ' l'=>f=.nxt/\μ'=μ/\l'=[(("self":Str),AV.obj x),(("nodes":Str),AV.dat (.tuple (Zc rs)))]) (Tst.cmp rfl (Ev.attr kx (es _ _ _ rfl) rfl T.x T.dx rfl rfl rfl rfl rfl (by simp)) (Ev.none _ _) (QA r)) (fun h=>by exact fT h) fun Z=>Xs.nil ⟨rfl,rfl,rfl⟩) ?_
 (intro f μ1 l1 Z0;refine xAA Z0 fun Z1 Z2 Z3=>?_;clear Z0;subst Z1;subst Z2;subst Z3)
 refine Xs.assign H (Em.ofEv (Ev.attr kx (es _ _ _ rfl) rfl T.x T.dx rfl rfl rfl rfl rfl (by simp))) (Zx F rfl) rfl fun d2 μc hd2=>?_
 (refine xA hd2 fun Z0 Z1=>?_;clear hd2;subst Z0;subst Z1)
 refine Xs.seq (X1.forTuple (ds:=Zc rs) (Φ:=fun f μ' l'=>f=.nxt/\Ua μ' x dx d (.obj r) po (nf+rs.length)/\QP μ' d (ZP (ns,rd) rs).1/\μ' r=some (.list ((Zc (ZP (ns,rd) rs).2).map .dat))/\∀ y,y≠dx->y≠r->(∀ t∈ns,y≠t.ia)->μ' y=μc y) O H (Zx F rfl) (fun Z=>rfl) (Ev.loc O rfl (F.kindOf rfl) rfl)
  (fun i μ' l'=>Has l' "self" (.obj x)/\Has l' "n2i" (.obj d)/\Ua μ' x dx d (.obj r) po (nf+i)/\QP μ' d (ZP (ns,rd) (rs.take i)).1/\μ' r=some (.list ((Zc (ZP (ns,rd) (rs.take i)).2).map .dat))/\∀ y,y≠dx->y≠r->(∀ t∈ns,y≠t.ia)->μ' y=μc y) ⟨rfl,rfl,by simpa using T,H0,hr,fun Z Z Z Z=>rfl⟩ ?_ ?_) ?_
 ·intro i μ3 l3 dd hx hI
  refine Xs.post fun Ψ1 mk1=>?_
  (refine ZR hI fun k1 k2 T3 HN hr3 fr=>?_;clear hI)
  replace hx:=Eq.trans (Eq.symm (List.getElem?_map)) hx
  (refine xEA (Option.map_eq_some_iff.mp hx) fun n hn Z0=>?_;subst Z0)
  (refine QF (hok i n hn) fun t ht Z0 hnp=>?_;subst Z0)
  refine ZU ((ZA.dones (rs.take i) (ns,rd)).mem ht) fun t0 ht0 a1 a2 a3 a4=>?_
  refine Xs.seq (X1.iteNamed (c:=false) (Φ:=fun f μ' l'=>f=.nxt/\μ'=μ3/\l'=(("nodeinfo":Str),AV.obj t.ia)::(("node":Str),AV.dat (.int t.n))::l3) H rfl
   (Ev.meth Ks rfl rfl rfl (by decide) (Ev.loc O (show Has _ "n2i" _ from k2) (F.kindOf rfl) rfl) (U0 HN.dict) (Evs.cons rfl (Ev.loc O rfl (F.kindOf rfl) rfl) Evs.nil) (by have:=fn_get (C:=C) HN.dict t.n;rwa [HN.get ht] at this)) (Zx F rfl) (Ev.none _ _) (QA t.ia) (fun h=>by exact fT h) fun Z=>Xs.nil ⟨rfl,rfl,rfl⟩) ?_
  (intro f μ4 l4 Z0;refine xAA Z0 fun Z1 Z2 Z3=>?_;clear Z0;subst Z1;subst Z2;subst Z3)
  have info:=HN.info t ht
  rw [hnp] at info
  refine Xs.assign H (Em.ofEv (Ev.slot kx U3 (Ev.loc O (show Has _ "nodeinfo" _ from rfl) (F.kindOf rfl) rfl) rfl info rfl)) (Zx F rfl) rfl fun d5 μ5 hd5=>?_
  (refine xA hd5 fun Z0 Z1=>?_;clear hd5;subst Z0;subst Z1)
  refine Xs.seq (X1.ite (b:=false) (Φ:=fun f μ' l'=>f=.nxt/\μ'=μ5/\l'=(("stat":Str),AV.dat (.int (-1)))::(("nodeinfo":Str),AV.obj t.ia)::(("node":Str),AV.dat (.int t.n))::l3) (Tst.cmp rfl (Ev.loc O rfl (F.kindOf rfl) rfl) (Ev.glob O rfl (F.kindOf rfl) rfl) (Qo O ON)) (fun h=>by exact fT h) fun Z=>Xs.nil ⟨rfl,rfl,rfl⟩) ?_
  (intro f μ6 l6 Z0;refine xAA Z0 fun Z1 hq Z2=>?_;clear Z0;subst Z1;subst Z2)
  subst hq
  refine Xs.setNp kx (Ev.glob O rfl (F.kindOf rfl) rfl) (Ev.loc O (show Has _ "nodeinfo" _ from rfl) (F.kindOf rfl) rfl) info (by rw [← a2];exact wia t0 ht0) rfl ?_
  have HN2:=HN.setNp ht (-2)
  generalize hst:(ZP (ns,rd) (rs.take i))=st at *
  have hfind:st.1.find? (fun u=>u.n=t.n)=some t:=UF HN.nd ht
  have sm:ZA st.1 ns:=by rw [← hst];exact ZA.dones _ _
  have xia:∀ u∈ns,x≠u.ia:=fun u hu q=>by have:=T.x;rw [q,H0.info u hu] at this;cases this
  have dxia:∀ u∈ns,dx≠u.ia:=fun u hu q=>by have:=T.dx;rw [q,H0.info u hu] at this;cases this
  have ria:∀ u∈ns,r≠u.ia:=fun u hu q=>by have:=hr;rw [q,H0.info u hu] at this;cases this
  have rdx:r≠dx:=kd2 hr T.dx rfl
  have rx:r≠x:=kd2 hr T.x rfl
  generalize hs1:((ZI st.1 t.n (-2),st.2):List Nd×List Int)=st1
  have hs11:st1.1=ZI st.1 t.n (-2):=by rw [← hs1]
  have hs12:st1.2=st.2:=by rw [← hs1]
  have sm1:ZA st1.1 ns:=by rw [hs11];exact (ZA.set _ _ _).trans sm
  rw [← hs11] at HN2
  have one:QX st t.n=t.su.foldl ZH st1:=by delta QX;rw [hfind,← hs1]
  refine Xs.seq (X1.forMu (t:=t.sa) (xs:=t.su.map fun i=>.dat (.int i)) (Φ:=fun f μ' l'=>f=.nxt/\Has l' "self" (.obj x)/\Has l' "n2i" (.obj d)/\Ua μ' x dx d (.obj r) po (nf+i)/\QP μ' d (t.su.foldl ZH st1).1/\μ' r=some (.list ((Zc (t.su.foldl ZH st1).2).map .dat))/\∀ y,y≠dx->y≠r->(∀ t∈ns,y≠t.ia)->μ' y=μc y) O H (Zx F rfl) (fun Z=>rfl)
   (Ev.slot kx U6 (Ev.loc O (show Has _ "nodeinfo" _ from rfl) (F.kindOf rfl) rfl) rfl (Zb _ _ _) rfl) ?_
   (fun j μ' l'=>Has l' "self" (.obj x)/\Has l' "n2i" (.obj d)/\Ua μ' x dx d (.obj r) po (nf+i)/\QP μ' d ((t.su.take j).foldl ZH st1).1/\μ' r=some (.list ((Zc ((t.su.take j).foldl ZH st1).2).map .dat))/\∀ y,y≠dx->y≠r->(∀ t∈ns,y≠t.ia)->μ' y=μc y)
   ⟨k1,k2,⟨?_,?_⟩,HN2,?_,fun y n1 n2 n3=>?_⟩ ?_ ?_ ?_) ?_
  ·have:t.sa≠t.ia:=kd2 (HN.succ t ht) (HN.info t ht) rfl
   exact Eq.trans (Za this) (HN.succ t ht)
  ·rw [Za (a2▸xia t0 ht0)];exact T3.x
  ·rw [Za (a2▸dxia t0 ht0)];exact T3.dx
  ·rw [Za (a2▸ria t0 ht0)]
   show _=some (MO.list ((Zc st1.2).map .dat))
   rw [hs12];exact hr3
  ·rw [Za (a2▸n3 t0 ht0)];exact fr y n1 n2 n3
  ·(intro j μ' l' Z0;refine ZR Z0 fun Z Z Z HN' Z Z=>?_;clear Z0)
   have sj:ZA ((t.su.take j).foldl ZH st1).1 st.1:=(ZA.decs _ st1).trans (by rw [hs11];exact ZA.set _ _ _)
   refine ZU (sj.symm.mem ht) fun u hu Z Z b3 b4=>?_
   have:=HN'.succ u hu
   rw [b3,b4] at this
   exact this
  ·(intro j μ7 l7 dd hx7 Z0;refine ZR Z0 fun q1 q2 q3 q4 q5 q6=>?_;clear Z0)
   replace hx7:=Eq.trans (Eq.symm (List.getElem?_map)) hx7
   (refine xEA (Option.map_eq_some_iff.mp hx7) fun sN hsn Z0=>?_;subst Z0)
   have hmem:sN∈t0.su:=by rw [a4];exact List.mem_of_getElem? hsn
   refine xEA (hsu t0 ht0 sN hmem) fun u0 hu0 hu0n=>?_
   have etk:t.su.take (j+1)=t.su.take j++[sN]:=by rw [List.take_add_one,hsn];rfl
   have efo:(t.su.take (j+1)).foldl ZH st1=ZH ((t.su.take j).foldl ZH st1) sN:=by rw [etk,List.foldl_append];rfl
   have sj:ZA ((t.su.take j).foldl ZH st1).1 ns:=(ZA.decs _ st1).trans sm1
   have hlen:((t.su.take j).foldl ZH st1).2.length≤2000:=by
    have h1:=K_ (t.su.take j) st1
    have h2:=hb i
    rw [hst] at h2
    have h3:=hb2 t0 ht0
    rw [a4] at h3
    rw [hs12,List.length_take] at h1
    lia
   simp only [efo]
   generalize (t.su.take j).foldl ZH st1=cur at *
   refine ZU (sj.symm.mem hu0) fun u hu b1 b2 b3 b4=>?_
   have hun:u.n=sN:=b1.trans hu0n
   subst hun
   have hdec:ZH cur u.n=(ZI cur.1 u.n (u.np - 1),if u.np - 1=0 then cur.2++[u.n] else cur.2):=by delta ZH;rw [UF q4.nd hu]
   rw [hdec]
   refine Xs.post fun Ψ2 mk2=>?_
   refine Xs.assign H (Em.ofEv (Ev.dictItem (Ev.loc O (show Has _ "n2i" _ from q2) (F.kindOf rfl) rfl) q4.dict (Ev.loc O rfl (F.kindOf rfl) rfl) (q4.get hu) fun Z Z=>rfl)) (Zx F rfl) rfl fun d8 μ8 hd8=>?_
   (refine xA hd8 fun Z0 Z1=>?_;clear hd8;subst Z0;subst Z1)
   refine Xs.augNp kx (Ev.loc O rfl (F.kindOf rfl) rfl) (Ev.int 1 _ _) (Op u.np 1) (q4.info u hu) (by rw [b2];exact wia u0 hu0) ?_
   have HN8:=q4.setNp hu (u.np - 1)
   have q5':=(Za (μ:=μ8) (m:=MO.info u.n (u.np - 1) u.sa) (b2▸ria u0 hu0:r≠u.ia)).trans q5
   have q3x:=(Za (μ:=μ8) (m:=MO.info u.n (u.np - 1) u.sa) (b2▸xia u0 hu0:x≠u.ia)).trans q3.x
   have q3d:=(Za (μ:=μ8) (m:=MO.info u.n (u.np - 1) u.sa) (b2▸dxia u0 hu0:dx≠u.ia)).trans q3.dx
   have q6':∀ y,y≠dx->y≠r->(∀ t∈ns,y≠t.ia)->upd μ8 u.ia (.info u.n (u.np - 1) u.sa) y=μc y:=fun y n1 n2 n3=>by rw [Za (b2▸n3 u0 hu0)];exact q6 y n1 n2 n3
   refine Xs.seq (X1.ite (b:=u.np - 1 == 0) (Φ:=fun f μ' l'=>f=.nxt/\Has l' "self" (.obj x)/\Has l' "n2i" (.obj d)/\Ua μ' x dx d (.obj r) po (nf+i)/\QP μ' d (ZI cur.1 u.n (u.np - 1))/\μ' r=some (.list ((Zc (if u.np - 1=0 then cur.2++[u.n] else cur.2)).map .dat))/\∀ y,y≠dx->y≠r->(∀ t∈ns,y≠t.ia)->μ' y=μc y)
    (Tst.cmp rfl (Ev.slot kx U3 (Ev.loc O rfl (F.kindOf rfl) rfl) rfl (Zb _ _ _) rfl) (Ev.int 0 _ _) (Qo O UE)) (fun h0=>?_) fun h0=>?_) ?_
   ·have h0':u.np - 1=0:=by simpa using h0
    refine Xs.expr H (Em.meth Qr rfl rfl rfl (by decide) (Ev.attr kx (es _ _ _ q1) rfl q3x q3d rfl rfl rfl rfl rfl (by simp)) (ZN q5') (Evs.cons rfl (Ev.loc O rfl (F.kindOf rfl) rfl) Evs.nil) (QJ (Θ:=fun Z Z Z=>False) q5' wr (by simp [sizeLine_eq];exact oA ‹_› rfl)) (fun Z Z Z z=>z.elim)) rfl fun d9 μ9 hd9=>?_
    (refine xA hd9 fun Z0 Z1=>?_;clear hd9;subst Z0;subst Z1)
    refine Xs.nil ⟨rfl,q1,q2,⟨?_,?_⟩,⟨?_,fun v hv=>?_,fun v hv=>?_,HN8.nd,HN8.sd⟩,?_,fun y n1 n2 n3=>?_⟩
    ·exact Eq.trans (Za rx.symm) q3x
    ·exact Eq.trans (Za rdx.symm) q3d
    ·have:d≠r:=kd2 HN8.dict q5' rfl
     exact Eq.trans (Za this) HN8.dict
    ·have:v.ia≠r:=kd2 (HN8.info v hv) q5' rfl
     exact Eq.trans (Za this) (HN8.info v hv)
    ·refine ZU (((ZA.set cur.1 u.n (u.np - 1)).trans sj).mem hv) fun v0 hv0 Z Z c3 Z=>?_
     rw [Za (by rw [← c3];exact hrs v0 hv0)];exact HN8.succ v hv
    ·rw [Zb,if_pos h0'];simp
    ·exact Eq.trans (Za n2) (q6' y n1 n2 n3)
   ·rw [beq_eq_false_iff_ne] at h0
    refine Xs.nil ⟨rfl,q1,q2,⟨q3x,q3d⟩,HN8,?_,q6'⟩
    rw [if_neg h0];exact q5'
   ·(intro f μ9 l9 Z0;refine xA Z0 fun Z1 hh=>?_;clear Z0;subst Z1)
    exact Xs.nil (mk2 _ _ _ hh)
  ·(intro μ' l' Z0;refine ZR Z0 fun q1 q2 q3 q4 q5 q6=>?_;clear Z0)
   rw [List.length_map] at q4 q5
   rw [List.take_length] at q4 q5
   exact Xs.nil ⟨rfl,q1,q2,q3,q4,q5,q6⟩
  ·(intro f μ' l' Z0;refine xA Z0 fun Z1 Zr0=>?_;refine ZR Zr0 fun q1 q2 q3 q4 q5 q6=>?_;clear Zr0;clear Z0;subst Z1)
   refine Xs.augAttr kx (es _ _ _ q1) (Ev.int 1 _ _) (Vu (nf+i) 1) q3.x q3.dx rfl rfl rfl rfl rfl (by simp) wdx rfl rfl rfl (by simp) (Xs.nil ?_)
   have e:rs.take (i+1)=rs.take i++[t.n]:=by rw [List.take_add_one,hn];rfl
   have xdx:x≠dx:=kd2 T.x T.dx rfl
   have ddx:d≠dx:=kd2 q4.dict q3.dx rfl
   refine mk1 _ _ _ ⟨q1,q2,⟨?_,?_⟩,?_,?_,fun y n1 n2 n3=>?_⟩
   ·exact Eq.trans (Za xdx) q3.x
   ·refine Eq.trans (Zb _ _ _) ?_
    show _=some (MO.ns [("_node2info",.obj d),("_ready_nodes",.obj r),("_npassedout",.dat (.int po)),("_nfinished",.dat (.int (nf+((i+1:Nat):Int))))])
    have:nf+((i+1:Nat):Int)=nf+(i:Int)+1:=by lia
    rw [this];rfl
   ·rw [e,WD,hst,one]
    refine ⟨?_,fun u hu=>?_,fun u hu=>?_,q4.nd,q4.sd⟩
    ·exact Eq.trans (Za ddx) q4.dict
    ·have:u.ia≠dx:=kd2 (q4.info u hu) q3.dx rfl
     exact Eq.trans (Za this) (q4.info u hu)
    ·have:u.sa≠dx:=kd2 (q4.succ u hu) q3.dx rfl
     exact Eq.trans (Za this) (q4.succ u hu)
   ·rw [e,WD,hst,one,Za rdx];exact q5
   ·exact Eq.trans (Za n1) (q6 y n1 n2 n3)
 ·(intro μ3 l3 Z0;refine ZR Z0 fun k1 k2 T3 HN hr3 fr=>?_;clear Z0)
  rw [List.length_map] at T3 HN hr3
  rw [List.take_length] at HN hr3
  exact Xs.nil ⟨rfl,T3,HN,hr3,fr⟩
 ·(intro f μ3 l3 Z0;refine Qe Z0 fun Z1 T3 HN hr3 fr=>?_;clear Z0;subst Z1)
  exact Xs.nil (mk0 _ _ _ ⟨rfl,T3,HN,hr3,fr⟩)
end Mine
namespace Mine
open PySem PySem.W PyProof.Rows PySem.Calls PySem.MeetsSeq
section
variable {E:Ent}{C:Cx}{μ:Mu}{l:List (Str×AV)}{Φ:Zq}{r:List Stmt}
noncomputable def Ems (E:Ent) (C:Cx) (μ:Mu) (l:List (Str×AV)) (es:List Expr) (Ψ:List AV->Mu->Prop) (Φ:Zq):Prop :=
 ∀ (pos:Pos) (N:Addr->Prop) (s:Shared),Im E C N μ l s.heap->∀ (Q:List Value->Shared->Prop) (X:Value->Shared->Prop),
  (∀ vs ds N' μ' h' tk,Ψ ds μ'->Im E C N' μ' l h'->Kp C μ s.heap h'->Gr N N' μ μ' s.heap->Zr N' h' vs ds->Q vs { s with heap:=h',toks:=tk })->Exc E C N μ s Φ X ->
  wpAny (model pg C.w) C.A (spliced (backTo pos (starEach es C.env))) Q X s
theorem Ems.nil {Ψ:List AV->Mu->Prop} (h:Ψ [] μ):Ems E C μ l [] Ψ Φ :=
 fun Z N s I Z Z q Z=>spliced_nil (q _ _ N μ s.heap s.toks h I (.refl _ _ _) (.refl _ _ _) .nil)
theorem Ems.cons {e:Expr}{es:List Expr}{Ψ1:AV->Mu->Prop}{Ψ:List AV->Mu->Prop} (hn:Zu [e]=true) (h:Em E C μ l e Ψ1 Φ) (hr:∀ d μ',Ψ1 d μ'->Ems E C μ' l es (fun ds μ''=>Ψ (d::ds) μ'') Φ):Ems E C μ l (e::es) Ψ Φ:=by
 intro pos N s I Q X q x
 have e1:starEach (e::es) C.env=(false,eval e C.env)::starEach es C.env:=by
  cases e <;> first|rfl|(simp [Zu] at hn)
 rw [e1,Z_]
 refine spliced_cons (h N s I _ _ (fun v d N1 μ1 h1 t1 a b c g R=>?_) x)
 refine hr d μ1 a pos N1 { s with heap:=h1,toks:=t1 } b _ _ (fun vs ds N2 μ2 h2 t2 a2 b2 c2 g2 R2=>?_) (x.after (s':={ s with heap:=h1,toks:=t1 }) c g fun Z Z=>rfl)
 exact q _ (d::ds) N2 μ2 h2 t2 a2 b2 (c.trans c2 g) (g.trans g2 c.al) (.cons (R.mono (b.fz c2 g2)) R2)
theorem Ems.ofEvs {es:List Expr}{ds:List AV} (h:Evs C μ l es ds):Ems E C μ l es (fun ds' μ'=>ds'=ds/\μ'=μ) Φ :=
 fun pos N s I Z Z q Z=>h pos N s I.st _ _ fun vs h' tk P R=>q vs ds N μ h' tk ⟨rfl,rfl⟩ (I.pu P) (.ofPu P) (.refl _ _ _) R
noncomputable def M4:PyData->Option (List PyData)
 | .list xs=>some xs
 | .tuple xs=>some xs
 | _=>none
theorem Gb {N:Addr->Prop}{s:Shared}{v:Value}{d:PyData}{xs:List PyData}{Q:List Value->Shared->Prop}{X:Value->Shared->Prop} (W:Wd C.w C.h₁ C.Fs N μ s.heap) (R:Rd N s.heap v d) (hd:M4 d=some xs)
  (q:∀ vs h' tk,Pu C.Fs s.heap h'->Rds N h' vs xs->Q vs { s with heap:=h',toks:=tk }):StarOf (model pg C.w) C.A X v Q s:=by
 cases d <;> first|(cases hd)|skip
 ·(refine Zf (Rd.listE R) fun a vs Z0 na la ra za=>?_;subst Z0)
  refine VE (id la) fun o ho hc n hdt=>?_
  refine wpAny_bind (wpAny_specialOf la.typeIs F.slot_list_iter.lookup (wpAny_pure ⟨rfl,?_⟩))
  refine wpAny_collect_seq a (.inl rfl) ho hc hdt (fun h' k=>?_) (by rw [List.size_toArray,ra.length];exact za)
  exact q vs _ s.toks (.of_keeps k) (ra.mono (Pu.fz (.of_keeps k) W.fsN))
 ·(refine Zf (Rd.tupleE R) fun a vs Z0 na la ra za=>?_;subst Z0)
  refine VE (id la) fun o ho hc n hdt=>?_
  refine wpAny_bind (wpAny_specialOf (T:="tuple") ⟨o,ho,hc⟩ F.slot_tuple_iter.lookup (wpAny_pure ⟨rfl,?_⟩))
  refine wpAny_collect_seq a (.inr rfl) ho hc hdt (fun h' k=>?_) (by rw [List.size_toArray,ra.length];exact za)
  exact q vs _ s.toks (.of_keeps k) (ra.mono (Pu.fz (.of_keeps k) W.fsN))
theorem Evs.star {e:Expr}{p:Pos}{d:PyData}{xs:List PyData} (h:Ev C μ l e (.dat d)) (hd:M4 d=some xs):Evs C μ l [.Starred e p] (xs.map .dat):=by
 intro pos N s S Q X q
 refine items_star (h N s S _ _ fun v h1 t1 P1 R1=>?_) rfl
 refine Gb (s:={ s with heap:=h1,toks:=t1 }) (S.pu P1).wd R1 hd fun vs h2 t2 P2 R2=>?_
 refine spliced_nil ?_
 rw [List.append_nil]
 exact q vs h2 t2 (P1.trans P2) R2.datsA
theorem Evs.cons' {e:Expr}{r:List Expr}{d:AV}{ds:List AV} (hn:Zu [e]=true) (h:Ev C μ l e d) (hr:Evs C μ l r ds):Evs C μ l (e::r) (d::ds):=by
 intro pos N s S Q X q
 have e1:starEach (e::r) C.env=(false,eval e C.env)::starEach r C.env:=by
  cases e <;> first|rfl|(simp [Zu] at hn)
 rw [e1,Z_]
 refine spliced_cons (h N s S _ _ fun va h1 t1 P1 R1=>?_)
 refine hr pos N _ (S.pu P1) _ _ fun vs h2 t2 P2 R2=>?_
 exact q _ h2 t2 (P1.trans P2) (.cons (R1.mono ((S.pu P1).fz P2)) R2)
theorem Do {f:Value}{pos:Pos}{es:List Expr}{Q:Value->Shared->Prop}{X:Value->Shared->Prop}{s:Shared} (kx:(Kf C).In C.h₁) (hk:keepIn (Kf C) f=true) (hn:Zu es=true)
  (h:wpAny (model pg C.w) C.A (spliced (backTo pos (starEach es C.env))) (fun vs s₁=>(∀ b o,C.h₁.get? b=some o->s₁.heap.get? b=some o)/\wpAny (model pg C.w) C.A (call f vs) Q X s₁) X s) :
  wpAny (model pg C.w) C.A (callWith pos f [] (backTo pos (starEach es C.env)) []) Q X s:=by
 refine callWith_of (P:=(Kf C).In) (by rw [Zj hn];rfl) (keeps_K hk) (Zw hn (wpAny_mono h (fun vs s₁ x=>⟨fun a o e=>x.1 a o (kx a o e),x.2⟩) fun Z Z x=>x))
theorem Em.callM {x:Str}{p pos:Pos}{es:List Expr}{f:Value}{Ψa:List AV->Mu->Prop}{Ψ:AV->Mu->Prop}{Θ:Value->Value->Mu->Prop} (kx:(Kf C).In C.h₁) (hk:keepIn (Kf C) f=true)
  (hf:Ev C μ l (.Name x p) (.cal f)) (hn:Zu es=true) (ha:Ems E C μ l es Ψa Φ) (hF:∀ ds μ',Ψa ds μ'->FnM E C μ' f ds Ψ Θ) (hΘ:∀ c t μ',Θ c t μ'->Φ (.exc c t) μ' l):Em E C μ l (.Call (.Name x p) es [] pos) Ψ Φ:=by
 intro N s I Q X q xx
 refine Call_Name rfl (hf N s I.st _ _ fun fv h1 t1 P1 R1=>?_)
 subst R1
 have K1:Kp C μ s.heap h1:=.ofPu P1
 refine Do kx hk hn (ha pos N _ (I.pu P1) _ _ (fun vs ds N2 μ2 h2 t2 a2 b2 c2 g2 R2=>⟨b2.st.wd.stays,?_⟩) (xx.after (s':={ s with heap:=h1,toks:=t1 }) K1 (.refl _ _ _) fun Z Z=>rfl))
 have K2:Kp C μ s.heap h2:=K1.trans c2 (.refl N μ s.heap)
 have G2:Gr N N2 μ μ2 s.heap:=(Gr.refl N μ s.heap).trans g2 K1.al
 refine hF ds μ2 a2 l N2 _ vs b2 R2 _ _ (fun v d N3 μ3 h3 t3 a3 b3 c3 g3 r3=>?_) fun e cls ctx ph N3 μ3 h3 h4 t3 a3 b3 c3 g3 X3 hp=>?_
 ·exact q v d N3 μ3 h3 t3 a3 b3 (K2.trans c3 G2) (G2.trans g3 K2.al) r3
 ·exact xx e cls ctx ph N3 μ3 l h3 h4 t3 (hΘ _ _ _ a3) b3 (K2.trans c3 G2) (G2.trans g3 K2.al) X3 (hp.elim .inl fun y=>.inr (.inl y))
theorem Em.methM {o:Expr}{name:Str}{apos pos:Pos}{es:List Expr}{T id:String}{a:AV}{Ψa:List AV->Mu->Prop}{Ψ:AV->Mu->Prop}{Θ:Value->Value->Mu->Prop} (m:Mth T name id)
  (hb:attributeBase o name C.env (eval o C.env)=eval o C.env) (hl:(apos.endLine == pos.line)=true) (hn:Zu es=true) (hk:es.length < 30)
  (ho:Ev C μ l o a) (ht:Jo C μ a T) (ha:Ems E C μ l es Ψa Φ) (hF:∀ ds μ',Ψa ds μ'->FnM E C μ' (.builtin id) (a::ds) Ψ Θ) (hΘ:∀ c t μ',Θ c t μ'->Φ (.exc c t) μ' l) :
  Em E C μ l (.Call (.Attribute o name apos) es [] pos) Ψ Φ:=by
 intro N s I Q X q xx
 refine wpAny_Call_method_lateS hb ?_ hl (ho N s I.st _ _ fun va h1 t1 P1 R1=>?_)
 ·have e1:(backTo pos (starEach es C.env)).all (fun x=>!x.1)=true:=by
   have:=Zj (env:=C.env) (pos:=pos) hn
   rw [List.any_eq_false] at this
   rw [List.all_eq_true];intro x hx;simpa using this x hx
  rw [e1]
  simpa [keywordEach,backToKw] using hk
 refine xA (ht N { s with heap:=h1,toks:=t1 } va (I.st.pu P1).wd R1) fun t hd=>?_
 refine ⟨T,id,m.pa,m.slot,m.ty,t,hd,?_⟩
 have K1:Kp C μ s.heap h1:=.ofPu P1
 refine callWith_builtin (Zj hn) (Zw hn (ha pos N _ (I.pu P1) _ _ (fun vs ds N2 μ2 h2 t2 a2 b2 c2 g2 R2=>?_) (xx.after (s':={ s with heap:=h1,toks:=t1 }) K1 (.refl _ _ _) fun Z Z=>rfl)))
 have K2:Kp C μ s.heap h2:=K1.trans c2 (.refl N μ s.heap)
 have G2:Gr N N2 μ μ2 s.heap:=(Gr.refl N μ s.heap).trans g2 K1.al
 refine hF ds μ2 a2 l N2 _ (va::vs) b2 (.cons (R1.mono ((I.pu P1).fz c2 g2)) R2) _ _ (fun v d N3 μ3 h3 t3 a3 b3 c3 g3 r3=>?_) fun e cls ctx ph N3 μ3 h3 h4 t3 a3 b3 c3 g3 X3 hp=>?_
 ·exact q v d N3 μ3 h3 t3 a3 b3 (K2.trans c3 G2) (G2.trans g3 K2.al) r3
 ·exact xx e cls ctx ph N3 μ3 l h3 h4 t3 (hΘ _ _ _ a3) b3 (K2.trans c3 G2) (G2.trans g3 K2.al) X3 (hp.elim .inl fun y=>.inr (.inl y))
theorem Em.tupM {es:List Expr}{k:Nat}{pos:Pos}{Ψa:List AV->Mu->Prop} (h:Ems E C μ l es Ψa Φ) (hz:∀ ds μ',Ψa ds μ'->ds.length≤sizeLine) :
  Em E C μ l (.Tuple es k pos) (fun d μ'=>∃ ds μ1,Ψa ds μ1/\Dx E μ1 (.tup ds) d μ') Φ:=by
 intro N s I Q X q xx
 refine Tuple_ (h pos N s I _ _ (fun vs ds N1 μ1 h1 t1 a1 b1 c1 g1 R1=>?_) xx)
 refine wpAny_newObj_type ?_ (by show vs.toArray.size≤sizeLine;rw [List.size_toArray,R1.length];exact hz ds μ1 a1)
 have fz:Fz N1 (Un N1 [h1.objs.size]) h1 (h1.push { cls:=.type "tuple",data:=.seq vs.toArray }):=Fz.un (fun b o e=>Heap.get?_push_of_some _ e) fun b m=>by rw [List.mem_singleton.mp m];exact get?_size_none _
 refine Qe (b1.new (fun Z q=>by cases q) (m':=.tup ds) (h':=h1.push { cls:=.type "tuple",data:=.seq vs.toArray }) (fun b o e=>Heap.get?_push_of_some _ e) (get?_size_none h1) (Heap.get?_push_size _ rfl) ⟨vs,0,rfl,R1.mono fz⟩) fun a b c d e=>?_
 exact q _ (.obj h1.objs.size) _ _ _ _ ⟨ds,μ1,a1,_,rfl,rfl,d,e⟩ a (c1.trans b g1) (g1.trans c c1.al) rfl
theorem Em.listM {es:List Expr}{pos:Pos}{Ψa:List AV->Mu->Prop} (h:Ems E C μ l es Ψa Φ) (hz:∀ ds μ',Ψa ds μ'->ds.length≤sizeLine) :
  Em E C μ l (.List es pos) (fun d μ'=>∃ ds μ1,Ψa ds μ1/\Dx E μ1 (.list ds) d μ') Φ:=by
 intro N s I Q X q xx
 refine List_ (h pos N s I _ _ (fun vs ds N1 μ1 h1 t1 a1 b1 c1 g1 R1=>?_) xx)
 refine wpAny_newObj_type ?_ (by show vs.toArray.size≤sizeLine;rw [List.size_toArray,R1.length];exact hz ds μ1 a1)
 have fz:Fz N1 (Un N1 [h1.objs.size]) h1 (h1.push { cls:=.type "list",data:=.seq vs.toArray }):=Fz.un (fun b o e=>Heap.get?_push_of_some _ e) fun b m=>by rw [List.mem_singleton.mp m];exact get?_size_none _
 refine Qe (b1.new (fun Z q=>by cases q) (m':=.list ds) (h':=h1.push { cls:=.type "list",data:=.seq vs.toArray }) (fun b o e=>Heap.get?_push_of_some _ e) (get?_size_none h1) (Heap.get?_push_size _ rfl) ⟨vs,0,rfl,R1.mono fz⟩) fun a b c d e=>?_
 exact q _ (.obj h1.objs.size) _ _ _ _ ⟨ds,μ1,a1,_,rfl,rfl,d,e⟩ a (c1.trans b g1) (g1.trans c c1.al) rfl
theorem Im.storeAll (H:Hdr C) {N:Addr->Prop}:∀ (xs:List Str) (fs:List (Value->Sem Unit)) (vs:List Value) (ds:List AV) (l:List (Str×AV)) (s:Shared) (Q:Unit->Shared->Prop) (X:Value->Shared->Prop),
  Im E C N μ l s.heap->Zr N s.heap vs ds->xs.length=ds.length->fs.length=xs.length->(∀ x∈xs,Zp C x) ->
  (∀ (i:Nat) (x:Str) (f:Value->Sem Unit),xs[i]?=some x->fs[i]?=some f->∀ (v:Value) (s:Shared) (Q:Unit->Shared->Prop),wpAny (model pg C.w) C.A (storeName C.env x v) Q X s->wpAny (model pg C.w) C.A (f v) Q X s) ->
  (∀ h' tk,Im E C N μ ((xs.zip ds).reverse++l) h'->Kp C μ s.heap h'->Q () { s with heap:=h',toks:=tk })->wpAny (model pg C.w) C.A (assignInOrder fs vs) Q X s
 | [],fs,vs,ds,l,s,Q,X,I,R,hl,hf,_,_,q=>by
  cases fs with
  | nil=>exact wpAny_pure (q s.heap s.toks (by exact I) (.refl _ _ _))
  | cons=>cases hf
 | x::xs,fs,vs,ds,l,s,Q,X,I,R,hl,hf,hk,hs,q=>by
  cases fs with
  | nil=>cases hf
  | cons f fs =>
   cases R with
   | nil=>cases hl
   | @cons v vs d ds Rv Rs =>
    refine wpAny_bind (wpAny_holding (hs 0 x f rfl rfl v s _ (I.store H.kind Rv (hk x (by exact List.mem_cons_self)) fun h1 t1 I1 fz K1=>?_)))
    refine Im.storeAll H xs fs vs ds _ _ Q X I1 (Rs.mono fz) (by exact Nat.succ.inj hl) (by exact Nat.succ.inj hf) (fun y hy=>hk y (by simp [hy])) (fun i y g hy hg=>hs (i+1) y g (by exact hy) (by exact hg)) fun h2 t2 I2 K2=>?_
    refine q h2 t2 ?_ (K1.trans K2 (.refl N μ s.heap))
    simpa using I2
theorem Xs.rest {N N':Addr->Prop}{μ':Mu}{l':List (Str×AV)}{s:Shared}{h':Heap}{tk:Nat}{Q:Flow->Shared->Prop}{X:Value->Shared->Prop} (hr:Xs E C μ' l' r Φ) (I:Im E C N' μ' l' h') (K:Kp C μ s.heap h') (G:Gr N N' μ μ' s.heap)
  (q:∀ fl f N' μ' l' h' tk,Φ f μ' l'->Im E C N' μ' l' h'->Kp C μ s.heap h'->Gr N N' μ μ' s.heap->Dk N' h' fl f->Q fl { s with heap:=h',toks:=tk }) (xx:Exc E C N μ s Φ X):wpAny (model pg C.w) C.A (execs r C.env) Q X { s with heap:=h',toks:=tk } :=
 hr N' { s with heap:=h',toks:=tk } I Q X (fun fl f N'' μ'' l'' h'' tk' a' b' c' d' e'=>q fl f N'' μ'' l'' h'' tk' a' b' (K.trans c' G) (G.trans d' K.al) e') (xx.after (s':={ s with heap:=h',toks:=tk }) K G fun Z Z=>rfl)
theorem Xs.unpackT (O:C.A.handled=none) (H:Hdr C) {ts:List Expr}{k:Nat}{tp pos:Pos}{e:Expr}{xs:List Str}{Ψ:List AV->Mu->Prop} (ht:W_ ts=some xs)
  (h:Em E C μ l e (fun d μ'=>∃ a ds,d=.obj a/\μ' a=some (.tup ds)/\ds.length=xs.length/\Ψ ds μ') Φ)
  (hk:∀ x∈xs,Zp C x) (hs:swapsWithSole [.Tuple ts k tp] e pos.line C.env=pure false) (hw:swappedStores [.Tuple ts k tp] e C.env=pure Option.none)
  (hr:∀ ds μ',ds.length=xs.length->Ψ ds μ'->Xs E C μ' ((xs.zip ds).reverse++l) r Φ):Xs E C μ l (.Assign [.Tuple ts k tp] e pos::r) Φ:=by
 intro N s I Q X q xx
 refine wpAny_execs_cons (Assign_Tuple (h N s I _ _ (fun v d N1 μ1 h1 t1 a1 b1 c1 g1 R1=>?_) xx) hs hw)
 (refine Vk a1 fun a ds Z0 ha hl hΨ=>?_;clear a1;subst Z0)
 subst R1
 (refine Qh (b1.st.wd.mu a _ ha) fun Z Z o ho vs n Z0 rs=>?_;subst Z0)
 refine ZL (Qj (env:=C.env) ht) fun e1 e2 ps e3 e4=>?_
 show wpAny _ _ (do standAt tp;PySem.unpack (.ref a) (assignEach ts C.env)) _ _ _
 refine wpAny_bind (wpAny_standAt ?_)
 delta PySem.unpack
 have e0:xs.length=vs.toArray.size:=by rw [List.size_toArray,rs.length,hl]
 rw [e2,e1,e0]
 refine wpAny_bind (wpAny_holding (wpAny_unpackItems_tuple (s:={ s with heap:=h1,toks:=t1 }) O ⟨_,ho,rfl,_,rfl⟩ fun h2 K2=>?_))
 have P2:Pu C.Fs h1 h2:=.of_keeps fun b o e=>K2 b o (fun q=>by rw [q,get?_size_none] at e;exact noS e) e
 rw [e4]
 refine Im.storeAll H xs _ vs ds l _ _ X (b1.pu P2) (rs.mono (P2.fz b1.st.wd.fsN)) hl.symm (by simp [e3]) hk (fun i x f hx hf v s Q hQ=>?_) fun h3 t3 I3 K3=>?_
 ·rw [List.getElem?_map] at hf
  (refine xEA (Option.map_eq_some_iff.mp hf) fun Z0 hz Z1=>?_;rcases Z0 with ⟨y,p⟩;subst Z1)
  have:y=x:=by
   have:=List.getElem?_zip_eq_some.mp hz
   rw [hx] at this;exact (Option.some.inj this.1).symm
  subst this
  exact PyProof.Rows.assign_Name hQ
 ·exact Xs.rest (s:=s) (hr ds μ1 hl hΨ) I3 ((c1.trans (.ofPu P2) g1).trans K3 g1) g1 q xx
theorem Xs.unpackD (O:C.A.handled=none) (H:Hdr C) {ts:List Expr}{k:Nat}{tp pos:Pos}{e:Expr}{xs:List Str}{ds:List PyData} (ht:W_ ts=some xs) (h:Ev C μ l e (.dat (.list ds))) (hl:xs.length=ds.length)
  (hk:∀ x∈xs,Zp C x) (hs:swapsWithSole [.Tuple ts k tp] e pos.line C.env=pure false) (hw:swappedStores [.Tuple ts k tp] e C.env=pure Option.none)
  (hr:Xs E C μ ((xs.zip (ds.map .dat)).reverse++l) r Φ):Xs E C μ l (.Assign [.Tuple ts k tp] e pos::r) Φ:=by
 intro N s I Q X q xx
 refine wpAny_execs_cons (Assign_Tuple (h N s I.st _ _ fun v h1 t1 P1 R1=>?_) hs hw)
 (refine Zf (Rd.listE R1) fun a vs Z0 na la ra za=>?_;subst Z0)
 have I1:=I.pu P1
 refine ZL (Qj (env:=C.env) ht) fun e1 e2 ps e3 e4=>?_
 show wpAny _ _ (do standAt tp;PySem.unpack (.ref a) (assignEach ts C.env)) _ _ _
 refine wpAny_bind (wpAny_standAt ?_)
 delta PySem.unpack
 rw [e2,e1,hl,← ra.length]
 refine wpAny_bind (wpAny_holding (UX O la fun h2 t2 K2=>?_))
 have P2:Pu C.Fs h1 h2:=.of_keeps K2
 rw [e4]
 refine Im.storeAll H xs _ vs (ds.map .dat) l _ _ X (I1.pu P2) ((ra.mono (P2.fz I1.st.wd.fsN)).datsA) (by simpa using hl) (by simp [e3]) hk (fun i x f hx hf v s Q hQ=>?_) fun h3 t3 I3 K3=>?_
 ·rw [List.getElem?_map] at hf
  (refine xEA (Option.map_eq_some_iff.mp hf) fun Z0 hz Z1=>?_;rcases Z0 with ⟨y,p⟩;subst Z1)
  have:y=x:=by
   have:=List.getElem?_zip_eq_some.mp hz
   rw [hx] at this;exact (Option.some.inj this.1).symm
  subst this
  exact PyProof.Rows.assign_Name hQ
 ·exact Xs.rest (s:=s) hr I3 ((Kp.ofPu (P1.trans P2)).trans K3 (.refl N μ s.heap)) (.refl _ _ _) q xx
end
end Mine
namespace Mine
open PySem PySem.W PyProof.Rows PySem.Calls PySem.MeetsSeq Builtin Builtin.ObjectAttr Builtin.Getset_descriptor
section
variable {E:Ent}{C:Cx}{μ:Mu}{l:List (Str×AV)}{Φ:Zq}{r:List Stmt}{Θ:Value->Value->Mu->Prop}
theorem Cx.Ok.aokTC {C:Cx} (O:C.Ok) {k:Nat} (hk:k+1≤C.k) (cl:Addr) (rest:List Value) (kw:List (Str×Value)):AOk (C.A.under (.builtin "type.__call__" ⟨.ref cl::rest,kw⟩)) C.envs k:=by
 have h1:(Code.builtin "type.__call__" ⟨.ref cl::rest,kw⟩).weight=1:=rfl
 have h2:(Code.builtin "type.__call__" ⟨.ref cl::rest,kw⟩).cUnits=1:=rfl
 have h3:(Code.builtin "type.__call__" ⟨.ref cl::rest,kw⟩).envs=[]:=rfl
 exact ⟨O.frames,O.efr,by have:=O.depth;show C.A.depth+1+k≤900;lia,by have:=O.units;show C.A.units+1+20 * k≤9000;lia,O.handled⟩
noncomputable abbrev QI (E:Ent) (μ μ':Mu):Prop:=∀ a,μ' a≠none->μ a≠none∨E.h0.get? a=none
theorem Im.newIn {N N':Addr->Prop}{μ':Mu}{h:Heap} (I:Im E C N μ l h) (g:Gr N N' μ μ' h):QI E μ μ':=fun a n=>by
 rcases g.mu a n with y|y
 ·exact .inl y
 ·right
  cases z:E.h0.get? a with
  | none=>rfl
  | some o=>refine xE (I.mt.al a o z) fun Z zz=>?_;replace zz:=Eq.trans (Eq.symm y) zz;exact noS zz
theorem MFn.fnN (O:C.Ok) {k:Nat}{f:Addr}{ds:List AV}{D:Addr->Prop}{Ψ:AV->Mu->Prop} (h:MFn C.w C.h₁ k μ f ds D Ψ Θ) (hk:k≤C.k) (hD:∀ a,D a->μ a≠none/\E.Wr a) :
  FnM E C μ (.ref f) ds (fun d μ'=>Ψ d μ'/\QI E μ μ') Θ:=by
 intro l N s vs I R Q X q x
 exact h.fnM O hk hD l N s vs I R Q X (fun v d N' μ' h' tk a b c g r=>q v d N' μ' h' tk ⟨a,I.newIn g⟩ b c g r) x
theorem Dm (O:C.Ok) (kx:(Kf C).In C.h₁) {k:Nat} (hk:k+1≤C.k) {Ψ:Addr->Addr->Mu->Prop}
  (hinit:∀ x dx,μ x=none->μ dx=none->x≠dx->MFn C.w C.h₁ k (upd (upd μ dx (.ns [])) x (.inst 171 dx)) 107 [.obj x] (fun y=>y=dx) (fun d μ'=>d=.dat .none/\Ψ x dx μ') (fun Z Z Z=>False)) :
  FnM E C μ (.ref 171) [] (fun d μ'=>∃ x dx,d=.obj x/\μ x=none/\μ dx=none/\x≠dx/\E.h0.get? x=none/\E.h0.get? dx=none/\Ψ x dx μ'/\QI E μ μ') Θ:=by
 intro l N s vs I R Q X q xx
 cases R
 refine wpAny_call ?_
 obtain ⟨hh,g,d,t,os⟩:=s
 have KX:(Kf C).In hh:=fun a o e=>I.st.wd.stays a o (kx a o e)
 refine make_core (makes_of (C:=171) KX rfl) (looks_findIn (r:=some (.ref 107)) KX rfl) (fun self=>bind_fn KX self rfl) (.inl rfl) ?_
 refine Qe (I.new (fun Z q=>by cases q) (a:=hh.objs.size) (m':=.ns []) (h':=hh.push emptyDict) (fun b o e=>Heap.get?_push_of_some _ e) (get?_size_none hh) (Heap.get?_push_size _ rfl) ⟨[],0,rfl,.nil⟩) fun I1 K1 G1 h0d m0d=>?_
 have sz:(hh.push emptyDict).objs.size=hh.objs.size+1:=Heap.size_push _ _
 obtain ⟨I2,K2,G2,h0x,m0x⟩:=I1.new (fun Z q=>by cases q) (a:=hh.objs.size+1) (m':=.inst 171 hh.objs.size) (h':=(hh.push emptyDict).push (instObj 171 hh.objs.size)) (fun b o e=>Heap.get?_push_of_some _ e) (by rw [← sz];exact get?_size_none _) (by rw [← sz];exact Heap.get?_push_size _ rfl) rfl
 have ne:hh.objs.size+1≠hh.objs.size:=Nat.succ_ne_self _
 replace m0x:=Eq.trans (Eq.symm (Za ne)) m0x
 have K02:Kp C μ hh ((hh.push emptyDict).push (instObj 171 hh.objs.size)):=K1.trans K2 G1
 have G02:=G1.trans G2 K1.al
 refine hinit (hh.objs.size+1) hh.objs.size m0x m0d ne _ C.envs _ _ [.ref (hh.objs.size+1)] (O.aokTC hk _ _ _) I2.st.wd (.cons rfl .nil) _ (fun v d N' μ' h' tk a b c W r=>?_) fun Z Z Z Z Z Z Z Z a=>a.elim
 obtain ⟨rfl,a⟩:=a
 cases r
 have h0d':E.h0.get? hh.objs.size=none:=h0d
 obtain ⟨I',K'⟩:=I2.called b c W (fun y e=>by subst e;exact ⟨by rw [Za (Ne.symm ne),Zb];exact Option.some_ne_none _,.inr h0d'⟩)
 refine ⟨rfl,?_⟩
 have G':=G02.trans c K02.al
 exact q _ (.obj _) N' μ' h' tk ⟨_,_,rfl,m0x,m0d,ne,h0x,h0d,a,I.newIn G'⟩ I' (K02.trans K' G02) G' rfl
theorem G8 (O:C.Ok) (kx:(Kf C).In C.h₁) {k:Nat} (hk:k+1≤C.k) {ds:List AV}{Ψ:Addr->Mu->Prop}
  (hinit:∀ x,μ x=none->MFn C.w C.h₁ k (upd μ x (.part [])) 70 (.obj x::ds) (fun y=>y=x) (fun d μ'=>d=.dat .none/\Ψ x μ') (fun Z Z Z=>False)) :
  FnM E C μ (.ref 74) ds (fun d μ'=>∃ x,d=.obj x/\μ x=none/\E.h0.get? x=none/\Ψ x μ'/\QI E μ μ') Θ:=by
 intro l N s vs I R Q X q xx
 refine wpAny_call ?_
 obtain ⟨hh,g,d,t,os⟩:=s
 have KX:(Kf C).In hh:=fun a o e=>I.st.wd.stays a o (kx a o e)
 refine make_core (makes_of (C:=74) KX rfl) (looks_findIn (r:=some (.ref 70)) KX rfl) (fun self=>bind_fn KX self rfl) (.inl rfl) ?_
 have P1:Pu C.Fs hh (hh.push emptyDict):=.push _ _ _
 have I1:=I.pu P1
 have sz:(hh.push emptyDict).objs.size=hh.objs.size+1:=Heap.size_push _ _
 have nd:¬ N hh.objs.size:=I.st.wd.freshN
 obtain ⟨I2,K2,G2,h0x,m0x⟩:=I1.new (fun Z q=>by cases q) (a:=hh.objs.size+1) (m':=.part []) (h':=(hh.push emptyDict).push (instObj 74 hh.objs.size)) (fun b o e=>Heap.get?_push_of_some _ e) (by rw [← sz];exact get?_size_none _) (by rw [← sz];exact Heap.get?_push_size _ rfl)
  ⟨[],hh.objs.size,rfl,fun n=>n.elim nd fun y=>Nat.succ_ne_self _ (List.mem_singleton.mp y).symm,Heap.get?_push_of_some _ (Heap.get?_push_size _ rfl),.nil⟩
 have K02:Kp C μ hh ((hh.push emptyDict).push (instObj 74 hh.objs.size)):=(Kp.ofPu P1).trans K2 (.refl N μ hh)
 have G02:Gr N (Un N [hh.objs.size+1]) μ (upd μ (hh.objs.size+1) (.part [])) hh:=(Gr.refl N μ hh).trans G2 (Kp.ofPu (C:=C) (μ:=μ) P1).al
 refine hinit (hh.objs.size+1) m0x _ C.envs _ _ (.ref (hh.objs.size+1)::vs) (O.aokTC hk _ _ _) I2.st.wd (.cons rfl (R.mono (I.fz K02 G02))) _ (fun v d N' μ' h' tk a b c W r=>?_) fun Z Z Z Z Z Z Z Z a=>a.elim
 obtain ⟨rfl,a⟩:=a
 obtain rfl:=Rd.invN r
 have h0x':E.h0.get? (hh.objs.size+1)=none:=h0x
 obtain ⟨I',K'⟩:=I2.called b c W (fun y e=>by subst e;exact ⟨by rw [Zb];exact Option.some_ne_none _,.inr h0x'⟩)
 refine ⟨rfl,?_⟩
 have G':=G02.trans c K02.al
 exact q _ (.obj _) N' μ' h' tk ⟨_,rfl,m0x,h0x,a,I.newIn G'⟩ I' (K02.trans K' G02) G' rfl
theorem Ms {N:Addr->Prop}{s:Shared}{x:Addr}{xs:List AV}{name:Str}{p i:Nat}{v:Value}{d:AV}{Q:Unit->Shared->Prop}{X:Value->Shared->Prop} (kx:(Kf C).In C.h₁) (O:Wx C name p i) (hi:xs.length=i) (hi3:i < 3) (I:Im E C N μ l s.heap) (hx:μ x=some (.part xs)) (hw:E.Wr x) (R:RdA N s.heap v d)
  (q:∀ h' tk,Im E C N (upd μ x (.part (xs++[d]))) l h'->Kp C μ s.heap h'->Gr N N μ (upd μ x (.part (xs++[d]))) s.heap->Q () { s with heap:=h',toks:=tk }):wpAny (model pg C.w) C.A (setAttr (.ref x) name v) Q X s:=by
 have W:=I.st.wd
 (refine ZL (W.mu x _ hx) fun Z Z ox hox Zr0=>?_;refine Vk Zr0 fun vs dd Z0 nd gd rs=>?_;clear Zr0;subst Z0)
 have KX:(Kf C).In s.heap:=fun a o e=>W.stays a o (kx a o e)
 have II:InstAt s.heap x ⟨.ref 74,some dd,.plain,(vs.map some).toArray⟩ 74 (some { cls:=.type "dict",data:=.dict #[] }):=⟨hox,rfl,rfl,gd⟩
 refine set_plain KX II O.hs (osa_descr (s:={ s with toks:=s.toks+1 }) KF.slot_mset KX II O.ho O.hk O.hT (D2 (s:={ s with toks:=s.toks+1 }) KX II O.hp (by exact oA ‹_› rfl) ?_))
 have hs:=Heap.SameBut.update s.heap x (fun o=>{ o with slots:=(o.slots++Array.replicate (i+1 - o.slots.size) none).setIfInBounds i (some v) })
 have he:=Heap.get?_update_self (fun o=>{ o with slots:=(o.slots++Array.replicate (i+1 - o.slots.size) none).setIfInBounds i (some v) }) hox rfl
 have hl:vs.length=i:=by exact Eq.trans rs.length (Eq.trans hi rfl)
 have e:((vs.map some).toArray++Array.replicate (i+1 - (vs.map some).toArray.size) none).setIfInBounds i (some v)=((vs++[v]).map some).toArray:=by
  apply Array.toList_inj.mp
  refine Eq.trans Array.toList_setIfInBounds ?_
  simp only [List.size_toArray,List.length_map,hl,Array.toList_append,Array.toList_replicate,List.map_append,List.map_cons,List.map_nil]
  rw [show i+1 - i=1 by lia,show List.replicate 1 (none:Option Value)=[none] from rfl,List.set_append_right _ _ (by simp [hl])]
  simp [hl]
 simp only [e] at he
 refine xA (I.upd hx (m':=.part (xs++[d])) (fun Z z=>by cases z) hw hs he fun F=>⟨vs++[v],dd,rfl,F.not nd gd,F.keep _ _ nd gd,(rs.append (.cons R .nil)).mono F⟩) fun a b=>?_
 refine q _ _ a b ⟨fun Z z=>z,fun Z z=>.inl z,fun y hy=>?_⟩
 by_cases z:y=x
 ·left;rw [z,hx];exact Option.some_ne_none _
 ·rw [Za z] at hy;exact .inl hy
theorem Xs.setPart {o e:Expr}{p pos:Pos}{x:Addr}{xs:List AV}{name:Str}{pp i:Nat}{Ψ:AV->Mu->Prop} (kx:(Kf C).In C.h₁) (O:Wx C name pp i) (hi:xs.length=i) (hi3:i < 3) (he:Em E C μ l e Ψ Φ) (ho:∀ d μ',Ψ d μ'->Ev C μ' l o (.obj x))
  (hx:∀ d μ',Ψ d μ'->μ' x=some (.part xs)) (hw:E.Wr x) (hsw:swapsWith e (some (.Attribute o name p)) pos.line C.env=pure false)
  (hr:∀ d μ',Ψ d μ'->Xs E C (upd μ' x (.part (xs++[d]))) l r Φ):Xs E C μ l (.Assign [.Attribute o name p] e pos::r) Φ:=by
 intro N s I Q X q xx
 refine wpAny_execs_cons (plainObj_wpAny_Assign_Attribute (he N s I _ _ (fun v d N1 μ1 h1 t1 a b c g R=>?_) xx) hsw)
 refine ho d μ1 a N1 { s with heap:=h1,toks:=t1 } b.st _ _ fun ov h2 t2 P2 R2=>?_
 subst R2
 refine Ms (s:={ s with heap:=h2,toks:=t2 }) kx O hi hi3 (b.pu P2) (hx d μ1 a) hw (R.mono (b.st.fz P2)) fun h3 t3 b3 c3 g3=>?_
 have K2:Kp C μ s.heap h2:=c.trans (.ofPu P2) g
 exact Xs.rest (s:=s) (hr d μ1 a) b3 (K2.trans c3 g) (g.trans g3 K2.al) q xx
theorem Xs.reinfo {x sa:Addr}{n np:Int} (hx:μ x=some (.part [.dat (.int n),.dat (.int np),.obj sa])) (hw:E.Wr x) (hr:Xs E C (upd μ x (.info n np sa)) l r Φ):Xs E C μ l r Φ:=by
 intro N s I Q X q xx
 (refine ZL (I.st.wd.mu x _ hx) fun Z Z o ho Zr0=>?_;refine Vk Zr0 fun vs dx Z0 nd gd rs=>?_;clear Zr0;subst Z0)
 (refine VL rs.inv3 fun v1 v2 v3 Z0 r1 r2 r3=>?_;subst Z0)
 obtain ⟨t1,rfl⟩:=Rd.invI r1
 obtain ⟨t2,rfl⟩:=Rd.invI r2
 subst r3
 refine xA (I.upd hx (m':=.info n np sa) (fun Z z=>by cases z) hw ⟨rfl,fun Z Z=>rfl⟩ ho fun F=>⟨t2,t1,dx,rfl,nd,gd⟩) fun a b=>?_
 exact Xs.rest (s:=s) (tk:=s.toks) hr a b ⟨fun Z z=>z,fun Z z=>.inl z,fun y hy=>by
  by_cases z:y=x
  ·left;rw [z,hx];exact Option.some_ne_none _
  ·rw [Za z] at hy;exact .inl hy⟩ q xx
end
end Mine
namespace Mine
open PySem PySem.W PyProof.Rows PySem.Calls PySem.MeetsSeq
section
variable {E:Ent}{C:Cx}{μ:Mu}{l:List (Str×AV)}{Φ:Zq}{Ψ:AV->Mu->Prop}{Θ:Value->Value->Mu->Prop}
noncomputable def DA (C:Cx) (μ:Mu) (l:List (Str×AV)) (pos:Pos) (es:List Expr) (ds:List AV):Prop :=
 ∀ (f:Value) (N:Addr->Prop) (s:Shared),St C N μ l s.heap->∀ (Q:Args->Shared->Prop) (X:Value->Shared->Prop),
  (∀ vs h' tk,Pu C.Fs s.heap h'->Zr N h' vs ds->Q ⟨vs,[]⟩ { s with heap:=h',toks:=tk })->wpAny (model pg C.w) C.A (evalArgs f true (backTo pos (starEach es C.env)) []) Q X s
theorem DA.two {e e':Expr}{p pos:Pos}{d:AV}{dd:PyData}{xs:List PyData} (hn:Zu [e]=true) (h:Ev C μ l e d) (h':Ev C μ l e' (.dat dd)) (hd:M4 dd=some xs):DA C μ l pos [e,.Starred e' p] (d::xs.map .dat):=by
 intro f N s S Q X q
 have e1:starEach [e,.Starred e' p] C.env=(false,eval e C.env)::starEach [.Starred e' p] C.env:=by
  cases e <;> first|rfl|(simp [Zu] at hn)
 have:=(Evs.cons' hn h (Evs.star (p:=p) h' hd)) pos N s S (fun vs s'=>Q ⟨vs,[]⟩ s') X fun vs h' tk P R=>q vs h' tk P R
 rw [e1,Z_] at this ⊢
 exact evalArgs_plain this
theorem DA.lone {e':Expr}{p pos:Pos}{dd:PyData}{xs:List PyData} (h':Ev C μ l e' (.dat dd)) (hd:M4 dd=some xs):DA C μ l pos [.Starred e' p] (xs.map .dat):=by
 intro f N s S Q X q
 refine ks_lone (h' N s S _ _ fun v h1 t1 P1 R1=>?_)
 refine Gb (s:={ s with heap:=h1,toks:=t1 }) (S.pu P1).wd R1 hd fun vs h2 t2 P2 R2=>?_
 exact q vs h2 t2 (P1.trans P2) R2.datsA
theorem Em.methStar {o:Expr}{name:Str}{apos pos:Pos}{es:List Expr}{x dx cl f:Addr}{fs:List (Str×AV)}{ds:List AV}{k:Nat}{D:Addr->Prop} (O:C.Ok) (kx:(Kf C).In C.h₁)
  (hb:attributeBase o name C.env (eval o C.env)=eval o C.env) (hst:(backTo pos (starEach es C.env)).any (·.1)=true)
  (hform:methodCallForm (es.length+([]:List Keyword).length) (backTo pos (starEach es C.env)) (backToKw pos (keywordEach [] C.env))=false)
  (ha:DA C μ l pos es ds)
  (ho:Ev C μ l o (.obj x)) (hx:μ x=some (.inst cl dx)) (hd:μ dx=some (.ns fs)) (hno:fs.lookup name=none) (hg:plainGet (Kf C) cl name=true) (hh:hasDictIn (Kf C) cl=true) (hf:findIn (Kf C) (.ref cl) name=some (some (.ref f)))
  (hgf:specialIn (Kf C) (.ref f) "__get__"=some (some (.builtin "function.__get__"))) (htk:takesIn (Kf C) (.ref f)=some false) (hcp:copiedNames.contains name=false) (hfn:fnIn (Kf C) f=true)
  (ht:typeIn (Kf C) (.ref f)=some (.type "function"))
  (hF:MFn C.w C.h₁ k μ f (.obj x::ds) D Ψ Θ) (hk:k≤C.k) (hD:∀ a,D a->μ a≠none/\E.Wr a) (hΘ:∀ c t μ',Θ c t μ'->Φ (.exc c t) μ' l):Em E C μ l (.Call (.Attribute o name apos) es [] pos) (fun d μ'=>Ψ d μ'/\QI E μ μ') Φ:=by
 intro N s I Q X q xx
 rw [arm_eval_Call,hb]
 refine wpAny_bind (ho N s I.st _ _ fun va h1 t1 P1 R1=>?_)
 subst R1
 have W1:=(I.st.pu P1).wd
 (refine ZL (W1.mu x _ hx) fun Z Z ox hox Z0=>?_;subst Z0)
 (refine Qh (W1.mu dx _ hd) fun Z Z od hod en n Z0 rs=>?_;subst Z0)
 have KX:(Kf C).In h1:=fun a o e=>W1.stays a o (kx a o e)
 have II:InstAt h1 x ⟨.ref cl,some dx,.plain,#[]⟩ cl (some (dictOf en n)):=⟨hox,rfl,rfl,hod⟩
 refine wpAny_bind (wpAny_standAt ?_)
 unfold methodCall
 refine wpAny_bind (wpAny_holding ?_)
 rw [hform]
 show wpAny _ _ (do pure (← getAttr (.ref x) name true,[])) _ _ _
 refine wpAny_bind (get_bind (s:={ s with heap:=h1,toks:=t1 }) KX II (plainGet_of hg).1 (findObj_fn hh hf hgf htk hcp (by show lookIn name (dictOf en n)=_;exact Eq.trans (lookIn_dict _ _ _) (Eq.trans (rs.getL_none hno) rfl))) (plainGet_of hg).2 (wpAny_call (PySem.W.fn_get (s:={ s with heap:=h1,toks:=t1+1 }) KX ht (handed_on rfl ?_))))
 refine wpAny_pure ?_
 refine wpAny_bind (wpAny_of_eq (a:=pos) rfl ?_)
 have P2:Pu C.Fs h1 (h1.push (methodObj (.ref f) (.ref x))):=.push _ _ _
 have hq:(h1.push (methodObj (.ref f) (.ref x))).get? h1.objs.size=some (methodObj (.ref f) (.ref x)):=Heap.get?_push_size _ rfl
 have qF:h1.objs.size∉C.Fs:=fun m=>by refine ZE (W1.fr _ m) fun Z Z Z e Z=>?_;exact noS (Eq.trans (Eq.symm (get?_size_none _)) e)
 refine ks_call (P:=MethP (Kf C) h1.objs.size f (.ref x)) hst (keeps_M hfn) ?_
 refine ha _ N { s with heap:=h1.push (methodObj (.ref f) (.ref x)),toks:=t1+1 } ((I.st.pu P1).pu P2) _ _ fun vs h3 t3 P3 R3=>?_
 have hq3:h3.get? h1.objs.size=some (methodObj (.ref f) (.ref x)):=P3.keep _ _ qF hq
 have I3:Im E C N μ l h3:=((I.pu P1).pu P2).pu P3
 refine ⟨⟨hq3,fun a o e=>I3.st.wd.stays a o (kx a o e)⟩,?_⟩
 refine wpAny_call (method_call (s:={ s with heap:=h3,toks:=t3 }) hq3 ?_)
 have K0:Kp C μ s.heap h3:=.ofPu (P1.trans (P2.trans P3))
 refine hF C.A C.envs N { s with heap:=h3,toks:=t3 } (.ref x::vs) (O.aok hk) I3.st.wd (.cons rfl R3) _ (fun v d N' μ' h' tk a b c W r=>?_) fun e cls ctx N' μ' h1' h' tk a b c W X1=>?_
 ·refine xA (I3.called b c W hD) fun I' K'=>?_
  have G':=(Gr.refl N μ s.heap).trans c K0.al
  exact q v d N' μ' h' tk ⟨a,I.newIn G'⟩ I' (K0.trans K' (.refl N μ s.heap)) G' r
 ·refine xA (I3.called b c W hD) fun I' K'=>?_
  exact xx e cls ctx _ N' μ' l h1' h' tk (hΘ _ _ _ a) I' (K0.trans K' (.refl N μ s.heap)) ((Gr.refl N μ s.heap).trans c K0.al) X1 (.inr (.inl rfl))
end
section
variable {E:Ent}{C:Cx}{μ:Mu}{l:List (Str×AV)}{Φ:Zq}{r:List Stmt}
theorem UY {N:Addr->Prop}{s:Shared}{o i:Expr}{p:Pos}{t:Addr}{kvs:List (Int×AV)}{k:Int}{v:Value}{d:AV}{Q:Unit->Shared->Prop}{X:Value->Shared->Prop} (I:Im E C N μ l s.heap) (ho:Ev C μ l o (.obj t)) (hi:Ev C μ l i (.dat (.int k))) (ht:μ t=some (.dict kvs)) (hw:E.Wr t) (hz:kvs.length≤sizeLine) (R:RdA N s.heap v d)
  (q:∀ h' tk,Im E C N (upd μ t (.dict (VZ kvs k d))) l h'->Kp C μ s.heap h'->Gr N N μ (upd μ t (.dict (VZ kvs k d))) s.heap->RdA N h' v d->Q () { s with heap:=h',toks:=tk }):wpAny (model pg C.w) C.A (assign (.Subscript o i p) C.env v) Q X s:=by
 rw [assign_Subscript]
 refine wpAny_bind (wpAny_holding (ho N s I.st _ _ fun ov h1 t1 P1 R1=>?_))
 subst R1
 refine wpAny_bind (wpAny_holding (hi N { s with heap:=h1,toks:=t1 } (I.st.pu P1) _ _ fun iv h2 t2 P2 R2=>?_))
 obtain ⟨_,rfl⟩:=Rd.invI R2
 refine wpAny_bind (wpAny_standAt (wpAny_bind (wpAny_holding ?_)))
 have P:=P1.trans P2
 have K2:Kp C μ s.heap h2:=.ofPu P
 have R':=R.mono (I.st.fz P)
 refine Bm (s:={ s with heap:=h2,toks:=t2 }) (I.pu P) ht hw hz R' fun h3 t3 I3 K3 G3=>wpAny_release ?_
 exact q h3 t3 I3 (K2.trans K3 (.refl N μ s.heap)) ((Gr.refl N μ s.heap).trans G3 K2.al) (R'.mono ((I.pu P).fz K3 G3))
theorem Xs.setItem {o i e:Expr}{p pos:Pos}{t:Addr}{kvs:List (Int×AV)}{k:Int}{d:AV} (he:Ev C μ l e d) (ho:Ev C μ l o (.obj t)) (hi:Ev C μ l i (.dat (.int k))) (ht:μ t=some (.dict kvs)) (hw:E.Wr t) (hz:kvs.length≤sizeLine)
  (hsw:swapsWith e (some (.Subscript o i p)) pos.line C.env=pure false) (hr:Xs E C (upd μ t (.dict (VZ kvs k d))) l r Φ):Xs E C μ l (.Assign [.Subscript o i p] e pos::r) Φ:=by
 intro N s I Q X q xx
 refine wpAny_execs_cons (wpAny_Assign_Subscript (he N s I.st _ _ fun v h0 t0 P0 R0=>?_) hsw)
 refine ho N { s with heap:=h0,toks:=t0 } (I.st.pu P0) _ _ fun ov h1 t1 P1 R1=>?_
 subst R1
 refine hi N { s with heap:=h1,toks:=t1 } ((I.st.pu P0).pu P1) _ _ fun iv h2 t2 P2 R2=>?_
 obtain ⟨_,rfl⟩:=Rd.invI R2
 have P:=P0.trans (P1.trans P2)
 have K2:Kp C μ s.heap h2:=.ofPu P
 refine Bm (s:={ s with heap:=h2,toks:=t2 }) (I.pu P) ht hw hz (R0.mono ((I.st.pu P0).fz (P1.trans P2))) fun h3 t3 I3 K3 G3=>?_
 exact Xs.rest (s:=s) hr I3 (K2.trans K3 (.refl N μ s.heap)) ((Gr.refl N μ s.heap).trans G3 K2.al) q xx
theorem Xs.assignItemName {o i e:Expr}{x:Str}{p p' pos:Pos}{t:Addr}{kvs:List (Int×AV)}{k:Int}{Ψ:AV->Mu->Prop} (H:Hdr C) (he:Em E C μ l e Ψ Φ) (ho:∀ d μ',Ψ d μ'->Ev C μ' l o (.obj t)) (hi:∀ d μ',Ψ d μ'->Ev C μ' l i (.dat (.int k)))
  (ht:∀ d μ',Ψ d μ'->μ' t=some (.dict kvs)) (hw:E.Wr t) (hz:kvs.length≤sizeLine) (hk:Zp C x) (hsw:swappedStores [.Subscript o i p,.Name x p'] e C.env=pure none) (hr:∀ d μ',Ψ d μ'->Xs E C (upd μ' t (.dict (VZ kvs k d))) ((x,d)::l) r Φ) :
  Xs E C μ l (.Assign [.Subscript o i p,.Name x p'] e pos::r) Φ:=by
 intro N s I Q X q xx
 refine wpAny_execs_cons (wpAny_Assign_two (he N s I _ _ (fun v d N1 μ1 h1 t1 a b c g R=>?_) xx) rfl hsw)
 refine UY (s:={ s with heap:=h1,toks:=t1 }) b (ho d μ1 a) (hi d μ1 a) (ht d μ1 a) hw hz R fun h2 t2 I2 K2 G2 R2=>?_
 refine PyProof.Rows.assign_Name (I2.store H.kind (s:={ s with heap:=h2,toks:=t2 }) R2 hk fun h3 t3 I3 fz3 K3=>?_)
 have K02:Kp C μ s.heap h2:=c.trans K2 g
 have G02:=g.trans G2 c.al
 exact Xs.rest (s:=s) (hr d μ1 a) I3 (K02.trans K3 G02) G02 q xx
theorem Xs.unpackItems (O:C.A.handled=none) {o i o' i' e:Expr}{p p' tp pos:Pos}{n:Nat}{t t':Addr}{kvs kvs':List (Int×AV)}{k k':Int}{d d':PyData} (he:Ev C μ l e (.dat (.list [d,d'])))
  (ho:Ev C μ l o (.obj t)) (hi:Ev C μ l i (.dat (.int k))) (ho':∀ μ',Ev C μ' l o' (.obj t')) (hi':∀ μ',Ev C μ' l i' (.dat (.int k'))) (ht:μ t=some (.dict kvs)) (ht':μ t'=some (.dict kvs')) (hne:t'≠t) (hw:E.Wr t) (hw':E.Wr t') (hz:kvs.length≤sizeLine) (hz':kvs'.length≤sizeLine)
  (hs:swapsWithSole [.Tuple [.Subscript o i p,.Subscript o' i' p'] n tp] e pos.line C.env=pure false) (hsw:swappedStores [.Tuple [.Subscript o i p,.Subscript o' i' p'] n tp] e C.env=pure Option.none)
  (hr:Xs E C (upd (upd μ t (.dict (VZ kvs k (.dat d)))) t' (.dict (VZ kvs' k' (.dat d')))) l r Φ):Xs E C μ l (.Assign [.Tuple [.Subscript o i p,.Subscript o' i' p'] n tp] e pos::r) Φ:=by
 intro N s I Q X q xx
 refine wpAny_execs_cons (Assign_Tuple (he N s I.st _ _ fun v h1 t1 P1 R1=>?_) hs hsw)
 (refine Zf (Rd.listE R1) fun a vs Z0 na la ra za=>?_;subst Z0)
 have I1:=I.pu P1
 show wpAny _ _ (do standAt tp;PySem.unpack (.ref a) [(false,PySem.assign (Expr.Subscript o i p) C.env),(false,PySem.assign (Expr.Subscript o' i' p') C.env)]) _ _ _
 refine wpAny_bind (wpAny_standAt ?_)
 unfold PySem.unpack
 obtain ⟨v1,v2,rfl,r1,r2⟩:∃ v1 v2,vs=[v1,v2]/\Rd N h1 v1 d/\Rd N h1 v2 d':=by
  cases ra with|cons x y=>cases y with|cons z w=>cases w;exact ⟨_,_,rfl,x,z⟩
 refine wpAny_bind (wpAny_holding (UX (vs:=[v1,v2]) O la fun h2 t2 K2=>?_))
 have P2:Pu C.Fs h1 h2:=.of_keeps K2
 have I2:=I1.pu P2
 have K02:Kp C μ s.heap h2:=.ofPu (P1.trans P2)
 have f2:Fz N N h1 h2:=P2.fz I1.st.wd.fsN
 show wpAny _ _ (assignInOrder [PySem.assign (Expr.Subscript o i p) C.env,PySem.assign (Expr.Subscript o' i' p') C.env] [v1,v2]) _ _ _
 unfold assignInOrder
 refine wpAny_bind (wpAny_holding (UY (s:={ s with heap:=h2,toks:=t2 }) (d:=.dat d) I2 ho hi ht hw hz (Rd.mono f2 r1) fun h3 t3 I3 K3 G3 R3=>?_))
 have r2':Rd N h3 v2 d':=Rd.mono (I2.fz K3 G3) (Rd.mono f2 r2)
 unfold assignInOrder
 refine wpAny_bind (wpAny_holding (UY (s:={ s with heap:=h3,toks:=t3 }) (d:=.dat d') I3 (ho' _) (hi' _) (by exact Eq.trans (Za hne) ht') hw' hz' r2' fun h4 t4 I4 K4 G4 R4=>?_))
 unfold assignInOrder
 have K03:Kp C μ s.heap h3:=K02.trans K3 (.refl N μ s.heap)
 have G03:=(Gr.refl N μ s.heap).trans G3 K02.al
 exact wpAny_pure (Xs.rest (s:=s) hr I4 (K03.trans K4 G03) (G03.trans G4 K03.al) q xx)
theorem MD {N:Addr->Prop}{s:Shared}{t:Addr}{kvs:List (Int×AV)}{k:Int}{tk:Tok}{d:AV}{Q:Unit->Shared->Prop}{X:Value->Shared->Prop} (I:Im E C N μ l s.heap) (ht:μ t=some (.dict kvs)) (hw:E.Wr t) (hz:kvs.length≤sizeLine) (hd:Qt kvs k=some d)
  (q:∀ h' tk,Im E C N (upd μ t (.dict (DB kvs k))) l h'->Kp C μ s.heap h'->Gr N N μ (upd μ t (.dict (DB kvs k))) s.heap->Q () { s with heap:=h',toks:=tk }):wpAny (model pg C.w) C.A (delItem (.ref t) (.int k tk)) Q X s:=by
 refine Y_ (Q9 I.st.wd ht) fun hn ps hp rp=>?_
 have:=rp.get (k:=k)
 rw [hd] at this
 (refine xEA this fun v e Z=>?_;clear this)
 refine wpAny_delItem_slot hp.typeIs (by decide) F.slot_dict_delitem (call_meetsIn F.slot_dict_delitem hp.typeIs F.entry_dict_delitem (F.args_dict_delitem_2 _ _) (meets_dict_delitem_pairs (intKind pg C.w) t (intKind_is pg C.w k tk)) ⟨ps,hp,by rw [rp.length];exact hz,by rw [e];rfl,fun h' hd' hs'=>?_⟩)
 refine xAA (I.setDict ht hw hs' hd' rp.del) fun a b c=>?_
 exact q h' _ a b c
theorem Xs.delItem {o i:Expr}{p pos:Pos}{t:Addr}{Ψ:AV->Mu->Prop} (ho:Ev C μ l o (.obj t)) (hi:Em E C μ l i Ψ Φ) (hw:E.Wr t) (ht:∀ d μ',Ψ d μ'->∃ kvs k,d=.dat (.int k)/\μ' t=some (.dict kvs)/\kvs.length≤sizeLine/\(Qt kvs k).isSome=true/\Xs E C (upd μ' t (.dict (DB kvs k))) l r Φ) :
  Xs E C μ l (.Delete [.Subscript o i p] pos::r) Φ:=by
 intro N s I Q X q xx
 refine wpAny_execs_cons (wpAny_Delete (wpAny_deleteEach_cons (wpAny_delete_Subscript (ho N s I.st _ _ fun ov h1 t1 P1 R1=>?_))))
 subst R1
 have K1:Kp C μ s.heap h1:=.ofPu P1
 refine hi N { s with heap:=h1,toks:=t1 } (I.pu P1) _ _ (fun v d N2 μ2 h2 t2 a b c g R=>?_) (xx.after (s':={ s with heap:=h1,toks:=t1 }) K1 (.refl _ _ _) fun Z Z=>rfl)
 (refine Zf (ht d μ2 a) fun kvs k Z0 h1t hz hs hr=>?_;subst Z0)
 obtain ⟨_,rfl⟩:=Rd.invI R
 refine xE (Option.isSome_iff_exists.mp hs) fun dd hs=>?_
 have K2:Kp C μ s.heap h2:=K1.trans c (.refl N μ s.heap)
 have G2:=(Gr.refl N μ s.heap).trans g K1.al
 refine MD (s:={ s with heap:=h2,toks:=t2 }) b h1t hw hz hs fun h3 t3 I3 K3 G3=>wpAny_deleteEach_nil ?_
 exact Xs.rest (s:=s) hr I3 (K2.trans K3 G2) (G2.trans G3 K2.al) q xx
end
end Mine
namespace Mine
open PySem PySem.W PyProof.Rows PySem.Calls PySem.MeetsSeq
set_option maxHeartbeats 2000000
theorem HT {w:World}{h₁:Heap} (K:K1 w h₁) {k:Nat}{μ:Mu}{x:Addr}{n:Int} (hx:μ x=some (.part [])) :
  MFn w h₁ (k+1) μ 70 [.obj x,.dat (.int n)] (fun y=>y=x)
   (fun d μ'=>d=.dat .none/\∃ sa,μ sa=none/\sa≠x/\μ' x=some (.info n 0 sa)/\μ' sa=some (.list [])/\∀ y,y≠x->y≠sa->μ' y=μ y) (fun Z Z Z=>False):=by
 refine MFn.of_body (ps:=["self","node"]) K.nms ⟨⟨_,K.kx 70 _ rfl,rfl⟩,Zs K rfl rfl rfl,rfl,rfl,rfl,rfl,by decide,by decide,by decide,rfl,rfl,rfl,fun vs hl=>?_⟩ rfl fun E C F H hD hold Z=>?_
 ·revert vs;exact HJ fun Z Z=>rfl
 have O:=F.ok
 have kx:=KC K F
 have wx:E.Wr x:=.inl (by rw [hD])
 have es:∀ (μ':Mu) p,Ev C μ' [(("self":Str),AV.obj x),(("node":Str),AV.dat (.int n))] (.Name "self" p) (.obj x):=fun μ' p=>Ev.loc O rfl (F.kindOf rfl) rfl
 refine Xs.setPart kx JY rfl (by decide) (Em.ofEv (Ev.loc O rfl (F.kindOf rfl) rfl)) (fun Z Z Z=>es _ _) (fun d μ' h=>by rw [h.2];exact hx) wx rfl ?_
 (intro d μ1 Z0;refine xA Z0 fun Z1 Z2=>?_;clear Z0;subst Z1;subst Z2)
 refine Xs.setPart kx U3 rfl (by decide) (Em.ofEv (Ev.int 0 _ _)) (fun Z Z Z=>es _ _) (fun d μ' h=>by rw [h.2];exact Zb _ _ _) wx rfl ?_
 (intro d μ2 Z0;refine xA Z0 fun Z1 Z2=>?_;clear Z0;subst Z1;subst Z2)
 refine Xs.setPart (xs:=[.dat (.int n),.dat (.int 0)]) kx U6 rfl (by decide) Em.list0 (fun Z Z Z=>es _ _) ?_ wx rfl ?_
 ·(intro d μ' Z0;refine Z6 Z0 fun a Z1 Z2 Z ha=>?_;clear Z0;subst Z1;subst Z2)
  have:x≠a:=kd2 (Zb _ _ _) ha rfl
  exact Eq.trans (Za this) (Zb _ _ _)
 (intro d μ' Z0;refine Z6 Z0 fun a Z1 Z2 Z ha=>?_;clear Z0;subst Z1;subst Z2)
 have nxa:x≠a:=kd2 (Zb _ _ _) ha rfl
 rw [Za (Ne.symm nxa),Za (Ne.symm nxa)] at ha
 refine Xs.reinfo (Zb _ _ _) wx (Xs.nil ⟨rfl,a,ha,Ne.symm nxa,Zb _ _ _,?_,fun y n1 n2=>?_⟩)
 ·rw [Za (Ne.symm nxa),Za (Ne.symm nxa),Zb]
 ·rw [Za n1,Za n1,Za n2,Za n1,Za n1]
theorem Hn {w:World}{h₁:Heap} (K:K1 w h₁) {k:Nat}{μ:Mu}{x dx:Addr} (hx:μ x=some (.inst 171 dx)) (hd:μ dx=some (.ns [])) :
  MFn w h₁ (k+1) μ 107 [.obj x] (fun y=>y=dx)
   (fun d μ'=>d=.dat .none/\∃ dd,μ dd=none/\Ua μ' x dx dd (.dat .none) 0 0/\μ' dd=some (.dict [])/\∀ y,y≠dx->y≠dd->μ' y=μ y) (fun Z Z Z=>False):=by
 refine MFn.of_bodyB (ps:=["self","graph"]) (ds:=[.obj x,.dat .none]) K.nms ⟨⟨_,K.kx 107 _ rfl,rfl⟩,Zs K rfl rfl rfl,rfl,rfl,rfl,rfl,by decide,by decide,by decide,rfl,rfl,rfl⟩ rfl (fun A envs N s vs W R Q E' q=>?_) fun E C F H hD hold Z=>?_
 ·(refine xEA R.inv1 fun v Z0 r1=>?_;subst Z0)
  refine' BindsTo.of_defaults (s:=s) (k:=?k0) (binds:=[(("self":Str),v),(("graph":Str),Value.none)]) rfl (W.stays _ _ (K.kx 100 _ rfl)) rfl ?h1 ?h2 _ _ _ _ ?_
  case h1=>rfl
  case h2=>rfl
  exact q [v,.none] s.heap s.toks (fun Z Z e=>e) (.cons r1 (.cons Rd.none .nil))
 have O:=F.ok
 have kx:=KC K F
 have wdx:E.Wr dx:=.inl (by rw [hD])
 have es:∀ (μ':Mu) p,Ev C μ' [(("self":Str),AV.obj x),(("graph":Str),AV.dat .none)] (.Name "self" p) (.obj x):=fun μ' p=>Ev.loc O rfl (F.kindOf rfl) rfl
 have xdx:x≠dx:=kd2 hx hd rfl
 refine Xs.setAttr kx (Em.dict0 O.nms) (fun Z Z Z=>es _ _) (fs:=[]) (dx:=dx) (cl:=171) ?_ wdx rfl rfl rfl rfl rfl (by decide) ?_
 ·(intro d μ' Z0;refine Z6 Z0 fun a Z1 Z2 Z ha=>?_;clear Z0;subst Z1;subst Z2)
  exact ⟨by exact Eq.trans (Za (kd2 hx ha rfl)) hx,by exact Eq.trans (Za (kd2 hd ha rfl)) hd⟩
 (intro d μ' Z0;refine Z6 Z0 fun dd Z1 Z2 h0 hdd=>?_;clear Z0;subst Z1;subst Z2)
 have ddx:dx≠dd:=kd2 hd hdd rfl
 have xdd:x≠dd:=kd2 hx hdd rfl
 generalize hμ1:upd (upd μ dd (.dict [])) dx (.ns (WK [] "_node2info" (.obj dd)))=μ1
 have a1:μ1 x=some (.inst 171 dx):=by rw [← hμ1,Za xdx,Za xdd];exact hx
 have b1:μ1 dx=some (.ns [("_node2info",.obj dd)]):=by rw [← hμ1];exact Zb _ _ _
 refine Xs.setAttr kx (Em.ofEv (Ev.none _ _)) (fun Z Z Z=>es _ _) (fs:=[("_node2info",.obj dd)]) (dx:=dx) (cl:=171) (fun d μ' h=>by rw [h.2];exact ⟨a1,b1⟩) wdx rfl rfl rfl rfl rfl (by simp) ?_
 (intro d μ' Z0;refine xA Z0 fun Z1 Z2=>?_;clear Z0;subst Z1;subst Z2)
 refine Xs.setAttr kx (Em.ofEv (Ev.int 0 _ _)) (fun Z Z Z=>es _ _) (fs:=[("_node2info",.obj dd),("_ready_nodes",.dat .none)]) (dx:=dx) (cl:=171) (fun d μ' h=>by rw [h.2];exact ⟨by rw [Za xdx];exact a1,by rw [Zb];rfl⟩) wdx rfl rfl rfl rfl rfl (by simp) ?_
 (intro d μ' Z0;refine xA Z0 fun Z1 Z2=>?_;clear Z0;subst Z1;subst Z2)
 refine Xs.setAttr kx (Em.ofEv (Ev.int 0 _ _)) (fun Z Z Z=>es _ _) (fs:=[("_node2info",.obj dd),("_ready_nodes",.dat .none),("_npassedout",.dat (.int 0))]) (dx:=dx) (cl:=171) (fun d μ' h=>by rw [h.2];exact ⟨by rw [Za xdx,Za xdx];exact a1,by rw [Zb];rfl⟩) wdx rfl rfl rfl rfl rfl (by simp) ?_
 (intro d μ4 Z0;refine xA Z0 fun Z1 hμ4=>?_;clear Z0;subst Z1)
 refine Xs.seq (X1.ite (b:=false) (Φ:=fun f μ' l'=>f=.nxt/\μ'=upd μ4 dx (.ns [("_node2info",.obj dd),("_ready_nodes",.dat .none),("_npassedout",.dat (.int 0)),("_nfinished",.dat (.int 0))])) (Tst.cmp rfl (Ev.loc O rfl (F.kindOf rfl) rfl) (Ev.none _ _) (Qo O YH)) (fun h=>by exact fT h) fun Z=>Xs.nil ⟨rfl,rfl⟩) ?_
 (intro f μ5 l5 Z0;refine xA Z0 fun Z1 Z2=>?_;clear Z0;subst Z1;subst Z2)
 refine Xs.nil ⟨rfl,dd,hdd,⟨?_,Zb _ _ _⟩,?_,fun y n1 n2=>?_⟩
 ·rw [Za xdx,hμ4,Za xdx,Za xdx];exact a1
 ·rw [Za (Ne.symm ddx),hμ4,Za (Ne.symm ddx),Za (Ne.symm ddx),← hμ1,Za (Ne.symm ddx),Zb]
 ·rw [Za n1,hμ4,Za n1,Za n1,← hμ1,Za n1,Za n2]
noncomputable abbrev Bn:=Int×Int×List Int
noncomputable def Zg (ns:List Nd):List Bn:=ns.map fun t=>(t.n,t.np,t.su)
noncomputable def V7 (bs:List Bn) (n:Int):List Bn:=if bs.any (fun b=>b.1 == n) then bs else bs++[(n,0,[])]
theorem BQ {ns:List Nd}{n:Int}:(Zg ns).any (fun b=>b.1 == n)=ns.any fun t=>t.n == n:=by
 unfold Zg;exact List.any_map
theorem Hc {ns:List Nd}{n:Int} (h:ns.any (fun t=>t.n == n)=false):Qt (ns.map fun t=>(t.n,AV.obj t.ia)) n=none:=by
 unfold Qt
 rw [Option.map_eq_none_iff,List.find?_eq_none]
 intro x hx
 (refine xEA (List.mem_map.mp hx) fun t ht Z0=>?_;subst Z0)
 rw [List.any_eq_false] at h
 have:=h t ht
 exact this
theorem MJ {ns:List Nd}{n:Int}{d:AV} (h:ns.any (fun t=>t.n == n)=false):VZ (ns.map fun t=>(t.n,AV.obj t.ia)) n d=(ns.map fun t=>(t.n,AV.obj t.ia))++[(n,d)]:=by
 unfold VZ
 rw [if_neg]
 rw [List.any_map]
 rw [List.any_eq_false] at h
 simp only [List.any_eq_true,not_exists,not_and,Function.comp]
 intro t ht
 exact h t ht
theorem Yu {w:World}{h₁:Heap} (K:K1 w h₁) {k:Nat}{μ:Mu}{x dx d:Addr}{rdy:AV}{po nf n:Int}{ns:List Nd} (T:Ua μ x dx d rdy po nf) (H0:QP μ d ns) (hz:ns.length≤1000) :
  MFn w h₁ (k+3) μ 114 [.obj x,.dat (.int n)] (fun y=>y=d)
   (fun d' μ'=>∃ ns' t,QP μ' d ns'/\Zg ns'=V7 (Zg ns) n/\t∈ns'/\t.n=n/\d'=.obj t.ia/\(∀ u∈ns,u∈ns')/\(∀ u∈ns',u∈ns∨(μ u.ia=none/\μ u.sa=none))/\∀ y,y≠d->μ y≠none->μ' y=μ y) (fun Z Z Z=>False):=by
 refine MFn.of_body (ps:=["self","node"]) K.nms ⟨⟨_,K.kx 114 _ rfl,rfl⟩,Zs K rfl rfl rfl,rfl,rfl,rfl,rfl,by decide,by decide,by decide,rfl,rfl,rfl,fun vs hl=>?_⟩ rfl fun E C F H hD hold Z=>?_
 ·revert vs;exact HJ fun Z Z=>rfl
 have O:=F.ok
 have kx:=KC K F
 have wd:E.Wr d:=.inl (by rw [hD])
 have es:∀ (μ':Mu) (l':List (Str×AV)) p,Has l' "self" (.obj x)->Ev C μ' l' (.Name "self" p) (.obj x):=fun μ' l' p h=>Ev.loc O h (F.kindOf rfl) rfl
 have evGet:∀ (l':List (Str×AV)) p p',Has l' "self" (.obj x)->Has l' "node" (.dat (.int n))->Ev C μ l' (.Attribute (.Name "self" p) "_node2info" p') (.obj d):=fun l' p p' h h'=>Ev.attr kx (es _ _ _ h) rfl T.x T.dx rfl rfl rfl rfl rfl (by simp)
 cases hany:ns.any fun t=>t.n == n with
 | true =>
  refine xEA (List.any_eq_true.mp hany) fun t ht htn=>?_
  have htn:t.n=n:=by simpa using htn
  subst htn
  refine Xs.seq (X1.iteNamed (c:=false) (Φ:=fun f μ' l'=>f=.nxt/\μ'=μ/\l'=(("result":Str),AV.obj t.ia)::[(("self":Str),AV.obj x),(("node":Str),AV.dat (.int t.n))]) H rfl
   (Ev.meth Ks rfl rfl rfl (by decide) (evGet _ _ _ rfl rfl) (U0 H0.dict) (Evs.cons rfl (Ev.loc O rfl (F.kindOf rfl) rfl) Evs.nil) (by have:=fn_get (C:=C) H0.dict t.n;rwa [H0.get ht] at this)) (Zx F rfl) (Ev.none _ _) (QA t.ia) (fun h=>by exact fT h) fun Z=>Xs.nil ⟨rfl,rfl,rfl⟩) ?_
  (intro f μ4 l4 Z0;refine xAA Z0 fun Z1 Z2 Z3=>?_;clear Z0;subst Z1;subst Z2;subst Z3)
  refine Xs.ret (Em.ofEv (Ev.loc O rfl (F.kindOf rfl) rfl)) ?_
  (intro d5 μ5 Z0;refine xA Z0 fun Z1 Z2=>?_;clear Z0;subst Z1;subst Z2)
  refine ⟨ns,t,H0,?_,ht,rfl,rfl,fun Z h=>h,fun Z h=>.inl h,fun Z Z Z=>rfl⟩
  unfold V7
  rw [BQ,hany,if_pos rfl]
 | false =>
  refine Xs.seq (X1.iteNamed (c:=true) (Φ:=fun f μ' l'=>f=.nxt/\∃ ia sa,Has l' "result" (.obj ia)/\μ ia=none/\μ sa=none/\sa≠ia/\QP μ' d (ns++[⟨n,ia,0,sa,[]⟩])/\∀ y,y≠d->μ y≠none->μ' y=μ y) H rfl
   (Ev.meth Ks rfl rfl rfl (by decide) (evGet _ _ _ rfl rfl) (U0 H0.dict) (Evs.cons rfl (Ev.loc O rfl (F.kindOf rfl) rfl) Evs.nil) (by have:=fn_get (C:=C) H0.dict n;rwa [Hc hany] at this)) (Zx F rfl) (Ev.none _ _) (Qo O PJ) (fun Z=>?_) fun h=>by exact tF h) ?_
  ·refine Xs.assignItemName (t:=d) (kvs:=ns.map fun t=>(t.n,AV.obj t.ia)) (k:=n) (Ψ:=fun d' μ'=>∃ ia sa,d'=.obj ia/\μ ia=none/\μ sa=none/\sa≠ia/\μ' ia=some (.info n 0 sa)/\μ' sa=some (.list [])/\∀ y,y≠ia->y≠sa->μ' y=μ y) H ?_ ?_ ?_ ?_ wd (by rw [List.length_map,sizeLine_eq];exact oA ‹_› rfl) (Zx F rfl) rfl ?_
   ·have hk:C.k=k+2:=F.k
    refine Em.callM kx (f:=.ref 74) rfl (Ev.glob O rfl (F.kindOf rfl) rfl) rfl (Ems.ofEvs (Evs.cons rfl (Ev.loc O rfl (F.kindOf rfl) rfl) Evs.nil)) (Θ:=fun Z Z Z=>False) ?_ (fun Z Z Z z=>z.elim)
    (intro ds μ' Z0;refine xA Z0 fun Z1 hμ'=>?_;clear Z0;subst Z1)
    subst hμ'
    have hw:=F.w
    have hh:=F.h₁
    subst hw hh
    have mk:=G8 (E:=E) (Θ:=fun Z Z Z=>False) O kx (k:=k+1) (μ:=μ') (by exact Nat.le_of_eq (Eq.symm ‹_›)) (ds:=[.dat (.int n)]) fun x' hx'=>HT K (Zb _ _ _)
    intro l N s vs I R Q X q xx
    refine mk l N s vs I R Q X (fun v d N' μ' h' tk a b c g r=>q v d N' μ' h' tk ?_ b c g r) xx
    (refine QW fun ZG Zk=>?_;refine ZU a fun ia Z0 m0 Z Z1 Z=>?_;subst Z0;refine ZU Z1 fun sa m1 nsa b1 b2 b3=>?_;clear Z1;refine Zk ?_;clear Zk ZG)
    replace m1:=Eq.trans (Eq.symm (Za nsa)) m1
    exact ⟨ia,sa,rfl,m0,m1,nsa,b1,b2,fun y n1 n2=>by rw [b3 y n1 n2,Za n1]⟩
   ·(intro d' μ' Z0;refine Q1 Z0 fun ia sa Z1 m0 m1 nsa b1 b2 b3=>?_;clear Z0;subst Z1)
    have e1:μ' x=some (.inst 171 dx):=by exact Eq.trans (b3 x (kd2 T.x m0 rfl) (kd2 T.x m1 rfl)) T.x
    have e2:=(b3 dx (kd2 T.dx m0 rfl) (kd2 T.dx m1 rfl)).trans T.dx
    exact Ev.attr kx (es _ _ _ rfl) rfl e1 e2 rfl rfl rfl rfl rfl (by simp)
   ·intro d' μ' _
    exact Ev.loc O rfl (F.kindOf rfl) rfl
   ·(intro d' μ' Z0;refine Q1 Z0 fun ia sa Z1 m0 m1 nsa b1 b2 b3=>?_;clear Z0;subst Z1)
    exact Eq.trans (b3 d (kd2 H0.dict m0 rfl) (kd2 H0.dict m1 rfl)) H0.dict
   ·(intro d' μ' Z0;refine Q1 Z0 fun ia sa Z1 m0 m1 nsa b1 b2 b3=>?_;clear Z0;subst Z1)
    have nd1:ia≠d:=kd2 m0 H0.dict rfl
    have nd2:sa≠d:=kd2 m1 H0.dict rfl
    have u1:∀ t∈ns,t.ia≠ia/\t.ia≠sa/\t.sa≠ia/\t.sa≠sa/\t.ia≠d/\t.sa≠d:=fun t ht=>by
     have i1:=H0.info t ht
     have i2:=H0.succ t ht
     exact ⟨kd2 i1 m0 rfl,kd2 i1 m1 rfl,kd2 i2 m0 rfl,kd2 i2 m1 rfl,kd2 i1 H0.dict rfl,kd2 i2 H0.dict rfl⟩
    refine Xs.nil ⟨rfl,ia,sa,rfl,m0,m1,nsa,⟨?_,fun t ht=>?_,fun t ht=>?_,?_,?_⟩,fun y n1 n2=>?_⟩
    ·rw [Zb,MJ hany];simp
    ·rcases List.mem_append.mp ht with ht|ht
     ·refine ZR (u1 t ht) fun a1 a2 a3 a4 a5 a6=>?_
      exact Eq.trans (Za a5) (Eq.trans (b3 _ a1 a2) (H0.info t ht))
     ·rw [List.mem_singleton.mp ht,Za nd1];exact b1
    ·rcases List.mem_append.mp ht with ht|ht
     ·refine ZR (u1 t ht) fun a1 a2 a3 a4 a5 a6=>?_
      exact Eq.trans (Za a6) (Eq.trans (b3 _ a3 a4) (H0.succ t ht))
     ·rw [List.mem_singleton.mp ht,Za nd2];exact b2
    ·rw [List.map_append,List.nodup_append]
     refine ⟨H0.nd,by simp,fun a ha b hb=>?_⟩
     (refine xEA (List.mem_map.mp ha) fun t ht Z0=>?_;subst Z0)
     rw [List.any_eq_false] at hany
     have:=hany t ht
     simp at hb
     subst hb
     simpa using this
    ·rw [List.map_append,List.nodup_append]
     refine ⟨H0.sd,by simp,fun a ha b hb=>?_⟩
     (refine xEA (List.mem_map.mp ha) fun t ht Z0=>?_;subst Z0)
     simp at hb
     subst hb
     exact (u1 t ht).2.2.2.1
    ·rw [Za n1,b3 y (fun q=>by rw [q,m0] at n2;exact n2 rfl) (fun q=>by rw [q,m1] at n2;exact n2 rfl)]
  ·(intro f μ4 l4 Z0;refine xA Z0 fun Z1 Zr0=>?_;refine xEE Zr0 fun ia sa Zr1=>?_;clear Zr0;refine ZR Zr1 fun hres m0 m1 nsa HN fr=>?_;clear Zr1;clear Z0;subst Z1)
   refine Xs.ret (Em.ofEv (Ev.loc O hres (F.kindOf rfl) rfl)) ?_
   (intro d5 μ5 Z0;refine xA Z0 fun Z1 Z2=>?_;clear Z0;subst Z1;subst Z2)
   refine ⟨_,⟨n,ia,0,sa,[]⟩,HN,?_,by simp,rfl,rfl,fun u hu=>by simp [hu],fun u hu=>?_,fr⟩
   ·unfold V7
    rw [BQ,hany]
    simp [Zg]
   ·rcases List.mem_append.mp hu with hu|hu
    ·exact .inl hu
    ·rw [List.mem_singleton.mp hu];exact .inr ⟨m0,m1⟩
noncomputable def Jx (bs:List Bn) (n k:Int):List Bn:=bs.map fun b=>if b.1=n then (b.1,b.2.1+k,b.2.2) else b
noncomputable def W9 (bs:List Bn) (p n:Int):List Bn:=bs.map fun b=>if b.1=p then (b.1,b.2.1,b.2.2++[n]) else b
noncomputable def Bu (bs:List Bn) (n:Int) (ps:List Int):List Bn:=ps.foldl (fun bs p=>W9 (V7 bs p) p n) (Jx (V7 bs n) n ps.length)
theorem KP {ns:List Nd} (nd:(ns.map (·.n)).Nodup) {t u:Nd} (ht:t∈ns) (hu:u∈ns) (e:u.n=t.n):u=t:=by
 have h1:=UF nd ht
 have h2:=UF nd hu
 rw [e,h1] at h2
 exact (Option.some.inj h2).symm
noncomputable def VQ (ns:List Nd) (p n:Int):List Nd:=ns.map fun t=>if t.n=p then { t with su:=t.su++[n] } else t
theorem Yh {ns:List Nd}{p n:Int}{u:Nd} (h:u∈VQ ns p n):∃ v∈ns,v.n=u.n/\v.ia=u.ia/\v.sa=u.sa/\v.np=u.np/\u.su.length≤v.su.length+1:=by
 (refine xEA (List.mem_map.mp h) fun v hv Z0=>?_;subst Z0)
 refine ⟨v,hv,?_⟩
 split
 ·exact ⟨rfl,rfl,rfl,rfl,by simp⟩
 ·exact ⟨rfl,rfl,rfl,rfl,by exact Nat.le_add_right _ _⟩
theorem Dj (ns:List Nd) (p n:Int):Zg (VQ ns p n)=W9 (Zg ns) p n:=by
 delta Zg VQ W9
 rw [List.map_map,List.map_map]
 refine List.map_congr_left fun t Z=>?_
 dsimp only [Function.comp]
 split <;> rfl
set_option tactic.hygienic true in
theorem Mx {ns:List Nd} (nd:(ns.map (·.n)).Nodup) {t:Nd} (ht:t∈ns) (k:Int):Zg (ZI ns t.n (t.np+k))=Jx (Zg ns) t.n k:=by
 delta Zg ZI Jx
 rw [List.map_map,List.map_map]
 refine List.map_congr_left fun u hu=>?_
 dsimp only [Function.comp]
 split
 ·rename_i h;rw [KP nd ht hu h]
 ·rfl
theorem QP.addSu {μ:Mu}{d:Addr}{ns:List Nd} (H:QP μ d ns) {t:Nd} (ht:t∈ns) (n:Int):QP (upd μ t.sa (.list ((t.su++[n]).map fun i=>.dat (.int i)))) d (VQ ns t.n n):=by
 have hs:=H.succ t ht
 have hd:d≠t.sa:=kd2 H.dict hs rfl
 refine ⟨?_,fun s h=>?_,fun s h=>?_,?_,?_⟩
 ·refine Eq.trans (Za hd) (Eq.trans H.dict ?_)
  delta VQ
  rw [List.map_map]
  congr 2
  exact List.map_congr_left fun s Z=>by dsimp only [Function.comp];split <;> rfl
 ·(refine xE (Yh h) fun v Zr0=>?_;refine ZR Zr0 fun hv a1 a2 a3 a4 Z=>?_;clear Zr0)
  have:s.ia≠t.sa:=fun q=>by have h1:=H.info v hv;rw [a2,q,hs] at h1;cases h1
  rw [Za this,← a1,← a2,← a3,← a4];exact H.info v hv
 ·(refine xEA (List.mem_map.mp h) fun u hu Z0=>?_;subst Z0)
  by_cases q:u.n=t.n
  ·have:=KP H.nd ht hu q
   subst this
   simp only [if_true];exact Eq.trans (Zb _ _ _) rfl
  ·simp only [if_neg q]
   have:u.sa≠t.sa:=fun z=>by
    have h1:∀ {ns:List Nd},(ns.map (·.sa)).Nodup->u∈ns->t∈ns->u=t:=fun {ns} nd h1 h2=>by
     induction ns with
     | nil=>exact absurd h1 List.not_mem_nil
     | cons s r ih =>
      rw [List.map_cons,List.nodup_cons] at nd
      rcases List.mem_cons.mp h1 with e1|h1'
      ·rcases List.mem_cons.mp h2 with e2|h2'
       ·rw [e1,e2]
       ·exact (nd.1 (List.mem_map.mpr ⟨t,h2',by rw [← z,e1]⟩)).elim
      ·rcases List.mem_cons.mp h2 with e2|h2'
       ·exact (nd.1 (List.mem_map.mpr ⟨u,h1',by rw [z,e2]⟩)).elim
       ·exact ih nd.2 h1' h2'
    exact q (by rw [h1 H.sd hu ht])
   exact Eq.trans (Za this) (H.succ u hu)
 ·have:(VQ ns t.n n).map (·.n)=ns.map (·.n):=by
   delta VQ;rw [List.map_map];exact List.map_congr_left fun s Z=>by dsimp only [Function.comp];split <;> rfl
  rw [this];exact H.nd
 ·have:(VQ ns t.n n).map (·.sa)=ns.map (·.sa):=by
   delta VQ;rw [List.map_map];exact List.map_congr_left fun s Z=>by dsimp only [Function.comp];split <;> rfl
  rw [this];exact H.sd
theorem Vt (ns:List Nd):(Zg ns).length=ns.length:=by delta Zg;simp
theorem VJ (bs:List Bn) (n:Int):(V7 bs n).length≤bs.length+1:=by delta V7;split <;> simp
theorem BT (bs:List Bn) (p n:Int):(W9 bs p n).length=bs.length:=by delta W9;simp
theorem Yq (bs:List Bn) (p n:Int):(Jx bs p n).length=bs.length:=by delta Jx;simp
theorem UC (n:Int):∀ (ps:List Int) (bs:List Bn),(ps.foldl (fun bs p=>W9 (V7 bs p) p n) bs).length≤bs.length+ps.length
 | [],bs=>by simp
 | p::ps,bs=>by
  have h1:=UC n ps (W9 (V7 bs p) p n)
  rw [BT] at h1
  have h2:=VJ bs p
  dsimp only [List.foldl_cons,List.length_cons]
  lia
theorem QI.trans {E:Ent}{μ μ' μ'':Mu} (a:QI E μ μ') (b:QI E μ' μ''):QI E μ μ'':=fun x n=>(b x n).elim (a x) .inr
theorem QI.upd {E:Ent}{μ:Mu}{a:Addr}{m:MO} (h:μ a≠none):QI E μ (upd μ a m):=fun x n=>by
 by_cases q:x=a
 ·exact .inl (q▸h)
 ·rw [Za q] at n;exact .inl n
theorem QI.refl {E:Ent} (μ:Mu):QI E μ μ:=fun Z n=>.inl n
theorem Zr.invC {N:Addr->Prop}{h:Heap}{vs:List Value}{a:AV}{ds:List AV} (r:Zr N h vs (a::ds)):∃ v us,vs=v::us/\RdA N h v a/\Zr N h us ds:=by
 cases r with|cons x y=>exact ⟨_,_,rfl,x,y⟩
noncomputable def PE (μ:Mu) (ns ns':List Nd):Prop:=∀ u∈ns',(∃ v∈ns,v.ia=u.ia/\v.sa=u.sa)∨(μ u.ia=none/\μ u.sa=none)
theorem OS {w:World}{h₁:Heap} (K:K1 w h₁) {k:Nat}{μ:Mu}{x dx d:Addr}{po nf n:Int}{ps:List Int}{ns:List Nd} (T:Ua μ x dx d (.dat .none) po nf) (H0:QP μ d ns) (hz:ns.length+ps.length≤900) (hzs:∀ t∈ns,t.su.length≤500) :
  MFn w h₁ (k+4) μ 121 (.obj x::.dat (.int n)::(Zc ps).map .dat) (fun y=>y=d∨∃ t∈ns,y=t.ia∨y=t.sa)
   (fun d' μ'=>d'=.dat .none/\∃ ns',QP μ' d ns'/\Zg ns'=Bu (Zg ns) n ps/\PE μ ns ns'/\(∀ u∈ns',u.su.length≤500+ps.length)/\∀ y,y≠d->(∀ t∈ns,y≠t.ia/\y≠t.sa)->μ y≠none->μ' y=μ y) (fun Z Z Z=>False):=by
 refine MFn.of_bodyB (ps:=["self","node","predecessors"]) (ds:=[.obj x,.dat (.int n),.dat (.tuple (Zc ps))]) K.nms ⟨⟨_,K.kx 121 _ rfl,rfl⟩,Zs K rfl rfl rfl,rfl,rfl,rfl,rfl,by decide,by decide,by decide,rfl,rfl,rfl⟩ rfl (fun A envs N s vs W R Q E' q=>?_) fun E C F H hD hold Z=>?_
 ·(refine Zn R.invC fun v rest Z0 r1 R2=>?_;subst Z0)
  (refine Zn R2.invC fun v' rest' Z0 r2 r3=>?_;subst Z0)
  have hd:Rds N s.heap rest' (Zc ps):=r3.datas (QK _)
  have hl:(Zc ps).length≤sizeLine:=by rw [List.length_map,sizeLine_eq];lia
  show wpAny _ _ (if (decide (rest'.length+1+1 > 2) && false)=true then _ else _) Q E' s
  rw [Bool.and_false,if_neg (by decide)]
  show wpAny _ _ (newTuple rest' >>= fun t=>pure [(("self":Str),v),(("node":Str),v'),(("predecessors":Str),t)]) Q E' s
  refine wpAny_bind (wpAny_newTuple ?_ ?_)
  ·refine wpAny_pure ?_
   have fz:Fz N N s.heap (s.heap.push { cls:=.type "tuple",data:=.seq rest'.toArray }):=⟨fun b o Z e=>Heap.get?_push_of_some _ e,fun Z y=>.inl y⟩
   exact q [v,v',.ref s.heap.objs.size] _ s.toks (fun b o e=>Heap.get?_push_of_some _ e) (.cons (r1.mono fz) (.cons (r2.mono fz) (.cons (Rd.newTuple W.nhi hd hl) .nil)))
  ·rw [hd.length];exact hl
 refine Xs.post fun Ψ0 mk0=>?_
 have O:=F.ok
 have kx:=KC K F
 have hk:C.k=k+3:=F.k
 have hwC:=F.w
 have hhC:=F.h₁
 have es:∀ (μ':Mu) (l':List (Str×AV)) p,Has l' "self" (.obj x)->Ev C μ' l' (.Name "self" p) (.obj x):=fun μ' l' p h=>Ev.loc O h (F.kindOf rfl) rfl
 have fn114:∃ o fd,C.h₁.get? 114=some o/\o.data=.func fd:=⟨_,_,by rw [hhC];exact K.kx 114 _ rfl,rfl⟩
 have xd:x≠d:=kd2 T.x H0.dict rfl
 have dxd:dx≠d:=kd2 T.dx H0.dict rfl
 have xns:∀ t∈ns,x≠t.ia/\x≠t.sa:=fun t ht=>⟨kd2 T.x (H0.info t ht) rfl,kd2 T.x (H0.succ t ht) rfl⟩
 have dxns:∀ t∈ns,dx≠t.ia/\dx≠t.sa:=fun t ht=>⟨kd2 T.dx (H0.info t ht) rfl,kd2 T.dx (H0.succ t ht) rfl⟩
 let Fr:Mu->List Nd->Prop:=fun μ' ns'=>QP μ' d ns'/\PE μ ns ns'/\QI E μ μ'/\(∀ y,μ y≠none->μ' y≠none)/\∀ y,y≠d->(∀ t∈ns,y≠t.ia/\y≠t.sa)->μ y≠none->μ' y=μ y
 have tsOf:∀ μ' ns',Fr μ' ns'->Ua μ' x dx d (.dat .none) po nf:=fun μ' ns' h=>⟨(h.2.2.2.2 x xd xns (by rw [T.x];exact Option.some_ne_none _)).trans T.x,(h.2.2.2.2 dx dxd dxns (by rw [T.dx];exact Option.some_ne_none _)).trans T.dx⟩
 have wd:E.Wr d:=.inl (by rw [hD];exact .inl rfl)
 have wOf:∀ μ' ns',Fr μ' ns'->∀ u∈ns',E.Wr u.ia/\E.Wr u.sa:=fun μ' ns' h u hu=>by
  rcases h.2.1 u hu with ⟨v,hv,e1,e2⟩|⟨e1,e2⟩
  ·exact ⟨.inl (by rw [hD];exact .inr ⟨v,hv,.inl e1.symm⟩),.inl (by rw [hD];exact .inr ⟨v,hv,.inr e2.symm⟩)⟩
  ·exact ⟨.inr ((h.2.2.1 u.ia (by rw [h.1.info u hu];exact Option.some_ne_none _)).resolve_left fun z=>z e1),.inr ((h.2.2.1 u.sa (by rw [h.1.succ u hu];exact Option.some_ne_none _)).resolve_left fun z=>z e2)⟩
 have callGet:∀ (μ':Mu) (ns':List Nd) (l':List (Str×AV)) (e:Expr) (m:Int) (p apos pos:Pos) (Φ:Zq),Fr μ' ns'->ns'.length≤1000->Has l' "self" (.obj x)->Ev C μ' l' e (.dat (.int m))->Zu [e]=true->(apos.endLine == pos.line)=true ->
   Em E C μ' l' (.Call (.Attribute (.Name "self" p) "_get_nodeinfo" apos) [e] [] pos) (fun d' μ''=>∃ ns'' t,Fr μ'' ns''/\Zg ns''=V7 (Zg ns') m/\t∈ns''/\t.n=m/\d'=.obj t.ia/\∀ u∈ns'',u∈ns'∨u.su=[]) Φ:=by
  intro μ' ns' l' e m p apos pos Φ hF hz' hs he hn hl
  have T':=tsOf μ' ns' hF
  refine Em.methOwn (Θ:=fun Z Z Z=>False) kx fn114 rfl hl hn (by simp) (es _ _ _ hs) T'.x T'.dx rfl rfl rfl rfl (Evs.cons hn he Evs.nil) ?_ (fun Z Z Z z=>z.elim)
  have g:=(Yu (k:=k) (n:=m) K T' hF.1 hz')
  rw [← hwC,← hhC] at g
  have g':=g.fnN (E:=E) O (by exact oE ‹_› rfl) fun a ha=>by
   subst ha
   exact ⟨by rw [hF.1.dict];exact Option.some_ne_none _,wd⟩
  intro l N s vs I R Q X q xx
  refine g' l N s vs I R Q X (fun v d' N' μ'' h' tk a b c gg r=>q v d' N' μ'' h' tk ?_ b c gg r) xx
  (refine QW fun ZG Zk=>?_;refine xA a fun Z0 hnew=>?_;clear a;refine xEE Z0 fun ns'' t Zr0=>?_;refine ZK Zr0 fun HN hb ht htn Z1 hin hor hfr=>?_;clear Zr0;clear Z0;subst Z1;refine Zk ?_;clear Zk ZG)
  have key:∀ u∈ns'',u∈ns'∨(u.su=[]/\μ' u.ia=none/\μ' u.sa=none):=fun u hu=>by
   rcases hor u hu with h|⟨h1,h2⟩
   ·exact .inl h
   ·refine .inr ⟨?_,h1,h2⟩
    have hu':(u.n,u.np,u.su)∈Zg ns'':=List.mem_map.mpr ⟨u,hu,rfl⟩
    rw [hb] at hu'
    delta V7 at hu'
    have old:(u.n,u.np,u.su)∉Zg ns':=fun z=>by
     refine xEA (List.mem_map.mp z) fun v hv e=>?_
     have e1:v.n=u.n:=congrArg (·.1) e
     have:=KP HN.nd (hin v hv) hu e1.symm
     subst this
     rw [hF.1.info u hv] at h1;exact sNo h1
    split at hu'
    ·exact absurd hu' old
    ·rcases List.mem_append.mp hu' with z|z
     ·exact absurd z old
     ·simp at z;exact z.2.2
  have kp:∀ y,μ' y≠none->μ'' y≠none:=fun y n=>by
   by_cases q:y=d
   ·rw [q,HN.dict];exact Option.some_ne_none _
   ·rw [hfr y q n];exact n
  have nn:∀ y,μ' y=none->μ y=none:=fun y e=>by
   cases z:μ y with
   | none=>rfl
   | some mo=>exact absurd e (hF.2.2.2.1 y (by rw [z];exact Option.some_ne_none _))
  refine ⟨ns'',t,⟨HN,fun u hu=>?_,hF.2.2.1.trans hnew,fun y n=>kp y (hF.2.2.2.1 y n),fun y n1 n2 n3=>?_⟩,hb,ht,htn,rfl,fun u hu=>(key u hu).imp id fun z=>z.1⟩
  ·rcases key u hu with h|⟨_,h1,h2⟩
   ·exact hF.2.1 u h
   ·exact .inr ⟨nn _ h1,nn _ h2⟩
  ·have e1:=hF.2.2.2.2 y n1 n2 n3
   rw [hfr y n1 (by rw [e1];exact n3),e1]
 have Fr0:Fr μ ns:=⟨H0,fun u hu=>.inl ⟨u,hu,rfl,rfl⟩,QI.refl _,fun Z n=>n,fun Z Z Z Z=>rfl⟩
 refine Xs.seq (X1.ite (b:=false) (Φ:=fun f μ' l'=>f=.nxt/\μ'=μ/\l'=[(("self":Str),AV.obj x),(("node":Str),AV.dat (.int n)),(("predecessors":Str),AV.dat (.tuple (Zc ps)))]) (Tst.cmp rfl (Ev.attr kx (es _ _ _ rfl) rfl T.x T.dx rfl rfl rfl rfl rfl (by simp)) (Ev.none _ _) (Qo O YH)) (fun h=>by exact fT h) fun Z=>Xs.nil ⟨rfl,rfl,rfl⟩) ?_
 (intro f μ1 l1 Z0;refine xAA Z0 fun Z1 hq Z2=>?_;clear Z0;subst Z1;subst Z2)
 subst hq
 refine Xs.assign H (callGet _ ns _ _ n _ _ _ _ Fr0 (by exact oR ‹_› rfl) rfl (Ev.loc O rfl (F.kindOf rfl) rfl) rfl rfl) (Zx F rfl) rfl ?_
 (intro d2 μ2 Z0;refine xEE Z0 fun ns2 t Zr0=>?_;refine ZR Zr0 fun F2 b2 ht htn Z1 su2=>?_;clear Zr0;clear Z0;subst Z1)
 have hl2:ns2.length≤ns.length+1:=by rw [← Vt ns2,b2,← Vt ns];exact VJ _ _
 refine Xs.augNp kx (Ev.loc O rfl (F.kindOf rfl) rfl) (Ev.call (Ev.bui O rfl (F.kindOf rfl) rfl) trivial rfl (Evs.cons rfl (Ev.loc O rfl (F.kindOf rfl) rfl) Evs.nil) (WY (Zc ps))) (Vu t.np (Zc ps).length) (F2.1.info t ht) (wOf _ _ F2 t ht).1 ?_
 have eln:((Zc ps).length:Int)=(ps.length:Int):=by rw [List.length_map]
 rw [eln]
 have HN3:=F2.1.setNp ht (t.np+ps.length)
 have b3:Zg (ZI ns2 t.n (t.np+ps.length))=Jx (V7 (Zg ns) n) n ps.length:=by
  rw [Mx F2.1.nd ht,b2,htn]
 have neOf:∀ μ' ns',Fr μ' ns'->∀ u∈ns',∀ y,(∀ t∈ns,y≠t.ia/\y≠t.sa)->μ1 y≠none->y≠u.ia/\y≠u.sa:=fun μ' ns' h u hu y n1 n2=>by
  rcases h.2.1 u hu with ⟨v,hv,e1,e2⟩|⟨e1,e2⟩
  ·rw [← e1,← e2];exact n1 v hv
  ·exact ⟨fun q=>n2 (q▸e1),fun q=>n2 (q▸e2)⟩
 have F3:Fr (upd μ2 t.ia (.info t.n (t.np+ps.length) t.sa)) (ZI ns2 t.n (t.np+ps.length)):=by
  refine ⟨HN3,fun u hu=>?_,F2.2.2.1.trans (QI.upd (by rw [F2.1.info t ht];exact Option.some_ne_none _)),fun y n'=>?_,fun y n1 n2 n3=>?_⟩
  ·refine ZU (UL hu) fun v hv Z e1 e2 Z=>?_
   rw [← e1,← e2];exact F2.2.1 v hv
  ·by_cases q:y=t.ia
   ·rw [q,Zb];exact Option.some_ne_none _
   ·rw [Za q];exact F2.2.2.2.1 y n'
  ·exact Eq.trans (Za (neOf _ _ F2 t ht y n2 n3).1) (F2.2.2.2.2 y n1 n2 n3)
 have su3:∀ u∈ZI ns2 t.n (t.np+ps.length),u.su.length≤500:=fun u hu=>by
  refine ZU (UL hu) fun v hv Z Z Z e=>?_
  rw [← e]
  rcases su2 v hv with z|z
  ·exact hzs v z
  ·rw [z];simp
 generalize hμ3:upd μ2 t.ia (.info t.n (t.np+ps.length) t.sa)=μ3 at F3 ⊢
 generalize hns3:ZI ns2 t.n (t.np+ps.length)=ns3 at F3 su3 b3
 refine Xs.seq (X1.forTuple (ds:=Zc ps) (Φ:=fun f μ' l'=>f=.nxt/\∃ ns',Fr μ' ns'/\Zg ns'=Bu (Zg ns) n ps/\∀ u∈ns',u.su.length≤500+ps.length) O H (Zx F rfl) (fun Z=>rfl) (Ev.loc O rfl (F.kindOf rfl) rfl)
  (fun i μ' l'=>Has l' "self" (.obj x)/\Has l' "node" (.dat (.int n))/\∃ ns',Fr μ' ns'/\Zg ns'=(ps.take i).foldl (fun bs p=>W9 (V7 bs p) p n) (Zg ns3)/\(∀ u∈ns',u.su.length≤500+i)/\i≤ps.length) ⟨rfl,rfl,ns3,F3,rfl,su3,Nat.zero_le _⟩ ?_ ?_) ?_
 ·intro i μ4 l4 dd hx4 hI
  refine Xs.post fun Ψ1 mk1=>?_
  (refine xA hI fun k1 Zr0=>?_;refine VT Zr0 fun k2 ns4 F4 b4 s4 hi=>?_;clear Zr0;clear hI)
  replace hx4:=Eq.trans (Eq.symm (List.getElem?_map)) hx4
  (refine xEA (Option.map_eq_some_iff.mp hx4) fun m hm Z0=>?_;subst Z0)
  have hi':i < ps.length:=(List.getElem?_eq_some_iff.mp hm).1
  have hl4:ns4.length≤1000:=by
   have e1:=UC n (ps.take i) (Zg ns3)
   rw [← b4,Vt,b3,Yq,List.length_take] at e1
   have e2:=VJ (Zg ns) n
   rw [Vt] at e2
   lia
  refine Xs.assign H (callGet _ ns4 _ _ m _ _ _ _ F4 hl4 (show Has _ "self" _ from k1) (Ev.loc O rfl (F.kindOf rfl) rfl) rfl rfl) (Zx F rfl) rfl ?_
  (intro d5 μ5 Z0;refine xEE Z0 fun ns5 t5 Zr0=>?_;refine ZR Zr0 fun F5 b5 ht5 htn5 Z1 su5=>?_;clear Zr0;clear Z0;subst Z1)
  have s5:∀ u∈ns5,u.su.length≤500+i:=fun u hu=>by
   rcases su5 u hu with z|z
   ·exact s4 u z
   ·rw [z];simp
  refine Xs.expr H (Em.meth Qr rfl rfl rfl (by decide) (Ev.slot kx U6 (Ev.loc O rfl (F.kindOf rfl) rfl) rfl (F5.1.info t5 ht5) rfl) (ZN (F5.1.succ t5 ht5)) (Evs.cons rfl (Ev.loc O (show Has _ "node" _ from k2) (F.kindOf rfl) rfl) Evs.nil) (QJ (Θ:=fun Z Z Z=>False) (F5.1.succ t5 ht5) (wOf _ _ F5 t5 ht5).2 (by rw [List.length_map,sizeLine_eq];have:=s5 t5 ht5;lia)) (fun Z Z Z z=>z.elim)) rfl fun d6 μ6 hd6=>?_
  (refine xA hd6 fun Z0 Z1=>?_;clear hd6;subst Z0;subst Z1)
  have e6:((t5.su.map fun i=>AV.dat (.int i))++[.dat (.int n)])=(t5.su++[n]).map fun i=>AV.dat (.int i):=by simp
  rw [e6]
  refine Xs.nil (mk1 _ _ _ ⟨k1,k2,VQ ns5 t5.n n,⟨F5.1.addSu ht5 n,fun u hu=>?_,F5.2.2.1.trans (QI.upd (by rw [F5.1.succ t5 ht5];exact Option.some_ne_none _)),fun y n'=>?_,fun y n1 n2 n3=>?_⟩,?_,fun u hu=>?_,hi'⟩)
  ·(refine xE (Yh hu) fun v Zr0=>?_;refine ZR Zr0 fun hv Z e1 e2 Z Z=>?_;clear Zr0)
   rw [← e1,← e2];exact F5.2.1 v hv
  ·by_cases q:y=t5.sa
   ·rw [q,Zb];exact Option.some_ne_none _
   ·rw [Za q];exact F5.2.2.2.1 y n'
  ·exact Eq.trans (Za (neOf _ _ F5 t5 ht5 y n2 n3).2) (F5.2.2.2.2 y n1 n2 n3)
  ·have e:ps.take (i+1)=ps.take i++[m]:=by rw [List.take_add_one,hm];rfl
   rw [e,List.foldl_append,← b4,Dj,b5,htn5];rfl
  ·(refine xE (Yh hu) fun v Zr0=>?_;refine ZR Zr0 fun hv Z Z Z Z e=>?_;clear Zr0)
   have:=s5 v hv
   lia
 ·(intro μ4 l4 Z0;refine xA Z0 fun k1 Zr0=>?_;refine VT Zr0 fun k2 ns4 F4 b4 s4 hi=>?_;clear Zr0;clear Z0)
  rw [List.length_map] at b4 s4
  refine Xs.nil ⟨rfl,ns4,F4,?_,s4⟩
  rw [b4,List.take_length,b3];rfl
 ·(intro f μ4 l4 Z0;refine xA Z0 fun Z1 Zr0=>?_;refine QF Zr0 fun ns4 F4 b4 s4=>?_;clear Zr0;clear Z0;subst Z1)
  exact Xs.nil (mk0 _ _ _ ⟨rfl,ns4,F4.1,b4,F4.2.1,s4,F4.2.2.2.2⟩)
end Mine
namespace Mine
open PySem PySem.W PyProof.Rows PySem.Calls PySem.MeetsSeq Builtin Builtin.ObjectAttr
theorem Wv:Slot "list_iterator" "__getattribute__" "object.__getattribute__" :=
 .of (owner:="object") (n:="__getattribute__") (by rw [typeLookup_type,builtinLookup_eq_fast];kernel_rfl) (by decide +kernel) (by decide +kernel) (by decide +kernel) (by decide +kernel) (by refine Eq.trans (isSubtype_type _ _) ?_;kernel_rfl)
theorem GT:entryFor table "object.__getattribute__"=some Builtin.«object.__getattribute__»:=entryFor_of_tree (by kernel_rfl)
theorem Ho (a b:Value):argsOk "object.__getattribute__" ⟨[a,b],[]⟩:=by unfold argsOk;kernel_rfl
theorem U9:typeOf (.builtin "list_iterator.__next__")=pure (.type "wrapper_descriptor"):=by show builtinType _=_;rw [builtinType_eq_fast];kernel_rfl
theorem JW:typeLookup (.type "wrapper_descriptor") "__get__"=pure (some (.builtin "wrapper_descriptor.__get__")):=by rw [typeLookup_type,builtinLookup_eq_fast];kernel_rfl
theorem GG:typeLookup (.type "wrapper_descriptor") "__set__"=pure none:=by rw [typeLookup_type,builtinLookup_eq_fast];kernel_rfl
theorem GI:typeLookup (.type "wrapper_descriptor") "__delete__"=pure none:=by rw [typeLookup_type,builtinLookup_eq_fast];kernel_rfl
theorem BN:Slot "wrapper_descriptor" "__get__" "wrapper_descriptor.__get__" :=
 .of (owner:="wrapper_descriptor") (n:="__get__") JW (by decide +kernel) (by decide +kernel) (by decide +kernel) (by decide +kernel) (by refine Eq.trans (isSubtype_type _ _) ?_;kernel_rfl)
theorem KR:entryFor table "wrapper_descriptor.__get__"=some Builtin.«wrapper_descriptor.__get__»:=entryFor_of_tree (by kernel_rfl)
theorem K7 (a b c:Value):argsOk "wrapper_descriptor.__get__" ⟨[a,b,c],[]⟩:=by unfold argsOk;kernel_rfl
noncomputable abbrev H5 (it:Addr):Obj:={ cls:=.type "method-wrapper",data:=.fields #[.builtin "list_iterator.__next__",.ref it] }
section
variable {w:World}{A:Around}{E:Value->Shared->Prop}
theorem KJ {M:Model}{A:Around}{E:Value->Shared->Prop}{s:Shared}{v:Value}{T:String}{name:Str}{r:Option Value}{Q:Option Value->Shared->Prop} (h1:typeOf v=pure (.type T)) (h2:typeLookup (.type T) name=pure r) (q:Q r s):wpAny M A (specialOf v name) Q E s:=by
 unfold specialOf;rw [h1];exact wpAny_bind (wpAny_pure (wpAny_of_eq h2 q))
theorem GV {s:Shared}{it:Addr}{oI:Obj}{expr:Bool}{Q:Value->Shared->Prop} (hI:s.heap.get? it=some oI) (hc:oI.cls=.type "list_iterator") (hd:oI.dict=none) {vs:Array Value} (hdat:oI.data=.fields vs)
  (q:Q (.ref s.heap.objs.size) { s with heap:=s.heap.push (H5 it),toks:=s.toks+1 }):wpAny (model pg w) A (getAttr (.ref it) "__next__" expr) Q E s:=by
 have hT:∀ tk,Shared.TypeIs { s with toks:=tk } (.ref it) "list_iterator":=fun Z=>⟨oI,hI,hc⟩
 unfold getAttr getAttrBy
 refine wpAny_bind (wpAny_mkText (wpAny_holding (wpAny_bind (wpAny_typeOf (hT _) (wpAny_bind (wpAny_of_eq Wv.lookup ?_))))))
 show wpAny _ _ (getAttrByItsOwn (.ref it) (.str "__next__" s.toks) (.type "list_iterator") (.builtin "object.__getattribute__") true expr) _ _ _
 unfold getAttrByItsOwn hookBefore callGetattribute boundAndCalled
 refine wpAny_bind (wpAny_of_eq (a:=none) rfl ?_)
 refine wpAny_bind (wpAny_attempt (wpAny_holding ?_))
 rw [if_neg (by simp [onTheHeap])]
 refine wpAny_bind (wpAny_of_eq (Wv.bind _) ?_)
 refine wpAny_mono (Q:=fun v s'=>v=.ref s.heap.objs.size/\s'={ s with heap:=s.heap.push (H5 it),toks:=s.toks+1 }) (E:=fun Z Z=>False)
  (wpAny_call_entry Wv (hT _) GT ?_ (Ho _ _)) (fun v s' hv=>?_) fun Z Z z=>z.elim
 ·unfold Builtin.«object.__getattribute__»
  refine wpAny_bind (wpAny_of_eq (a:=(Value.ref it,[Value.str "__next__" s.toks])) rfl ?_)
  refine wpAny_bind (wpAny_of_eq (a:=("__next__":Str)) rfl ?_)
  refine wpAny_bind (wpAny_typeOf (hT _) ?_)
  refine wpAny_bind ?_
  unfold ObjectAttr.find
  refine wpAny_bind (wpAny_of_eq slot_listiter_next.lookup ?_)
  refine wpAny_bind ?_
  unfold ObjectAttr.getOf
  refine KJ U9 JW ?_
  refine wpAny_bind ?_
  unfold ObjectAttr.dataDescriptor? ObjectAttr.takesStores
  refine wpAny_bind (wpAny_bind (KJ U9 GG ?_))
  simp only [Option.isSome_none,Bool.false_eq_true,if_false]
  refine wpAny_bind (KJ U9 GI (wpAny_pure ?_))
  simp only [Option.isSome_none,Bool.false_eq_true,if_false]
  refine wpAny_pure ?_
  unfold ObjectAttr.ownThenClass ObjectAttr.inOwnDict ObjectAttr.ownDict
  refine wpAny_bind (wpAny_bind (wpAny_bind (wpAny_loadPart hI ?_)))
  rw [hdat]
  unfold instanceDict
  refine wpAny_bind (wpAny_loadPart hI ?_)
  rw [hc,hd]
  dsimp only
  refine wpAny_pure ?_
  refine wpAny_pure ?_
  refine wpAny_bind ?_
  refine wpAny_of_eq (a:=()) (by unfold ObjectAttr.copiedAttributeGuard;dsimp only;rw [if_neg (by decide)]) ?_
  unfold ObjectAttr.byTheClass
  refine wpAny_bind (wpAny_rule (wpAny_pure ?_))
  unfold ObjectAttr.bindTo
  refine wpAny_bind (wpAny_holding (wpAny_call_entry (T:="wrapper_descriptor") BN (by exact U9) KR ?_ (K7 _ _ _)))
  unfold Builtin.«wrapper_descriptor.__get__»
  refine wpAny_bind (wpAny_of_eq (a:=(Value.builtin "list_iterator.__next__",some (Value.ref it),some (Value.type "list_iterator"))) (by kernel_rfl) ?_)
  dsimp only
  refine wpAny_bind ?_
  refine wpAny_bind (wpAny_of_eq (a:=(("__next__":Str),Value.type "list_iterator")) (by kernel_rfl) ?_)
  refine wpAny_bind (wpAny_isInstance (b:=true) (hT _) (by refine Eq.trans (isSubtype_type _ _) ?_;kernel_rfl) ?_)
  simp only [Bool.not_true,Bool.false_eq_true,if_false]
  refine wpAny_pure ?_
  refine wpAny_bind ?_
  unfold newFields
  refine wpAny_newObj_type ?_
  exact wpAny_pure ⟨_,rfl,wpAny_pure ⟨_,rfl,rfl,rfl⟩⟩
 ·(refine xA hv fun Z0 Z1=>?_;clear hv;subst Z0;subst Z1)
  exact wpAny_pure q
end
end Mine
namespace Mine
open PySem PySem.W PyProof.Rows PySem.Calls PySem.MeetsSeq Builtin
theorem KA:plainId "list_iterator.__next__"=true:=slot_listiter_next.plain
theorem KL (it:Addr):checkBoundCall "list_iterator.__next__" ⟨[.ref it],[]⟩=pure ():=by kernel_rfl
section
variable {E:Ent}{C:Cx}{μ:Mu}{l:List (Str×AV)}{Φ:Zq}{r:List Stmt}{Ψ:AV->Mu->Prop}{Θ:Value->Value->Mu->Prop}
theorem Gq {w:World}{A:Around}{X:Value->Shared->Prop}{s:Shared}{q it:Addr}{oq:Obj}{vs:Array Value}{Q:Value->Shared->Prop} (hq:s.heap.get? q=some oq) (hc:oq.cls=.type "method-wrapper") (hd:oq.data=.fields vs) (h0:vs[0]?=some (.builtin "list_iterator.__next__")) (h1:vs[1]?=some (.ref it))
  (h:wpAny (model pg w) A.in1 (Builtin.«list_iterator.__next__» ⟨[.ref it],[]⟩) (fun fin s'=>∃ v,fin=.done (.ret v)/\Q v s') X s):wpAny (model pg w) A (call (.ref q) []) Q X s:=by
 refine wpAny_call (codeAny_of_tree ?_)
 show wpAny _ _ (callAny (.ref q) ⟨[],[]⟩) _ _ _
 unfold callAny
 refine wpAny_bind (wpAny_load hq ?_)
 rw [hd,hc]
 simp only [h0,h1]
 rw [if_pos (by decide),if_pos (by decide)]
 refine wpAny_bind (wpAny_of_eq (KL it) ?_)
 refine wpAny_pure (a:=Fin.again (.builtin "list_iterator.__next__" ⟨[.ref it],[]⟩)) ⟨Code.quiet_builtin _ (by decide +kernel),?_⟩
 refine codeAny_builtin entry_listiter_next ?_
 rw [Around.under_plainId KA _]
 refine wpAny_mono h (fun fin s' z=>?_) fun Z Z z=>z
 obtain ⟨v,rfl,z⟩:=z
 exact z
theorem KH {q it t:Addr}{i:Nat}{xs:List AV}{d:AV} (hq:μ q=some (.nxt it)) (hi:μ it=some (.iter t i)) (ht:μ t=some (.list xs)) (hx:xs[i]?=some d) (hw:E.Wr it) :
  FnM E C μ (.ref q) [] (fun d' μ'=>d'=d/\μ'=upd μ it (.iter t (i+1))) Θ:=by
 intro l N s vs I R Q X qq xx
 cases R
 refine VX (I.st.wd.mu q _ hq) fun Z Z oq hoq hcq vq hdq h0 h1=>?_
 (refine xAA (I.st.wd.mu it _ hi) fun Z Z Zr0=>?_;refine QF Zr0 fun oi hoi hci hdi=>?_;clear Zr0)
 refine QF (Z7 I.st.wd ht) fun us hl Z hr=>?_
 (refine VE hl fun ol hol Z nl hdl=>?_;clear hl)
 refine xEA (hr.get hx) fun v e1 e2=>?_
 refine Gq hoq hcq hdq h0 h1 ?_
 show wpAny _ _ (field (.ref it) 0 >>= _) _ _ s
 refine wpAny_bind (wpAny_field hoi hdi (x:=.ref t) rfl ?_)
 show wpAny _ _ (if (Value.ref t == Value.none)=true then _ else _) _ _ s
 rw [if_neg (show ¬ ((Value.ref t == Value.none)=true) from Bool.false_ne_true)]
 show wpAny _ _ (field (.ref it) 1 >>= _) _ _ s
 refine wpAny_bind (wpAny_field hoi hdi (x:=.int i 0) rfl ?_)
 show wpAny _ _ (seqItems? (.ref t) >>= _) _ _ s
 refine wpAny_bind (wpAny_seqItems hol hdl ?_)
 have e1':us.toArray[i]?=some v:=by simpa using e1
 simp only [Int.toNat_natCast,e1']
 refine wpAny_bind (wpAny_setField hoi hdi (by exact Nat.le_refl _) (wpAny_pure ⟨v,rfl,?_⟩))
 have hs:=Heap.SameBut.update s.heap it (Obj.mapFields (·.setIfInBounds 1 (rawInt ((i:Int)+1))))
 have he:=Heap.get?_update_self (Obj.mapFields (·.setIfInBounds 1 (rawInt ((i:Int)+1)))) hoi (Obj.isFreed_of_fields (Obj.data_mapFields hdi _))
 obtain ⟨a,b⟩:=I.upd hi (m':=.iter t (i+1)) (fun Z z=>by cases z) hw hs he fun F=>⟨(Obj.cls_mapFields ..).trans hci,by refine Eq.trans (Obj.data_mapFields hdi _) ?_;simp [rawInt]⟩
 have g:Gr N N μ (upd μ it (.iter t (i+1))) s.heap:=⟨fun Z z=>z,fun Z z=>.inl z,fun y hy=>by
  by_cases z:y=it
  ·left;rw [z,hi];exact Option.some_ne_none _
  ·rw [Za z] at hy;exact .inl hy⟩
 exact qq v d N _ _ _ ⟨rfl,rfl⟩ a b g (e2.mono (I.fz b g))
theorem BC (hh:C.A.handled=none) {q it t:Addr}{xs:List AV} (hq:μ q=some (.nxt it)) (hi:μ it=some (.iter t xs.length)) (ht:μ t=some (.list xs)) (hw:E.Wr it) :
  FnM E C μ (.ref q) [] (fun Z Z=>False) (fun c x μ'=>c=.type "StopIteration"/\x=.none/\μ'=upd μ it .any):=by
 intro l N s vs I R Q X qq xx
 cases R
 refine VX (I.st.wd.mu q _ hq) fun Z Z oq hoq hcq vq hdq h0 h1=>?_
 (refine xAA (I.st.wd.mu it _ hi) fun Z Z Zr0=>?_;refine QF Zr0 fun oi hoi hci hdi=>?_;clear Zr0)
 refine QF (Z7 I.st.wd ht) fun us hl Z hr=>?_
 (refine VE hl fun ol hol Z nl hdl=>?_;clear hl)
 refine Gq hoq hcq hdq h0 h1 ?_
 show wpAny _ _ (field (.ref it) 0 >>= _) _ _ s
 refine wpAny_bind (wpAny_field hoi hdi (x:=.ref t) rfl ?_)
 show wpAny _ _ (if (Value.ref t == Value.none)=true then _ else _) _ _ s
 rw [if_neg (show ¬ ((Value.ref t == Value.none)=true) from Bool.false_ne_true)]
 show wpAny _ _ (field (.ref it) 1 >>= _) _ _ s
 refine wpAny_bind (wpAny_field hoi hdi (x:=.int xs.length 0) rfl ?_)
 show wpAny _ _ (seqItems? (.ref t) >>= _) _ _ s
 refine wpAny_bind (wpAny_seqItems hol hdl ?_)
 have e1':us.toArray[xs.length]?=none:=by rw [← hr.length];simp
 simp only [Int.toNat_natCast,e1']
 refine wpAny_bind (wpAny_rule (wpAny_bind (wpAny_setField hoi hdi (by simp) ?_)))
 have hs:=Heap.SameBut.update s.heap it (Obj.mapFields (·.setIfInBounds 0 Value.none))
 have he:=Heap.get?_update_self (Obj.mapFields (·.setIfInBounds 0 Value.none)) hoi (Obj.isFreed_of_fields (Obj.data_mapFields hdi _))
 refine xA (I.upd hi (m':=.any) (fun Z z=>by cases z) hw hs he fun F=>trivial) fun a b=>?_
 have g:Gr N N μ (upd μ it .any) s.heap:=⟨fun Z z=>z,fun Z z=>.inl z,fun y hy=>by
  by_cases z:y=it
  ·left;rw [z,hi];exact Option.some_ne_none _
  ·rw [Za z] at hy;exact .inl hy⟩
 show wpAny _ _ (newExc (.type "StopIteration") [] >>= _) _ _ _
 refine wpAny_bind ?_
 dsimp only [newExc,newTuple]
 refine wpAny_bind (wpAny_newObj_type ?_ (by size_fits))
 refine wpAny_bind (m:=firstArgMember _ _) (wpAny_of_eq (a:=Value.none) (by first|rfl|(dsimp only [firstArgMember];rfl)) ?_)
 refine wpAny_newObj_type ?_ (by size_fits)
 dsimp only [raiseNew]
 refine wpAny_bind (wpAny_handled ?_)
 rw [show C.A.in1.handled=none from hh]
 refine wpAny_bind (wpAny_pure (wpAny_throw ?_))
 generalize hg1:s.heap.update it (Obj.mapFields (·.setIfInBounds 0 Value.none))=g1 at a b
 refine xx _ (.type "StopIteration") .none .new N _ g1 _ s.toks ⟨rfl,rfl,rfl⟩ a b g ⟨.of_keeps fun b o e=>Heap.get?_push_of_some _ (Heap.get?_push_of_some _ e),?_,_,_,Heap.get?_push_size _ rfl,rfl,rfl,rfl,rfl⟩ (.inl rfl)
 rw [Heap.size_push]
 exact Heap.get?_none_of_le (Nat.le_succ _)
theorem Em.callRef {fe:Expr}{pos:Pos}{q it:Addr} (he:eval (.Call fe [] [] pos) C.env=(do callWith pos (← eval fe C.env) [] [] [])) (hf:Ev C μ l fe (.obj q)) (hq:μ q=some (.nxt it)) (hF:FnM E C μ (.ref q) [] Ψ Θ) (hΘ:∀ c t μ',Θ c t μ'->Φ (.exc c t) μ' l):Em E C μ l (.Call fe [] [] pos) Ψ Φ:=by
 intro N s I Q X qq xx
 rw [he]
 refine wpAny_bind (hf N s I.st _ _ fun v h1 t1 P1 R1=>?_)
 subst R1
 have I1:=I.pu P1
 (refine VX (I1.st.wd.mu q _ hq) fun Z Z Z0 hoq hcq vq hdq h0 h1'=>?_;rcases Z0 with ⟨oc,od,da,sl⟩)
 dsimp only at hcq hdq
 subst hcq hdq
 refine callWith_of (P:=fun h=>h.get? q=some ⟨.type "method-wrapper",od,.fields vq,sl⟩) rfl (fun h hp=>⟨.machine,.inr (.inl rfl),(Looks.ld (part:=none) hp).andThen .now⟩) (evalArgs_nil3 ⟨hoq,?_⟩)
 have K0:Kp C μ s.heap h1:=.ofPu P1
 refine hF l N { s with heap:=h1,toks:=t1 } [] I1 .nil Q X (fun v d N' μ' h' tk a b c g r=>?_) fun e cls ctx ph N' μ' h1' h' tk a b c g X1 hp=>?_
 ·exact qq v d N' μ' h' tk a b (K0.trans c (.refl N μ s.heap)) ((Gr.refl N μ s.heap).trans g K0.al) r
 ·exact xx e cls ctx ph N' μ' l h1' h' tk (hΘ _ _ _ a) b (K0.trans c (.refl N μ s.heap)) ((Gr.refl N μ s.heap).trans g K0.al) X1 (hp.elim .inl fun y=>.inr (.inl y))
theorem Em.iterNext {x:Str}{e:Expr}{p pos pos':Pos}{t:Addr}{xs:List AV} (hf:Ev C μ l (.Name x p) (.cal (.builtin "iter"))) (hn:Zu [e]=true) (he:Ev C μ l e (.obj t)) (ht:μ t=some (.list xs))
  (hb:attributeBase (.Call (.Name x p) [e] [] pos) "__next__" C.env (eval (.Call (.Name x p) [e] [] pos) C.env)=eval (.Call (.Name x p) [e] [] pos) C.env) :
  Em E C μ l (.Attribute (.Call (.Name x p) [e] [] pos) "__next__" pos') (fun d μ'=>∃ it q,d=.obj q/\it≠q/\μ it=none/\μ q=none/\E.h0.get? it=none/\E.h0.get? q=none/\μ'=upd (upd μ it (.iter t 0)) q (.nxt it)) Φ:=by
 intro N s I Q X qq xx
 refine Attribute_any_ (Call_Name rfl (hf N s I.st _ _ fun fv h1 t1 P1 R1=>?_)) (by rw [arm_eval_Attribute,hb])
 subst R1
 refine Qq (C:=C) (f:=.builtin "iter") trivial hn ((Evs.cons hn he Evs.nil) pos N _ (I.st.pu P1) _ _ fun vs h2 t2 P2 R2=>⟨((I.st.pu P1).pu P2).wd.stays,?_⟩)
 (refine xEA R2.inv1 fun v Z0 r1=>?_;subst Z0)
 subst r1
 have I2:=(I.pu P1).pu P2
 refine QF (Z7 I2.st.wd ht) fun us hl Z hr=>?_
 refine call_function_entry (by decide +kernel) (by decide +kernel) kdk_entry_iter (kdk_args_iter _) ?_
 unfold Builtin.«iter»
 refine wpAny_bind (m:=someArgs "iter" 1 2 _) (wpAny_of_eq (a:=[Value.ref t]) (by first|rfl|kernel_rfl!) ?_)
 show wpAny _ _ (pyIter (.ref t) >>= _) _ _ _
 refine wpAny_bind (wpAny_pyIter_list hl ?_)
 refine wpAny_pure ⟨_,rfl,?_⟩
 refine Qe (I2.new (fun Z q=>by cases q) (a:=h2.objs.size) (m':=.iter t 0) (h':=h2.push { cls:=.type "list_iterator",data:=.fields #[.ref t,.int 0 0] }) (fun b o e=>Heap.get?_push_of_some _ e) (get?_size_none h2) (Heap.get?_push_size _ rfl) ⟨rfl,rfl⟩) fun I3 K3 G3 h03 m03=>?_
 refine GV (s:={ s with heap:=h2.push { cls:=.type "list_iterator",data:=.fields #[.ref t,.int 0 0] },toks:=t2 }) (Heap.get?_push_size _ rfl) rfl rfl rfl ?_
 generalize hg3:h2.push { cls:=.type "list_iterator",data:=.fields #[.ref t,.int 0 0] }=g3 at I3 K3
 refine Qe (I3.new (fun Z q=>by cases q) (a:=g3.objs.size) (m':=.nxt h2.objs.size) (h':=g3.push (H5 h2.objs.size)) (fun b o e=>Heap.get?_push_of_some _ e) (get?_size_none g3) (Heap.get?_push_size _ rfl) ⟨rfl,_,rfl,rfl,rfl⟩) fun I4 K4 G4 h04 m04=>?_
 have ne:h2.objs.size≠g3.objs.size:=by rw [← hg3,Heap.size_push];exact (Nat.succ_ne_self _).symm
 replace m04:=Eq.trans (Eq.symm (Za (Ne.symm ne))) m04
 have K02:Kp C μ s.heap h2:=.ofPu (P1.trans P2)
 have K03:Kp C μ s.heap g3:=K02.trans K3 (.refl N μ s.heap)
 have G03:=(Gr.refl N μ s.heap).trans G3 K02.al
 exact qq _ (.obj g3.objs.size) _ _ _ _ ⟨h2.objs.size,_,rfl,ne,m03,m04,h03,h04,rfl⟩ I4 (K03.trans K4 G03) (G03.trans G4 K03.al) rfl
end
end Mine
namespace Mine
open PySem PySem.W PyProof.Rows PySem.Calls PySem.MeetsSeq
section
variable {E:Ent}{C:Cx}{μ:Mu}{l:List (Str×AV)}{Φ:Zq}{r:List Stmt}{Θ:Value->Value->Mu->Prop}
theorem Dr {w:World}{h₁:Heap}{Fs:List Addr}{N:Addr->Prop}{h:Heap}{t:Addr}{xs:List Int} (W:Wd w h₁ Fs N μ h) (ht:μ t=some (.set xs)):h.SetOf (intKind pg w) t (fun k=>decide (k∈xs)) xs.length:=by
 (refine ZL (W.mu t _ ht) fun Z Z o ho Zr0=>?_;refine xE Zr0 fun es Zr1=>?_;clear Zr0;refine Q1 Zr1 fun ep tt a1 a2 a3 a4 a5 a6 a7=>?_;clear Zr1)
 exact ⟨o,es,ep,tt,ho,a1,a2,a3,fun k=>by rw [decide_eq_true_eq];exact a4 k,a5,a6,a7⟩
theorem WS {t:Addr}{xs:List Int} (ht:μ t=some (.set xs)) (k:Int):Op2 C μ (compareOp .In) (.dat (.int k)) (.obj t) (.dat (.bool (decide (k∈xs)))):=by
 intro N s va vb W Ra Rb Q X q
 obtain ⟨tk,rfl⟩:=Rd.invI Ra
 subst Rb
 exact wpAny_inSet_of (intKind_is pg C.w k tk) rfl (Dr W ht) (q _ _ _ (.refl _ _) (.bool _))
theorem MZ:FnM E C μ (.type "set") [] (Dx E μ (.set [])) Θ:=by
 intro l N s vs I R Q X q xx
 cases R
 refine call_set_0 fun led=>?_
 refine Qe (I.new (fun Z q=>by cases q) (m':=.set []) (h':=s.heap.push { cls:=.type "set",dict:=none,data:=.set #[] 0 (.fresh 0 0 led) }) (fun b o e=>Heap.get?_push_of_some _ e) (get?_size_none s.heap) (Heap.get?_push_size _ rfl)     ⟨#[],0,_,⟨rfl,rfl,rfl⟩,rfl,fun e he=>by simp at he,fun k=>by simp,by decide,rfl,rfl⟩) fun a b c d e=>?_
 exact q _ (.obj s.heap.objs.size) _ _ _ s.toks ⟨_,rfl,rfl,d,e⟩ a b c rfl
theorem Mv {t:Addr}{xs:List Int} (ht:μ t=some (.set xs)):Jo C μ (.obj t) "set":=by
 intro N s va W R
 subst R
 have hS:=Dr W ht
 exact ⟨hS.typeIs,hS.noDict⟩
theorem MK:Mth "set" "add" "set.add":=⟨F.plainAttrs_set,F.slot_set_add,F.type_set_add⟩
theorem OB {t:Addr}{xs:List Int}{k:Int} (ht:μ t=some (.set xs)) (hw:E.Wr t) (hz:xs.length≤1000) (hk:k∉xs) :
  FnM E C μ (.builtin "set.add") [.obj t,.dat (.int k)] (fun d' μ'=>d'=.dat .none/\μ'=upd μ t (.set (xs++[k]))) Θ:=by
 intro l N s vs I R Q X q xx
 (refine Zn R.inv2 fun v u Z0 r1 r2=>?_;subst Z0)
 subst r1
 obtain ⟨tk,rfl⟩:=Rd.invI r2
 refine call_set_add (intKind_is pg C.w k tk) rfl (Dr I.st.wd ht) (by show xs.length+1 < 4096;exact ri ‹_› rfl) fun h' hs' hS'=>?_
 (refine Ux hS' fun o es ep tt Zr0=>?_;refine ZK Zr0 fun ho a1 a2 a3 a4 a5 a6 a7=>?_;clear Zr0;clear hS')
 rw [if_neg (by simpa using hk)] at a7
 obtain ⟨a,b⟩:=I.upd ht (m':=.set (xs++[k])) (fun Z z=>by cases z) hw hs' ho fun F=>⟨es,ep,tt,a1,a2,a3,fun k'=>by rw [← a4 k'];simp,a5,a6,by refine Eq.trans a7 ?_;simp⟩
 refine q _ _ N _ h' _ ⟨rfl,rfl⟩ a b ⟨fun Z z=>z,fun Z z=>.inl z,fun y hy=>?_⟩ .none
 by_cases z:y=t
 ·left;rw [z,ht];exact Option.some_ne_none _
 ·rw [Za z] at hy;exact .inl hy
theorem ZQ.at {N:Addr->Prop}{h:Heap}:∀ {ps:List (Int×Value)}{kvs:List (Int×AV)},ZQ N h ps kvs->∀ {i:Nat}{k:Int}{v:Value},ps[i]?=some (k,v)->∃ d,kvs[i]?=some (k,d)/\RdA N h v d:=fun {ps kvs} r {i k v}=>ZQ.ind (P:=fun ps kvs=>∀ (i:Nat) (k:Int) (v:Value),ps[i]?=some (k,v)->∃ d,kvs[i]?=some (k,d)/\RdA N h v d) (fun Z Z Z e=>noS e) (fun a Z q i k v e=>by
 cases i with
 | zero=>cases e;exact ⟨_,rfl,a⟩
 | succ i=>exact q i k v e) r i k v
theorem DU {w:World}{h₁:Heap}{Fs:List Addr}{N:Addr->Prop}{h:Heap}{t:Addr}{kvs:List (Int×AV)} (W:Wd w h₁ Fs N μ h) (ht:μ t=some (.dict kvs)):N t/\t∉Fs/\∃ ps ep o,h.get? t=some o/\h.DictAt (intKind pg w) t ps ep/\ZQ N h ps kvs:=by
 refine xAA (W.mu t _ ht) fun n f Z=>?_
 refine Y_ (Q9 W ht) fun hn ps hd r=>?_
 (refine ZE hd fun o es ep ho Zr0=>?_;refine Qe Zr0 fun hc hdat hk hp hn'=>?_;clear Zr0)
 exact ⟨n,f,ps,ep,o,ho,⟨o,es,ho,hc,hdat,hk,hp,hn'⟩,r⟩
theorem Its.dictKeys (O:C.Ok) {t:Addr}{kvs:List (Int×AV)} (ht:μ t=some (.dict kvs)):Its C μ (.obj t) (kvs.map fun kv=>.dat (.int kv.1)):=by
 intro N s v W R Q X q
 subst R
 (refine xAA (DU W ht) fun nt ft Zr0=>?_;refine xE Zr0 fun ps Zr1=>?_;clear Zr0;refine Zn Zr1 fun ep o ho hat r=>?_;clear Zr1)
 have hne:t≠s.heap.objs.size:=Nat.ne_of_lt (Heap.lt_size ho)
 refine wpAny_pyIter_dict (Ul W ht) hat (q _ _ s.toks (.push _ _ _) ?_)
 refine ⟨s.heap,s.heap.objs.size,[s.heap.objs.size],[t],rfl,fun Z o e=>⟨o,e⟩,.push _ _ _,fun b m=>?_,fun b m=>?_,fun b m=>?_,fun b m x=>?_,fun N' h' P kw F nw=>?_⟩
 ·rw [List.mem_singleton.mp m];exact get?_size_none _
 ·rw [List.mem_singleton.mp m];exact ⟨_,Heap.get?_push_size _ rfl⟩
 ·rw [List.mem_singleton.mp m];exact ⟨ft,_,Heap.get?_push_of_some _ ho⟩
 ·rw [List.mem_singleton.mp m] at x;exact hne (List.mem_singleton.mp x)
 have Ww:=Walks.dictKeys (knd:=intKind pg C.w) (A:=C.A) O.handled s.heap.objs.size t hne ps ep
 have hlen:=r.length
 refine ⟨fun i h=>h.IsKeyIter s.heap.objs.size t i ps.length ep/\h.DictAt (intKind pg C.w) t ps ep,⟨?_,?_,?_,?_,?_⟩,⟨?_,?_⟩⟩
 ·(intro i h Z0;refine xA Z0 fun Z1 Z=>?_;clear Z0;refine xEA Z1 fun o e Z=>?_;clear Z1;intro b m)
  rw [List.mem_singleton.mp m];exact ⟨o,e⟩
 ·(intro i h h' Z0;refine xA Z0 fun st1 st2=>?_;clear Z0;intro k1 k2 F')
  exact ⟨st1.at fun o e=>k1 _ (by exact List.mem_cons_self) o e,st2.at' fun o e=>k2 t (by exact List.mem_cons_self) o e⟩
 ·rintro i d s' Q' E' hx st hQ
  replace hx:=Eq.trans (Eq.symm (List.getElem?_map)) hx
  (refine xEA (Option.map_eq_some_iff.mp hx) fun Z0 hk Z1=>?_;rcases Z0 with ⟨k,dd⟩;subst Z1)
  have hi:i < ps.length:=by rw [hlen];exact (List.getElem?_eq_some_iff.mp hk).1
  refine Ww.item i s' Q' E' hi st fun v h'' tk hP st' kk=>?_
  (refine QE hP fun k' x e1 e2=>?_;clear hP)
  refine xEA (r.at e1) fun d' e3 Z=>?_
  replace e3:=Eq.trans (Eq.symm hk) e3
  (refine xA (Prod.mk.inj (Option.some.inj e3)) fun Z0 Z1=>?_;subst Z0;subst Z1)
  (refine xE (Value.isInt_shape e2) fun t' Z0=>?_;subst Z0)
  exact hQ _ h'' tk (Rd.int _ _) st' kk
 ·rintro s' Q' E' st hQ
  refine Ww.done s' Q' E' ?_ hQ
  rw [List.length_map,← hlen] at st
  exact st
 ·rintro i s' Q' E' st hQ
  exact Ww.self i s' Q' E' st hQ
 ·exact ⟨_,kw _ (by exact List.mem_cons_self) _ (Heap.get?_push_size _ rfl),rfl,rfl⟩
 ·exact hat.at' fun o e=>P.keep t o ft (Heap.get?_push_of_some _ e)
theorem Wy:Mth "dict" "values" "dict.values":=⟨F.plainAttrs_dict,F.slot_dict_values,F.type_dict_values⟩
theorem Itr.dictValues (O:C.Ok) {e:Expr}{apos pos:Pos}{t:Addr}{kvs:List (Int×AV)} (ht:μ t=some (.dict kvs)) (hv:∀ kv∈kvs,∃ a,kv.2=.obj a) (he:Ev C μ l e (.obj t)) (hb:attributeBase e "values" C.env (eval e C.env)=eval e C.env) (hl:(apos.endLine == pos.line)=true) :
  Itr C μ l (.Call (.Attribute e "values" apos) [] [] pos) (kvs.map (·.2)):=by
 intro N s S Q X q
 refine wpAny_Call_method_lateS hb rfl hl (he N s S _ _ fun va h1 t1 P1 R1=>?_)
 subst R1
 refine xA (U0 ht N { s with heap:=h1,toks:=t1 } (.ref t) (S.pu P1).wd rfl) fun tt hd=>?_
 refine ⟨"dict","dict.values",Wy.pa,Wy.slot,Wy.ty,tt,hd,?_⟩
 refine callWith_builtin rfl (Zw rfl ((Evs.nil (C:=C) (μ:=μ) (l:=l)) pos N _ (S.pu P1) _ _ fun vs h2 t2 P2 R2=>?_))
 cases R2
 have S2:=(S.pu P1).pu P2
 refine Y_ (Q9 S2.wd ht) fun hn ps0 hd0 r0=>?_
 refine call_meetsIn F.slot_dict_values hd0.typeIs F.entry_dict_values (F.args_dict_values_1 _) (meets_dict_values (intKind pg C.w) t (Ul S2.wd ht)) ⟨⟨ps0,hd0⟩,?_⟩
 have S3:=S2.pu (.push _ _ { cls:=.type "dict_values",data:=.fields #[.ref t] })
 (refine xAA (DU S3.wd ht) fun nt ft Zr0=>?_;refine xE Zr0 fun ps Zr1=>?_;clear Zr0;refine Zn Zr1 fun ep o ho hat r=>?_;clear Zr1)
 generalize hg3:h2.push { cls:=.type "dict_values",data:=.fields #[.ref t] }=g3 at *
 have hvw:g3.IsValuesView h2.objs.size t:=⟨_,by rw [← hg3];exact Heap.get?_push_size _ rfl,rfl,rfl⟩
 have hne:t≠g3.objs.size:=Nat.ne_of_lt (Heap.lt_size ho)
 have P3:Pu C.Fs s.heap g3:=P1.trans (P2.trans (by rw [← hg3];exact .push _ _ _))
 refine wpAny_pyIter_values (s:={ s with heap:=g3,toks:=t2 }) hvw hat (q _ _ t2 (P3.trans (.push _ _ _)) ?_)
 refine ⟨g3,g3.objs.size,[g3.objs.size],[t],rfl,fun a o e=>(let ⟨_,e'⟩:=P3.fr a o e;⟨_,e'⟩),.push _ _ _,fun b m=>?_,fun b m=>?_,fun b m=>?_,fun b m x=>?_,fun N' h' P kw F nw=>?_⟩
 ·rw [List.mem_singleton.mp m];exact get?_size_none _
 ·rw [List.mem_singleton.mp m];exact ⟨_,Heap.get?_push_size _ rfl⟩
 ·rw [List.mem_singleton.mp m];exact ⟨ft,_,Heap.get?_push_of_some _ ho⟩
 ·rw [List.mem_singleton.mp m] at x;exact hne (List.mem_singleton.mp x)
 have Ww:=Walks.dictValues (knd:=intKind pg C.w) (A:=C.A) O.handled g3.objs.size t hne ps ep
 have hlen:=r.length
 refine ⟨fun i h=>h.IsValIter g3.objs.size t i ps.length ep/\h.DictAt (intKind pg C.w) t ps ep,⟨?_,?_,?_,?_,?_⟩,⟨?_,?_⟩⟩
 ·(intro i h Z0;refine xA Z0 fun Z1 Z=>?_;clear Z0;refine xEA Z1 fun o e Z=>?_;clear Z1;intro b m)
  rw [List.mem_singleton.mp m];exact ⟨o,e⟩
 ·(intro i h h' Z0;refine xA Z0 fun st1 st2=>?_;clear Z0;intro k1 k2 F')
  exact ⟨st1.at fun o e=>k1 _ (by exact List.mem_cons_self) o e,st2.at' fun o e=>k2 t (by exact List.mem_cons_self) o e⟩
 ·rintro i d s' Q' E' hx st hQ
  replace hx:=Eq.trans (Eq.symm (List.getElem?_map)) hx
  (refine xEA (Option.map_eq_some_iff.mp hx) fun Z0 hk Z1=>?_;rcases Z0 with ⟨k,dd⟩;subst Z1)
  have hi:i < ps.length:=by rw [hlen];exact (List.getElem?_eq_some_iff.mp hk).1
  refine Ww.item i s' Q' E' hi st fun v h'' tk hP st' kk=>?_
  (refine xE hP fun k' e1=>?_;clear hP)
  refine xEA (r.at e1) fun d' e3 rv=>?_
  replace e3:=Eq.trans (Eq.symm hk) e3
  (refine xA (Prod.mk.inj (Option.some.inj e3)) fun Z0 Z1=>?_;subst Z0;subst Z1)
  refine xE (hv (k,dd) (List.mem_of_getElem? hk)) fun a ha=>?_
  dsimp only at ha
  subst ha
  exact hQ _ h'' tk rv st' kk
 ·rintro s' Q' E' st hQ
  refine Ww.done s' Q' E' ?_ hQ
  rw [List.length_map,← hlen] at st
  exact st
 ·rintro i s' Q' E' st hQ
  exact Ww.self i s' Q' E' st hQ
 ·exact ⟨_,kw _ (by exact List.mem_cons_self) _ (Heap.get?_push_size _ rfl),rfl,rfl⟩
 ·exact hat.at' fun o e=>P.keep t o ft (Heap.get?_push_of_some _ e)
theorem X1.forDict {x:Str}{px pos:Pos}{iter:Expr}{body orelse:List Stmt}{t:Addr}{kvs:List (Int×AV)} (O:C.Ok) (H:Hdr C) (hk:Zp C x) (hfs:∀ v,foldedSetIterable iter C.env v=pure v) (hi:Ev C μ l iter (.obj t)) (ht:μ t=some (.dict kvs)) (h0:∃ o,E.h0.get? t=some o) (hD:¬ E.D0 t) (hF0:t∉E.F0)
  (inv:Nat->Mu->List (Str×AV)->Prop) (i0:inv 0 μ l)
  (step:∀ i μ l k d,kvs[i]?=some (k,d)->inv i μ l->Xs E C μ ((x,.dat (.int k))::l) body (lp (inv (i+1)) Φ))
  (fin:∀ μ l,inv kvs.length μ l->Xs E C μ l orelse Φ):X1 E C μ l (.For (.Name x px) iter body orelse pos) Φ:=by
 refine WV (xs:=kvs.map fun kv=>.dat (.int kv.1)) H hk hfs inv i0 (fun i μ l d hx hi=>?_) (fun μ l h=>fin μ l (by simpa using h)) fun N s Im0 Q X q=>?_
 ·replace hx:=Eq.trans (Eq.symm (List.getElem?_map)) hx
  (refine xEA (Option.map_eq_some_iff.mp hx) fun Z0 hk Z1=>?_;rcases Z0 with ⟨k,dd⟩;subst Z1)
  exact step i μ l k dd hk hi
 refine hi N s Im0.st _ _ fun v h1 t1 P1 R1=>?_
 subst R1
 have I1:=Im0.pu P1
 (refine xAA (DU I1.st.wd ht) fun nt ft Zr0=>?_;refine xE Zr0 fun ps Zr1=>?_;clear Zr0;refine Zn Zr1 fun ep o ho hat r=>?_;clear Zr1)
 have hne:t≠h1.objs.size:=Nat.ne_of_lt (Heap.lt_size ho)
 (refine xE h0 fun o0 ho0=>?_;clear h0)
 have Ww:=Walks.dictKeys (knd:=intKind pg C.w) (A:=C.A) O.handled h1.objs.size t hne ps ep
 have hlen:=r.length
 have wf:Wf C h1.objs.size (kvs.map fun kv=>.dat (.int kv.1)) (fun Z Z i h=>h.IsKeyIter h1.objs.size t i ps.length ep/\h.DictAt (intKind pg C.w) t ps ep):=by
  refine ⟨fun N μ i d s Q X hx W T q=>?_,fun N μ s Q X W T q=>?_⟩
  ·replace hx:=Eq.trans (Eq.symm (List.getElem?_map)) hx
   (refine xEA (Option.map_eq_some_iff.mp hx) fun Z0 hk Z1=>?_;rcases Z0 with ⟨k,dd⟩;subst Z1)
   have hi:i < ps.length:=by rw [hlen];exact (List.getElem?_eq_some_iff.mp hk).1
   refine Ww.item i s Q X hi T fun v h'' tk hP st' kk=>?_
   (refine QE hP fun k' x e1 e2=>?_;clear hP)
   refine xEA (r.at e1) fun d' e3 Z=>?_
   replace e3:=Eq.trans (Eq.symm hk) e3
   (refine xA (Prod.mk.inj (Option.some.inj e3)) fun Z0 Z1=>?_;subst Z0;subst Z1)
   (refine xE (Value.isInt_shape e2) fun t' Z0=>?_;subst Z0)
   exact q _ h'' tk (Rd.int _ _) (fun b o hb e=>kk b o (fun m=>hb (List.mem_singleton.mp m)) e) (let ⟨o,e,_⟩:=st'.1;⟨o,e⟩) fun Z=>st'
  ·refine Ww.done s Q X ?_ fun h' tk k=>q h' tk fun b o hb e=>k b o (fun m=>hb (List.mem_singleton.mp m)) e
   rw [List.length_map,← hlen] at T
   exact T
 refine wpAny_pyIter_dict (s:={ s with heap:=h1,toks:=t1 }) (Ul I1.st.wd ht) hat (q _ h1 _ t1 _ P1 (fun b o e=>Heap.get?_push_of_some _ e) (get?_size_none _) ⟨_,Heap.get?_push_size _ rfl⟩ wf (fun N' fz=>⟨⟨_,Heap.get?_push_size _ rfl,rfl,rfl⟩,hat.at' fun o e=>Heap.get?_push_of_some _ e⟩) ?_)
 (intro N1 N2 μ1 μ2 l2 i g g' Z0;refine xA Z0 fun it hda=>?_;clear Z0;intro fz Z Im' kI)
 refine ⟨it.at kI,?_⟩
 have e1:=I1.mt.keep t o0 hF0 hD ho0
 have e2:=Im'.mt.keep t o0 hF0 hD ho0
 exact hat.at' fun ot hot=>by replace hot:=Eq.trans (Eq.symm e1) hot;obtain rfl:=Option.some.inj hot;exact e2
end
section
variable {E:Ent}{C:Cx}{μ:Mu}{l:List (Str×AV)}{Φ:Zq}{r:List Stmt}
theorem Ev.sliceMu {v:Expr}{lo hi st:Option Expr}{p pos:Pos}{t:Addr}{xs ys:List PyData}{a b c:Option Int} (hv:Ev C μ l v (.obj t)) (ht:μ t=some (.list (xs.map .dat))) (hz0:xs.length≤sizeLine) (h1:Pt C μ l lo a) (h2:Pt C μ l hi b) (h3:Pt C μ l st c) (hc:c≠some 0)
  (hp:Qx xs a b c ys) (hz:ys.length≤sizeLine) (ops:Value->Value->List Value) (hs:∀ o i,subscripted (.Slice lo hi st p) false o i=operate (ops o i) (getItem o i)) :
  Ev C μ l (.Subscript v (.Slice lo hi st p) pos) (.dat (.list ys)):=by
 intro N s S Q E q
 refine PyProof.Rows.Subscript_ (hv N s S _ _ fun vv g1 t1 P1 R1=>?_)
 have S1:=S.pu P1
 refine wpAny_Slice (h1.ev N { s with heap:=g1,toks:=t1 } S1 _ _ fun va g2 t2 P2 I2=>h2.ev N _ (S1.pu P2) _ _ fun vb g3 t3 P3 I3=>h3.ev N _ ((S1.pu P2).pu P3) _ _ fun vc g4 t4 P4 I4=>?_)
 have P14:=P2.trans (P3.trans P4)
 have S4:=S1.pu P14
 subst R1
 refine QF (Z7 S4.wd ht) fun vs la Z hr=>?_
 have ra:Rds N g4 vs xs:=hr.datas (QK xs)
 have la':(g4.push { cls:=.type "slice",data:=.fields #[va,vb,vc] }).IsList t vs.toArray:=la.at fun o e=>Heap.get?_push_of_some _ e
 refine tail_any la'.typeIs slot_list_getitem.lookup (wpAny_getItem_list_slice la' (Heap.IsSliceOf.new _ _ _ _) I2 I3 I4 hc ?_ (by rw [List.size_toArray,ra.length];exact hz0)) (hs _ _)
 have Pp:Pu C.Fs g4 (g4.push { cls:=.type "slice",data:=.fields #[va,vb,vc] }):=.push _ _ _
 have S5:=S4.pu Pp
 refine q _ _ _ (P1.trans (P14.trans (Pp.trans (.push _ _ _)))) ?_
 have r5:=hp N _ vs (ra.mono (S4.fz Pp))
 have:=Rd.newList S5.wd.nhi r5 hz
 show Rd _ _ _ _
 exact this
theorem Em.callC {x:Str}{p pos:Pos}{f:Value}{Ψ:AV->Mu->Prop}{Θ:Value->Value->Mu->Prop} (hf:Ev C μ l (.Name x p) (.cal f)) (hc:GB C.h₁ f) (hF:FnM E C μ f [] Ψ Θ)
  (hΘ:∀ c t μ',¬ Θ c t μ'):Em E C μ l (.Call (.Name x p) [] [] pos) Ψ Φ:=Em.call hf hc rfl Evs.nil hF hΘ
end
noncomputable def Jr (su:Int->List Int):List (Int×Nat)->Option (Int×List (Int×Nat))
 | []=>none
 | (n,i)::r=>match (su n)[i]? with
  | some m=>some (m,(n,i+1)::r)
  | none=>Jr su r
noncomputable def QN (su:Int->List Int):Nat->Int->List (Int×Nat)->List Int->Option (Option (List Int))
 | 0,_,_,_=>none
 | f+1,node,st,seen =>
  if seen.length > 100∨st.length > 100 then none
  else if node∈seen then
   if node∈st.map (·.1) then some none
   else match Jr su st with
    | none=>some (some seen)
    | some (m,st')=>QN su f m st' seen
  else match Jr su ((node,0)::st) with
   | none=>some (some (seen++[node]))
   | some (m,st')=>QN su f m st' (seen++[node])
noncomputable def Wc (su:Int->List Int) (F:Nat):List Int->List Int->Option Bool
 | [],_=>some false
 | n::r,seen=>if n∈seen then Wc su F r seen else match QN su F n [] seen with
  | none=>none
  | some none=>some true
  | some (some seen')=>Wc su F r seen'
noncomputable def suB (bs:List Bn) (n:Int):List Int:=((bs.find? fun b=>b.1 == n).map (·.2.2)).getD []
theorem OT {ns:List Nd} (nd:(ns.map (·.n)).Nodup) {t:Nd} (ht:t∈ns):suB (Zg ns) t.n=t.su:=by
 unfold suB Zg
 have h:=UF nd ht
 rw [List.find?_map]
 have e:(fun b:Bn=>b.1 == t.n) ∘ (fun t:Nd=>(t.n,t.np,t.su))=fun u=>decide (u.n=t.n):=by
  funext u;simp only [Function.comp];rw [Bool.eq_iff_iff];rfl
 rw [e,h];rfl
noncomputable abbrev Fe:=Int×Nat×Addr×Addr
noncomputable def stk (es:List Fe):List Int:=(es.map (·.1)).reverse
noncomputable def Vf:List Fe->List (Int×AV)
 | []=>[]
 | e::r=>Vf r++[(e.1,.dat (.int r.length))]
noncomputable def beL (es:List Fe):List (Int×Nat):=es.map fun e=>(e.1,e.2.1)
theorem YC:∀ es:List Fe,(Vf es).map (·.1)=stk es
 | []=>rfl
 | e::r=>by simp [Vf,stk,YC r]
theorem DC:∀ es:List Fe,(Vf es).length=es.length
 | []=>rfl
 | e::r=>by simp [Vf,DC r]
theorem Yp {a b:List (Int×AV)}{k:Int}:Qt (a++b) k=(Qt a k).or (Qt b k):=by
 unfold Qt
 rw [List.find?_append]
 cases a.find? (fun kv=>decide (kv.1=k)) <;> rfl
theorem Bg {kvs:List (Int×AV)}{k:Int}:(Qt kvs k).isSome=decide (k∈kvs.map (·.1)):=by
 unfold Qt
 rw [Option.isSome_map,Bool.eq_iff_iff,List.find?_isSome]
 simp
theorem Yy (es:List Fe) (k:Int):(Qt (Vf es) k).isSome=decide (k∈es.map (·.1)):=by
 rw [Bg,YC]
 unfold stk
 simp
theorem HS:∀ (es:List Fe) (k:Int),k∈es.map (·.1)->∃ j:Nat,Qt (Vf es) k=some (.dat (.int j))/\j < es.length
 | [],k,h=>by simp at h
 | e::r,k,h=>by
  by_cases hk:k∈r.map (·.1)
  ·refine xEA (HS r k hk) fun j h1 h2=>?_
   refine ⟨j,?_,by simp;exact Nat.le_succ_of_le ‹_›⟩
   unfold Vf
   rw [Yp,h1];rfl
  ·have hk':k=e.1:=by
    rw [List.map_cons] at h
    rcases List.mem_cons.mp h with h|h
    ·exact h
    ·exact absurd h hk
   refine ⟨r.length,?_,by exact Nat.le_refl _⟩
   unfold Vf
   have hn:Qt (Vf r) k=none:=by
    have:=Yy r k
    rw [decide_eq_false hk] at this
    exact Option.not_isSome_iff_eq_none.mp (by rw [this];decide)
   rw [Yp,hn]
   simp [Qt,hk']
theorem OW {es:List Fe}{n:Int}{x:Nat×Addr×Addr} (h:n∉es.map (·.1)):VZ (Vf es) n (.dat (.int es.length))=Vf ((n,x)::es):=by
 unfold VZ
 rw [if_neg]
 ·rfl
 ·have:=YC es
  intro hx
  rw [List.any_eq_true] at hx
  (refine xEA hx fun kv h1 h2=>?_;clear hx)
  have h3:kv.1∈stk es:=by rw [← this];exact List.mem_map.mpr ⟨kv,h1,rfl⟩
  unfold stk at h3
  rw [List.mem_reverse] at h3
  exact h ((of_decide_eq_true h2)▸h3)
theorem OY {es:List Fe}{e:Fe} (h:e.1∉es.map (·.1)):DB (Vf (e::es)) e.1=Vf es:=by
 show List.filter (fun kv=>decide (kv.1≠e.1)) (Vf es++[(e.1,AV.dat (.int es.length))])=Vf es
 refine Eq.trans (List.filter_append _ _) ?_
 have h1:(Vf es).filter (fun kv=>decide (kv.1≠e.1))=Vf es:=by
  rw [List.filter_eq_self]
  intro kv hkv
  have h3:kv.1∈stk es:=by rw [← YC es];exact List.mem_map.mpr ⟨kv,hkv,rfl⟩
  unfold stk at h3
  rw [List.mem_reverse] at h3
  simp only [ne_eq,decide_not,Bool.not_eq_eq_eq_not,Bool.not_true,decide_eq_false_iff_not]
  exact fun q=>h (q▸h3)
 rw [h1];simp
end Mine
namespace Mine
open PySem PySem.W PyProof.Rows PySem.Calls PySem.MeetsSeq
set_option maxHeartbeats 2000000
structure Uz (E:Ent) (ns:List Nd) (μ0 μ':Mu) (aS aI aE aD:Addr) (es:List Fe) (seen:List Int):Prop where
 S:μ' aS=some (.list ((Zc (stk es)).map .dat))
 I:μ' aI=some (.list ((es.map fun e=>AV.obj e.2.2.1).reverse))
 V:μ' aE=some (.set seen)
 D:μ' aD=some (.dict (Vf es))
 q:∀ e∈es,μ' e.2.2.1=some (.nxt e.2.2.2)
 it:∀ e∈es,∃ t∈ns,t.n=e.1/\e.2.1≤t.su.length/\μ' e.2.2.2=some (.iter t.sa e.2.1)
 nd:(es.map (·.1)).Nodup
 itnd:(es.map (·.2.2.2)).Nodup
 h0:∀ e∈es,E.h0.get? e.2.2.2=none
 fr:∀ y,μ0 y≠none->μ' y=μ0 y
 sub:∀ e∈es,e.1∈seen
structure FcC (E:Ent) (μ0:Mu) (aS aI aE aD:Addr):Prop where
 hold:∀ y,μ0 y≠none->E.h0.get? y≠none
 hS:E.h0.get? aS=none
 hI:E.h0.get? aI=none
 hE:E.h0.get? aE=none
 hD:E.h0.get? aD=none
 SI:aS≠aI
theorem Uz.pop {E:Ent}{ns:List Nd}{μ0 μ' μ'':Mu}{aS aI aE aD:Addr}{e:Fe}{es:List Fe}{seen:List Int} (c:FcC E μ0 aS aI aE aD) (A:Uz E ns μ0 μ' aS aI aE aD (e::es) seen)
  (h1:μ'' aS=some (.list ((Zc (stk es)).map .dat))) (h2:μ'' aI=some (.list ((es.map fun e=>AV.obj e.2.2.1).reverse))) (h3:μ'' aD=some (.dict (Vf es))) (h4:∀ y,y≠e.2.2.2->y≠aS->y≠aI->y≠aD->μ'' y=μ' y):Uz E ns μ0 μ'' aS aI aE aD es seen:=by
 have nd:=A.nd
 have itnd:=A.itnd
 rw [List.map_cons,List.nodup_cons] at nd itnd
 refine Z6 (A.it e List.mem_cons_self) fun te hte Z Z iie=>?_
 refine ⟨h1,h2,?_,h3,fun f hf=>?_,fun f hf=>?_,nd.2,itnd.2,fun f hf=>A.h0 f (List.mem_cons_of_mem _ hf),fun y hy=>?_,fun f hf=>A.sub f (List.mem_cons_of_mem _ hf)⟩
 ·refine Eq.trans (h4 aE (kd2 A.V iie rfl) (kd2 A.V A.S rfl) (kd2 A.V A.I rfl) (kd2 A.V A.D rfl)) ?_
  exact A.V
 ·have hq:=A.q f (List.mem_cons_of_mem _ hf)
  refine Eq.trans (h4 _ (kd2 hq iie rfl) (kd2 hq A.S rfl) (kd2 hq A.I rfl) (kd2 hq A.D rfl)) ?_
  exact hq
 ·refine Z6 (A.it f (List.mem_cons_of_mem _ hf)) fun t ht a1 a2 a3=>?_
  refine ⟨t,ht,a1,a2,?_⟩
  refine Eq.trans (h4 _ (fun z=>itnd.1 (List.mem_map.mpr ⟨f,hf,z⟩)) (kd2 a3 A.S rfl) (kd2 a3 A.I rfl) (kd2 a3 A.D rfl)) ?_
  exact a3
 ·have hy':=c.hold y hy
  rw [h4 y (fun z=>hy' (z▸A.h0 e List.mem_cons_self)) (fun z=>hy' (z▸c.hS)) (fun z=>hy' (z▸c.hI)) (fun z=>hy' (z▸c.hD))]
  exact A.fr y hy
theorem Uz.next {E:Ent}{ns:List Nd}{μ0 μ':Mu}{aS aI aE aD:Addr}{n:Int}{i:Nat}{q it:Addr}{es:List Fe}{seen:List Int}{t:Nd} (c:FcC E μ0 aS aI aE aD) (A:Uz E ns μ0 μ' aS aI aE aD ((n,i,q,it)::es) seen)
  (ht:t∈ns) (htn:t.n=n) (hi:i+1≤t.su.length) (ha:μ' it=some (.iter t.sa i)):Uz E ns μ0 (upd μ' it (.iter t.sa (i+1))) aS aI aE aD ((n,i+1,q,it)::es) seen:=by
 have itnd:=A.itnd
 rw [List.map_cons,List.nodup_cons] at itnd
 have hh0:=A.h0 _ List.mem_cons_self
 refine ⟨?_,?_,?_,?_,fun f hf=>?_,fun f hf=>?_,A.nd,A.itnd,fun f hf=>?_,fun y hy=>?_,fun f hf=>?_⟩
 ·exact Eq.trans (Za (kd2 A.S ha rfl)) A.S
 ·exact Eq.trans (Za (kd2 A.I ha rfl)) A.I
 ·exact Eq.trans (Za (kd2 A.V ha rfl)) A.V
 ·refine Eq.trans (Za (kd2 A.D ha rfl)) ?_
  exact A.D
 ·rcases List.mem_cons.mp hf with rfl|hf
  ·have:=A.q _ (List.mem_cons_self (a:=((n,i,q,it):Fe)) (l:=es))
   rw [Za fun z=>by dsimp only at this z;rw [z,ha] at this;cases this];exact this
  ·have:=A.q f (List.mem_cons_of_mem _ hf)
   exact Eq.trans (Za (kd2 this ha rfl)) this
 ·rcases List.mem_cons.mp hf with rfl|hf
  ·exact ⟨t,ht,htn,hi,Zb _ _ _⟩
  ·refine Z6 (A.it f (List.mem_cons_of_mem _ hf)) fun u hu a1 a2 a3=>?_
   refine ⟨u,hu,a1,a2,?_⟩
   exact Eq.trans (Za fun z=>itnd.1 (List.mem_map.mpr ⟨f,hf,z⟩)) a3
 ·rcases List.mem_cons.mp hf with rfl|hf
  ·exact hh0
  ·exact A.h0 f (List.mem_cons_of_mem _ hf)
 ·have hne:y≠it:=fun z=>c.hold y hy (by rw [z];exact hh0)
  exact Eq.trans (Za hne) (A.fr y hy)
 ·rcases List.mem_cons.mp hf with rfl|hf
  ·exact A.sub (n,i,q,it) List.mem_cons_self
  ·exact A.sub f (List.mem_cons_of_mem _ hf)
theorem Uz.push {E:Ent}{ns:List Nd}{μ0 μ' μ'':Mu}{aS aI aE aD:Addr}{n:Int}{q it:Addr}{es:List Fe}{seen:List Int}{t:Nd} (c:FcC E μ0 aS aI aE aD) (A:Uz E ns μ0 μ' aS aI aE aD es seen)
  (ht:t∈ns) (htn:t.n=n) (hn:n∉seen) (hq:μ' q=none) (hi:μ' it=none) (h0i:E.h0.get? it=none) (h0q:E.h0.get? q=none) (b1:μ'' aS=some (.list ((Zc (stk es++[n])).map .dat))) (b2:μ'' aI=some (.list ((es.map fun e=>AV.obj e.2.2.1).reverse++[.obj q])))
  (b3:μ'' aE=some (.set (seen++[n]))) (b4:μ'' aD=some (.dict (VZ (Vf es) n (.dat (.int es.length))))) (b5:μ'' q=some (.nxt it)) (b6:μ'' it=some (.iter t.sa 0)) (b7:∀ y,y≠aS->y≠aI->y≠aE->y≠aD->y≠q->y≠it->μ'' y=μ' y) :
  Uz E ns μ0 μ'' aS aI aE aD ((n,0,q,it)::es) (seen++[n]):=by
 have nn:n∉es.map (·.1):=fun h=>by
  (refine xEA (List.mem_map.mp h) fun e he Z0=>?_;subst Z0)
  exact hn (A.sub e he)
 refine ⟨?_,?_,b3,?_,fun f hf=>?_,fun f hf=>?_,?_,?_,fun f hf=>?_,fun y hy=>?_,fun f hf=>?_⟩
 ·refine Eq.trans b1 ?_;unfold stk;simp
 ·refine Eq.trans b2 ?_;simp
 ·rw [b4,OW (x:=(0,q,it)) nn]
 ·rcases List.mem_cons.mp hf with rfl|hf
  ·exact b5
  ·have h:=A.q f hf
   refine Eq.trans (b7 _ (kd2 h A.S rfl) (kd2 h A.I rfl) (kd2 h A.V rfl) (kd2 h A.D rfl) (kd2 h hq rfl) (kd2 h hi rfl)) ?_
   exact h
 ·rcases List.mem_cons.mp hf with rfl|hf
  ·exact ⟨t,ht,htn,Nat.zero_le _,b6⟩
  ·refine Z6 (A.it f hf) fun u hu a1 a2 h=>?_
   refine ⟨u,hu,a1,a2,?_⟩
   refine Eq.trans (b7 _ (kd2 h A.S rfl) (kd2 h A.I rfl) (kd2 h A.V rfl) (kd2 h A.D rfl) (kd2 h hq rfl) (kd2 h hi rfl)) ?_
   exact h
 ·rw [List.map_cons,List.nodup_cons];exact ⟨nn,A.nd⟩
 ·rw [List.map_cons,List.nodup_cons]
  refine ⟨fun h=>?_,A.itnd⟩
  refine xEA (List.mem_map.mp h) fun f hf z=>?_
  refine Z6 (A.it f hf) fun u hu a1 a2 h=>?_
  dsimp only at z
  rw [z,hi] at h;exact noS h
 ·rcases List.mem_cons.mp hf with rfl|hf
  ·exact h0i
  ·exact A.h0 f hf
 ·have hy':=c.hold y hy
  rw [b7 y (fun z=>hy' (z▸c.hS)) (fun z=>hy' (z▸c.hI)) (fun z=>hy' (z▸c.hE)) (fun z=>hy' (z▸c.hD)) (fun z=>hy' (z▸h0q)) (fun z=>hy' (z▸h0i))]
  exact A.fr y hy
 ·rcases List.mem_cons.mp hf with rfl|hf
  ·simp
  ·exact List.mem_append_left _ (A.sub f hf)
theorem Pd {C:Cx}:Mch C (.type "StopIteration") (.type "StopIteration") :=
 Mch.builtin (by refine Eq.trans (isSubtype_type _ _) ?_;kernel_rfl) (by refine Eq.trans (isSubtype_type _ _) ?_;kernel_rfl) (by refine Eq.trans (isSubtype_type _ _) ?_;kernel_rfl)
end Mine
namespace Mine
open PySem PySem.W PyProof.Rows PySem.Calls PySem.MeetsSeq
set_option maxHeartbeats 4000000
theorem Jp {w:World}{h₁:Heap} (K:K1 w h₁) {k:Nat}{μ:Mu}{x dx d:Addr}{rdy:AV}{po nf:Int}{ns:List Nd}{F:Nat}{b:Bool} (T:Ua μ x dx d rdy po nf) (H0:QP μ d ns) (hsu:∀ t∈ns,∀ s∈t.su,∃ u∈ns,u.n=s)
  (hb:Wc (suB (Zg ns)) F (ns.map (·.n)) []=some b) :
  MFn w h₁ (k+1) μ 161 [.obj x] (fun Z=>False)
   (fun d' μ'=>((b=false/\d'=.dat .none)∨(b=true/\∃ y ys,d'=.dat (.list (Zc (y::ys)))/\ys.length≤200))/\∀ y,μ y≠none->μ' y=μ y) (fun Z Z Z=>False):=by
 refine MFn.of_body (ps:=["self"]) K.nms ⟨⟨_,K.kx 161 _ rfl,rfl⟩,Zs K rfl rfl rfl,rfl,rfl,rfl,rfl,by decide,by decide,by decide,rfl,rfl,rfl,fun vs hl=>?_⟩ rfl fun E C FF H hD hold hF0=>?_
 ·revert vs;exact KO fun Z=>rfl
 refine Xs.post fun Ψ0 k0=>?_
 have O:=FF.ok
 have kx:=KC K FF
 have ex:∀ a,μ a≠none->∃ o,E.h0.get? a=some o:=fun a h=>let ⟨m,e⟩:=Option.ne_none_iff_exists'.mp h;hold a m e
 refine Xs.assign H (Em.ofEv (Ev.attr kx (Ev.loc O rfl (FF.kindOf rfl) rfl) rfl T.x T.dx rfl rfl rfl rfl rfl (by exact nofun))) (Zx FF rfl) rfl fun d1 μ1 hd1=>?_
 (refine xA hd1 fun Z0 Z1=>?_;clear hd1;subst Z0;subst Z1)
 refine Xs.assign H Em.list0 (Zx FF rfl) rfl fun d2 μ2 hd2=>?_
 (refine Z6 hd2 fun aS Z0 Z1 hS0 hSn=>?_;clear hd2;subst Z0;subst Z1)
 refine Xs.assign H Em.list0 (Zx FF rfl) rfl fun d3 μ3 hd3=>?_
 (refine Z6 hd3 fun aI Z0 Z1 hI0 hIn=>?_;clear hd3;subst Z0;subst Z1)
 refine Xs.assign H (Em.callC (Ev.bui O rfl (FF.kindOf rfl) rfl) trivial (MZ (Θ:=fun Z Z Z=>False)) (fun Z Z Z z=>z)) (Zx FF rfl) rfl fun d4 μ4 hd4=>?_
 (refine Z6 hd4 fun aE Z0 Z1 hE0 hEn=>?_;clear hd4;subst Z0;subst Z1)
 refine Xs.assign H (Em.dict0 O.nms) (Zx FF rfl) rfl fun d5 μ5 hd5=>?_
 (refine Z6 hd5 fun aD Z0 Z1 hD0 hDn=>?_;clear hd5;subst Z0;subst Z1)
 have SI:aS≠aI:=kd2 (Zb _ _ _) hIn rfl
 have EI:aE≠aI:=kd2 hEn (Zb _ _ _) rfl
 have ES:aE≠aS:=fun q=>by rw [q,Za SI,Zb] at hEn;exact sNo hEn
 have DE:aD≠aE:=kd2 hDn (Zb _ _ _) rfl
 have DI:aD≠aI:=fun q=>by rw [q,Za (Ne.symm EI),Zb] at hDn;exact sNo hDn
 have DS:aD≠aS:=fun q=>by rw [q,Za (Ne.symm ES),Za SI,Zb] at hDn;exact sNo hDn
 have cc:FcC E μ1 aS aI aE aD:=⟨fun y hy=>let ⟨o,e⟩:=ex y hy;by rw [e];exact Option.some_ne_none _,hS0,hI0,hE0,hD0,SI⟩
 have ne0:∀ y a,μ1 y≠none->E.h0.get? a=none->y≠a:=fun y a h e q=>by refine xE (ex y h) fun o z=>?_;rw [q,e] at z;exact noS z
 have A0:Uz E ns μ1 (upd (upd (upd (upd μ1 aS (.list [])) aI (.list [])) aE (.set [])) aD (.dict [])) aS aI aE aD [] []:=by
  refine ⟨?_,?_,?_,Zb _ _ _,fun e he=>(by exact absurd he List.not_mem_nil),fun e he=>(by exact absurd he List.not_mem_nil),(by decide),(by decide),fun e he=>(by exact absurd he List.not_mem_nil),fun y hy=>?_,fun e he=>(by exact absurd he List.not_mem_nil)⟩
  ·rw [Za (Ne.symm DS),Za (Ne.symm ES),Za SI,Zb];rfl
  ·exact Eq.trans (Za (Ne.symm DI)) (Eq.trans (Za (Ne.symm EI)) (Eq.trans (Zb _ _ _) rfl))
  ·exact Eq.trans (Za (Ne.symm DE)) (Eq.trans (Zb _ _ _) rfl)
  ·rw [Za (ne0 y _ hy hD0),Za (ne0 y _ hy hE0),Za (ne0 y _ hy hI0),Za (ne0 y _ hy hS0)]
 generalize hμ5:upd (upd (upd (upd μ1 aS (.list [])) aI (.list [])) aE (.set [])) aD (.dict [])=μ5 at A0 ⊢
 let Nm:List (Str×AV)->Prop:=fun l'=>Has l' "n2i" (.obj d)/\Has l' "stack" (.obj aS)/\Has l' "itstack" (.obj aI)/\Has l' "seen" (.obj aE)/\Has l' "node2stacki" (.obj aD)
 let su:=suB (Zg ns)
 have wS:E.Wr aS:=.inr hS0
 have wI:E.Wr aI:=.inr hI0
 have wE:E.Wr aE:=.inr hE0
 have wD:E.Wr aD:=.inr hD0
 have d0:μ1 d≠none:=by rw [H0.dict];exact Option.some_ne_none _
 have dict5:μ5 d=some (.dict (ns.map fun t=>(t.n,.obj t.ia))):=(A0.fr d d0).trans H0.dict
 refine Xs.seq (X1.forDict (t:=d) (kvs:=ns.map fun t=>(t.n,AV.obj t.ia)) (Φ:=fun f μ' l'=>(f=.nxt/\b=false/\∀ y,μ1 y≠none->μ' y=μ1 y)∨(∃ y ys,f=.ret (.dat (.list (Zc (y::ys))))/\ys.length≤200/\b=true/\∀ y,μ1 y≠none->μ' y=μ1 y)) O H (Zx FF rfl) (fun Z=>rfl) (Ev.loc O rfl (FF.kindOf rfl) rfl) dict5 (ex d d0) (by rw [hD];exact id) (hF0 d _ H0.dict)
  (fun i μ' l'=>∃ seen,Nm l'/\Uz E ns μ1 μ' aS aI aE aD [] seen/\Wc su F ((ns.drop i).map (·.n)) seen=some b) ⟨[],⟨rfl,rfl,rfl,rfl,rfl⟩,A0,hb⟩ ?_ ?_) ?_
 ·intro i μ6 l6 n dn hx hI
  refine Xs.post fun Ψ1 k1=>?_
  (refine QF hI fun seen nm A6 hf=>?_;clear hI)
  replace hx:=Eq.trans (Eq.symm (List.getElem?_map)) hx
  refine xEA (Option.map_eq_some_iff.mp hx) fun t ht e=>?_
  (refine xA (Prod.mk.inj e) fun Z0 Z1=>?_;subst Z0;subst Z1)
  have htm:t∈ns:=List.mem_of_getElem? ht
  have hdr:ns.drop i=t::ns.drop (i+1):=by
   refine xE (List.getElem?_eq_some_iff.mp ht) fun hi e=>?_
   rw [List.drop_eq_getElem_cons hi,e]
  rw [hdr,List.map_cons] at hf
  unfold Wc at hf
  (refine Qe nm fun m1 m2 m3 m4 m5=>?_;clear nm)
  by_cases hsn:t.n∈seen
  ·replace hf:=Eq.trans (Eq.symm (if_pos hsn)) hf
   refine Xs.seq (X1.ite (b:=true) (Φ:=fun f μ' l'=>f=.cnt/\μ'=μ6/\l'=(("node":Str),AV.dat (.int t.n))::l6) (by
    have:=WS (C:=C) A6.V t.n
    rw [decide_eq_true hsn] at this
    exact Tst.cmp rfl (Ev.loc O rfl (FF.kindOf rfl) rfl) (Ev.loc O (show Has _ "seen" _ from m4) (FF.kindOf rfl) rfl) this) (fun Z=>Xs.cnt ⟨rfl,rfl,rfl⟩) fun h=>by exact tF h) ?_
   (intro f μ7 l7 Z0;refine xAA Z0 fun Z1 Z2 Z3=>?_;clear Z0;subst Z1;subst Z2;subst Z3)
   exact k1 _ _ _ ⟨seen,⟨m1,m2,m3,m4,m5⟩,A6,hf⟩
  ·replace hf:=Eq.trans (Eq.symm (if_neg hsn)) hf
   refine Xs.seq (X1.ite (b:=false) (Φ:=fun f μ' l'=>f=.nxt/\μ'=μ6/\l'=(("node":Str),AV.dat (.int t.n))::l6) (by
    have:=WS (C:=C) A6.V t.n
    rw [decide_eq_false hsn] at this
    exact Tst.cmp rfl (Ev.loc O rfl (FF.kindOf rfl) rfl) (Ev.loc O (show Has _ "seen" _ from m4) (FF.kindOf rfl) rfl) this) (fun h=>by exact fT h) fun Z=>Xs.nil ⟨rfl,rfl,rfl⟩) ?_
   (intro f μ7 l7 Z0;refine xAA Z0 fun Z1 Z2 Z3=>?_;clear Z0;subst Z1;subst Z2;subst Z3)
   obtain ⟨res,hres⟩:∃ res,QN su F t.n [] seen=some res:=by
    cases q:QN su F t.n [] seen with
    | none=>rw [q] at hf;exact noS hf
    | some r=>exact ⟨r,rfl⟩
   rw [hres] at hf
   refine Xs.seq (X1.whileP (Φ:=fun f μ' l'=>(∃ y ys,f=.ret (.dat (.list (Zc (y::ys))))/\ys.length≤200/\res=none/\∀ y,μ1 y≠none->μ' y=μ1 y)∨(f=.nxt/\∃ seen',res=some seen'/\Nm l'/\Uz E ns μ1 μ' aS aI aE aD [] seen')) H
    (fun n μ' l'=>∃ node es seen,Nm l'/\Has l' "node" (.dat (.int node))/\Uz E ns μ1 μ' aS aI aE aD es seen/\QN su n node (beL es) seen=some res/\∃ t∈ns,t.n=node) ?_ F ⟨t.n,[],seen,⟨m1,m2,m3,m4,m5⟩,rfl,A6,hres,t,htm,rfl⟩) ?_
   ·(intro J Ψ2 j2 k2 n μ8 l8 Z0;refine VL Z0 fun node es sn Z1 mn A8 Zr0=>?_;refine Y_ Zr0 fun hin tn htn Z2=>?_;clear Zr0;clear Z0;refine Qe Z1 fun m1 m2 m3 m4 m5=>?_;clear Z1;subst Z2)
    cases n with
    | zero=>exact noS hin
    | succ n =>
    refine .inl ⟨Tst.ofEv (Ev.bool true _ _) (WN _ _) rfl,?_⟩
    unfold QN at hin
    by_cases hbd:sn.length > 100∨(beL es).length > 100
    ·replace hin:=Eq.trans (Eq.symm (if_pos hbd)) hin;exact noS hin
    replace hin:=Eq.trans (Eq.symm (if_neg hbd)) hin
    have hl1:sn.length≤100:=by omega
    have hl2:es.length≤100:=by
     have:(beL es).length=es.length:=by unfold beL;simp
     omega
    have ebe:(beL es).map (·.1)=es.map (·.1):=by unfold beL;exact List.map_map
    rw [ebe] at hin
    have hdict:μ8 d=some (.dict (ns.map fun t=>(t.n,.obj t.ia))):=(A8.fr d d0).trans H0.dict
    refine Xs.seq (Ψ:=fun f μ' l'=>(∃ y ys,f=.ret (.dat (.list (Zc (y::ys))))/\ys.length≤200/\res=none/\∀ y,μ1 y≠none->μ' y=μ1 y) ∨
     (f=.nxt/\∃ es1 sn1,Nm l'/\Uz E ns μ1 μ' aS aI aE aD es1 sn1/\es1.length≤200/\(match Jr su (beL es1) with|none=>some (some sn1)|some (m,st')=>QN su n m st' sn1)=some res)) ?_ ?_
    ·refine X1.post fun Ψ3 k3=>?_
     by_cases hns:tn.n∈sn
     ·replace hin:=Eq.trans (Eq.symm (if_pos hns)) hin
      refine X1.ite (b:=true) (by
       have:=WS (C:=C) A8.V tn.n
       rw [decide_eq_true hns] at this
       exact Tst.cmp rfl (Ev.loc O mn (FF.kindOf rfl) rfl) (Ev.loc O m4 (FF.kindOf rfl) rfl) this) (fun Z=>?_) fun h=>by exact tF h
      by_cases hst:tn.n∈es.map (·.1)
      ·replace hin:=Eq.trans (Eq.symm (if_pos hst)) hin
       refine xEA (HS es tn.n hst) fun j hj hjl=>?_
       refine Xs.seq (X1.ite (b:=true) (Φ:=fun f μ' l'=>∃ y ys,f=.ret (.dat (.list (Zc (y::ys))))/\ys.length≤200/\μ'=μ8) (by
        have:=JA (C:=C) A8.D tn.n
        rw [Yy,decide_eq_true hst] at this
        exact Tst.cmp rfl (Ev.loc O mn (FF.kindOf rfl) rfl) (Ev.loc O m5 (FF.kindOf rfl) rfl) this) (fun Z=>?_) fun h=>by exact tF h) ?_
       ·have hlS:(Zc (stk es)).length=es.length:=by unfold stk;simp
        have e1:(Zc (stk es)).drop j++[.int tn.n]=Zc ((stk es).drop j++[tn.n]):=by simp [Zc,List.map_drop]
        obtain ⟨y,ys,hy⟩:∃ y ys,(stk es).drop j++[tn.n]=y::ys:=by
         cases q:(stk es).drop j++[tn.n] with
         | nil=>simp at q
         | cons y ys=>exact ⟨y,ys,rfl⟩
        have hyl:ys.length≤200:=by
         have:=congrArg List.length hy
         simp only [List.length_append,List.length_drop,List.length_cons,List.length_nil] at this
         have hs:(stk es).length=es.length:=by unfold stk;simp
         omega
        refine Xs.ret (Em.ofEv (d:=.dat (.list (Zc (y::ys)))) ?_) ?_
        ·rw [← hy,← e1]
         refine Ev.binop (Ev.sliceMu (a:=some (j:Int)) (b:=none) (c:=none) (ys:=(Zc (stk es)).drop j) (Ev.loc O m2 (FF.kindOf rfl) rfl) A8.S (by rw [hlS,sizeLine_eq];exact oA ‹_› rfl) (Ev.dictItem (Ev.loc O m5 (FF.kindOf rfl) rfl) A8.D (Ev.loc O mn (FF.kindOf rfl) rfl) hj fun Z Z=>rfl) trivial trivial (by decide) (Qx.from _ _) (by rw [List.length_drop,hlS,sizeLine_eq];exact oA (Nat.le_trans (Nat.sub_le _ _) ‹_›) rfl) (fun o i=>[i,o]) (fun Z Z=>rfl))
          (Ev.list (Evs.cons rfl (Ev.loc O mn (FF.kindOf rfl) rfl) Evs.nil) rfl (by show 1≤sizeLine;rw [sizeLine_eq];decide)) (WT (by rw [List.length_drop,hlS,sizeLine_eq];show _+1≤_;omega))
        ·(intro d9 μ9 Z0;refine xA Z0 fun Z1 Z2=>?_;clear Z0;subst Z1;subst Z2)
         exact ⟨y,ys,rfl,hyl,rfl⟩
       ·(intro f μ9 l9 Z0;refine Zn Z0 fun y ys Z1 hyl Z2=>?_;clear Z0;subst Z1;subst Z2)
        exact k3 _ _ _ (.inl ⟨y,ys,rfl,hyl,(Option.some.inj hin).symm,A8.fr⟩)
      ·replace hin:=Eq.trans (Eq.symm (if_neg hst)) hin
       refine Xs.seq (X1.ite (b:=false) (Φ:=fun f μ' l'=>f=.nxt/\μ'=μ8/\l'=l8) (by
        have:=JA (C:=C) A8.D tn.n
        rw [Yy,decide_eq_false hst] at this
        exact Tst.cmp rfl (Ev.loc O mn (FF.kindOf rfl) rfl) (Ev.loc O m5 (FF.kindOf rfl) rfl) this) (fun h=>by exact fT h) fun Z=>Xs.nil ⟨rfl,rfl,rfl⟩) ?_
       (intro f μ9 l9 Z0;refine xAA Z0 fun Z1 Z2 Z3=>?_;clear Z0;subst Z1;subst Z2;subst Z3)
       exact Xs.nil (k3 _ _ _ (.inr ⟨rfl,es,sn,⟨m1,m2,m3,m4,m5⟩,A8,by exact oA ‹_› rfl,hin⟩))
     ·replace hin:=Eq.trans (Eq.symm (if_neg hns)) hin
      refine X1.ite (b:=false) (by
       have:=WS (C:=C) A8.V tn.n
       rw [decide_eq_false hns] at this
       exact Tst.cmp rfl (Ev.loc O mn (FF.kindOf rfl) rfl) (Ev.loc O m4 (FF.kindOf rfl) rfl) this) (fun h=>by exact fT h) fun Z=>?_
      refine Xs.expr H (Em.meth MK rfl rfl rfl (by decide) (Ev.loc O m4 (FF.kindOf rfl) rfl) (Mv A8.V) (Evs.cons rfl (Ev.loc O mn (FF.kindOf rfl) rfl) Evs.nil) (OB (Θ:=fun Z Z Z=>False) A8.V wE (by exact oA ‹_› rfl) hns) (fun Z Z Z z=>z.elim)) rfl fun da μa hda=>?_
      (refine xA hda fun Z0 Z1=>?_;clear hda;subst Z0;subst Z1)
      have neE:∀ y,μ1 y≠none->y≠aE:=fun y h=>ne0 y aE h hE0
      have ia0:μ1 tn.ia≠none:=by rw [H0.info tn htn];exact Option.some_ne_none _
      have sa0:μ1 tn.sa≠none:=by rw [H0.succ tn htn];exact Option.some_ne_none _
      have xd:upd μ8 aE (.set (sn++[tn.n])) d=some (.dict (ns.map fun t=>(t.n,.obj t.ia))):=by exact Eq.trans (Za (neE d d0)) hdict
      have xia:upd μ8 aE (.set (sn++[tn.n])) tn.ia=some (.info tn.n tn.np tn.sa):=by exact Eq.trans (Za (neE _ ia0)) (Eq.trans (A8.fr _ ia0) (H0.info tn htn))
      have xsa:upd μ8 aE (.set (sn++[tn.n])) tn.sa=some (.list (tn.su.map fun i=>.dat (.int i))):=by exact Eq.trans (Za (neE _ sa0)) (Eq.trans (A8.fr _ sa0) (H0.succ tn htn))
      have xI:upd μ8 aE (.set (sn++[tn.n])) aI=some (.list ((es.map fun e=>AV.obj e.2.2.1).reverse)):=by exact Eq.trans (Za (Ne.symm EI)) A8.I
      refine Xs.expr H (Em.methM Qr rfl rfl rfl (by decide) (Ev.loc O m3 (FF.kindOf rfl) rfl) (ZN xI)
       (Ψa:=fun ds μ'=>∃ it q,ds=[.obj q]/\it≠q/\upd μ8 aE (.set (sn++[tn.n])) it=none/\upd μ8 aE (.set (sn++[tn.n])) q=none/\E.h0.get? it=none/\E.h0.get? q=none/\μ'=upd (upd (upd μ8 aE (.set (sn++[tn.n]))) it (.iter tn.sa 0)) q (.nxt it))
       (Ψ:=fun d' μ'=>∃ it q,it≠q/\upd μ8 aE (.set (sn++[tn.n])) it=none/\upd μ8 aE (.set (sn++[tn.n])) q=none/\E.h0.get? it=none/\E.h0.get? q=none/\μ'=upd (upd (upd (upd μ8 aE (.set (sn++[tn.n]))) it (.iter tn.sa 0)) q (.nxt it)) aI (.list ((es.map fun e=>AV.obj e.2.2.1).reverse++[.obj q])))
       (Θ:=fun Z Z Z=>False) (Ems.cons rfl (Em.iterNext (Ev.bui O rfl (FF.kindOf rfl) rfl) rfl (Ev.slot kx U6 (Ev.dictItem (Ev.loc O m1 (FF.kindOf rfl) rfl) xd (Ev.loc O mn (FF.kindOf rfl) rfl) (H0.get htn) fun Z Z=>rfl) rfl xia rfl) xsa rfl) ?_) ?_ (fun Z Z Z z=>z.elim)) rfl ?_
      ·(intro d' μ' Z0;refine Q1 Z0 fun it q Z1 h1 h2 h3 h4 h5 Z2=>?_;clear Z0;subst Z1;subst Z2)
       exact Ems.nil ⟨it,q,rfl,h1,h2,h3,h4,h5,rfl⟩
      ·(intro ds μ' Z0;refine Q1 Z0 fun it q Z1 h1 h2 h3 h4 h5 Z2=>?_;clear Z0;subst Z1;subst Z2)
       have nIi:aI≠it:=kd2 xI h2 rfl
       have nIq:aI≠q:=kd2 xI h3 rfl
       have xI2:=(Za (μ:=upd (upd μ8 aE (.set (sn++[tn.n]))) it (.iter tn.sa 0)) (m:=MO.nxt it) nIq).trans ((Za (μ:=upd μ8 aE (.set (sn++[tn.n]))) (m:=MO.iter tn.sa 0) nIi).trans xI)
       have f:=QJ (E:=E) (C:=C) (Θ:=fun Z Z Z=>False) (d:=.obj q) xI2 wI (by simp [sizeLine_eq];exact oA ‹_› rfl)
       intro l N s vs Im' R Q X qq xx
       exact f l N s vs Im' R Q X (fun v d N' μ' h' tk a b c g r=>qq v d N' μ' h' tk ⟨it,q,h1,h2,h3,h4,h5,a.2⟩ b c g r) xx
      (intro d' μb Z0;refine xEE Z0 fun it q Zr0=>?_;refine ZR Zr0 fun h1 h2 h3 h4 h5 hμb=>?_;clear Zr0;clear Z0)
      have nE:∀ y,upd μ8 aE (.set (sn++[tn.n])) y=none->y≠aE/\μ8 y=none:=fun y e=>by
       have:y≠aE:=kd2 e (Zb _ _ _) rfl
       replace e:=Eq.trans (Eq.symm (Za this)) e;exact ⟨this,e⟩
      refine xA (nE it h2) fun itE it8=>?_
      refine xA (nE q h3) fun qE q8=>?_
      have nS:aS≠it/\aS≠q:=⟨kd2 A8.S it8 rfl,kd2 A8.S q8 rfl⟩
      have nI:aI≠it/\aI≠q:=⟨kd2 A8.I it8 rfl,kd2 A8.I q8 rfl⟩
      have nD:aD≠it/\aD≠q:=⟨kd2 A8.D it8 rfl,kd2 A8.D q8 rfl⟩
      have bS:μb aS=some (.list ((Zc (stk es)).map .dat)):=by rw [hμb,Za SI,Za nS.2,Za nS.1,Za (Ne.symm ES)];exact A8.S
      have bD:μb aD=some (.dict (Vf es)):=by rw [hμb,Za DI,Za nD.2,Za nD.1,Za DE];exact A8.D
      have hlS:((Zc (stk es)).map AV.dat).length=es.length:=by unfold stk;simp
      refine Xs.setItem (d:=.dat (.int es.length)) (by
       have:=Hd (C:=C) bS (by rw [hlS,sizeLine_eq];exact oA ‹_› rfl)
       rw [hlS] at this
       exact Ev.call (Ev.bui O rfl (FF.kindOf rfl) rfl) trivial rfl (Evs.cons rfl (Ev.loc O m2 (FF.kindOf rfl) rfl) Evs.nil) this) (Ev.loc O m5 (FF.kindOf rfl) rfl) (Ev.loc O mn (FF.kindOf rfl) rfl) bD wD (by rw [DC,sizeLine_eq];exact oA ‹_› rfl) rfl ?_
      have cS:upd μb aD (.dict (VZ (Vf es) tn.n (.dat (.int es.length)))) aS=some (.list ((Zc (stk es)).map .dat)):=by exact Eq.trans (Za (Ne.symm DS)) bS
      refine Xs.expr H (Em.meth Qr rfl rfl rfl (by decide) (Ev.loc O m2 (FF.kindOf rfl) rfl) (ZN cS) (Evs.cons rfl (Ev.loc O mn (FF.kindOf rfl) rfl) Evs.nil) (QJ (Θ:=fun Z Z Z=>False) cS wS (by rw [hlS,sizeLine_eq];exact oA ‹_› rfl)) (fun Z Z Z z=>z.elim)) rfl fun dc μc hdc=>?_
      (refine xA hdc fun Z0 hμc=>?_;clear hdc;subst Z0)
      refine Xs.nil (k3 _ _ _ (.inr ⟨rfl,(tn.n,0,q,it)::es,sn++[tn.n],⟨m1,m2,m3,m4,m5⟩,?_,by simp;exact oA ‹_› rfl,hin⟩))
      refine A8.push cc htn rfl hns q8 it8 h4 h5 ?_ ?_ ?_ ?_ ?_ ?_ fun y n1 n2 n3 n4 n5 n6=>?_
      ·rw [hμc,Zb];simp [Zc]
      ·rw [hμc,Za (Ne.symm SI),Za (Ne.symm DI),hμb,Zb]
      ·rw [hμc,Za ES,Za (Ne.symm DE),hμb,Za EI,Za (Ne.symm qE),Za (Ne.symm itE),Zb]
      ·rw [hμc,Za DS,Zb]
      ·rw [hμc,Za (Ne.symm nS.2),Za (Ne.symm nD.2),hμb,Za (Ne.symm nI.2),Zb]
      ·rw [hμc,Za (Ne.symm nS.1),Za (Ne.symm nD.1),hμb,Za (Ne.symm nI.1),Za h1,Zb]
      ·rw [hμc,Za n1,Za n4,hμb,Za n2,Za n5,Za n6,Za n3]
    ·rintro f μ9 l9 (⟨y,ys,rfl,hyl,hrn,fr⟩|⟨rfl,es1,sn1,⟨m1,m2,m3,m4,m5⟩,A9,hl9,hpop⟩)
     ·exact k2 _ _ _ (.inl ⟨y,ys,rfl,hyl,hrn,fr⟩)
     refine Xs.seq (X1.whileP (Φ:=fun f μ' l'=>(f=.brk/\∃ seen',res=some seen'/\Nm l'/\Uz E ns μ1 μ' aS aI aE aD [] seen') ∨
       (f=.nxt/\∃ node es sn,Nm l'/\Has l' "node" (.dat (.int node))/\Uz E ns μ1 μ' aS aI aE aD es sn/\QN su n node (beL es) sn=some res/\∃ t∈ns,t.n=node)) H
      (fun m μ' l'=>∃ es sn,m=es.length/\Nm l'/\Uz E ns μ1 μ' aS aI aE aD es sn/\es.length≤200/\(match Jr su (beL es) with|none=>some (some sn)|some (m,st')=>QN su n m st' sn)=some res) ?_ es1.length ⟨es1,sn1,rfl,⟨m1,m2,m3,m4,m5⟩,A9,hl9,hpop⟩) ?_
     ·(intro J4 Ψ4 j4 k4 m μa la Z0;refine Zf Z0 fun es sn Z1 Z2 Aa hla hpa=>?_;clear Z0;subst Z1;refine Qe Z2 fun m1 m2 m3 m4 m5=>?_;clear Z2)
      have hlS:((Zc (stk es)).map AV.dat).length=es.length:=by unfold stk;simp
      have ev1:∀ p,Tst C μa la (.Name "stack" p) (!((Zc (stk es)).map AV.dat).isEmpty):=fun p=>Tst.ofEv (Ev.loc O m2 (FF.kindOf rfl) rfl) (DY Aa.S (by rw [hlS,sizeLine_eq];exact oA ‹_› rfl)) rfl
      cases es with
      | nil =>
       refine .inr (.inl ⟨ev1 _,Xs.brk (k4 _ _ _ (.inl ⟨rfl,sn,?_,⟨m1,m2,m3,m4,m5⟩,Aa⟩))⟩)
       exact (Option.some.inj hpa).symm
      | cons e es =>
       obtain ⟨en,ei,eq,eit⟩:=e
       have e0:(!((Zc (stk ((en,ei,eq,eit)::es))).map AV.dat).isEmpty)=true:=by
        have:((Zc (stk ((en,ei,eq,eit)::es))).map AV.dat)≠[]:=fun q=>by rw [q] at hlS;simp at hlS
        simpa using this
       rw [e0] at ev1
       refine .inl ⟨ev1 _,?_⟩
       refine Z6 (Aa.it _ List.mem_cons_self) fun t ht htn hti hta=>?_
       dsimp only at htn hti hta
       have hqa:=Aa.q _ (List.mem_cons_self (a:=((en,ei,eq,eit):Fe)) (l:=es))
       dsimp only at hqa
       have hh0:=Aa.h0 _ (List.mem_cons_self (a:=((en,ei,eq,eit):Fe)) (l:=es))
       dsimp only at hh0
       have sa0:μ1 t.sa≠none:=by rw [H0.succ t ht];exact Option.some_ne_none _
       have hsa:μa t.sa=some (.list (t.su.map fun i=>.dat (.int i))):=(Aa.fr _ sa0).trans (H0.succ t ht)
       have hI:μa aI=some (.list ((es.map fun e=>AV.obj e.2.2.1).reverse++[.obj eq])):=by refine Eq.trans Aa.I ?_;simp
       have hS':μa aS=some (.list ((Zc (stk es)).map .dat++[.dat (.int en)])):=by refine Eq.trans Aa.S ?_;simp [stk,Zc]
       have hsuE:su en=t.su:=by rw [← htn];exact OT H0.nd ht
       have epop:Jr su (beL ((en,ei,eq,eit)::es))=match t.su[ei]? with|some m=>some (m,(en,ei+1)::beL es)|none=>Jr su (beL es):=by
        show (match (su en)[ei]? with|some m=>some (m,(en,ei+1)::beL es)|none=>Jr su (beL es))=_
        rw [hsuE]
       rw [epop] at hpa
       cases hx:t.su[ei]? with
       | some mm =>
        rw [hx] at hpa
        have hlt:ei < t.su.length:=(List.getElem?_eq_some_iff.mp hx).1
        refine Xs.seq (X1.try (Φ:=fun f μ' l'=>f=.brk/\μ'=upd μa eit (.iter t.sa (ei+1))/\l'=(("node":Str),AV.dat (.int mm))::la) (Ψ:=fun f μ' l'=>f=.brk/\μ'=upd μa eit (.iter t.sa (ei+1))/\l'=(("node":Str),AV.dat (.int mm))::la) (c:=.type "StopIteration") H
         (Xs.assign H (Em.callRef (Θ:=fun Z Z Z=>False) rfl (Ev.lastMu (Ev.loc O m3 (FF.kindOf rfl) rfl) hI (Ev.una (Ev.int 1 _ _) (UI 1)) fun Z Z=>rfl) hqa (KH hqa hta hsa (d:=.dat (.int mm)) (by simp [hx]) (.inr hh0)) (fun Z Z Z z=>z.elim)) (Zx FF rfl) rfl fun d' μ' hd'=>Xs.brk ⟨rfl,hd'.2,by rw [hd'.1]⟩) ?_) ?_
        ·(intro f μ' l' Z0;refine xAA Z0 fun Z1 Z2 Z3=>?_;clear Z0;subst Z1;subst Z2;subst Z3)
         exact ⟨rfl,rfl,rfl⟩
        ·(intro f μ' l' Z0;refine xAA Z0 fun Z1 Z2 Z3=>?_;clear Z0;subst Z1;subst Z2;subst Z3)
         refine xEA (hsu t ht mm (List.mem_of_getElem? hx)) fun u hu hun=>?_
         exact k4 _ _ _ (.inr ⟨rfl,mm,(en,ei+1,eq,eit)::es,sn,⟨m1,m2,m3,m4,m5⟩,rfl,Aa.next cc ht htn hlt hta,hpa,u,hu,hun⟩)
       | none =>
        rw [hx] at hpa
        have hei:ei=(t.su.map fun i=>AV.dat (.int i)).length:=by
         rw [List.length_map]
         have:=List.getElem?_eq_none_iff.mp hx
         exact Nat.le_antisymm ‹_› ‹_›
        have hta':=hta
        rw [hei] at hta'
        have nd:=Aa.nd
        rw [List.map_cons,List.nodup_cons] at nd
        refine Xs.seq (X1.try (Φ:=fun f μ' l'=>f=.nxt/\l'=la/\Uz E ns μ1 μ' aS aI aE aD es sn) (Ψ:=fun f μ' l'=>f=.exc (.type "StopIteration") .none/\μ'=upd μa eit .any/\l'=la) (c:=.type "StopIteration") H
         (Xs.assign (Ψ:=fun Z Z=>False) H (Em.callRef rfl (Ev.lastMu (Ev.loc O m3 (FF.kindOf rfl) rfl) hI (Ev.una (Ev.int 1 _ _) (UI 1)) fun Z Z=>rfl) hqa (BC O.handled hqa hta' hsa (.inr hh0)) (fun c t μ' z=>by (refine xAA z fun Z0 Z1 Z2=>?_;clear z;subst Z0;subst Z1;subst Z2);exact ⟨rfl,rfl,rfl⟩)) (Zx FF rfl) rfl fun d' μ' hd'=>hd'.elim) ?_) ?_
        ·(intro f μ' l' Z0;refine xAA Z0 fun Z1 Z2 Z3=>?_;clear Z0;subst Z1;subst Z2;subst Z3)
         refine ⟨Pd,fun e=>⟨Ev.buiK (C:=C.mk' e) O.kind O.nms O.glob O.bui rfl (FF.kindOf rfl) rfl,?_⟩⟩
         have nSi:aS≠eit:=kd2 Aa.S hta rfl
         have nIi:aI≠eit:=kd2 Aa.I hta rfl
         have nDi:aD≠eit:=kd2 Aa.D hta rfl
         have xS:=(Za (μ:=μa) (m:=MO.any) nSi).trans hS'
         have xI:=(Za (μ:=μa) (m:=MO.any) nIi).trans hI
         have xD:=(Za (μ:=μa) (m:=MO.any) nDi).trans Aa.D
         refine Xs.delItem (E:=E) (C:=C.mk' e) (Ev.locK (C:=C.mk' e) O.kind m5 (FF.kindOf rfl) rfl) (Em.meth KI rfl rfl rfl (by decide) (Ev.locK (C:=C.mk' e) O.kind m2 (FF.kindOf rfl) rfl) (ZN xS) Evs.nil (Dy (Θ:=fun Z Z Z=>False) xS wS (by rw [List.length_map,List.length_map,sizeLine_eq];unfold stk;simp at hla ⊢;exact oD ‹_› rfl)) (fun Z Z Z z=>z.elim)) wD ?_
         (intro d' μ' Z0;refine xA Z0 fun Z1 Z2=>?_;clear Z0;subst Z1;subst Z2)
         refine ⟨Vf ((en,ei,eq,eit)::es),en,rfl,?_,by rw [DC,sizeLine_eq];exact oA ‹_› rfl,by refine Eq.trans (Yy _ _) ?_;simp,?_⟩
         ·exact Eq.trans (Za DS) xD
         rw [OY (e:=(en,ei,eq,eit)) nd.1]
         have yI:upd (upd (upd μa eit .any) aS (.list ((Zc (stk es)).map .dat))) aD (.dict (Vf es)) aI=some (.list ((es.map fun e=>AV.obj e.2.2.1).reverse++[.obj eq])):=by exact Eq.trans (Za (Ne.symm DI)) (Eq.trans (Za (Ne.symm SI)) xI)
         refine Xs.expr (H.mark _) (Em.meth KI rfl rfl rfl (by decide) (Ev.locK (C:=C.mk' e) O.kind m3 (FF.kindOf rfl) rfl) (ZN yI) Evs.nil (Dy (Θ:=fun Z Z Z=>False) yI wI (by simp [sizeLine_eq] at hla ⊢;exact oD ‹_› rfl)) (fun Z Z Z z=>z.elim)) rfl ?_
         (intro d' μ' Z0;refine xA Z0 fun Z1 Z2=>?_;clear Z0;subst Z1;subst Z2)
         refine Xs.nil ⟨fun Z Z q=>(by cases q),rfl,rfl,Aa.pop cc ?_ ?_ ?_ fun y n1 n2 n3 n4=>?_⟩
         ·rw [Za SI,Za (Ne.symm DS),Zb]
         ·exact Eq.trans (Zb _ _ _) rfl
         ·exact Eq.trans (Za DI) (Eq.trans (Zb _ _ _) rfl)
         ·rw [Za n3,Za n4,Za n2,Za n1]
        ·(intro f μ' l' Z0;refine xAA Z0 fun Z1 Z2 Ab=>?_;clear Z0;subst Z1;subst Z2)
         refine Xs.nil ⟨es.length,by exact Nat.le_refl _,j4 _ _ _ ⟨es,sn,rfl,⟨m1,m2,m3,m4,m5⟩,Ab,by simp at hla;exact oA ‹_› rfl,hpa⟩⟩
     ·rintro f μa la (⟨rfl,sn',hr',nm,Aa⟩|⟨rfl,node,es,sn,nm,mn',Aa,hin',htt⟩)
      ·exact k2 _ _ _ (.inr ⟨rfl,sn',hr',nm,Aa⟩)
      ·exact Xs.nil ⟨n,Nat.lt_succ_self _,j2 _ _ _ ⟨node,es,sn,nm,mn',Aa,hin',htt⟩⟩
   ·rintro f μ8 l8 (⟨y,ys,rfl,hyl,hrn,fr⟩|⟨rfl,sn',hr',nm,Aa⟩)
    ·subst hrn
     exact k1 _ _ _ (.inr ⟨y,ys,rfl,hyl,(Option.some.inj hf).symm,fr⟩)
    ·subst hr'
     exact Xs.nil (k1 _ _ _ ⟨sn',nm,Aa,hf⟩)
 ·(intro μ6 l6 Z0;refine QF Z0 fun seen nm A6 hf=>?_;clear Z0)
  rw [List.length_map,List.drop_length] at hf
  exact Xs.nil (.inl ⟨rfl,(Option.some.inj hf).symm,A6.fr⟩)
 ·rintro f μ6 l6 (⟨rfl,hbf,fr⟩|⟨y,ys,rfl,hyl,hbt,fr⟩)
  ·refine Xs.ret (Em.ofEv (Ev.none _ _)) ?_
   (intro d7 μ7 Z0;refine xA Z0 fun Z1 Z2=>?_;clear Z0;subst Z1;subst Z2)
   exact k0 _ _ _ ⟨.inl ⟨hbf,rfl⟩,fr⟩
  ·exact k0 _ _ _ ⟨.inr ⟨hbt,y,ys,rfl,hyl⟩,fr⟩
end Mine
namespace Mine
open PySem PySem.W PyProof.Rows PySem.Calls PySem.MeetsSeq
noncomputable def ZB (l0 l:List (Str×AV)):Prop:=∀ x d,l0.lookup x=some d->l.lookup x=some d
theorem ZB.nil (l:List (Str×AV)):ZB [] l:=fun Z Z e=>by exact noS e
theorem ZB.cons {l0 l:List (Str×AV)}{x:Str}{d:AV} (h:l.lookup x=some d) (r:ZB l0 l):ZB ((x,d)::l0) l:=fun y e he=>by
 rcases ZJ he with ⟨rfl,rfl⟩|⟨_,he⟩
 ·exact h
 ·exact r y e he
theorem St.sub {C:Cx}{N:Addr->Prop}{μ:Mu}{l0 l:List (Str×AV)}{h:Heap} (S:St C N μ l h) (s:ZB l0 l):St C N μ l0 h :=
 ⟨S.wd,⟨let ⟨m,n,r⟩:=S.fm.ns;⟨m,n,fun x d e k=>r x d (s x d e) k⟩,fun x d e k=>S.fm.cl x d (s x d e) k⟩⟩
theorem Ev.sub {C:Cx}{μ:Mu}{l0 l:List (Str×AV)}{e:Expr}{d:AV} (h:Ev C μ l0 e d) (s:ZB l0 l):Ev C μ l e d:=fun N sh S Q X q=>h N sh (S.sub s) Q X q
noncomputable def Gv (sc:Scope) (names:List (Str×NameKind)) (ks:List Str) (x:Str):Bool :=
 sc.kind == .function && sc.names.all (fun y=>(y.2 != .local || sc.names.lookup y.1 == some .local) && y.2 != .cell && (y.2 != .free || (names.lookup y.1 == some .cell && ks.contains y.1)) && (y.2 != .local || y.1 == x || !ks.contains y.1)) && sc.names.lookup x == some .local
theorem Us {l:List (Str×AV)}{y:Str}:(l.lookup y).isSome=(l.map (·.1)).contains y:=by
 induction l with
 | nil=>rfl
 | cons a r ih =>
  rw [List.lookup_cons,List.map_cons,List.contains_cons]
  cases q:y == a.1 with
  | true=>rfl
  | false=>exact ih
theorem ZD.of {sc:Scope}{names:List (Str×NameKind)}{l:List (Str×AV)}{x:Str} (h:Gv sc names (l.map (·.1)) x=true):ZD sc names l x:=by
 unfold Gv at h
 simp only [Bool.and_eq_true,List.all_eq_true,beq_iff_eq] at h
 (refine xA h fun Z0 h3=>?_;refine xA Z0 fun h1 h2=>?_;clear Z0)
 refine ⟨h1,fun y hy e=>?_,fun y hy e=>?_,fun n hn=>?_,h3,fun y hy=>?_⟩
 ·have:=(h2 y hy).1.1.1
  rw [e] at this
  exact beq_iff_eq.mp this
 ·have:=(h2 y hy).1.1.2
  rw [e] at this
  simp at this
 ·have:=(h2 _ hn).1.2
  rw [Us]
  simpa using this
 ·have:=(h2 _ (mem_of_lookup hy)).2
  by_cases q:y=x
  ·exact .inl q
  ·right
   have hc:(l.map (·.1)).contains y=false:=by simpa [q] using this
   replace hc:=Eq.trans Us hc
   exact Option.not_isSome_iff_eq_none.mp (by rw [hc];decide)
theorem Zh {C:Cx}{names:List (Str×NameKind)}{x:Str}{q:Option NameKind} (hN:C.env.scope.names=names) (h:names.lookup x=q):C.env.kindOf x=q:=by
 unfold Env.kindOf;rw [hN];exact h
theorem Zd {C:Cx}{names:List (Str×NameKind)}{sc:Scope}{cl:List (Str×Addr)}{L:Addr} (O:C.Ok) (hN:C.env.scope.names=names):(C.comp sc cl L).env.scope.names=QO names sc.names:=by
 show (relabel sc C.env).names=_
 rw [Ql O.kind,hN]
theorem Frm.names {w:World}{h₁:Heap}{k:Nat}{fd:FuncData}{C:Cx} (F:Frm w h₁ k fd C):C.env.scope.names=fd.scope.names:=by rw [F.sc]
section
variable {E:Ent}{C:Cx}{N:Addr->Prop}{μ:Mu}{l:List (Str×AV)}{h:Heap}
theorem Im.adopt2 {h':Heap}{a b:Addr}{m':MO} (I:Im E C N μ l h) (hne:∀ kvs,m'=.dict kvs->a≠sysModules) (P:Pu C.Fs h h') (ha:h.get? a=none) (hb:h.get? b=none) (hab:a≠b) {o o':Obj} (ho:h'.get? a=some o) (ho':h'.get? b=some o') (r:Yt C.w (Un N [a,b]) h' o m') :
  Im E C (Un N [a,b]) (Mine.upd μ a m') l h'/\Ys E C (Un N [a,b]) (Mine.upd μ a m') b/\E.h0.get? a=none/\μ a=none/\¬ E.N0 a/\¬ N a/\¬ N b/\a∉C.Fs:=by
 have hmA:∀ x,h.get? x=none->μ x=none:=fun x hx=>by
  cases q:μ x with
  | none=>rfl
  | some m=>refine ZL (I.st.wd.mu x m q) fun Z Z y e Z=>?_;replace e:=Eq.trans (Eq.symm hx) e;exact noS e
 have h0A:∀ x,h.get? x=none->E.h0.get? x=none:=fun x hx=>by
  cases q:E.h0.get? x with
  | none=>rfl
  | some y=>refine xE (I.mt.al x y q) fun Z z=>?_;replace z:=Eq.trans (Eq.symm hx) z;exact noS z
 have nA:∀ x,h.get? x=none->¬ N x:=fun x hx n=>by refine xE (I.st.wd.nhi x n) fun y e=>?_;replace e:=Eq.trans (Eq.symm hx) e;exact noS e
 have fA:∀ x,h.get? x=none->x∉C.Fs:=fun x hx mm=>by refine ZE (I.st.wd.fr x mm) fun y Z Z e Z=>?_;replace e:=Eq.trans (Eq.symm hx) e;exact noS e
 have nf:∀ c∈[a,b],h.get? c=none:=fun c hc=>by
  rcases List.mem_cons.mp hc with rfl|hc
  ·exact ha
  ·rw [List.mem_singleton.mp hc];exact hb
 have fz:Fz N (Un N [a,b]) h h':=⟨fun c o n e=>P.keep c o (fun m=>n (I.st.wd.fsN c m)) e,fun c n=>n.elim .inl fun y=>.inr (nf c y)⟩
 have W:=I.st.wd.grow P nf fun c hc=>by
  rcases List.mem_cons.mp hc with rfl|hc
  ·exact ⟨o,ho⟩
  ·rw [List.mem_singleton.mp hc];exact ⟨o',ho'⟩
 have cne:∀ n c,C.env.cells.lookup n=some c->∀ x,h.get? x=none->c≠x:=fun n c e x hx q=>by refine QE (I.cel n c e) fun v y z Z=>?_;rw [q,hx] at z;exact noS z
 refine ⟨⟨⟨⟨W.stays,W.nlo,W.nhi,W.fsN,W.fr,fun c mb e=>?_,fun c mb e=>?_⟩,⟨?_,fun x d hx hk=>?_⟩⟩,⟨I.own.loc,I.own.locF,fun n c e=>?_,I.own.inj⟩,(I.pu P).mt,(I.pu P).cel,I.sub,fun x n=>.inl (I.gs x n),fun x n=>n.elim (I.gr x) fun q=>.inr (h0A x (nf x q))⟩,
  ⟨.inr (by exact List.mem_cons_of_mem _ List.mem_cons_self),fA b hb,fun x e=>cne x b e b hb rfl,by exact Eq.trans (Za (Ne.symm hab)) (hmA b hb),h0A b hb,fun n=>nA b hb (I.gs b n)⟩,h0A a ha,hmA a ha,fun n=>nA a ha (I.gs a n),nA a ha,nA b hb,fA a ha⟩
 ·by_cases q:c=a
  ·subst q
   replace e:=Eq.trans (Eq.symm (Zb _ _ _)) e;obtain rfl:=Option.some.inj e
   exact ⟨.inr (by exact List.mem_cons_self),fA c ha,o,ho,r⟩
  ·replace e:=Eq.trans (Eq.symm (Za q)) e;exact W.mu c mb e
 ·by_cases q:c=a
  ·subst q;replace e:=Eq.trans (Eq.symm (Zb _ _ _)) e;exact hne mb (Option.some.inj e)
  ·replace e:=Eq.trans (Eq.symm (Za q)) e;exact W.mm c mb e
 ·refine xEA I.st.fm.ns fun ms ns rr=>?_
  refine ⟨ms,P.ns ns,fun x d hx hk=>?_⟩
  refine xEA (rr x d hx hk) fun v e1 e2=>?_
  exact ⟨v,e1,e2.mono fz⟩
 ·refine Zn (I.st.fm.cl x d hx hk) fun c v e1 e2 e3=>?_
  exact ⟨c,v,e1,P.cell e2,e3.mono fz⟩
 ·refine VA (I.own.cell n c e) fun c1 c2 c3 c4=>?_
  exact ⟨.inl c1,c2,by exact Eq.trans (Za (cne n c e a ha)) c3,c4⟩
theorem Im.newPrivPu {h':Heap}{c:Addr} (I:Im E C N μ l h) (P:Pu C.Fs h h') (hc:h.get? c=none) {o:Obj} (ho:h'.get? c=some o) :
  Im E C (Un N [c]) μ l h'/\Ys E C (Un N [c]) μ c/\¬ N c:=by
 have r:=I.newPrivs (cs:=[c]) P (fun Z m=>List.mem_singleton.mp m▸hc) fun Z m=>List.mem_singleton.mp m▸⟨o,ho⟩
 exact ⟨r.1,r.2.2.2 c List.mem_cons_self,fun n=>by refine xE (I.st.wd.nhi c n) fun x e=>?_;replace e:=Eq.trans (Eq.symm hc) e;exact noS e⟩
end
section
variable {E:Ent}{C:Cx}{μ:Mu}{l:List (Str×AV)}{Φ:Zq}{r:List Stmt}
theorem Rds.intsA {N M:Addr->Prop}{h:Heap}:∀ {vs:List Value}{is:List Int},Rds N h vs (is.map .int)->Zr M h vs ((is.map PyData.int).map .dat)
 | _,[],.nil=>.nil
 | _,i::is,.cons a b=>by obtain ⟨_,rfl⟩:=Rd.invI a;exact .cons (Rd.int _ _) (Rds.intsA b)
theorem Em.compM (O:C.Ok) {elt iter:Expr}{ifs:List Expr}{x:Str}{px pos:Pos}{sc:Scope}{xs:List AV}{p:AV->Bool}{f:AV->Int}
  (K:ZD sc C.env.scope.names l x) (hfs:∀ v,foldedSetIterable iter C.env v=pure v) (hit:Itr C μ l iter xs)
  (ht:∀ L,∀ d∈xs,Vr (C.comp sc (Zi C.env sc.names []) L) μ ((x,d)::l) ifs (p d))
  (he:∀ L,∀ d∈xs,p d=true->Ev (C.comp sc (Zi C.env sc.names []) L) μ ((x,d)::l) elt (.dat (.int (f d))))
  (hz:xs.length≤sizeLine):Em E C μ l (.ListComp elt [⟨.Name x px,iter,ifs,0⟩] sc pos) (Dx E μ (.list ((Zc ((xs.filter p).map f)).map .dat))) Φ:=by
 intro N s I Q X q xx
 have S:=I.st
 rw [eval_ListComp]
 have hcl:closureFor sc C.env=pure (Zi C.env sc.names []):=Qb fun n hn=>by
  refine xA (K.free n hn) fun k hl=>?_
  refine xE (Option.isSome_iff_exists.mp hl) fun d hd=>?_
  refine QE (S.fm.cl n d hd k) fun c v a Z=>?_
  rw [a];rfl
 refine wpAny_comprehension_free (g:=⟨.Name x px,iter,ifs,0⟩) (gs:=[]) rfl hfs hcl K.kind K.locs (use:=Option.none) ?_
 refine U1 O K hit ht he hz S (RR:=fun acc L r s'=>compPost (model pg C.w) C.A X Option.none Q acc L r s') fun D L h' tk m' P R hn fL hDL fD hpl=>?_
 refine ⟨m',hn,fun h'' hs=>?_⟩
 (refine xEE hpl fun vs n hD=>?_;clear hpl)
 refine ZE (id hn) fun oL Z Z hoL Z=>?_
 have hr:Rds (Un N [L]) h' vs.toList (((xs.filter p).map f).map .int):=by
  refine Zf (Rd.listE R) fun a us ea Z la ra Z=>?_
  obtain rfl:=Value.ref.inj ea
  (refine VE la fun o ho Z n' hd'=>?_;clear la)
  replace ho:=Eq.trans (Eq.symm hD) ho;obtain rfl:=Option.some.inj ho
  cases hd'
  rw [List.map_map]
  simpa [Function.comp_def] using ra
 refine ZK (I.adopt2 (fun Z q=>by cases q) P fD fL hDL hD hoL (m':=.list ((Zc ((xs.filter p).map f)).map .dat)) ⟨vs.toList,n,by rfl,hr.intsA⟩) fun I1 pr h0 hm hn0 nD nL Z=>?_
 have I2:=I1.drop pr (h':=h'') fun b o nb e=>hs.extBut b o nb e
 have ne:∀ a o,s.heap.get? a=some o->a≠L:=fun a o e z=>by rw [z,fL] at e;exact noS e
 have neD:∀ a o,s.heap.get? a=some o->a≠D:=fun a o e z=>by rw [z,fD] at e;exact noS e
 refine q _ (.obj D) _ _ h'' tk ⟨D,rfl,rfl,h0,hm⟩ I2 ⟨fun a o n1 n2 n3 e=>hs.extBut a o (ne a o e) (P.keep a o n1 e),fun a o e=>?_⟩ ⟨fun a na=>⟨.inl na,fun z=>nL (z▸na)⟩,fun a na=>na.1.elim .inl fun y=>?_,fun a na=>?_⟩ rfl
 ·refine xE (P.fr a o e) fun sl y=>?_
  exact ⟨_,hs.extBut a _ (ne a o e) y⟩
 ·rcases List.mem_cons.mp y with rfl|y
  ·exact .inr fD
  ·exact .inr (by rw [List.mem_singleton.mp y];exact fL)
 ·by_cases z:a=D
  ·exact .inr (z▸fD)
  ·rw [Za z] at na;exact .inl na
theorem Xs.comp (H:Hdr C) (O:C.Ok) {l0:List (Str×AV)} (hsub:ZB l0 l) {elt iter:Expr}{ifs:List Expr}{x y:Str}{px py pos spos:Pos}{sc:Scope}{xs:List AV}{p:AV->Bool}{f:AV->PyData}
  (K:ZD sc C.env.scope.names l0 x) (hfs:∀ v,foldedSetIterable iter C.env v=pure v) (hit:Itr C μ l0 iter xs)
  (ht:∀ L,∀ d∈xs,Vr (C.comp sc (Zi C.env sc.names []) L) μ ((x,d)::l0) ifs (p d))
  (he:∀ L,∀ d∈xs,p d=true->Ev (C.comp sc (Zi C.env sc.names []) L) μ ((x,d)::l0) elt (.dat (f d)))
  (hz:xs.length≤sizeLine) (hk:C.env.kindOf y=some .local)
  (hs:swapsWith (.ListComp elt [⟨.Name x px,iter,ifs,0⟩] sc pos) (some (.Name y py)) spos.line C.env=pure true)
  (hr:Xs E C μ ((y,.dat (.list ((xs.filter p).map f)))::l) r Φ):Xs E C μ l (.Assign [.Name y py] (.ListComp elt [⟨.Name x px,iter,ifs,0⟩] sc pos) spos::r) Φ:=by
 intro N s I Q X q xx
 have S:=I.st.sub hsub
 refine wpAny_execs_cons ?_
 rw [exec_Assign_Name_used _ _ _ _ hs]
 refine wpAny_bind (wpAny_standAt (wpAny_bind ?_))
 show wpAny _ C.A (do let _ ← comprehension (.ListComp elt [⟨.Name x px,iter,ifs,0⟩] sc pos) sc C.env _ (newList []) false (eval iter C.env) (some (PySem.assign (.Name y py) C.env))) _ _ s
 have hcl:closureFor sc C.env=pure (Zi C.env sc.names []):=Qb fun n hn=>by
  refine xA (K.free n hn) fun k hl=>?_
  refine xE (Option.isSome_iff_exists.mp hl) fun d hd=>?_
  refine QE (S.fm.cl n d hd k) fun c v a Z=>?_
  rw [a];rfl
 refine wpAny_bind (wpAny_comprehension_free (g:=⟨.Name x px,iter,ifs,0⟩) (gs:=[]) rfl hfs hcl K.kind K.locs (use:=some (PySem.assign (.Name y py) C.env)) ?_)
 refine U1 O K hit ht he hz S (RR:=fun acc L r s'=>compPost (model pg C.w) C.A X (some (PySem.assign (.Name y py) C.env)) _ acc L r s') fun D L h' tk m' P R hn fL hDL fD hpl=>?_
 refine PyProof.Rows.assign_Name ?_
 refine ZE (id hn) fun oL Z Z hoL Z=>?_
 refine xAA (I.newPrivPu P fL hoL) fun I1 pr nL=>?_
 refine I1.store H.kind (s:={ s with heap:=h',toks:=tk }) (v:=.ref D) (d:=.dat (.list ((xs.filter p).map f))) R (.inl hk) fun h2 t2 I2 fz2 K2=>?_
 have Ll:L≠C.env.locals:=fun z=>pr.fs (z▸I.own.loc)
 refine ⟨m',hn.at' fun o e=>K2.keep L o pr.fs pr.cl pr.mu e,fun h3 hs3=>?_⟩
 have I3:=I2.drop pr (h':=h3) fun b o nb e=>hs3.extBut b o nb e
 have ne:∀ a o,s.heap.get? a=some o->a≠L:=fun a o e z=>by rw [z,fL] at e;exact noS e
 refine wpAny_pure (wpAny_pure (Xs.rest (s:=s) hr I3 ⟨fun a o n1 n2 n3 e=>hs3.extBut a o (ne a o e) (K2.keep a o n1 n2 n3 (P.keep a o n1 e)),fun a o e=>?_⟩ ⟨fun a na=>⟨.inl na,fun z=>nL (z▸na)⟩,fun a na=>na.1.elim .inl fun y=>.inr (by rw [List.mem_singleton.mp y];exact fL),fun a na=>.inl na⟩ q xx))
 refine xE (P.fr a o e) fun sl y=>?_
 refine xE (K2.al a _ y) fun o' z=>?_
 exact ⟨o',hs3.extBut a _ (ne a o e) z⟩
end
end Mine
namespace Mine
open PySem PySem.W PyProof.Rows PySem.Calls PySem.MeetsSeq
set_option maxHeartbeats 2000000
section
variable {E:Ent}{C:Cx}{μ:Mu}{l:List (Str×AV)}{Φ:Zq}{r:List Stmt}
theorem Mr:nsOkIn (Kf C) 88=true:=by
 unfold nsOkIn
 rw [show (Kf C).lookup 88=some _ from rfl]
 dsimp only
 refine Eq.trans (Eq.symm Array.all_toList) ?_
 rfl
theorem Xs.raiseCE {x:Str}{np cpos pos:Pos}{args:List Expr}{ds:List AV} (kx:(Kf C).In C.h₁) (hh:C.A.handled=none) (hf:Ev C μ l (.Name x np) (.cal (.ref 89))) (hn:Zu args=true) (ha:Evs C μ l args ds) (hz:ds.length≤100) (hΦ:Φ (.exc (.ref 89) .none) μ l) :
  Xs E C μ l (.Raise (some (.Call (.Name x np) args [] cpos)) none pos::r) Φ:=by
 intro N s I Q X q xx
 obtain ⟨nm,qn,bs,hdct,sn,sub,ab,col,dd,k0,k1,k2,k3,k5,hC⟩:∃ nm qn bs hdct sn sub ab col dd k0 k1 k2 k3 k5,C.h₁.get? 89=some (excClassObj nm qn 89 88 bs [.type "ValueError",.type "Exception",.type "BaseException",.type "object"] hdct sn sub ab col dd k0 k1 k2 k3 k5 "ValueError.__new__") :=
  ⟨_,_,_,_,_,_,_,_,_,_,_,_,_,_,kx 89 _ rfl⟩
 refine wpAny_execs_cons (wpAny_Raise_call_sub (C:=89) (N:=88) (nm:=nm) (q:=qn) (bs:=bs) (hdct:=hdct) (sn:=sn) (sub:=sub) (ab:=ab) (col:=col) (dd:=dd) (k0:=k0) (k1:=k1) (k2:=k2) (k3:=k3) (k5:=k5) (mN:=Heap.nsMap C.h₁ 88) PySem.F.excBase_ValueError hh (Zj hn) ?_ (hf N s I.st _ _ fun v h1 t1 P1 R1=>?_))
 ·exact nsMap_none_of_in kx Mr rfl
 subst R1
 refine ⟨rfl,Zw hn (ha cpos N _ (I.st.pu P1) _ _ fun vs h2 t2 P2 R2=>⟨rfl,?_,?_,?_,fun h' e m=>?_⟩)⟩
 ·show vs.length≤sizeLine
  rw [R2.length,sizeLine_eq];exact oA ‹_› rfl
 ·exact ((I.st.pu P1).pu P2).wd.stays _ _ hC
 ·exact Heap.Ns.keeps (.of_isNs (isNs_of_in kx Mr)) ((I.st.pu P1).pu P2).wd.stays
 ·refine QF m.there fun t ht Z Z=>?_
  exact xx e (.ref 89) .none .new N μ l h2 h' t2 hΦ ((I.pu P1).pu P2) (.ofPu (P1.trans P2)) (.refl _ _ _) ⟨.of_keeps m.keeps,m.new,_,_,ht,rfl,rfl,rfl,rfl⟩ (.inl rfl)
theorem Px (kx:(Kf C).In C.h₁):Mch C (.ref 89) (.ref 89):=by
 intro e s ob Q X st ho hc q
 obtain ⟨hh,g,d,t,os⟩:=s
 obtain ⟨nm,qn,bs,hdct,sn,sub,ab,col,dd,k0,k1,k2,k3,k5,hC⟩:∃ nm qn bs hdct sn sub ab col dd k0 k1 k2 k3 k5,C.h₁.get? 89=some (excClassObj nm qn 89 88 bs [.type "ValueError",.type "Exception",.type "BaseException",.type "object"] hdct sn sub ab col dd k0 k1 k2 k3 k5 "ValueError.__new__") :=
  ⟨_,_,_,_,_,_,_,_,_,_,_,_,_,_,kx 89 _ rfl⟩
 exact wpAny_excMatches_sub_self (st _ _ hC) ho hc (by decide) q
theorem Ev.joined1 {v:Expr}{pos:Pos}{d:AV} (h:Ev C μ l v d):Ev C μ l (.JoinedStr [v] pos) d:=fun N s S Q X q=>JoinedStr_one (h N s S Q X q)
end
noncomputable def Vh (bs:List Bn):List Int:=(bs.filter fun b=>b.2.1 == 0).map (·.1)
noncomputable def Kn (μ:Mu):AV->Bool
 | .obj a=>match μ a with|some (.info _ np _)=>np == 0|_=>false
 | _=>false
noncomputable def Gf (μ:Mu):AV->Int
 | .obj a=>match μ a with|some (.info n _ _)=>n|_=>0
 | _=>0
theorem By {μ:Mu}:∀ {ns:List Nd},(∀ t∈ns,μ t.ia=some (.info t.n t.np t.sa))->((ns.map fun t=>AV.obj t.ia).filter (Kn μ)).map (Gf μ)=Vh (Zg ns)
 | [],_=>rfl
 | t::r,h=>by
  have ih:=By (ns:=r) fun u hu=>h u (List.mem_cons_of_mem _ hu)
  have ht:=h t List.mem_cons_self
  have e1:Kn μ (.obj t.ia)=(t.np == 0):=by show (match μ t.ia with|some (.info _ np _)=>np == 0|_=>false)=_;rw [ht]
  have e2:Gf μ (.obj t.ia)=t.n:=by show (match μ t.ia with|some (.info n _ _)=>n|_=>0)=_;rw [ht]
  unfold Vh Zg at ih ⊢
  rw [List.map_cons,List.filter_cons,List.map_cons,List.filter_cons,e1]
  cases q:t.np == 0 with
  | true=>simp only [if_true,List.map_cons,e2];rw [ih]
  | false=>simp only [Bool.false_eq_true,if_false];exact ih
noncomputable def HQ (μ μ':Mu) (x dx d r:Addr) (po nf:Int) (bs:List Bn):Prop :=
 μ r=none/\Ua μ' x dx d (.obj r) po nf/\μ' r=some (.list ((Zc (Vh bs)).map .dat))/\∀ y,y≠dx->μ y≠none->μ' y=μ y
theorem Dh {w:World}{h₁:Heap} (K:K1 w h₁) {k:Nat}{μ:Mu}{x dx d:Addr}{po nf:Int}{ns:List Nd}{F:Nat}{b:Bool} (T:Ua μ x dx d (.dat .none) po nf) (H0:QP μ d ns) (hsu:∀ t∈ns,∀ s∈t.su,∃ u∈ns,u.n=s)
  (hb:Wc (suB (Zg ns)) F (ns.map (·.n)) []=some b) (hz:ns.length≤1000) :
  MFn w h₁ (k+2) μ 126 [.obj x] (fun y=>y=dx)
   (fun d' μ'=>b=false/\d'=.dat .none/\∃ r,HQ μ μ' x dx d r po nf (Zg ns)) (fun c t μ'=>b=true/\c=.ref 89/\t=.none/\∃ r,HQ μ μ' x dx d r po nf (Zg ns)):=by
 refine MFn.of_body (ps:=["self"]) K.nms ⟨⟨_,K.kx 126 _ rfl,rfl⟩,Zs K rfl rfl rfl,rfl,rfl,rfl,rfl,by decide,by decide,by decide,rfl,rfl,rfl,fun vs hl=>?_⟩ rfl fun E C FF H hD hold hF0=>?_
 ·revert vs;exact KO fun Z=>rfl
 refine Xs.post fun Ψ0 mk0=>?_
 have O:=FF.ok
 have kx:=KC K FF
 have hk:C.k=k+1:=FF.k
 have hwC:=FF.w
 have hhC:=FF.h₁
 have wdx:E.Wr dx:=.inl (by rw [hD])
 have es:∀ (μ':Mu) (l':List (Str×AV)) p,Has l' "self" (.obj x)->Ev C μ' l' (.Name "self" p) (.obj x):=fun μ' l' p h=>Ev.loc O h (FF.kindOf rfl) rfl
 refine Xs.seq (X1.ite (b:=false) (Φ:=fun f μ' l'=>f=.nxt/\μ'=μ/\l'=[(("self":Str),AV.obj x)]) (Tst.cmp rfl (Ev.attr kx (es _ _ _ rfl) rfl T.x T.dx rfl rfl rfl rfl rfl (by simp)) (Ev.none _ _) (Qo O YH)) (fun h=>by exact fT h) fun Z=>Xs.nil ⟨rfl,rfl,rfl⟩) ?_
 (intro f μ1 l1 Z0;refine xAA Z0 fun Z1 hq Z2=>?_;clear Z0;subst Z1;subst Z2)
 subst hq
 have xdx:x≠dx:=kd2 T.x T.dx rfl
 have ddx:d≠dx:=kd2 H0.dict T.dx rfl
 refine Xs.setAttr (x:=x) (dx:=dx) (cl:=171) (fs:=[("_node2info",.obj d),("_ready_nodes",.dat .none),("_npassedout",.dat (.int po)),("_nfinished",.dat (.int nf))]) kx
  (Em.compM (xs:=(ns.map fun t=>(t.n,AV.obj t.ia)).map (·.2)) (p:=Kn μ1) (f:=Gf μ1) O (ZD.of (by rw [FF.sc];rfl)) (fun Z=>rfl)
   (Itr.dictValues O H0.dict (fun kv h=>by (refine xEA (List.mem_map.mp h) fun t Z Z0=>?_;subst Z0);exact ⟨_,rfl⟩) (Ev.attr kx (es _ _ _ rfl) rfl T.x T.dx rfl rfl rfl rfl rfl (by simp)) rfl rfl) ?_ ?_ (by simp [sizeLine_eq];exact oA ‹_› rfl))
  (fun Z Z Z=>es _ _ _ rfl) ?_ wdx rfl rfl rfl rfl rfl (by simp) ?_
 ·intro L dd hdd
  (refine xEA (List.mem_map.mp hdd) fun kv hkv Z0=>?_;subst Z0)
  (refine xEA (List.mem_map.mp hkv) fun t ht Z0=>?_;subst Z0)
  have ho:=H0.info t ht
  have e1:Kn μ1 (.obj t.ia)=(t.np == 0):=by show (match μ1 t.ia with|some (.info _ np _)=>np == 0|_=>false)=_;rw [ho]
  refine Vr.one ?_
  rw [e1]
  exact Tst.cmp rfl (Ev.slot kx U3 (Ev.loc (O.comp rfl) rfl (Zh (Zd O FF.names) rfl) rfl) rfl ho rfl) (Ev.int 0 _ _) (Qo (O.comp rfl) UE)
 ·intro L dd hdd _
  (refine xEA (List.mem_map.mp hdd) fun kv hkv Z0=>?_;subst Z0)
  (refine xEA (List.mem_map.mp hkv) fun t ht Z0=>?_;subst Z0)
  have ho:=H0.info t ht
  have e2:Gf μ1 (.obj t.ia)=t.n:=by show (match μ1 t.ia with|some (.info n _ _)=>n|_=>0)=_;rw [ho]
  rw [e2]
  exact Ev.slot kx JY (Ev.loc (O.comp rfl) rfl (Zh (Zd O FF.names) rfl) rfl) rfl ho rfl
 ·(intro d2 μ2 Z0;refine Z6 Z0 fun r Z1 Z2 h0 hr=>?_;clear Z0;subst Z1;subst Z2)
  exact ⟨by exact Eq.trans (Za (kd2 T.x hr rfl)) T.x,by exact Eq.trans (Za (kd2 T.dx hr rfl)) T.dx⟩
 (intro d2 μ2 Z0;refine Z6 Z0 fun r Z1 Z2 h0 hr=>?_;clear Z0;subst Z1;subst Z2)
 have er:((ns.map fun t=>(t.n,AV.obj t.ia)).map (·.2))=ns.map fun t=>AV.obj t.ia:=by exact List.map_map
 rw [er,By H0.info]
 have xr:x≠r:=kd2 T.x hr rfl
 have dxr:dx≠r:=kd2 T.dx hr rfl
 generalize hμ3:upd (upd μ1 r (.list ((Zc (Vh (Zg ns))).map .dat))) dx (.ns (WK [("_node2info",.obj d),("_ready_nodes",.dat .none),("_npassedout",.dat (.int po)),("_nfinished",.dat (.int nf))] "_ready_nodes" (.obj r)))=μ3
 have P3:HQ μ1 μ3 x dx d r po nf (Zg ns):=by
  refine ⟨hr,⟨?_,?_⟩,?_,fun y n1 n2=>?_⟩
  ·rw [← hμ3,Za xdx,Za xr];exact T.x
  ·rw [← hμ3,Zb];rfl
  ·rw [← hμ3,Za (Ne.symm dxr),Zb]
  ·have hne:y≠r:=fun q=>n2 (by rw [q];exact hr)
   rw [← hμ3,Za n1,Za hne]
 have H3:QP μ3 d ns:=by
  have kp:∀ y m,μ1 y=some m->y≠dx->μ3 y=some m:=fun y m e n=>(P3.2.2.2 y n (by rw [e];exact Option.some_ne_none _)).trans e
  refine ⟨kp _ _ H0.dict ddx,fun t ht=>kp _ _ (H0.info t ht) fun q=>?_,fun t ht=>kp _ _ (H0.succ t ht) fun q=>?_,H0.nd,H0.sd⟩
  ·have:=H0.info t ht;rw [q,T.dx] at this;cases this
  ·have:=H0.succ t ht;rw [q,T.dx] at this;cases this
 have fn161:∃ o fd,C.h₁.get? 161=some o/\o.data=.func fd:=⟨_,_,by rw [hhC];exact K.kx 161 _ rfl,rfl⟩
 have fc:=Jp (k:=k) K P3.2.1 H3 hsu hb
 rw [← hwC,← hhC] at fc
 refine Xs.assign H (Em.methOwn (Θ:=fun Z Z Z=>False) kx fn161 rfl rfl rfl (by decide) (es _ _ _ rfl) P3.2.1.x P3.2.1.dx rfl rfl rfl rfl Evs.nil (fc.fnM O (by exact oE ‹_› rfl) (fun a h=>h.elim)) (fun Z Z Z z=>z.elim)) (Zx FF rfl) rfl ?_
 (intro d4 μ4 Z0;refine xA Z0 fun hd4 fr4=>?_;clear Z0)
 have P4:HQ μ1 μ4 x dx d r po nf (Zg ns):=by
  have kp:∀ y m,μ3 y=some m->μ4 y=some m:=fun y m e=>(fr4 y (by rw [e];exact Option.some_ne_none _)).trans e
  refine ⟨hr,⟨kp _ _ P3.2.1.x,kp _ _ P3.2.1.dx⟩,kp _ _ P3.2.2.1,fun y n1 n2=>?_⟩
  have e:=P3.2.2.2 y n1 n2
  rw [fr4 y (by rw [e];exact n2),e]
 rcases hd4 with ⟨hbf,rfl⟩|⟨hbt,y,ys,rfl,hyl⟩
 ·refine Xs.seq (X1.ite (b:=false) (Φ:=fun f μ' l'=>f=.nxt/\μ'=μ4) (Tst.ofEv (Ev.loc O rfl (FF.kindOf rfl) rfl) (On _ _) rfl) (fun h=>by exact fT h) fun Z=>Xs.nil ⟨rfl,rfl⟩) ?_
  (intro f μ5 l5 Z0;refine xA Z0 fun Z1 Z2=>?_;clear Z0;subst Z1;subst Z2)
  exact Xs.nil (mk0 _ _ _ ⟨hbf,rfl,r,P4⟩)
 ·refine Xs.seq (X1.ite (b:=true) (Φ:=fun f μ' l'=>f=.exc (.ref 89) .none/\μ'=μ4) (Tst.ofEv (Ev.loc O rfl (FF.kindOf rfl) rfl) (Ou _ _) rfl) (fun Z=>?_) fun h=>by exact tF h) ?_
  ·exact Xs.raiseCE kx O.handled (Ev.glob O rfl (FF.kindOf rfl) rfl) rfl (Evs.cons rfl (Ev.joined1 (Ev.str (by decide +kernel) _ _)) (Evs.cons rfl (Ev.loc O rfl (FF.kindOf rfl) rfl) Evs.nil)) (by simp) ⟨rfl,rfl⟩
  ·(intro f μ5 l5 Z0;refine xA Z0 fun Z1 Z2=>?_;clear Z0;subst Z1;subst Z2)
   exact mk0 _ _ _ ⟨hbt,rfl,rfl,r,P4⟩
end Mine
namespace Mine
open PySem PySem.W PyProof.Rows PySem.Calls
theorem Yb {M:Model}{Γ:Ctx}{p:Pos}{t:Sem Fin}{fs:List Frame}{s s':Shared}{e:PySem.End} (h:Runs M Γ p t fs s e s'):s.toks≤s'.toks:=by
 induction h with
 | done=>exact Nat.le_refl _
 | raise=>exact Nat.le_refl _
 | yield=>exact Nat.le_refl _
 | fresh _ ih=>exact Nat.le_trans (Nat.le_succ _) ih
 | call _ _ i1 i2=>exact Nat.le_trans i1 i2
 | resumeFresh _ _ _ _ i1 i2=>exact Nat.le_trans i1 i2
 | resumeSuspended _ _ _ _ i1 i2=>exact Nat.le_trans i1 i2
 | segRet _ _ i1 i2=>exact Nat.le_trans i1 i2
 | segGen _ _ i1 i2=>exact Nat.le_trans i1 i2
 | segSuspGen _ _ _ _ i1 i2=>exact Nat.le_trans i1 i2
 | _=>assumption
theorem Df {M:Model}{Γ:Ctx}{p:Pos}{g:Nat}{r:Resume}{s s':Shared}{res:GenResult} (h:Wakes M Γ p g r s res s'):s.toks≤s'.toks:=by
 unfold Wakes at h
 split at h
 ·exact h.elim
 ·split at h
  ·(refine Vk h fun e₁ s₁ h1 Z Z Z0=>?_;subst Z0);have:=Yb h1;exact this
  ·rw [h.2];exact Nat.le_refl _
  ·rw [h.2];exact Nat.le_refl _
 ·(refine Vk h fun e₁ s₁ h1 Z Z Z0=>?_;subst Z0);have:=Yb h1;exact this
 ·rw [h.2];exact Nat.le_refl _
 ·rw [h.2];exact Nat.le_refl _
theorem ZZ {α:Type} (M:Model) (Γ:Ctx):∀ (t:Sem α) (n:Nat) (Q:α->Pos->Shared->Prop) (E:Value->Pos->Shared->Prop) (p:Pos) (s:Shared),n≤s.toks->Sem.wp M Γ t Q E p s ->
  Sem.wp M Γ t (fun a p' s'=>n≤s'.toks/\Q a p' s') (fun e p' s'=>n≤s'.toks/\E e p' s') p s
 | .pure a,n,Q,E,p,s,hn,h=>by rw [Sem.wp] at h ⊢;exact ⟨hn,h⟩
 | .raise e,n,Q,E,p,s,hn,h=>by rw [Sem.wp] at h ⊢;exact ⟨hn,h⟩
 | .unsupported _,n,Q,E,p,s,hn,h=>by rw [Sem.wp] at h;exact h.elim
 | .finish _,n,Q,E,p,s,hn,h=>by rw [Sem.wp] at h;exact h.elim
 | .rule _ k,n,Q,E,p,s,hn,h=>by rw [Sem.wp] at h ⊢;exact ZZ M Γ (k ()) n Q E p s hn h
 | .at p' k,n,Q,E,p,s,hn,h=>by rw [Sem.wp] at h ⊢;exact ZZ M Γ (k ()) n Q E p' s hn h
 | .load a _ k,n,Q,E,p,s,hn,h=>by
  rw [Sem.wp] at h ⊢
  refine xEA h fun o ho h=>?_
  exact ⟨o,ho,ZZ M Γ (k o) n Q E p s hn h⟩
 | .update a _ f k,n,Q,E,p,s,hn,h=>by
  rw [Sem.wp] at h ⊢
  exact ⟨h.1,ZZ M Γ (k ()) n Q E p { s with heap:=s.heap.update a f } hn h.2⟩
 | .loadIfAlive a k,n,Q,E,p,s,hn,h=>by rw [Sem.wp] at h ⊢;exact ZZ M Γ (k _) n Q E p s hn h
 | .point _ k,n,Q,E,p,s,hn,h=>by rw [Sem.wp] at h ⊢;exact ZZ M Γ (k ()) n Q E p s hn h
 | .register _ _,n,Q,E,p,s,hn,h=>by rw [Sem.wp] at h;exact h.elim
 | .alloc o k,n,Q,E,p,s,hn,h=>by rw [Sem.wp] at h ⊢;exact ZZ M Γ (k _) n Q E p { s with heap:=s.heap.push o } hn h
 | .fresh k,n,Q,E,p,s,hn,h=>by rw [Sem.wp] at h ⊢;exact ZZ M Γ (k _) n Q E p { s with toks:=s.toks+1 } (Nat.le_trans hn (Nat.le_succ _)) h
 | .ask k,n,Q,E,p,s,hn,h=>by rw [Sem.wp] at h ⊢;exact ZZ M Γ (k _) n Q E p s hn h
 | .choose src m k,n,Q,E,p,s,hn,h=>by
  rw [Sem.wp] at h ⊢
  exact ⟨h.1,ZZ M Γ (k _) n Q E p { s with drawn:=s.drawn.bump src } hn h.2⟩
 | .os q _ k,n,Q,E,p,s,hn,h=>by rw [Sem.wp] at h ⊢;exact ZZ M Γ (k _) n Q E p { s with os:=(Os.step s.os q).1 } hn h
 | .call c hd _ _ k,n,Q,E,p,s,hn,h=>by
  rw [Sem.wp] at h ⊢
  refine QE h fun r s' hr h=>?_
  exact ⟨r,s',hr,ZZ M Γ (k r) n Q E p s' (Nat.le_trans hn (Yb hr)) h⟩
 | .handled own k,n,Q,E,p,s,hn,h=>by rw [Sem.wp] at h ⊢;exact ZZ M Γ (k _) n Q E p s hn h
 | .genState g k,n,Q,E,p,s,hn,h=>by
  rw [Sem.wp] at h ⊢
  refine xEA h fun st hs h=>?_
  exact ⟨st,hs,ZZ M Γ (k _) n Q E p s hn h⟩
 | .newGen c k,n,Q,E,p,s,hn,h=>by rw [Sem.wp] at h ⊢;exact ZZ M Γ (k _) n Q E p { s with gens:=s.gens.push (.fresh c) } hn h
 | .resume g r _ k,n,Q,E,p,s,hn,h=>by
  rw [Sem.wp] at h ⊢
  refine QE h fun res s' hw h=>?_
  exact ⟨res,s',hw,ZZ M Γ (k res) n Q E p s' (Nat.le_trans hn (Df hw)) h⟩
 | .yield ..,n,Q,E,p,s,hn,h=>by rw [Sem.wp] at h;exact h.elim
 | .stack k,n,Q,E,p,s,hn,h=>by rw [Sem.wp] at h ⊢;exact ZZ M Γ (k _) n Q E p s hn h
 | .fork ..,n,Q,E,p,s,hn,h=>by rw [Sem.wp] at h;exact h.elim
 | .thread k,n,Q,E,p,s,hn,h=>by rw [Sem.wp] at h ⊢;exact ZZ M Γ (k _) n Q E p s hn h
 | .await ..,n,Q,E,p,s,hn,h=>by rw [Sem.wp] at h;exact h.elim
theorem VU {α:Type}{M:Model}{A:Around}{t:Sem α}{Q:α->Shared->Prop}{E:Value->Shared->Prop}{s:Shared} (h:wpAny M A t (fun a s'=>s.toks≤s'.toks->Q a s') (fun e s'=>s.toks≤s'.toks->E e s') s):wpAny M A t Q E s :=
 fun Γ p hΓ=>Sem.wp_mono M Γ t (fun Z Z Z z=>z.2 z.1) (fun Z Z Z z=>z.2 z.1) p s (ZZ M Γ t s.toks _ _ p s (Nat.le_refl _) (h Γ p hΓ))
end Mine
namespace Mine
open PySem PySem.W PyProof.Rows
structure LO {α:Type} (lt:α->α->Bool):Prop where
 irr:∀ a,lt a a=false
 tr:∀ a b c,lt a b=true->lt b c=true->lt a c=true
 tri:∀ a b,lt a b=true∨a=b∨lt b a=true
section
variable {α:Type}{lt:α->α->Bool}
noncomputable def ins (lt:α->α->Bool) (x:α):List α->List α
 | []=>[x]
 | y::r=>if lt y x then y::ins lt x r else x::y::r
noncomputable def Zl (lt:α->α->Bool):List α->List α
 | []=>[]
 | x::r=>ins lt x (Zl lt r)
theorem LO.asy (L:LO lt) {a b:α} (h:lt a b=true):lt b a=false:=by
 cases q:lt b a with
 | false=>rfl
 | true=>have:=L.tr a b a h q;exact fT (Eq.trans (Eq.symm (L.irr _)) this)
theorem Bq (L:LO lt) (a b:α):∀ l:List α,ins lt a (ins lt b l)=ins lt b (ins lt a l)
 | []=>by
  rcases L.tri a b with h|h|h
  ·simp [ins,h,L.asy h]
  ·subst h;rfl
  ·simp [ins,h,L.asy h]
 | y::r=>by
  have ih:=Bq L a b r
  unfold ins
  by_cases h1:lt y b=true
  ·by_cases h2:lt y a=true
   ·simp only [h1,h2,if_true,ins];rw [ih]
   ·simp only [h1,h2,if_true,ins]
    rcases L.tri a b with h|h|h
    ·simp [ins,h,h1,h2]
    ·subst h;exact absurd h1 h2
    ·have:=L.tr y b a h1 h;exact absurd this h2
  ·by_cases h2:lt y a=true
   ·simp only [h1,h2,if_true,ins]
    rcases L.tri a b with h|h|h
    ·have:=L.tr y a b h2 h;exact absurd this h1
    ·subst h;exact absurd h2 h1
    ·simp [ins,h,h1,h2]
   ·simp only [h1,h2,ins]
    rcases L.tri a b with h|h|h
    ·simp [h,L.asy h,ins,h1,h2]
    ·subst h;rfl
    ·simp [h,L.asy h,ins,h1,h2]
theorem Ds (L:LO lt) {l m:List α} (h:l.Perm m):Zl lt l=Zl lt m:=by
 induction h with
 | nil=>rfl
 | cons x _ ih=>simp only [Zl];rw [ih]
 | swap x y l=>simp only [Zl];exact Bq L y x _
 | trans _ _ i1 i2=>exact Eq.trans i1 (Eq.trans i2 rfl)
theorem Hh {x:α}{l:List α} (h:∀ y∈l,lt y x=false):ins lt x l=x::l:=by
 cases l with
 | nil=>rfl
 | cons y r=>unfold ins;rw [h y List.mem_cons_self];rfl
theorem Kr {l:List α} (h:l.Pairwise fun a b=>lt b a=false):Zl lt l=l:=by
 induction l with
 | nil=>rfl
 | cons x r ih =>
  rw [List.pairwise_cons] at h
  unfold Zl
  rw [ih h.2,Hh h.1]
theorem Jm (x:α):∀ l:List α,(ins lt x l).Perm (x::l)
 | []=>.refl _
 | y::r=>by
  unfold ins
  split
  ·exact ((Jm x r).cons y).trans (.swap x y r)
  ·exact .refl _
theorem ZT:∀ l:List α,(Zl lt l).Perm l
 | []=>.refl _
 | x::r=>(Jm x _).trans ((ZT r).cons x)
set_option tactic.hygienic true in
theorem YO (L:LO lt) (x:α):∀ l:List α,l.Pairwise (fun a b=>lt b a=false)->(ins lt x l).Pairwise fun a b=>lt b a=false
 | [],_=>by simp [ins]
 | y::r,h=>by
  rw [List.pairwise_cons] at h
  unfold ins
  split
  ·rename_i hy
   rw [List.pairwise_cons]
   refine ⟨fun z hz=>?_,YO L x r h.2⟩
   rcases List.mem_cons.mp ((Jm x r).mem_iff.mp hz) with rfl|hz
   ·exact L.asy hy
   ·exact h.1 z hz
  ·rename_i hy
   rw [Bool.not_eq_true] at hy
   rw [List.pairwise_cons]
   refine ⟨fun z hz=>?_,List.pairwise_cons.mpr h⟩
   rcases List.mem_cons.mp hz with rfl|hz
   ·exact hy
   ·cases q:lt z x with
    | false=>rfl
    | true =>
     have h1:=h.1 z hz
     rcases L.tri z y with a|a|a
     ·exact fT (Eq.trans (Eq.symm h1) a)
     ·subst a;exact fT (Eq.trans (Eq.symm hy) q)
     ·have:=L.tr y z x a q;exact fT (Eq.trans (Eq.symm hy) this)
theorem Ve (L:LO lt):∀ l:List α,(Zl lt l).Pairwise fun a b=>lt b a=false
 | []=>.nil
 | x::r=>YO L x _ (Ve L r)
theorem BH (L:LO lt) {l m:List α} (hp:m.Perm l) (hs:m.Pairwise fun a b=>lt b a=false):m=Zl lt l:=by
 rw [← Ds L hp,Kr hs]
end
noncomputable def iLt (a b:Int):Bool:=decide (a < b)
theorem Pl:LO iLt:=⟨fun a=>by simp [iLt],fun a b c h1 h2=>by simp [iLt] at *;omega,fun a b=>by simp [iLt];omega⟩
theorem O7 (x y:Str):x=y ↔ x.cps.toList=y.cps.toList:=by
 constructor
 ·rintro rfl;rfl
 ·intro h
  obtain ⟨⟨a⟩⟩:=x
  obtain ⟨⟨b⟩⟩:=y
  simp at h
  rw [h]
theorem Q7:LO sLt where
 irr:=fun a=>by simp [sLt,List.lt_irrefl]
 tr:=fun a b c h1 h2=>by
  simp only [sLt,decide_eq_true_eq] at *
  exact List.lt_trans h1 h2
 tri:=fun a b=>by
  simp only [sLt,decide_eq_true_eq]
  by_cases h:a.cps.toList < b.cps.toList
  ·exact .inl h
  ·by_cases h':b.cps.toList < a.cps.toList
   ·exact .inr (.inr h')
   ·refine .inr (.inl ((O7 a b).mpr ?_))
    exact List.le_antisymm (List.not_lt.mp h') (List.not_lt.mp h)
end Mine
namespace Mine
open PySem PySem.Spec PySem.W PyProof.Rows PySem.Calls PySem.MeetsSeq
section
variable {C:Cx}{μ:Mu}{l:List (Str×AV)}
theorem Km {α β:Type} (g:α->AV) (gi:AV->α) (hgi:∀ a,gi (g a)=a) (as:List α) (p:α->Bool) (f:α->β):((as.map g).filter fun d=>p (gi d)).map (fun d=>f (gi d))=(as.filter p).map f:=by
 rw [List.filter_map,List.map_map]
 have e1:(fun d=>p (gi d)) ∘ g=p:=by funext a;simp [hgi]
 have e2:(fun d=>f (gi d)) ∘ g=f:=by funext a;simp [hgi]
 rw [e1,e2]
theorem Ev.compA (O:C.Ok) {α:Type}{as:List α} (g:α->AV) (gi:AV->α) (hgi:∀ a,gi (g a)=a) {elt iter:Expr}{ifs:List Expr}{x:Str}{px pos:Pos}{sc:Scope}{p:α->Bool}{f:α->PyData}
  (K:ZD sc C.env.scope.names l x) (hfs:∀ v,foldedSetIterable iter C.env v=pure v) (hit:Itr C μ l iter (as.map g))
  (ht:∀ L,∀ a∈as,Vr (C.comp sc (Zi C.env sc.names []) L) μ ((x,g a)::l) ifs (p a))
  (he:∀ L,∀ a∈as,p a=true->Ev (C.comp sc (Zi C.env sc.names []) L) μ ((x,g a)::l) elt (.dat (f a)))
  (hz:as.length≤sizeLine):Ev C μ l (.ListComp elt [⟨.Name x px,iter,ifs,0⟩] sc pos) (.dat (.list ((as.filter p).map f))):=by
 rw [← Km g gi hgi as p f]
 refine Ev.comp O K hfs hit (fun L d hd=>?_) (fun L d hd hp=>?_) (by simpa using hz)
 ·(refine xEA (List.mem_map.mp hd) fun a ha Z0=>?_;subst Z0)
  rw [hgi];exact ht L a ha
 ·(refine xEA (List.mem_map.mp hd) fun a ha Z0=>?_;subst Z0)
  rw [hgi] at hp ⊢;exact he L a ha hp
theorem Bd.compA (O:C.Ok) {α:Type}{as:List α} (g:α->AV) (gi:AV->α) (hgi:∀ a,gi (g a)=a) {elt iter:Expr}{ifs:List Expr}{x y:Str}{px py pos spos:Pos}{sc:Scope}{p:α->Bool}{f:α->PyData}{r:List Stmt}{d:AV}
  (K:ZD sc C.env.scope.names l x) (hfs:∀ v,foldedSetIterable iter C.env v=pure v) (hit:Itr C μ l iter (as.map g))
  (ht:∀ L,∀ a∈as,Vr (C.comp sc (Zi C.env sc.names []) L) μ ((x,g a)::l) ifs (p a))
  (he:∀ L,∀ a∈as,p a=true->Ev (C.comp sc (Zi C.env sc.names []) L) μ ((x,g a)::l) elt (.dat (f a)))
  (hz:as.length≤sizeLine) (hk:C.env.kindOf y=some .local)
  (hs:swapsWith (.ListComp elt [⟨.Name x px,iter,ifs,0⟩] sc pos) (some (.Name y py)) spos.line C.env=pure true)
  (hr:Bd C μ ((y,.dat (.list ((as.filter p).map f)))::l) r d):Bd C μ l (.Assign [.Name y py] (.ListComp elt [⟨.Name x px,iter,ifs,0⟩] sc pos) spos::r) d:=by
 rw [← Km g gi hgi as p f] at hr
 refine Bd.comp O K hfs hit (fun L d hd=>?_) (fun L d hd hp=>?_) (by simpa using hz) hk hs hr
 ·(refine xEA (List.mem_map.mp hd) fun a ha Z0=>?_;subst Z0)
  rw [hgi];exact ht L a ha
 ·(refine xEA (List.mem_map.mp hd) fun a ha Z0=>?_;subst Z0)
  rw [hgi] at hp ⊢;exact he L a ha hp
theorem Xs.compA {E:Ent}{Φ:Zq}{r:List Stmt} (H:Hdr C) (O:C.Ok) {l0:List (Str×AV)} (hsub:ZB l0 l) {α:Type}{as:List α} (g:α->AV) (gi:AV->α) (hgi:∀ a,gi (g a)=a) {elt iter:Expr}{ifs:List Expr}{x y:Str}{px py pos spos:Pos}{sc:Scope}{p:α->Bool}{f:α->PyData}
  (K:ZD sc C.env.scope.names l0 x) (hfs:∀ v,foldedSetIterable iter C.env v=pure v) (hit:Itr C μ l0 iter (as.map g))
  (ht:∀ L,∀ a∈as,Vr (C.comp sc (Zi C.env sc.names []) L) μ ((x,g a)::l0) ifs (p a))
  (he:∀ L,∀ a∈as,p a=true->Ev (C.comp sc (Zi C.env sc.names []) L) μ ((x,g a)::l0) elt (.dat (f a)))
  (hz:as.length≤sizeLine) (hk:C.env.kindOf y=some .local)
  (hs:swapsWith (.ListComp elt [⟨.Name x px,iter,ifs,0⟩] sc pos) (some (.Name y py)) spos.line C.env=pure true)
  (hr:Xs E C μ ((y,.dat (.list ((as.filter p).map f)))::l) r Φ):Xs E C μ l (.Assign [.Name y py] (.ListComp elt [⟨.Name x px,iter,ifs,0⟩] sc pos) spos::r) Φ:=by
 rw [← Km g gi hgi as p f] at hr
 refine Xs.comp H O hsub K hfs hit (fun L d hd=>?_) (fun L d hd hp=>?_) (by simpa using hz) hk hs hr
 ·(refine xEA (List.mem_map.mp hd) fun a ha Z0=>?_;subst Z0)
  rw [hgi];exact ht L a ha
 ·(refine xEA (List.mem_map.mp hd) fun a ha Z0=>?_;subst Z0)
  rw [hgi] at hp ⊢;exact he L a ha hp
noncomputable def gN (i:Nat):AV:=.dat (.int (i:Nat))
noncomputable def giN:AV->Nat
 | .dat (.int i)=>i.toNat
 | _=>0
theorem KG (i:Nat):giN (gN i)=i:=rfl
noncomputable def gI (i:Int):AV:=.dat (.int i)
noncomputable def giI:AV->Int
 | .dat (.int i)=>i
 | _=>0
theorem YL (i:Int):giI (gI i)=i:=rfl
noncomputable def gS (x:Str):AV:=.dat (.str x)
noncomputable def giS:AV->Str
 | .dat (.str x)=>x
 | _=>⟨#[]⟩
theorem DT (x:Str):giS (gS x)=x:=rfl
theorem Itr.strs (O:C.Ok) {e:Expr}{xs:List Str} (h:Ev C μ l e (.dat (Zo xs))):Itr C μ l e (xs.map gS):=by
 have:=Itr.of h (Its.list O (xs.map .str))
 rwa [List.map_map] at this
theorem Itr.ints (O:C.Ok) {e:Expr}{xs:List Int} (h:Ev C μ l e (.dat (.list (Zc xs)))):Itr C μ l e (xs.map gI):=by
 have:=Itr.of h (Its.list O (Zc xs))
 rwa [List.map_map] at this
theorem Kv {Fs:List Addr}{h:Heap}{vs:List Value}{out:Array Value}:Pu Fs h (sortedAll h vs out):=.of_keeps fun Z Z=>sortedAll_old
theorem VD {xs:List Str} (h64:xs.length < 64):Fn C μ (.builtin "sorted") [.dat (Zo xs)] (.dat (Zo (Zl sLt xs))):=by
 intro N s vs W R Q X q
 (refine xEA R.inv1 fun v Z0 r=>?_;subst Z0)
 (refine Zf (Rd.listE r) fun a us Z0 na la ra za=>?_;subst Z0)
 refine Z6 ra.strs fun ls Z rfl2 hS hok=>?_
 have hlen:=ra.length
 refine sorted_strs la hS (by rw [hlen,List.length_map];exact h64) fun out ss' h1 h2 h3=>?_
 have hpw:ss'.Pairwise fun a b=>sLt b a=false:=by
  have key:∀ (l:List Str) (p:Str),risingS p l=true->(p::l).Pairwise fun a b=>sLt b a=false:=fun l=>by
   induction l with
   | nil=>intro p _;simp
   | cons x r ih =>
    intro p h
    have h':(!ltCps x.cps.toList p.cps.toList && risingS x r)=true:=h
    rw [Bool.and_eq_true] at h'
    have hx:sLt x p=false:=by
     unfold sLt;refine Eq.trans (Eq.symm (ltCps_eq _ _)) ?_;simpa using h'.1
    have hr:=ih x h'.2
    rw [List.pairwise_cons]
    refine ⟨fun y hy=>?_,hr⟩
    rcases List.mem_cons.mp hy with rfl|hy
    ·exact hx
    ·have h4:=(List.pairwise_cons.mp hr).1 y hy
     cases q:sLt y p with
     | false=>rfl
     | true =>
      rcases Q7.tri x y with z|z|z
      ·have:=Q7.tr x y p z q;exact fT (Eq.trans (Eq.symm hx) this)
      ·subst z;exact fT (Eq.trans (Eq.symm hx) q)
      ·exact fT (Eq.trans (Eq.symm h4) z)
  cases ss' with
  | nil=>exact .nil
  | cons x r=>exact key r x h3
 have e:=BH Q7 h2 hpw
 subst e
 refine xE (sortedAll_at s.heap us out) fun n hn=>?_
 refine q _ _ s.toks Kv ?_
 refine Rd.list hn (fun n=>let ⟨_,e⟩:=W.nhi _ n;absurd (Heap.lt_size e) (Nat.not_lt.mpr (Nat.le_succ _))) rfl rfl ?_ ?_ rfl
 ·exact Rds.ofStrsAre h1 fun x hx=>hok x ((ZT xs).mem_iff.mp hx)
 ·rw [List.length_map,(ZT xs).length_eq,sizeLine_eq];exact oB ‹_› rfl
theorem Rds.intsAre {N:Addr->Prop}{h:Heap}:∀ {vs:List Value}{is:List Int},Rds N h vs (is.map .int)->IntsAre vs is
 | _,[],.nil=>.nil
 | _,i::is,.cons a b=>by obtain ⟨_,rfl⟩:=Rd.invI a;exact .cons _ _ (Rds.intsAre b)
theorem IntsAre.rds {N:Addr->Prop}{h:Heap}:∀ {vs:List Value}{is:List Int},IntsAre vs is->Rds N h vs (is.map .int)
 | _,_,.nil=>.nil
 | _,_,.cons n t r=>.cons (.int _ _) (IntsAre.rds r)
theorem WR {v:Value}{vs:List Value}{s:Shared}{Q:Value->Shared->Prop}{X:Value->Shared->Prop}
  (hcol:∀ (Q':List Value->Shared->Prop) (X':Value->Shared->Prop),(∀ h':Heap,(∀ b o,s.heap.get? b=some o->h'.get? b=some o)->Q' vs { s with heap:=h' })->wpAny (model pg C.w) C.A.in1 (collect v) Q' X' s)
  (hsort:∀ h':Heap,(∀ b o,s.heap.get? b=some o->h'.get? b=some o)->(h'.push (seqObj "list" vs.toArray 0)).get? h'.objs.size=some (seqObj "list" vs.toArray 0) ->
   wpAny (model pg C.w) C.A.in1.in1 (Builtin.«list.sort» ⟨[.ref h'.objs.size],[]⟩) (fun fin s'=>∃ u,fin=.done (.ret u)/\Q (.ref h'.objs.size) s') X { s with heap:=h'.push (seqObj "list" vs.toArray 0) })
  (hz:vs.length≤sizeLine):wpAny (model pg C.w) C.A (call (.builtin "sorted") [v]) Q X s:=by
 refine Calls.call_function_entry kind_sorted plain_sorted entry_sorted (args_sorted1 _) ?_
 unfold Builtin.«sorted»
 refine wpAny_bind (m:=checkCount "sorted" 1 1 _) (wpAny_pure ?_)
 refine wpAny_bind (hcol _ _ fun h' k=>?_)
 refine wpAny_bind (wpAny_newList ?_ (by first|exact hz|(rw [List.size_toArray];exact hz)))
 have hoL:(h'.push (seqObj "list" vs.toArray 0)).get? h'.objs.size=some (seqObj "list" vs.toArray 0):=Heap.get?_push_size _ rfl
 refine wpAny_bind (wpAny_holding (wpAny_call_entry slot_list_sort ⟨_,hoL,rfl⟩ entry_list_sort (wpAny_mono (hsort h' k hoL) (fun fin s' z=>?_) fun Z Z z=>z) (args_list_sort _)))
 obtain ⟨u,rfl,z⟩:=z
 exact ⟨_,rfl,wpAny_pure ⟨_,rfl,z⟩⟩
end
end Mine
namespace Mine
open PySem PySem.Spec PySem.W PyProof.Rows PySem.Calls PySem.MeetsSeq
set_option maxHeartbeats 1000000
section
variable {C:Cx}{μ:Mu}{l:List (Str×AV)}
theorem YM {xs:List Int} (h64:xs.length < 64):Fn C μ (.builtin "sorted") [.dat (.tuple (Zc xs))] (.dat (.list (Zc (Zl iLt xs)))):=by
 intro N s vs W R Q X q
 (refine xEA R.inv1 fun v Z0 r=>?_;subst Z0)
 (refine Zf (Rd.tupleE r) fun a us Z0 na la ra za=>?_;subst Z0)
 refine VE (id la) fun o ho hc n hdt=>?_
 have hlen:=ra.length
 rw [List.length_map] at hlen
 refine WR (C:=C) (vs:=us) (fun Q' X' q'=>?_) (fun h' k hoL=>?_) (by rw [hlen,sizeLine_eq];exact oB ‹_› rfl)
 ·refine wpAny_collect_seq a (.inr rfl) ho hc hdt (fun h' k=>?_) (by rw [List.size_toArray,hlen,sizeLine_eq];exact oB ‹_› rfl)
  simpa using q' h' k
 ·refine list_sort_tree (s:={ s with heap:=h'.push (seqObj "list" us.toArray 0) }) hoL ra.intsAre (by exact oK ‹_› ‹_› rfl) fun out ns' h1 h2 h3=>⟨_,rfl,?_⟩
  have e:=BH Pl h2 (h3.imp fun {a b} hab=>by simp [iLt];assumption)
  subst e
  refine xE (sortedHeap_at (out:=out) hoL) fun e' he=>?_
  have kp:∀ b o,s.heap.get? b=some o->(sortedHeap (h'.push (seqObj "list" us.toArray 0)) h'.objs.size us out).get? b=some o:=fun b o e=>by
   have e1:=k b o e
   have hlt:=Heap.lt_size e1
   rw [sortedHeap_old (Nat.ne_of_lt hlt) (by rw [Heap.size_push];exact Nat.lt_succ_of_lt hlt)]
   exact Heap.get?_push_of_some _ e1
  refine q _ _ s.toks (.of_keeps kp) (Rd.list he (fun n=>?_) rfl rfl (IntsAre.rds h1) ?_ rfl)
  ·refine xE (W.nhi _ n) fun x e=>?_
   have:=k _ _ e
   exact noS (Eq.trans (Eq.symm (get?_size_none _)) this)
  ·rw [List.length_map,(ZT xs).length_eq,sizeLine_eq];exact oB ‹_› rfl
theorem Ku (a b:Value):argsOk "list.__lt__" ⟨[a,b],[]⟩:=by unfold argsOk;kernel_rfl
theorem Ju:isSubtype (.type "list") (.type "list")=pure true:=by refine Eq.trans (isSubtype_type _ _) ?_;kernel_rfl
theorem Mz {w:World}{A:Around}{s:Shared}{a b:Addr}{xs ys:List Value}{k m:Int}{t u:Tok}{Q:Bool->Shared->Prop}{X:Value->Shared->Prop} (hu:A.units < cLine) (hu1:A.in1.units < cLine) (ha:s.heap.IsList a (.int k t::xs).toArray) (hb:s.heap.IsList b (.int m u::ys).toArray) (hne:k≠m) (q:Q (decide (k < m)) s) :
  wpAny (model pg w) A (keyLt' oneType' (.ref a) (.ref b)) Q X s:=by
 refine VE (id ha) fun oa hoa hca na hda=>?_
 refine VE (id hb) fun ob hob hcb nb hdb=>?_
 rw [keyLt'_oneType,oneLt'_eq]
 simp only [if_true]
 refine wpAny_bind (wpAny_cRoomFor hu ?_)
 refine wpAny_bind (wpAny_callSpecialIfBound?_slot ha.typeIs F.slot_list_lt (wpAny_call (codeAny_call_builtin F.slot_list_lt.plain F.entry_list_lt (F.slot_list_lt.check _ _ _ _ _ _ _ _ ha.typeIs (Ku _ _) ?_))))
 show wpAny _ _ (isInstance (.ref b) (.type "list") >>= _) _ _ s
 refine wpAny_bind (wpAny_isInstance hb.typeIs Ju ?_)
 simp only [Bool.not_true,Bool.false_eq_true,if_false]
 rw [if_neg (by decide)]
 refine wpAny_pure (a:=Fin.again (.builtin "list.__eq__.loop" ⟨[.ref a,.ref b,rawInt 0,rawInt 0],[]⟩)) ⟨plainId_quiet MeetsSeq3.plain_eq_loop _,codeAny_builtin MeetsSeq3.entry_eq_loop ?_⟩
 rw [Around.under_plainId MeetsSeq3.plain_eq_loop _]
 unfold Builtin.«list.__eq__.loop»
 show wpAny _ _ (Builtin.List.listItems (.ref a) >>= _) _ _ s
 refine wpAny_bind (listItems_at hoa hda ?_)
 refine wpAny_bind (listItems_at hob hdb ?_)
 show wpAny _ _ (eqBool (.int k t) (.int m u) >>= _) _ _ s
 refine wpAny_bind (wpAny_eqBool_int ?_)
 rw [show (k == m)=false by exact beq_eq_false_iff_ne.mpr hne]
 simp only [Bool.false_eq_true,if_false]
 refine wpAny_bind (listItems_at hoa hda ?_)
 refine wpAny_bind (listItems_at hob hdb ?_)
 show wpAny _ _ (richCompare .Lt (.int k t) (.int m u) >>= _) _ _ s
 refine wpAny_bind (show wpAny _ _ (compareOp .Lt (.int k t) (.int m u)) _ _ s from PyProof.Rows.lt_int ?_)
 refine wpAny_pure ?_
 exact wpAny_truthy_bool q
end
noncomputable def DK {α:Type} (c:Nat->Nat->Option Bool):KasT α->Option α
 | .ret a=>some a
 | .ask i j k=>match c i j with|some b=>DK c (k b)|none=>none
theorem Yn {α:Type}{ask:Nat->Nat->(Bool->Shared->Prop)->Shared->Prop}{c:Nat->Nat->Option Bool}{s:Shared}{Q:α->Shared->Prop} (h:∀ i j b,c i j=some b->∀ C:Bool->Shared->Prop,C b s->ask i j C s) :
  ∀ (t:KasT α) (a:α),DK c t=some a->Q a s->t.kasWp ask Q s
 | .ret a,b,e,q=>by obtain rfl:=Option.some.inj e;exact q
 | .ask i j k,b,e,q=>by
  unfold DK at e
  cases hc:c i j with
  | none=>rw [hc] at e;exact noS e
  | some v =>
   rw [hc] at e
   exact h i j v hc _ (Yn h (k v) b e q)
noncomputable def cOf (ks:List Int) (i j:Nat):Option Bool:=match ks[i]?,ks[j]? with
 | some a,some b=>if a=b then none else some (decide (a < b))
 | _,_=>none
noncomputable def Vo (ks:List Int):Option (List Int) :=
 if ks.length < 2 then some ks
 else match DK (cOf ks) (kas_sort ks.length) with
  | none=>none
  | some p=>if p.toList.all (fun i=>decide (i < ks.length)) then some (p.toList.map fun i=>ks.getD i 0) else none
section
variable {C:Cx}{μ:Mu}
theorem Rds.mapG {N:Addr->Prop}{h:Heap}{vs:List Value}{ks:List Int}{G:Int->PyData} (r:Rds N h vs (ks.map G)):∀ {p:List Nat},(∀ i∈p,i < ks.length)->Rds N h (p.map fun i=>vs.getD i Value.none) ((p.map fun i=>ks.getD i 0).map G)
 | [],_=>.nil
 | i::p,hp=>by
  have hi:=hp i List.mem_cons_self
  have e:(ks.map G)[i]?=some (G (ks.getD i 0)):=by simp [hi]
  refine xEA (r.get e) fun v e1 e2=>?_
  refine .cons ?_ (Rds.mapG r fun j hj=>hp j (List.mem_cons_of_mem _ hj))
  have:vs.getD i Value.none=v:=by simp [e1]
  show Rd N h (vs.getD i Value.none) _
  rw [this];exact e2
set_option tactic.hygienic true in
theorem Uy (O:C.Ok) {ks ks':List Int}{G:Int->PyData} (hG:∀ k,∃ r,G k=.list (.int k::r)) (h64:ks.length < 64) (hk:Vo ks=some ks'):Fn C μ (.builtin "sorted") [.dat (.list (ks.map G))] (.dat (.list (ks'.map G))):=by
 intro N s vs W R Q X q
 (refine xEA R.inv1 fun v Z0 r=>?_;subst Z0)
 (refine Zf (Rd.listE r) fun a us Z0 na la ra za=>?_;subst Z0)
 refine VE (id la) fun o ho hc n hdt=>?_
 have hlen:=ra.length
 rw [List.length_map] at hlen
 refine WR (C:=C) (vs:=us) (fun Q' X' q'=>?_) (fun h' k hoL=>?_) (by rw [hlen,sizeLine_eq];exact oB ‹_› rfl)
 ·clear hG q
  refine wpAny_collect_seq a (.inl rfl) ho hc hdt (fun h' k=>?_) (by rw [List.size_toArray,hlen,sizeLine_eq];exact oB ‹_› rfl)
  exact q' h' k
 have kp:∀ (out:Array Value) b o,s.heap.get? b=some o->(sortedHeap (h'.push (seqObj "list" us.toArray 0)) h'.objs.size us out).get? b=some o:=fun out b o e=>by
  have e1:=k b o e
  have hlt:=Heap.lt_size e1
  rw [sortedHeap_old (Nat.ne_of_lt hlt) (by rw [Heap.size_push];exact Nat.lt_succ_of_lt hlt)]
  exact Heap.get?_push_of_some _ e1
 have nN:¬ N h'.objs.size:=fun n=>by
  refine xE (W.nhi _ n) fun x e=>?_
  have:=k _ _ e
  rw [get?_size_none] at this;exact noS this
 have fin:∀ (out:List Value),(Rds N s.heap out (ks'.map G))->ks'.length≤sizeLine->Q (.ref h'.objs.size) { s with heap:=sortedHeap (h'.push (seqObj "list" us.toArray 0)) h'.objs.size us out.toArray }:=fun out hr hz=>by
  refine xE (sortedHeap_at (out:=out.toArray) hoL) fun e' he=>?_
  have P:Pu C.Fs s.heap (sortedHeap (h'.push (seqObj "list" us.toArray 0)) h'.objs.size us out.toArray):=.of_keeps (kp out.toArray)
  refine q _ _ s.toks P (Rd.list he nN rfl rfl ?_ (by rw [List.length_map];exact hz) rfl)
  exact hr.mono (P.fz W.fsN)
 unfold Vo at hk
 generalize hh:h'.push (seqObj "list" us.toArray 0)=h2 at *
 generalize haa:h'.objs.size=aa at *
 rw [list_sort_plain]
 have ha:aa < h2.objs.size:=Heap.lt_size hoL
 refine wpAny_bind (listItems_at hoL rfl ?_)
 refine wpAny_bind (listUpdate_at hoL rfl ?_ (by rw [List.size_toArray,hlen,sizeLine_eq];exact oB ‹_› rfl) (Nat.zero_le _))
 obtain ⟨e1,ho1⟩:∃ e1,(h2.update aa (Obj.mapSeq fun Z=>(#[]:Array Value))).get? aa=some (seqObj "list" #[] e1):=⟨_,get?_update_seq hoL (fun Z=>#[])⟩
 refine wpAny_bind (seqEpoch_at ho1 rfl ?_)
 refine wpAny_bind (wpAny_newTuple ?_ (by show us.length≤_;rw [hlen,sizeLine_eq];exact oB ‹_› rfl))
 refine wpAny_bind (wpAny_newList ?_ (Nat.zero_le _))
 refine wpAny_holding ?_
 have ho6:(((h2.update aa (Obj.mapSeq fun Z=>(#[]:Array Value))).push (seqObj "tuple" us.toArray 0)).push (seqObj "list" #[] 0)).get? aa=some (seqObj "list" #[] e1) :=
  Heap.get?_push_of_some _ (Heap.get?_push_of_some _ ho1)
 show wpAny (model pg C.w) C.A.in1.in1 _ _ X { s with heap:=((h2.update aa (Obj.mapSeq fun Z=>(#[]:Array Value))).push (seqObj "tuple" us.toArray 0)).push (seqObj "list" #[] 0) }
 dsimp only
 have hsz:us.toArray.size=us.length:=by rfl
 by_cases h2l:ks.length < 2
 ·clear hG q
  rw [if_pos h2l] at hk
  obtain rfl:=Option.some.inj hk
  rw [if_pos (by rw [hsz,hlen];exact h2l),if_pos (by rw [hsz,hlen];exact h2l)]
  refine wpAny_bind (wpAny_pure ?_)
  refine wpAny_bind (wpAny_pure ?_)
  dsimp only
  refine wpAny_bind (seqEpoch_at ho6 rfl ?_)
  have eo:(arrOf (SortSt.mk' general' (us.toArray.zip us.toArray) #[] 7 none)).map (·.2)=us.toArray:=by
   show (us.toArray.zip us.toArray).map (·.2)=_
   apply Array.toList_inj.mp
   simp [List.map_snd_zip]
  refine wpAny_bind (listUpdate_at ho6 rfl ?_ (Nat.zero_le _) (by rw [eo,hsz,hlen,sizeLine_eq];exact oB ‹_› rfl))
  simp only [bne_self_eq_false,Bool.false_eq_true,if_false]
  refine wpAny_pure ⟨_,rfl,?_⟩
  have:=fin us ra (by rw [sizeLine_eq];exact oB ‹_› rfl)
  rw [eo]
  exact this
 ·clear q
  rw [if_neg h2l] at hk
  cases hr:DK (cOf ks) (kas_sort ks.length) with
  | none=>rw [hr] at hk;exact noS hk
  | some p =>
   rw [hr] at hk
   simp only at hk
   by_cases hall:p.toList.all (fun i=>decide (i < ks.length))=true
   ·rw [if_pos hall] at hk
    obtain rfl:=Option.some.inj hk
    have hp:∀ i∈p.toList,i < ks.length:=fun i hi=>by simpa using List.all_eq_true.mp hall i hi
    rw [if_neg (by rw [hsz,hlen];exact h2l),if_neg (by rw [hsz,hlen];exact h2l)]
    generalize hg:(((h2.update aa (Obj.mapSeq fun Z=>(#[]:Array Value))).push (seqObj "tuple" us.toArray 0)).push (seqObj "list" #[] 0))=g at *
    have hold:∀ b o,s.heap.get? b=some o->g.get? b=some o:=fun b o e=>by
     have e1:=k b o e
     have hlt:=Heap.lt_size e1
     rw [haa] at hlt
     rw [← hg]
     refine Heap.get?_push_of_some _ (Heap.get?_push_of_some _ ?_)
     rw [Heap.get?_update_ne _ _ _ _ (Nat.ne_of_lt hlt),← hh]
     exact Heap.get?_push_of_some _ e1
    have items:∀ i k',ks[i]?=some k'->∃ b t xs,us.getD i Value.none=.ref b/\g.IsList b (.int k' t::xs).toArray:=fun i k' e=>by
     refine xE (hG k') fun r' hr'=>?_
     have e2:(ks.map G)[i]?=some (.list (.int k'::r')):=by rw [List.getElem?_map,e,← hr'];rfl
     refine xEA (ra.get e2) fun v e3 e4=>?_
     (refine Zf (Rd.listE e4) fun b ws Z0 Z lb rb Z=>?_;subst Z0)
     cases rb with
     | cons x y =>
      cases x with
      | int _ t=>exact ⟨b,t,_,by simp [e3],lb.at fun o e=>hold b o e⟩
    have typs:∀ v∈us,Looks (model pg C.w) g (typeOf v) (.type "list"):=fun v hv=>by
     obtain ⟨i,hi,e⟩:=List.mem_iff_getElem.mp hv
     have hi':i < ks.length:=by exact oN ‹_› ‹_›
     refine ZE (items i ks[i] (by simp [hi'])) fun b t xs e1 e2=>?_
     have:us.getD i Value.none=v:=by simp [hi,e]
     rw [this] at e1
     subst e1
     (refine QF e2 fun o ho hc Z=>?_;clear e2)
     rw [← hc]
     exact (Looks.ld ho).andThen .now
    refine wpAny_bind (kas_kind (s:={ s with heap:=g }) (by lia) typs (by decide) (by decide) ?_)
    refine wpAny_bind (wpAny_mono (kat_run (vs:=us) (ks:=us) (Q:=fun st' s'=>arrOf st'=p.map (kas_item (us.toArray.zip us.toArray))/\failedOf st'=none/\s'={ s with heap:=g }/\p.size=us.length) (G:=fun p' s'=>p'=p/\s'={ s with heap:=g }) rfl (by lia) (by lia)
     (fun p' st' s' a1 a2 a3 a4=>⟨by rw [a2,a4.1],a3,a4.2,by rw [← a4.1];exact a1⟩) (by
      rw [hlen]
      refine Yn (c:=cOf ks) (fun i j b hb C' hC=>?_) _ p hr ⟨rfl,rfl⟩
      unfold cOf at hb
      split at hb
      ·clear hG
       rename_i x y hx hy
       split at hb
       ·exact noS hb
       ·rename_i hne
        obtain rfl:=Option.some.inj hb
        refine ZE (items i x hx) fun b1 t1 xs1 e1 l1=>?_
        refine ZE (items j y hy) fun b2 t2 xs2 e2 l2=>?_
        unfold kas_ask
        rw [e1,e2]
        have hu:=Up O
        exact Mz (s:={ s with heap:=g }) (by show C.A.units+1+1 < _;rw [UK];lia) (by show C.A.units+1+1+1 < _;rw [UK];lia) l1 l2 hne hC
      ·clear hG
       exact noS hb)) ?_ fun Z Z e=>e)
    (intro Z0;rcases Z0 with ⟨⟨⟩,st'⟩;intro s' Z1;refine VA Z1 fun har hf Z2 hps=>?_;clear Z1;subst Z2)
    have hout:=kat_snds (ks:=us) (vs:=us) rfl har
    have hsz2:(List.toArray (p.toList.map fun i=>us.getD i Value.none)).size≤1000:=by
     rw [List.size_toArray,List.length_map,Array.length_toList,hps];lia
    rw [hout]
    refine wpAny_bind (seqEpoch_at ho6 rfl ?_)
    refine wpAny_bind (listUpdate_at ho6 rfl ?_ (Nat.zero_le _) (by rw [sizeLine_eq];exact oA ‹_› rfl))
    rw [hf]
    simp only [bne_self_eq_false,Bool.false_eq_true,if_false]
    refine wpAny_pure ⟨_,rfl,?_⟩
    have:=fin (p.toList.map fun i=>us.getD i Value.none) (ra.mapG hp) (by
     rw [List.size_toArray,List.length_map] at hsz2
     rw [List.length_map,sizeLine_eq];exact oA ‹_› rfl)
    have eg:sortedHeap h2 aa us (List.toArray (p.toList.map fun i=>us.getD i Value.none))=g.update aa (Obj.mapSeq fun Z=>List.toArray (p.toList.map fun i=>us.getD i Value.none)):=by rw [← hg];rfl
    rw [eg] at this
    exact this
   ·clear hG
    rw [if_neg hall] at hk;exact noS hk
end
section
variable {C:Cx}{μ:Mu}{l:List (Str×AV)}
theorem Kb {v:Expr}{p pos:Pos}{xs:List PyData} (hv:Ev C μ l v (.dat (.list xs))) (N:Addr->Prop) (s:Shared) (S:St C N μ l s.heap) (Q:Value->Shared->Prop) (X:Value->Shared->Prop)
  (q:∀ a vs h' tk,Pu C.Fs s.heap h'->s.heap.get? a=none->h'.get? a=some { cls:=.type "list",data:=.seq vs.toArray }->Rds N h' vs xs->Q (.ref a) { s with heap:=h',toks:=tk }) :
  wpAny (model pg C.w) C.A (eval (.Subscript v (.Slice none none none p) pos) C.env) Q X s:=by
 refine PyProof.Rows.Subscript_ (hv N s S _ _ fun vv g1 t1 P1 R1=>?_)
 have S1:=S.pu P1
 refine wpAny_Slice ?_
 rw [evalPart_none]
 refine wpAny_pure (wpAny_pure (wpAny_pure ?_))
 (refine Zf (Rd.listE R1) fun aa vs Z0 na la ra za=>?_;subst Z0)
 have la':(g1.push { cls:=.type "slice",data:=.fields #[.none,.none,.none] }).IsList aa vs.toArray:=la.at fun o e=>Heap.get?_push_of_some _ e
 refine tail_any (ops:=[.ref g1.objs.size,.ref aa]) la'.typeIs slot_list_getitem.lookup (wpAny_getItem_list_slice la' (Heap.IsSliceOf.new _ _ _ _) .none .none .none (by decide) ?_ (by rw [List.size_toArray,ra.length];exact za)) rfl
 generalize hg2:g1.push { cls:=.type "slice",data:=.fields #[.none,.none,.none] }=g2
 have P2:Pu C.Fs g1 g2:=by rw [← hg2];exact .push _ _ _
 have P3:Pu C.Fs g2 (g2.push { cls:=.type "list",data:=.seq (slicePick vs.toArray none none none) }):=.push _ _ _
 rw [slicePick_all] at P3 ⊢
 refine q g2.objs.size vs _ _ (P1.trans (P2.trans P3)) ?_ (Heap.get?_push_size _ rfl) (ra.mono ((P2.trans P3).fz S1.wd.fsN))
 cases y:s.heap.get? g2.objs.size with
 | none=>rfl
 | some o=>refine xE ((P1.trans P2).fr _ _ y) fun Z z=>?_;exact noS (Eq.trans (Eq.symm (get?_size_none _)) z)
theorem Rds.strA {N M:Addr->Prop}{h h':Heap}:∀ {vs:List Value}{xs:List Str},Rds N h vs (xs.map .str)->Zr M h' vs (strA xs)
 | _,[],.nil=>.nil
 | _,x::xs,.cons a b=>by
  cases a with
  | str t k=>exact .cons (Rd.str t k) (Rds.strA b)
theorem Pw {w:World}{h₁:Heap} (K:K1 w h₁) (O:C.Ok) (hw:C.w=w) (hh:C.h₁=h₁) {k:Nat} (hk:k+1≤C.k) {x:Str}{p pos p1 p2 p3 p4:Pos}{v u:Expr}{es as:List Str} (hf:Ev C μ l (.Name x p) (.cal (.ref 189))) (hv:Ev C μ l v (.dat (Zo es))) (hu:Ev C μ l u (.dat (Zo as))) (hz:es.length≤1000) (hz':as.length≤1000)
  (hz1:(Qf es.reverse as []).1.length≤sizeLine) (hz2:(Qf es.reverse as []).2.length≤sizeLine) :
  Ev C μ l (.Call (.Name x p) [.Subscript v (.Slice Option.none Option.none Option.none p1) p2,.Subscript u (.Slice Option.none Option.none Option.none p3) p4] [] pos) (.dat (.tuple [Zo (Qf es.reverse as []).1,Zo (Qf es.reverse as []).2])):=by
 intro N s S Q X q
 subst hw hh
 refine Call_Name rfl (hf N s S _ _ fun fv h0 t0 P0 R0=>?_)
 subst R0
 have S0:=S.pu P0
 refine Qq (f:=.ref 189) ⟨_,_,K.kx 189 _ rfl,rfl⟩ rfl ?_
 show wpAny _ _ (spliced ((false,eval (.Subscript v (.Slice Option.none Option.none Option.none p1) p2) C.env)::(false,eval (.Subscript u (.Slice Option.none Option.none Option.none p3) p4) C.env)::[])) _ _ _
 refine spliced_cons (Kb hv N { s with heap:=h0,toks:=t0 } S0 _ _ fun a1 vs1 h1 t1 P1 f1 e1 r1=>?_)
 refine spliced_cons (Kb hu N { s with heap:=h1,toks:=t1 } (S0.pu P1) _ _ fun a2 vs2 h2 t2 P2 f2 e2 r2=>?_)
 refine spliced_nil ⟨(((S0.pu P1).pu P2).wd).stays,?_⟩
 have P:Pu C.Fs s.heap h2:=P0.trans (P1.trans P2)
 have f1s:s.heap.get? a1=none:=by
  cases y:s.heap.get? a1 with
  | none=>rfl
  | some o=>refine xE (P0.fr _ _ y) fun Z z=>?_;dsimp only at f1;exact noS (Eq.trans (Eq.symm f1) z)
 have f2s:s.heap.get? a2=none:=by
  cases y:s.heap.get? a2 with
  | none=>rfl
  | some o=>refine xE ((P0.trans P1).fr _ _ y) fun Z z=>?_;dsimp only at f2;exact noS (Eq.trans (Eq.symm f2) z)
 have ne:a1≠a2:=fun z=>by dsimp only at f2;rw [← z,e1] at f2;exact sNo f2
 have fA:∀ x,s.heap.get? x=none->x∉C.Fs:=fun x hx mm=>by refine ZE (S.wd.fr x mm) fun y Z Z e Z=>?_;exact noS (Eq.trans (Eq.symm hx) e)
 have e1':h2.get? a1=some { cls:=.type "list",data:=.seq vs1.toArray }:=P2.keep a1 _ (fA a1 f1s) e1
 have newF:∀ a∈[a1,a2],s.heap.get? a=none:=fun a ha=>by
  rcases List.mem_cons.mp ha with rfl|ha
  ·exact f1s
  ·rw [List.mem_singleton.mp ha];exact f2s
 have W:=S.wd.grow P newF fun a ha=>by
  rcases List.mem_cons.mp ha with rfl|ha
  ·exact ⟨_,e1'⟩
  ·rw [List.mem_singleton.mp ha];exact ⟨_,e2⟩
 have W2:Wd C.w C.h₁ C.Fs (Un N [a1,a2]) (upd (upd μ a1 (.list (strA es))) a2 (.list (strA as))) h2:=by
  refine ⟨W.stays,W.nlo,W.nhi,W.fsN,W.fr,fun c mc e=>?_,fun c mc e=>?_⟩
  ·by_cases z2:c=a2
   ·subst z2;rw [Zb] at e;obtain rfl:=Option.some.inj e
    exact ⟨.inr (by exact List.mem_cons_of_mem _ List.mem_cons_self),fA c f2s,_,e2,vs2,0,rfl,r2.strA⟩
   ·replace e:=Eq.trans (Eq.symm (Za z2)) e
    by_cases z1:c=a1
    ·subst z1;rw [Zb] at e;obtain rfl:=Option.some.inj e
     exact ⟨.inr (by exact List.mem_cons_self),fA c f1s,_,e1',vs1,0,rfl,r1.strA⟩
    ·replace e:=Eq.trans (Eq.symm (Za z1)) e;exact W.mu c mc e
  ·by_cases z2:c=a2
   ·subst z2;rw [Zb] at e;cases e
   ·replace e:=Eq.trans (Eq.symm (Za z2)) e
    by_cases z1:c=a1
    ·subst z1;rw [Zb] at e;cases e
    ·replace e:=Eq.trans (Eq.symm (Za z1)) e;exact W.mm c mc e
 have U:=O2 (k:=k) K (μ:=upd (upd μ a1 (.list (strA es))) a2 (.list (strA as))) (a:=a1) (b:=a2) (es:=es) (as:=as) (by exact Eq.trans (Za ne) (Eq.trans (Zb _ _ _) rfl)) (Zb _ _ _) ne hz hz'
 refine wpAny_call (U C.A C.envs (Un N [a1,a2]) { s with heap:=h2,toks:=t2 } [.ref a1,.ref a2] (O.aok hk) W2 (.cons rfl (.cons rfl .nil)) _ (fun v d N' μ' h' tk hp mt gr W' r=>?_) fun Z Z Z Z Z Z Z Z x=>x.elim)
 (refine xEE hp fun m t Zr0=>?_;refine ZK Zr0 fun Z0 m0 t0' ht hm hb Z Z=>?_;clear Zr0;clear hp;subst Z0)
 subst r
 have al2:∀ x,N x->∃ o,h2.get? x=some o:=fun x n=>W2.nhi x (.inl n)
 have nn:∀ x,upd (upd μ a1 (.list (strA es))) a2 (.list (strA as)) x=none->μ' x≠none->¬ N x:=fun x e1 e2 n=>by
  refine xE (al2 x n) fun o e=>?_
  rcases gr.mu x e2 with y|y
  ·exact y e1
  ·dsimp only at y;exact noS (Eq.trans (Eq.symm y) e)
 have nD:∀ x o,s.heap.get? x=some o->¬ (x=a1∨x=a2):=fun x o e z=>z.elim (fun y=>by rw [y,f1s] at e;exact noS e) fun y=>by rw [y,f2s] at e;exact noS e
 have Pf:Pu C.Fs s.heap h':=⟨fun a o n e=>mt.keep a o n (nD a o e) (P.keep a o n e),fun a o e=>by
  refine xE (P.fr a o e) fun sl y=>?_
  refine xE (mt.fr a _ (nD a o e) y) fun sl' z=>?_
  exact ⟨sl',z⟩⟩
 refine q _ h' tk Pf ?_
 (refine Qh (W'.mu t _ ht) fun Z Z o ho us n Z0 rs=>?_;subst Z0)
 (refine Zn rs.inv2 fun v1 v2 Z0 r1' r2'=>?_;subst Z0)
 subst r1'
 subst r2'
 have up:∀ x,N x->N' x:=fun x n=>gr.up x (.inl n)
 refine Rd.tuple ho (nn t t0' (by rw [ht];exact Option.some_ne_none _)) rfl rfl ?_ (by show 2≤sizeLine;rw [sizeLine_eq];decide)
 refine .cons (Um W' up (nn m m0 (by rw [hm];exact Option.some_ne_none _)) hm hz1) (.cons (Um W' up (fun n=>?_) hb hz2) .nil)
 refine xE (S.wd.nhi a2 n) fun o e=>?_;exact noS (Eq.trans (Eq.symm f2s) e)
end
section
variable {w:World}{A:Around}{R:Result->Shared->Prop}{s:Shared}{env:Env}
noncomputable abbrev lc2 (elt t1 i1 t2 i2:Expr) (sc:Scope) (pos:Pos):Expr:=.ListComp elt [⟨t1,i1,[],0⟩,⟨t2,i2,[],0⟩] sc pos
theorem GM (A:Around):A.mark none=A:=by cases A;rfl
theorem BY {elt i1:Expr}{x y:Str}{px py p2:Pos}{i2:Expr}{sc:Scope}{pos:Pos}{it acc:Value} (I:Nat->Shared->Prop) (hfs:∀ v,foldedSetIterable i2 env v=pure v)
  (turn:∀ n s,I n s->wpAny (model pg w) A (pyNext it) (fun r s₁=>match r with
   | none=>R (.ok .next) s₁
   | some v=>wpAny (model pg w) A (assign (.Name x px) env v) (fun Z s₂=>wpAny (model pg w) A (eval i2 env) (fun xv s₃=>wpAny (model pg w) A (pyIter xv) (fun it' s₄ =>
     codeAny (model pg w) A (.compStart (lc2 elt (.Name x px) i1 (.Name y py) i2 sc pos) 1 it' acc env) (fun r s₅=>∃ f,r=.ok f/\∃ m,m < n/\I m s₅) s₄) (fun Z Z=>False) s₃) (fun Z Z=>False) s₂) (fun Z Z=>False) s₁) (fun Z Z=>False) s)
  (n:Nat) (h:I n s):codeAny (model pg w) A (.compLoop (lc2 elt (.Name x px) i1 (.Name y py) i2 sc pos) 0 it acc env) R s:=by
 refine codeAny_loop rfl I (fun n s hI=>?_) n h
 show wpAny _ A ((compTurn (lc2 elt (.Name x px) i1 (.Name y py) i2 sc pos) 0 it acc env).onRaise (fun x=>do noteFrame x env;theTreesLotGoes x)) _ _ s
 refine wpAny_noted ?_
 have e:compTurn (lc2 elt (.Name x px) i1 (.Name y py) i2 sc pos) 0 it acc env=(do
   standAt i1.pos
   match ← pyNext it with
   | none=>pure (.done .next)
   | some v =>
    letOwnedTupleGo (.Name x px) it v
    assign (.Name x px) env v
    let xv ← eval i2 env
    standAt i2.pos
    let xv ← foldedSetIterable i2 env xv
    let _ ← runOwn (.compStart (lc2 elt (.Name x px) i1 (.Name y py) i2 sc pos) 1 (← holding [xv] (pyIter xv)) acc env) env
    again (.compLoop (lc2 elt (.Name x px) i1 (.Name y py) i2 sc pos) 0 it acc env)):=by rfl
 rw [e]
 refine wpAny_bind (wpAny_standAt (wpAny_bind (wpAny_mono (turn n s hI) (fun r s₁ h₁=>?_) fun Z Z h'=>h'.elim)))
 cases r with
 | none=>exact wpAny_pure h₁
 | some v =>
  refine wpAny_bind (wpAny_of_eq (a:=()) rfl ?_)
  refine wpAny_bind (wpAny_mono h₁ (fun Z s₂ h₂=>?_) fun Z Z h'=>h'.elim)
  refine wpAny_bind (wpAny_mono h₂ (fun xv s₃ h₃=>?_) fun Z Z h'=>h'.elim)
  refine wpAny_bind (wpAny_standAt (wpAny_bind (wpAny_of_eq (hfs xv) ?_)))
  refine wpAny_bind (wpAny_holding (wpAny_mono h₃ (fun it' s₄ h₄=>?_) fun Z Z h'=>h'.elim))
  refine wpAny_bind (wpAny_runOwn ?_)
  rw [GM]
  refine codeAny_mono h₄ fun r s₅ z=>?_
  obtain ⟨f,rfl,z⟩:=z
  exact wpAny_pure ⟨rfl,z⟩
theorem Bt {elt t1 i1 t2 i2:Expr}{sc:Scope}{pos:Pos}{it acc:Value}
  (h0:codeAny (model pg w) A (.compLoop (lc2 elt t1 i1 t2 i2 sc pos) 1 it acc env) R s)
  (h:wpAny (model pg w) A (pyIter it) (fun it' s'=>codeAny (model pg w) A (.compLoop (lc2 elt t1 i1 t2 i2 sc pos) 1 it' acc env) R s') (fun Z Z=>False) s) :
  codeAny (model pg w) A (.compStart (lc2 elt t1 i1 t2 i2 sc pos) 1 it acc env) R s:=by
 refine codeAny_of_tree ?_
 show wpAny _ _ ((compStart (lc2 elt t1 i1 t2 i2 sc pos) 1 it acc env).onRaise (fun x=>do noteFrame x env;standAt theWindowsPlace)) _ _ s
 refine wpAny_notedAt ?_
 unfold compStart
 show wpAny _ _ (ask >>= _) _ _ s
 refine wpAny_bind (wpAny_askSetting (wpAny_ite ?_))
 split
 ·exact wpAny_pure ⟨rfl,h0⟩
 ·refine wpAny_bind (wpAny_rule ?_)
  show wpAny _ _ (standAt _ >>= _) _ _ s
  refine wpAny_bind (wpAny_standAt ?_)
  exact wpAny_bind (wpAny_mono h (fun it' s' z=>wpAny_pure ⟨rfl,z⟩) fun Z Z z=>z.elim)
theorem Bh {elt i1 i2:Expr}{x y:Str}{px py:Pos}{sc:Scope}{pos:Pos}{it acc:Value} (I:Nat->Shared->Prop)
  (turn:∀ n s,I n s->wpAny (model pg w) A (pyNext it) (fun r s₁=>match r with
   | none=>R (.ok .next) s₁
   | some v=>wpAny (model pg w) A (assign (.Name y py) env v) (fun Z s₂=>wpAny (model pg w) A (eval elt env) (fun xv s₃ =>
     wpAny (model pg w) A (call (.builtin "list.append") [acc,xv]) (fun Z s₄=>∃ m,m < n/\I m s₄) (fun Z Z=>False) s₃) (fun Z Z=>False) s₂) (fun Z Z=>False) s₁) (fun Z Z=>False) s)
  (n:Nat) (h:I n s):codeAny (model pg w) A (.compLoop (lc2 elt (.Name x px) i1 (.Name y py) i2 sc pos) 1 it acc env) R s:=by
 refine codeAny_loop rfl I (fun n s hI=>?_) n h
 show wpAny _ A ((compTurn (lc2 elt (.Name x px) i1 (.Name y py) i2 sc pos) 1 it acc env).onRaise (fun x=>do noteFrame x env;theTreesLotGoes x)) _ _ s
 refine wpAny_noted ?_
 have e:compTurn (lc2 elt (.Name x px) i1 (.Name y py) i2 sc pos) 1 it acc env=(do
   standAt i2.pos
   match ← pyNext it with
   | none=>pure (.done .next)
   | some v =>
    letOwnedTupleGo (.Name y py) it v
    assign (.Name y py) env v
    (do let _ ← call (.builtin "list.append") [acc,← eval elt env])
    again (.compLoop (lc2 elt (.Name x px) i1 (.Name y py) i2 sc pos) 1 it acc env)):=by rfl
 rw [e]
 refine wpAny_bind (wpAny_standAt (wpAny_bind (wpAny_mono (turn n s hI) (fun r s₁ h₁=>?_) fun Z Z h'=>h'.elim)))
 cases r with
 | none=>exact wpAny_pure h₁
 | some v =>
  refine wpAny_bind (wpAny_of_eq (a:=()) rfl ?_)
  refine wpAny_bind (wpAny_mono h₁ (fun Z s₂ h₂=>?_) fun Z Z h'=>h'.elim)
  refine wpAny_bind (wpAny_bind (wpAny_mono h₂ (fun xv s₃ h₃=>?_) fun Z Z h'=>h'.elim))
  refine wpAny_bind (wpAny_mono h₃ (fun Z s₄ h₄=>?_) fun Z Z h'=>h'.elim)
  exact wpAny_pure (wpAny_pure ⟨rfl,h₄⟩)
end
section
variable {C:Cx}{μ:Mu}{l:List (Str×AV)}
noncomputable abbrev Tru:Addr->Prop:=fun Z=>True
theorem Tru.fz (h h':Heap):Fz Tru Tru h h':=⟨fun Z Z n Z=>(n trivial).elim,fun Z Z=>.inl trivial⟩
mutual
theorem Rd.strAny {N:Addr->Prop}{h:Heap}{v:Value}{x:Str} (r:Rd N h v (.str x)):∀ (N':Addr->Prop) (h':Heap),Rd N' h' v (.str x):=by
 cases r with
 | str t k=>exact fun Z Z=>.str t k
end
theorem Rds.strAny {N:Addr->Prop}{h:Heap}:∀ {vs:List Value}{xs:List Str},Rds N h vs (xs.map .str)->∀ (N':Addr->Prop) (h':Heap),Rds N' h' vs (xs.map .str)
 | vs,[],r,N',h'=>by cases r;exact .nil
 | vs,x::xs,r,N',h'=>by
  cases r with
  | cons a b=>exact .cons (a.strAny N' h') (Rds.strAny b N' h')
theorem Oy (O:C.Ok) {α:Type}{as:List α} (g:α->AV) (ys:α->List Str) {i1 i2:Expr}{x y:Str}{px py pos pe:Pos}{sc:Scope}
  (K:ZD sc C.env.scope.names l x) (hy:sc.names.lookup y=some .local) (hyd:(y == ("__debug__":Str))=false) (hfs:∀ v,foldedSetIterable i1 C.env v=pure v)
  (hfs2:∀ (env:Env) v,foldedSetIterable i2 env v=pure v) (hit:Itr C μ l i1 (as.map g))
  (he:∀ L,∀ a∈as,Ev (C.comp sc (Zi C.env sc.names []) L) μ ((x,g a)::l) i2 (.dat (Zo (ys a))))
  (hz:(as.flatMap ys).length≤sizeLine):Ev C μ l (lc2 (.Name y pe) (.Name x px) i1 (.Name y py) i2 sc pos) (.dat (Zo (as.flatMap ys))):=by
 intro N s S Q E q
 have hcl:closureFor sc C.env=pure (Zi C.env sc.names []):=Qb fun n hn=>by
  refine xA (K.free n hn) fun k hl=>?_
  refine xE (Option.isSome_iff_exists.mp hl) fun d hd=>?_
  refine QE (S.fm.cl n d hd k) fun c v a Z=>?_
  rw [a];rfl
 refine wpAny_comprehension_free (g:=⟨.Name x px,i1,[],0⟩) (gs:=[⟨.Name y py,i2,[],0⟩]) rfl hfs hcl K.kind K.locs (use:=Option.none) ?_
 refine hit N s S _ _ fun it h1 t1 P1 R1=>?_
 refine wpAny_newObj_type ?_
 generalize hH2:h1.push { cls:=.type "list",dict:=none,data:=.seq ([]:List Value).toArray }=H2
 show wpAny (model pg C.w) C.A _ _ E { s with heap:=H2,toks:=t1 }
 refine wpAny_newFunctionEnv (s:={ s with heap:=H2,toks:=t1 }) K.cell (by intro y hy;exact absurd hy List.not_mem_nil) (fun h3 hns3 hsb3=>?_) K.kind
 dsimp only at hns3 hsb3 ⊢
 have hD1:h1.get? h1.objs.size=none:=get?_size_none _
 have hD2:H2.get? h1.objs.size=some { cls:=.type "list",dict:=none,data:=.seq ([]:List Value).toArray }:=by rw [← hH2];exact Heap.get?_push_size _ rfl
 have hL2:H2.get? H2.objs.size=none:=get?_size_none _
 have hDL:h1.objs.size≠H2.objs.size:=by rw [← hH2,Heap.size_push];exact Nat.ne_of_lt (Nat.lt_succ_self _)
 have up12:∀ b o,h1.get? b=some o->H2.get? b=some o:=fun b o e=>by rw [← hH2];exact Heap.get?_push_of_some _ e
 have up23:∀ b o,H2.get? b=some o->h3.get? b=some o:=fun b o e=>hsb3.extBut b o (fun q=>by rw [q,hL2] at e;exact noS e) (Heap.get?_push_of_some _ e)
 generalize h1.objs.size=D at *
 generalize H2.objs.size=L at *
 have hL1:h1.get? L=none:=by
  cases q:h1.get? L with
  | none=>rfl
  | some o=>rw [up12 _ _ q] at hL2;exact sNo hL2
 have kY:(compEnvC sc (Zi C.env sc.names []) L C.env).kindOf y=some .local:=lookup_relabel_local hy
 have kX:(compEnvC sc (Zi C.env sc.names []) L C.env).kindOf x=some .local:=lookup_relabel_local K.tgt
 have P3:Pu C.Fs s.heap h3:=P1.trans (.of_keeps fun b o e=>up23 b o (up12 b o e))
 obtain ⟨I,N',ps,T,rfl,w,T0,NN,self⟩:=cw_of (x:=x) (px:=px) (env:=compEnvC sc (Zi C.env sc.names []) L C.env) (cs:=[L]) S R1 P1 (D:=D) (L:=L) (h3:=h3) (fun a m=>by
   rcases List.mem_cons.mp m with z|m
   ·rw [z];exact hD1
   ·rw [List.mem_singleton.mp m];exact hL1) (fun m=>hDL (List.mem_singleton.mp m)) List.mem_cons_self (fun b o e=>up23 b o (up12 b o e)) ⟨_,up23 _ _ hD2⟩ (fun h=>∃ m,h.Ns L m) (fun Z Z Z Z n=>n) (fun Z v=>v) (fun g n b mb=>by
   (refine xE n fun m Zr0=>?_;refine ZE Zr0 fun o Z Z e Z=>?_;clear Zr0;clear n)
   rw [List.mem_singleton.mp mb];exact ⟨o,e⟩) ⟨_,hns3⟩ (fun v d s' Q X n q=>by
   refine xE n fun m n=>?_
   refine wpAny_assign_Name (wpAny_storeName_local kX n (fun g2 hn2 hs2=>?_) (by simp [compEnvC,relabel,K.kind]))
   have hs2:Heap.SameBut L s'.heap g2:=hs2
   exact q g2 _ ⟨_,hn2⟩ (fun b o nb e=>hs2.extBut b o (fun z=>nb (z▸List.mem_cons_self)) e) fun N' P fz W r=>S.comp O K P fz W hn2 (if_pos rfl) r)
 have fD:=w.d0
 have fL:=w.ps0 L w.lps
 have FsN:∀ b∈C.Fs,N' b:=fun b m=>NN b (S.wd.fsN b m)
 have nF:∀ b,s.heap.get? b=none->b∉C.Fs:=fun b e m'=>by refine ZE (S.wd.fr b m') fun o Z Z q Z=>?_;rw [e] at q;exact noS q
 have hle:∀ (i j:Nat) (z:α),as[i]?=some z->((as.take i).flatMap ys++(ys z).take j).length≤sizeLine:=fun i j z hz'=>by
  have e:as=as.take i++z::as.drop (i+1):=by
   have hi:i < as.length:=(List.getElem?_eq_some_iff.mp hz').1
   have:=List.take_append_drop i as
   rw [List.drop_eq_getElem_cons hi,(List.getElem?_eq_some_iff.mp hz').2] at this;exact this.symm
  have e2:(as.flatMap ys).length=((as.take i).flatMap ys).length+((ys z).length+((as.drop (i+1)).flatMap ys).length):=by
   conv=>lhs;rw [e]
   simp [List.flatMap_append]
  rw [e2] at hz
  rw [List.length_append]
  exact Nat.le_trans (Nat.add_le_add_left (Nat.le_trans (List.length_take_le' j (ys z)) (Nat.le_add_right _ _)) _) hz
 have loop:codeAny (model pg C.w) C.A (.compLoop (lc2 (.Name y pe) (.Name x px) i1 (.Name y py) i2 sc pos) 0 (.ref I) (.ref D) (compEnvC sc (Zi C.env sc.names []) L C.env)) (fun r s'=>compPost (model pg C.w) C.A E Option.none Q (.ref D) L r s') { s with heap:=h3,toks:=t1+([]:List (Str×Value)).length }:=by
  refine BY (p2:=pos) (env:=compEnvC sc (Zi C.env sc.names []) L C.env)
   (fun k s'=>∃ h tk i vs,s'={ s with heap:=h,toks:=tk }/\k=as.length+1 - i/\i≤as.length/\T i h/\Pu C.Fs s.heap h/\h.PlainList D vs.toArray/\Rds Tru h vs (((as.take i).flatMap ys).map .str)) (hfs2 _) ?_ (as.length+1)
   ⟨h3,_,0,[],rfl,rfl,Nat.zero_le _,T0,P3,⟨_,up23 _ _ hD2⟩,.nil⟩
  (intro k s' Z0;refine xEE Z0 fun h tk Zr0=>?_;refine Q1 Zr0 fun i vs Z1 Z2 hi hT P hD hR=>?_;clear Zr0;clear Z0;subst Z1;subst Z2)
  by_cases hlt:i < as.length
  ·obtain ⟨a,hx⟩:∃ a,as[i]?=some a:=⟨_,List.getElem?_eq_getElem hlt⟩
   refine w.item i (g a) { s with heap:=h,toks:=tk } _ _ _ (by rw [List.getElem?_map,hx];rfl) hT P (let ⟨_,e⟩:=hD;⟨_,e⟩) (fun g2 tk2 St2 T2 k2=>?_) fun Z Z z=>z
   have hD2':=hD.at fun o e=>k2 D o w.psD e
   have P2':Pu C.Fs s.heap g2:=P.ext k2 w.ps0
   refine he L a (List.mem_of_getElem? hx) N' _ St2 _ _ fun u g3 tk3 P3' R3=>?_
   (refine Zf (Rd.listE R3) fun b us Z0 nb lb rb zb=>?_;subst Z0)
   refine xEA (id lb) fun ob hbo Z=>?_
   refine wpAny_pyIter_list lb ?_
   have hne:b≠g3.objs.size:=Nat.ne_of_lt (Heap.lt_size hbo)
   generalize hg4:g3.push _=g4
   have up34:∀ c o,g3.get? c=some o->g4.get? c=some o:=fun c o e=>by rw [← hg4];exact Heap.get?_push_of_some _ e
   have hI2:g4.IsListIter g3.objs.size b 0:=by rw [← hg4];exact ⟨_,Heap.get?_push_size _ rfl,rfl,rfl⟩
   have nI2:g3.get? g3.objs.size=none:=get?_size_none _
   generalize g3.objs.size=J at *
   have g2J:∀ c o,g2.get? c=some o->c≠J:=fun c o e q=>by refine xE (P3'.fr c o e) fun Z e'=>?_;rw [q,nI2] at e';exact noS e'
   have bD:b≠D:=fun q=>nb (q▸w.dN)
   have bL:b≠L:=fun q=>nb (q▸w.psN L w.lps)
   have DJ:D≠J:=by (refine xE hD2' fun n e=>?_;clear hD2');exact g2J D _ e
   refine xE (w.ns _ _ T2) fun m2 hn2=>?_
   have LJ:L≠J:=by refine ZE (id hn2) fun o Z Z e Z=>?_;exact g2J L o e
   have sJ:=(P2'.trans P3').none nI2
   have Ww:=Walks.list (prog:=pg) (w:=C.w) (A:=C.A) O.handled J b hne us.toArray
   have hsz:us.toArray.size=(ys a).length:=by rw [List.size_toArray,rb.length,List.length_map]
   have lb4:g4.IsList b us.toArray:=lb.at fun o e=>up34 b o e
   have inner:codeAny (model pg C.w) C.A (.compLoop (lc2 (.Name y pe) (.Name x px) i1 (.Name y py) i2 sc pos) 1 (.ref J) (.ref D) (compEnvC sc (Zi C.env sc.names []) L C.env))
     (fun r s'=>∃ f,r=.ok f/\∃ m,m < as.length+1 - i/\∃ h tk i vs,s'={ s with heap:=h,toks:=tk }/\m=as.length+1 - i/\i≤as.length/\T i h/\Pu C.Fs s.heap h/\h.PlainList D vs.toArray/\Rds Tru h vs (((as.take i).flatMap ys).map .str)) { s with heap:=g4,toks:=tk3 }:=by
    refine Bh (env:=compEnvC sc (Zi C.env sc.names []) L C.env)
     (fun k s'=>∃ h tk j vs m,s'={ s with heap:=h,toks:=tk }/\k=(ys a).length+1 - j/\j≤(ys a).length/\h.IsListIter J b j/\(∀ c o,c≠D->c≠L->c≠J->g4.get? c=some o->h.get? c=some o)/\h.PlainList D vs.toArray/\Rds Tru h vs (((as.take i).flatMap ys++(ys a).take j).map .str)/\h.Ns L m) ?_ ((ys a).length+1)
     ⟨g4,_,0,vs,_,rfl,rfl,Nat.zero_le _,hI2,fun c o Z Z Z e=>e,hD2'.at fun o e=>up34 D o (P3'.keep D o (nF D fD) e),by simpa using hR.mono (Tru.fz _ _),(P3'.ns hn2).at' fun o e=>up34 L o e⟩
    (intro k s' Z0;refine HW Z0 fun h5 tk5 j vs5 m5 Zr0=>?_;refine ZK Zr0 fun Z1 Z2 hj hit5 k5 hD5 hR5 hN5=>?_;clear Zr0;clear Z0;subst Z1;subst Z2)
    have lb5:h5.IsList b us.toArray:=lb4.at fun o e=>k5 b o bD bL hne e
    by_cases hjl:j < (ys a).length
    ·refine Ww.item j _ _ _ (by rw [hsz];exact hjl) ⟨hit5,lb5⟩ fun v5 g6 tk6 hv5 st6 K6=>?_
     obtain ⟨z,eY⟩:∃ z,(ys a)[j]?=some z:=⟨_,List.getElem?_eq_getElem hjl⟩
     have e5:us[j]?=some v5:=by simpa using hv5
     obtain ⟨v',e1,e2⟩:=rb.get (i:=j) (d:=.str z) (by rw [List.getElem?_map,eY];rfl)
     have:v'=v5:=by rw [e1] at e5;exact Option.some.inj e5
     subst this
     have hN6:g6.Ns L m5:=hN5.at' fun o e=>K6 L o (by simpa using LJ) e
     refine wpAny_assign_Name (wpAny_storeName_local kY hN6 (fun g7 hn7 hs7=>?_) (by simp [compEnvC,relabel,K.kind]))
     have hs7:Heap.SameBut L g6 g7:=hs7
     refine wpAny_Name (wpAny_loadName_local (by simp [compEnvC,relabel,K.kind]) kY hn7 (if_pos rfl) ?_) hyd
     have hD7:g7.PlainList D vs5.toArray:=hD5.at fun o e=>hs7.extBut D o hDL (K6 D o (by simpa using DJ) e)
     refine wpAny_list_append_plain (hsz:=by rw [List.size_toArray,hR5.length,List.length_map];exact hle i j a hx) hD7 fun g8 hl8 hs8=>?_
     refine ⟨(ys a).length+1 - (j+1),rs hjl,g8,_,j+1,vs5++[v'],_,rfl,rfl,hjl,?_,?_,by simpa using hl8,?_,hn7.sameBut hs8 (Ne.symm hDL)⟩
     ·exact st6.1.at fun o e=>hs8.extBut J o (Ne.symm DJ) (hs7.extBut J o (Ne.symm LJ) e)
     ·exact fun c o n1 n2 n3 e=>hs8.extBut c o n1 (hs7.extBut c o n2 (K6 c o (by simpa using n3) (k5 c o n1 n2 n3 e)))
     ·rw [List.take_add_one,eY,← List.append_assoc,List.map_append]
      exact (hR5.mono (Tru.fz _ _)).append (.cons (e2.strAny _ _) .nil)
    ·have hje:j=(ys a).length:=oG hj hjl
     subst hje
     refine Ww.done _ _ _ ⟨by rw [hsz];exact hit5,lb5⟩ fun g6 tk6 K6=>?_
     have k6:∀ c o,c≠D->c≠L->c≠J->g4.get? c=some o->g6.get? c=some o:=fun c o n1 n2 n3 e=>K6 c o (by simpa using n3) (k5 c o n1 n2 n3 e)
     have k26:∀ c o,c∉C.Fs->c≠D->c≠L->g2.get? c=some o->g6.get? c=some o:=fun c o n1 n2 n3 e=>k6 c o n2 n3 (g2J c o e) (up34 c o (P3'.keep c o n1 e))
     have hN6:g6.Ns L m5:=hN5.at' fun o e=>K6 L o (by simpa using LJ) e
     refine ⟨_,rfl,as.length+1 - (i+1),rs hlt,g6,tk6,i+1,vs5,rfl,rfl,hlt,w.frame (i+1) g2 g6 T2 k26 ⟨_,hN6⟩ ⟨fun c o n e=>k26 c o (fun m=>n (FsN c m)) (fun q=>n (q▸w.dN)) (fun q=>n (q▸w.psN L w.lps)) e,fun Z y=>.inl y⟩,?_,hD5.at fun o e=>K6 D o (by simpa using DJ) e,?_⟩
     ·refine ((P2'.trans P3').trans (.of_keeps up34)).ext (wr:=[D,L,J]) (fun c o n e=>k6 c o (fun q=>n (by simp [q])) (fun q=>n (by simp [q])) (fun q=>n (by simp [q])) e) fun c mc=>?_
      simp only [List.mem_cons,List.not_mem_nil,or_false] at mc
      rcases mc with rfl|rfl|rfl
      ·exact fD
      ·exact fL
      ·exact sJ
     ·rw [List.take_add_one,hx,List.flatMap_append]
      simpa using hR5.mono (Tru.fz _ _)
   exact Bt inner (Ww.self 0 _ _ _ ⟨hI2,lb4⟩ inner)
  ·have hin:i=as.length:=oG hi hlt
   subst hin
   refine w.done { s with heap:=h,toks:=tk } _ _ (by rw [List.length_map];exact hT) fun g1 tk1 m hN K1=>?_
   rw [List.take_length] at hR
   (refine xE hD fun n eD=>?_;clear hD)
   refine ⟨m,hN,fun h'' hs=>?_⟩
   refine q _ h'' tk1 ((P.ext K1 w.ps0).write hs fL) ?_
   exact .list (hs.extBut D _ hDL (K1 D _ w.psD eD)) (fun n'=>let ⟨_,e⟩:=S.wd.nhi D n';by rw [fD] at e;exact noS e) rfl rfl (hR.strAny N h'') (by simpa using hz) rfl
 exact codeAny_compStart_list loop (self _ _ _ rfl loop)
end
end Mine
namespace Mine
open PySem PySem.Spec PySem.W PyProof.Rows PySem.Calls PySem.MeetsSeq
section
variable {C:Cx}{μ:Mu}{l:List (Str×AV)}
noncomputable def EvT (C:Cx) (μ:Mu) (l:List (Str×AV)) (e:Expr) (d:AV):Prop :=
 ∀ (N:Addr->Prop) (s:Shared),s.toks≠0->St C N μ l s.heap->∀ (Q:Value->Shared->Prop) (E:Value->Shared->Prop),
  (∀ v h' tk,Pu C.Fs s.heap h'->RdA N h' v d->Q v { s with heap:=h',toks:=tk })->wpAny (model pg C.w) C.A (eval e C.env) Q E s
noncomputable def BdT (C:Cx) (μ:Mu) (l:List (Str×AV)) (body:List Stmt) (d:AV):Prop :=
 ∀ (F0:List Addr) (h0:Heap) (N:Addr->Prop) (s:Shared),s.toks≠0->Sb C N μ l F0 h0 s.heap->∀ (Q:Flow->Shared->Prop) (E:Value->Shared->Prop),
  (∀ v h' tk,Pu F0 h0 h'->RdA N h' v d->Q (.ret v) { s with heap:=h',toks:=tk })->wpAny (model pg C.w) C.A (execs body C.env) Q E s
theorem Jn {x:Str}:Jo C μ (.dat (.str x)) "str":=by
 intro N s va W R
 cases R with
 | str t k=>exact ⟨typeIs_str _ _ _,fun b e=>by cases e⟩
theorem B8:Mth "str" "join" "str.join":=⟨F.plainAttrs_str,F.slot_str_join,F.type_str_join⟩
theorem JT:Mth "str" "split" "str.split":=⟨F.plainAttrs_str,F.slot_str_split,F.type_str_split⟩
theorem UH:Mth "str" "replace" "str.replace":=⟨F.plainAttrs_str,F.slot_str_replace,F.type_str_replace⟩
theorem Bd.assignS (O:C.Ok) {c:Str}{kc:Nat}{pc:Pos}{name:Str}{apos mpos:Pos}{es:List Expr}{id:String}{ds:List AV} (hc:ZO c=true) (m:Mth "str" name id)
  (hb:attributeBase (.Constant (.str c) kc pc) name C.env (eval (.Constant (.str c) kc pc) C.env)=eval (.Constant (.str c) kc pc) C.env) (hl:(apos.endLine == mpos.line)=true) (hn:Zu es=true) (hk:es.length < 30)
  (ha:Evs C μ l es ds) {a:AV} (hF:Fn C μ (.builtin id) (.dat (.str c)::ds) a)
  {x:Str}{p pos:Pos}{r:List Stmt}{d:AV} (hx:Zp C x) (hs:swapsWith (.Call (.Attribute (.Constant (.str c) kc pc) name apos) es [] mpos) (some (.Name x p)) pos.line C.env=pure false)
  (hr:BdT C μ ((x,a)::l) r d):Bd C μ l (.Assign [.Name x p] (.Call (.Attribute (.Constant (.str c) kc pc) name apos) es [] mpos) pos::r) d:=by
 intro F0 h0 N s B Q E q
 have S:=B.st
 refine wpAny_execs_cons (wpAny_Assign_Name ?_ hs)
 refine wpAny_Call_method_lateS hb ?_ hl (Constant_str ?_)
 ·have e1:(backTo mpos (starEach es C.env)).all (fun x=>!x.1)=true:=by
   have:=Zj (env:=C.env) (pos:=mpos) hn
   rw [List.any_eq_false] at this
   rw [List.all_eq_true];intro x hx;simpa using this x hx
  rw [e1]
  simpa [keywordEach,backToKw] using hk
 refine xA (Jn (C:=C) (μ:=μ) N { s with toks:=s.toks+1 } (.str c s.toks) S.wd (.str _ hc)) fun t hd=>?_
 refine ⟨"str",id,m.pa,m.slot,m.ty,t,hd,?_⟩
 refine VU (callWith_builtin (Zj hn) (Zw hn (ha mpos N { s with toks:=s.toks+1 } S _ _ fun vs h2 t2 P2 R2=>?_)))
 refine hF N _ (.str c s.toks::vs) (S.pu P2).wd (.cons (.str _ hc) R2) _ _ fun v h3 t3 P3 R3 hle=>?_
 have hle:s.toks+1≤t3:=hle
 refine VU ((B.step (P2.trans P3)).store O (s:={ s with heap:=h3,toks:=t3 }) R3 hx fun h4 t4 B4 Z hle4=>?_)
 have hle4:t3≤t4:=hle4
 exact hr F0 h0 N { s with heap:=h4,toks:=t4 } (by show t4≠0;omega) B4 Q E fun v h3 t3 P3 R3=>q v h3 t3 P3 R3
theorem BdT.swapped (O:C.Ok) {ts:List Expr}{k:Nat}{tp pos:Pos}{e:Expr}{xs:List Str}{ds:List PyData}{r:List Stmt}{d:AV} (h:EvT C μ l e (.dat (.tuple ds))) (hl:xs.length=ds.length)
  (hk:∀ x∈xs,Zp C x) (hs:swapsWithSole [.Tuple ts k tp] e pos.line C.env=pure false) (hw:swappedStores [.Tuple ts k tp] e C.env=pure (some xs))
  (hr:Bd C μ ((xs.zip (ds.map .dat))++l) r d):BdT C μ l (.Assign [.Tuple ts k tp] e pos::r) d:=by
 intro F0 h0 N s hT B Q E q
 refine wpAny_execs_cons (Assign_Tuple_swapped (h N s hT B.st _ _ fun v h1 t1 P1 R1=>?_) hs hw)
 (refine Zf (Rd.tupleE R1) fun a vs Z0 na la ra za=>?_;subst Z0)
 have B1:=B.step P1
 have e0:xs.length=vs.toArray.size:=by rw [List.size_toArray,ra.length,hl]
 rw [e0]
 refine wpAny_unpackItems_tuple O.handled la fun h2 K2=>?_
 have P2:Pu C.Fs h1 h2:=.of_keeps fun b o e=>K2 b o (fun q=>by rw [q,get?_size_none] at e;exact noS e) e
 have rs:Zr N h2 vs.reverse ((ds.map AV.dat).reverse):=by
  have:=(ra.mono (P2.fz B1.st.wd.fsN)).reverse.datsA
  rwa [← List.map_reverse]
 refine Sb.storeAll O xs.reverse _ _ _ l _ _ E (B1.step P2) (by simpa using rs) (by simpa using hl) (by simp) (fun x hx=>hk x (by simpa using hx)) (fun i x f hx hf v s Q hQ=>?_) fun h3 t3 B3=>?_
 ·rw [List.getElem?_map,hx] at hf
  obtain rfl:=Option.some.inj hf
  exact wpAny_bindName hQ
 ·refine hr F0 h0 N _ ?_ Q E fun v h4 t4 P4 R4=>q v h4 t4 P4 R4
  have ez:(xs.reverse.zip (ds.map AV.dat).reverse).reverse=xs.zip (ds.map AV.dat):=by
   rw [KT (by simpa using hl),List.reverse_reverse]
  rw [ez] at B3
  exact B3
theorem DF {e1 e2:Expr}{k:Nat}{pos:Pos}{a b:PyData} (hn:Zu [e1,e2]=true) (h1:EvT C μ l e1 (.dat a)) (h2:Ev C μ l e2 (.dat b)):EvT C μ l (.Tuple [e1,e2] k pos) (.dat (.tuple [a,b])):=by
 intro N s hT S Q E q
 have key:wpAny (model pg C.w) C.A (spliced (backTo pos (starEach [e1,e2] C.env))) (fun vs s'=>∃ h' tk,s'={ s with heap:=h',toks:=tk }/\Pu C.Fs s.heap h'/\Zr N h' vs [.dat a,.dat b]) E s:=by
  rw [(ZF hn).1,Z_]
  refine spliced_cons (h1 N s hT S _ _ fun va h1 t1 P1 R1=>?_)
  refine (Evs.cons (ZF (env:=C.env) hn).2 h2 Evs.nil) pos N _ (S.pu P1) _ _ fun vs h2 t2 P2 R2=>?_
  exact ⟨h2,t2,rfl,P1.trans P2,.cons (R1.mono ((S.pu P1).fz P2)) R2⟩
 refine Tuple_ (wpAny_mono key (fun vs s' z=>?_) fun Z Z z=>z)
 (refine Zn z fun h1 t1 Z0 P1 R1=>?_;clear z;subst Z0)
 have r:Rds N h1 vs [a,b]:=R1.datas rfl
 refine wpAny_newObj_type (q _ _ _ (P1.trans (.push _ _ _)) (Rd.newTuple (fun a n=>(S.pu P1).wd.nhi a n) r (by rw [sizeLine_eq];simp))) ?_
 show vs.toArray.size≤sizeLine
 rw [List.size_toArray,r.length,sizeLine_eq];simp
theorem GK {v:Expr}{lo hi st:Option Expr}{p pos:Pos}{xs ys:List PyData}{a b c:Option Int} (hv:EvT C μ l v (.dat (.list xs))) (h1:Pt C μ l lo a) (h2:Pt C μ l hi b) (h3:Pt C μ l st c) (hc:c≠some 0)
  (hp:Qx xs a b c ys) (hz:ys.length≤sizeLine) (ops:Value->Value->List Value) (hs:∀ o i,subscripted (.Slice lo hi st p) false o i=operate (ops o i) (getItem o i)) :
  EvT C μ l (.Subscript v (.Slice lo hi st p) pos) (.dat (.list ys)):=by
 intro N s hT S Q E q
 refine PyProof.Rows.Subscript_ (hv N s hT S _ _ fun vv g1 t1 P1 R1=>?_)
 have S1:=S.pu P1
 refine wpAny_Slice (h1.ev N { s with heap:=g1,toks:=t1 } S1 _ _ fun va g2 t2 P2 I2=>h2.ev N _ (S1.pu P2) _ _ fun vb g3 t3 P3 I3=>h3.ev N _ ((S1.pu P2).pu P3) _ _ fun vc g4 t4 P4 I4=>?_)
 have P14:=P2.trans (P3.trans P4)
 have S4:=S1.pu P14
 (refine Zf (Rd.listE (Rd.mono (S1.fz P14) R1)) fun aa vs Z0 na la ra za=>?_;subst Z0)
 have la':(g4.push { cls:=.type "slice",data:=.fields #[va,vb,vc] }).IsList aa vs.toArray:=la.at fun o e=>Heap.get?_push_of_some _ e
 refine tail_any la'.typeIs slot_list_getitem.lookup (wpAny_getItem_list_slice la' (Heap.IsSliceOf.new _ _ _ _) I2 I3 I4 hc ?_ (by rw [List.size_toArray,ra.length];exact za)) (hs _ _)
 have Pp:Pu C.Fs g4 (g4.push { cls:=.type "slice",data:=.fields #[va,vb,vc] }):=.push _ _ _
 have S5:=S4.pu Pp
 refine q _ _ _ (P1.trans (P14.trans (Pp.trans (.push _ _ _)))) ?_
 have r5:=hp N _ vs (ra.mono (S4.fz Pp))
 have:=Rd.newList S5.wd.nhi r5 hz
 show Rd _ _ _ _
 exact this
theorem H9 {o:Expr}{name:Str}{apos pos:Pos}{es:List Expr}{T id:String}{a:AV}{ds:List AV}{d:AV} (m:Mth T name id)
  (hb:attributeBase o name C.env (eval o C.env)=eval o C.env) (hl:(apos.endLine == pos.line)=true) (hn:Zu es=true) (hk:es.length < 30)
  (ho:EvT C μ l o a) (ht:Jo C μ a T) (ha:Evs C μ l es ds) (hF:Fn C μ (.builtin id) (a::ds) d):EvT C μ l (.Call (.Attribute o name apos) es [] pos) d:=by
 intro N s hT S Q E q
 refine wpAny_Call_method_lateS hb ?_ hl (ho N s hT S _ _ fun va h1 t1 P1 R1=>?_)
 ·have e1:(backTo pos (starEach es C.env)).all (fun x=>!x.1)=true:=by
   have:=Zj (env:=C.env) (pos:=pos) hn
   rw [List.any_eq_false] at this
   rw [List.all_eq_true];intro x hx;simpa using this x hx
  rw [e1]
  simpa [keywordEach,backToKw] using hk
 refine xA (ht N { s with heap:=h1,toks:=t1 } va (S.pu P1).wd R1) fun t hd=>?_
 refine ⟨T,id,m.pa,m.slot,m.ty,t,hd,?_⟩
 refine callWith_builtin (Zj hn) (Zw hn (ha pos N _ (S.pu P1) _ _ fun vs h2 t2 P2 R2=>?_))
 exact hF N _ (va::vs) ((S.pu P1).pu P2).wd (.cons (R1.mono ((S.pu P1).fz P2)) R2) _ _ fun v h3 t3 P3 R3=>q v h3 t3 (P1.trans (P2.trans P3)) R3
theorem BG {o:Expr}{apos pos p1 p2:Pos}{k1 k2:Nat}{x y z:Str}
  (hb:attributeBase o "replace" C.env (eval o C.env)=eval o C.env) (hl:(apos.endLine == pos.line)=true) (hyz:(y == z)=false) (hx:x.length+(x.length+1) * z.length≤16777216) (hok:ZO (Txt.replace x y z)=true)
  (ho:Ev C μ l o (.dat (.str x))):EvT C μ l (.Call (.Attribute o "replace" apos) [.Constant (.str y) k1 p1,.Constant (.str z) k2 p2] [] pos) (.dat (.str (Txt.replace x y z))):=by
 intro N s hT S Q E q
 have hn:Zu [.Constant (.str y) k1 p1,.Constant (.str z) k2 p2]=true:=rfl
 refine wpAny_Call_method_lateS hb ?_ hl (VU (ho N s S _ _ fun va h1 t1 P1 R1 hle=>?_))
 ·have e1:(backTo pos (starEach [.Constant (.str y) k1 p1,.Constant (.str z) k2 p2] C.env)).all (fun x=>!x.1)=true:=rfl
  exact e1
 have hle:s.toks≤t1:=hle
 cases R1 with
 | str t k =>
 refine xA (Jn (C:=C) (μ:=μ) N { s with heap:=h1,toks:=t1 } (.str x t) (S.pu P1).wd (.str _ k)) fun tt hd=>?_
 refine ⟨"str","str.replace",UH.pa,UH.slot,UH.ty,tt,hd,?_⟩
 refine callWith_builtin (Zj hn) (Zw hn ?_)
 rw [(ZF hn).1,Z_]
 refine spliced_cons (Constant_str ?_)
 rw [(ZF (env:=C.env) (ZF (env:=C.env) hn).2).1,Z_]
 refine spliced_cons (Constant_str (spliced_nil ?_))
 refine SC.replace (by show t1≠0;omega) (Nat.succ_ne_zero _) (Nat.ne_of_lt (Nat.lt_succ_self _)) hyz hx fun t' k'=>?_
 exact q _ h1 k' P1 (.str _ hok)
end
end Mine
namespace Mine
open PySem PySem.Spec PySem.W PyProof.Rows PySem.Calls PySem.MeetsSeq
set_option maxHeartbeats 1000000
section
variable {C:Cx}{μ:Mu}{l:List (Str×AV)}
theorem Ui {t bd o:Expr}{pos:Pos}{b:Bool}{d:AV} (h:Tst C μ l t b) (hb:b=true->Ev C μ l bd d) (ho:b=false->Ev C μ l o d):Ev C μ l (.IfExp t bd o pos) d:=by
 cases b
 ·exact Ev.if_ff h (ho rfl)
 ·exact Ev.if_tt h (hb rfl)
theorem D4 {e f:Expr}{pos:Pos}{a b:Bool} (h:Tst C μ l e a) (h':Tst C μ l f b):Tst C μ l (.BoolOp .Or [e,f] pos) (a || b):=by
 cases a
 ·cases b
  ·exact Tst.or_ff h (Tst.or_ff h' Tst.or_nil)
  ·exact Tst.or_ff h (Tst.or_tt h')
 ·exact Tst.or_tt h
theorem Y8 {e f:Expr}{pos:Pos}{a b:Bool} (h:Tst C μ l e a) (h':Tst C μ l f b):Tst C μ l (.BoolOp .And [e,f] pos) (a && b):=by
 cases a
 ·exact Tst.and_ff h
 ·cases b
  ·exact Tst.and_tt h (Tst.and_ff h')
  ·exact Tst.and_tt h (Tst.and_tt h' Tst.and_nil)
theorem ZW {le re:Expr}{op:Operator}{pos:Pos}{a b d:PyData} (hl:Ev C μ l le (.dat a)) (hr:Ev C μ l re (.dat b)) (h:Dq op a b d):Ev C μ l (.BinOp le op re pos) (.dat d):=Ev.binop hl hr (h _ _)
theorem Z8 (O:C.Ok) {le re:Expr}{op:CmpOp}{pos:Pos}{a b:PyData}{c:Bool} (hm:behindInMarks op re=false) (hl:Ev C μ l le (.dat a)) (hr:Ev C μ l re (.dat b)) (h:UM op a b c):Tst C μ l (.Compare le [op] [re] pos) c:=Tst.cmp hm hl hr (Qo O h)
end
theorem Ws {env:Env}{sc:Scope}{ts:List Expr}{v:Expr}{r:Option (List Str)} (h:env.scope=sc) (hr:swappedStores ts v { env with scope:=sc }=pure r):swappedStores ts v env=pure r:=by
 have e:env={ env with scope:=sc }:=by subst h;rfl
 rw [e];exact hr
noncomputable def Y7 (a b:Int):Int:=if b > a then b else a
noncomputable def Uv (x many:Int):Int:=(x.fdiv 20).fmod many
noncomputable def Uh (x place:Int):Int:=(x.fdiv 420).fmod (Y7 1 (place.fdiv 2))
noncomputable def WP (x:Int):Bool:=(x.fdiv 140).fmod 3 == 2
noncomputable def VM (x place many:Int):List Int:=if (decide (0 < place) || WP x)=true then [if WP x=true then Uv x many else (Uv x many).fmod (Y7 1 place)] else []
noncomputable def V6 (x place:Int):List Int:=if (x.fmod 4 == 3 && decide (1 < place))=true then [Uh x place] else []
noncomputable def Z9 (x place many:Int):List Int:=(if decide (0 < x.fmod 4)=true then VM x place many else [])++V6 x place
noncomputable def UQ:List Str:=["a",".","..b","",".c"]
noncomputable def Yr (x:Int):Str:=(UQ[((x.fdiv 4).fmod 5).toNat]?).getD ""
noncomputable def MC (line:Str) (kind:Int) (held:List Int):PyData:=.list [.str line,.int kind,.list (Zc held)]
theorem WL (b:Int):0 < Y7 1 b/\Y7 1 b≠0:=by unfold Y7;split <;> omega
theorem GR (x:Int):(UQ.map PyData.str)[((x.fdiv 4).fmod 5).toNat]?=some (.str (Yr x)):=by
 have h1:=Int.fmod_nonneg_of_pos (x.fdiv 4) (b:=5) (by decide)
 have h2:=Int.fmod_lt_of_pos (x.fdiv 4) (b:=5) (by decide)
 have:((x.fdiv 4).fmod 5).toNat < 5:=by omega
 unfold Yr
 refine Eq.trans (List.getElem?_map) ?_
 have hl:((x.fdiv 4).fmod 5).toNat < UQ.length:=this
 rw [List.getElem?_eq_getElem hl];rfl
theorem Du {w:World}{h₁:Heap} (K:K1 w h₁) {k:Nat}{μ:Mu}{x place many:Int} (hm:many≠0) :
  Zt w h₁ (k+1) μ 196 [.dat (.int x),.dat (.int place),.dat (.int many)] (.dat (MC (Yr x) (x.fmod 4) (Z9 x place many))):=by
 refine Zt.of_body (ps:=["x","place","many"]) K.nms ⟨⟨_,K.kx 196 _ rfl,rfl⟩,Zs K rfl rfl rfl,rfl,rfl,rfl,rfl,by decide,by decide,by decide,rfl,rfl,rfl,fun vs hl=>?_⟩ rfl fun C F=>?_
 ·revert vs;exact PU fun Z Z Z=>rfl
 have O:=F.ok
 refine Bd.swapped O (xs:=["one","other"]) (ds:=[.int (Uv x many),.int (Uh x place)]) (Ev.tuple (ds:=[.dat (.int (Uv x many)),.dat (.int (Uh x place))]) (Evs.cons rfl ?_ (Evs.cons rfl ?_ Evs.nil)) rfl (by rw [sizeLine_eq];simp)) rfl ?_ rfl (Ws F.sc rfl) ?_
 ·exact ZW (ZW (Ev.loc O rfl (F.kindOf rfl) rfl) (Ev.int 20 _ _) (Yk (by decide))) (Ev.loc O rfl (F.kindOf rfl) rfl) (VS hm)
 ·refine ZW (ZW (Ev.loc O rfl (F.kindOf rfl) rfl) (Ev.int 420 _ _) (Yk (by decide))) (Ev.call (f:=.builtin "max") (Ev.bui O rfl (F.kindOf rfl) rfl) trivial rfl (Evs.cons rfl (Ev.int 1 _ _) (Evs.cons rfl (ZW (Ev.loc O rfl (F.kindOf rfl) rfl) (Ev.int 2 _ _) (Yk (by decide))) Evs.nil)) (HU O 1 (place.fdiv 2))) (VS (WL _).2)
 ·intro y hy
  simp only [List.mem_cons,List.not_mem_nil,or_false] at hy
  rcases hy with rfl|rfl
  ·exact .inl (F.kindOf rfl)
  ·exact .inl (F.kindOf rfl)
 refine Bd.assign O (a:=.dat (.list (Zc (VM x place many)))) ?_ (.inl (F.kindOf rfl)) rfl ?_
 ·refine Ui (b:=decide (0 < place) || WP x) (D4 (Z8 O rfl (Ev.loc O rfl (F.kindOf rfl) rfl) (Ev.int 0 _ _) BA) (Z8 O rfl (ZW (ZW (Ev.loc O rfl (F.kindOf rfl) rfl) (Ev.int 140 _ _) (Yk (by decide))) (Ev.int 3 _ _) (VS (by decide))) (Ev.int 2 _ _) UE)) (fun hb=>?_) fun hb=>?_
  ·have e:VM x place many=[if WP x=true then Uv x many else (Uv x many).fmod (Y7 1 place)]:=if_pos hb
   rw [e]
   refine Ev.list (ds:=[.dat (.int (if WP x=true then Uv x many else (Uv x many).fmod (Y7 1 place)))]) (Evs.cons rfl ?_ Evs.nil) rfl (by rw [sizeLine_eq];simp)
   refine Ui (b:=WP x) (Z8 O rfl (ZW (ZW (Ev.loc O rfl (F.kindOf rfl) rfl) (Ev.int 140 _ _) (Yk (by decide))) (Ev.int 3 _ _) (VS (by decide))) (Ev.int 2 _ _) UE) (fun hw=>?_) fun hw=>?_
   ·rw [if_pos hw];exact Ev.loc O rfl (F.kindOf rfl) rfl
   ·rw [if_neg (by rw [hw];decide)]
    exact ZW (Ev.loc O rfl (F.kindOf rfl) rfl) (Ev.call (f:=.builtin "max") (Ev.bui O rfl (F.kindOf rfl) rfl) trivial rfl (Evs.cons rfl (Ev.int 1 _ _) (Evs.cons rfl (Ev.loc O rfl (F.kindOf rfl) rfl) Evs.nil)) (HU O 1 place)) (VS (WL _).2)
  ·have e:VM x place many=[]:=if_neg (by rw [hb];decide)
   rw [e]
   exact Ev.list Evs.nil rfl (by rw [sizeLine_eq];decide)
 refine Bd.assign O (a:=.dat (.list (Zc (V6 x place)))) ?_ (.inl (F.kindOf rfl)) rfl ?_
 ·refine Ui (b:=x.fmod 4 == 3 && decide (1 < place)) (Y8 (Z8 O rfl (ZW (Ev.loc O rfl (F.kindOf rfl) rfl) (Ev.int 4 _ _) (VS (by decide))) (Ev.int 3 _ _) UE) (Z8 O rfl (Ev.loc O rfl (F.kindOf rfl) rfl) (Ev.int 1 _ _) BA)) (fun hb=>?_) fun hb=>?_
  ·have e:V6 x place=[Uh x place]:=if_pos hb
   rw [e]
   exact Ev.list (ds:=[.dat (.int (Uh x place))]) (Evs.cons rfl (Ev.loc O rfl (F.kindOf rfl) rfl) Evs.nil) rfl (by rw [sizeLine_eq];simp)
  ·have e:V6 x place=[]:=if_neg (by rw [hb];decide)
   rw [e]
   exact Ev.list Evs.nil rfl (by rw [sizeLine_eq];decide)
 refine Bd.ret (Ev.list (ds:=[.dat (.str (Yr x)),.dat (.int (x.fmod 4)),.dat (.list (Zc (Z9 x place many)))]) (Evs.cons rfl ?_ (Evs.cons rfl ?_ (Evs.cons rfl ?_ Evs.nil))) rfl (by rw [sizeLine_eq];simp))
 ·have h1:=Int.fmod_nonneg_of_pos (x.fdiv 4) (b:=5) (by decide)
  have h2:=Int.fmod_lt_of_pos (x.fdiv 4) (b:=5) (by decide)
  refine Ev.idx (xs:=UQ.map .str) (k:=(x.fdiv 4).fmod 5) (Ev.list (ds:=(UQ.map .str).map .dat) (Evs.cons rfl (Ev.str (by decide +kernel) _ _) (Evs.cons rfl (Ev.str (by decide +kernel) _ _) (Evs.cons rfl (Ev.str (by decide +kernel) _ _) (Evs.cons rfl (Ev.str (by decide +kernel) _ _) (Evs.cons rfl (Ev.str (by decide +kernel) _ _) Evs.nil))))) (QK _) (by rw [sizeLine_eq];decide)) ?_ h1 (by omega) (GR x) fun Z Z=>rfl
  exact ZW (ZW (Ev.loc O rfl (F.kindOf rfl) rfl) (Ev.int 4 _ _) (Yk (by decide))) (Ev.int 5 _ _) (VS (by decide))
 ·exact ZW (Ev.loc O rfl (F.kindOf rfl) rfl) (Ev.int 4 _ _) (VS (by decide))
 ·have hlen:(VM x place many).length≤1/\(V6 x place).length≤1:=by
   unfold VM V6;constructor <;> split <;> simp
  have hz:(Zc (if decide (0 < x.fmod 4)=true then VM x place many else [])).length+(Zc (V6 x place)).length≤16777216:=by
   unfold Zc;rw [List.length_map,List.length_map];split
   ·omega
   ·rw [List.length_nil];omega
  refine ZW (a:=.list (Zc (if decide (0 < x.fmod 4)=true then VM x place many else []))) (b:=.list (Zc (V6 x place))) ?_ (Ev.loc O rfl (F.kindOf rfl) rfl) ?_
  ·refine Ui (b:=decide (0 < x.fmod 4)) (Z8 O rfl (ZW (Ev.loc O rfl (F.kindOf rfl) rfl) (Ev.int 4 _ _) (VS (by decide))) (Ev.int 0 _ _) BA) (fun hb=>?_) fun hb=>?_
   ·rw [if_pos hb];exact Ev.loc O rfl (F.kindOf rfl) rfl
   ·rw [if_neg (by rw [hb];decide)];exact Ev.list Evs.nil rfl (by rw [sizeLine_eq];decide)
  ·have e:Zc (Z9 x place many)=Zc (if decide (0 < x.fmod 4)=true then VM x place many else [])++Zc (V6 x place):=List.map_append
   rw [e];exact WZ hz
section
variable {C:Cx}{μ:Mu}{l:List (Str×AV)}
structure Ug (sc:Scope) (names:List (Str×NameKind)) (l:List (Str×AV)) (x:Str):Prop where
 kind:sc.kind=.function
 locs:∀ y∈sc.names,y.2=.local->sc.names.lookup y.1=some .local
 one:∀ n acc,cellsFrom n sc.names acc=(x,n)::acc
 push:∀ h,pushCells h sc.names=h.push { cls:=.type "cell",data:=.cell none }
 cell:∀ y,sc.names.lookup y=some .cell->y=x
 free:∀ n,(n,NameKind.free)∈sc.names->names.lookup n=some .cell/\(l.lookup n).isSome=true
 tgt:sc.names.lookup x=some .cell
 own:∀ y,sc.names.lookup y=some .local->l.lookup y=none
theorem Vm {env:Env}:∀ {names:List (Str×NameKind)}{x:Str},names.lookup x=some .cell ->
  (names.map fun (n,k)=>if (k == NameKind.free && env.scope.kind == .function && env.kindOf n == some .cell) then (n,NameKind.cell) else (n,k)).lookup x=some .cell
 | [],_,h=>by simp at h
 | (n,k)::r,x,h=>by
  have ih:=@Vm env r x
  show List.lookup x ((if (k == NameKind.free && env.scope.kind == .function && env.kindOf n == some .cell)=true then (n,NameKind.cell) else (n,k))::_)=_
  cases hx:x == n with
  | true =>
   simp only [List.lookup_cons,hx] at h
   obtain rfl:=Option.some.inj h
   simp [List.lookup_cons,hx]
  | false =>
   simp only [List.lookup_cons,hx] at h
   by_cases hc:(k == NameKind.free && env.scope.kind == .function && env.kindOf n == some .cell)=true
   ·rw [if_pos hc];simp only [List.lookup_cons,hx];exact ih h
   ·rw [if_neg hc];simp only [List.lookup_cons,hx];exact ih h
theorem St.compK {N N':Addr->Prop}{h h':Heap}{sc:Scope}{x:Str}{L c:Addr}{m:Str->Option Value}{v:Value}{d:AV}
  (S:St C N μ l h) (O:C.Ok) (K:Ug sc C.env.scope.names l x) (P:Pu C.Fs h h') (fz:Fz N N' h h') (W:Wd C.w C.h₁ C.Fs N' μ h')
  (hn:h'.Ns L m) (hx:h'.IsCell c (some v)) (hv:RdA N' h' v d):St (C.comp sc ((x,c)::Zi C.env sc.names []) L) N' μ ((x,d)::l) h':=by
 refine ⟨W,⟨⟨m,hn,fun y e he hk=>?_⟩,fun y e he hk=>?_⟩⟩
 ·have hk':(QO C.env.scope.names sc.names).lookup y=some .local:=by rw [← Ql O.kind];exact hk
  rcases ZY hk' with ⟨q,_⟩|⟨q,_⟩
  ·have z:=K.own y q
   replace he:=Eq.trans (Eq.symm List.lookup_cons) he
   cases hb:y == x with
   | true=>rw [beq_iff_eq.mp hb,K.tgt] at q;cases q
   | false=>rw [hb,z] at he;exact noS he
  ·cases q
 ·have hk':(QO C.env.scope.names sc.names).lookup y=some .cell:=by rw [← Ql O.kind];exact hk
  rcases ZY hk' with ⟨q,_⟩|⟨_,q,q'⟩
  ·have hyx:=K.cell y q
   subst hyx
   rw [List.lookup_cons,beq_self_eq_true] at he
   obtain rfl:=Option.some.inj he
   exact ⟨c,v,by show List.lookup y ((y,c)::_)=_;rw [List.lookup_cons,beq_self_eq_true],hx,hv⟩
  ·have hyx:(y == x)=false:=by
    cases hb:y == x with
    | false=>rfl
    | true=>have:=K.tgt;rw [← beq_iff_eq.mp hb,q] at this;cases this
   rw [List.lookup_cons,hyx] at he
   refine Zn (S.fm.cl y e he q') fun c' u a b r=>?_
   refine ⟨c',u,?_,P.cell b,r.mono fz⟩
   have:=Vv (env:=C.env) (n:=y) sc.names [] (.inr (.inl ⟨ZV q,rfl⟩))
   rw [a] at this
   show List.lookup y ((x,c)::_)=_
   rw [List.lookup_cons,hyx]
   exact this
theorem Jt {M:Model}{A:Around}{E:Value->Shared->Prop}{s:Shared}{sc:Scope}{x:Str}{names:List (Str×NameKind)}{g:Addr}{cl:List (Str×Addr)}{qual:Str}{env:Env}{Q:Env->Shared->Prop} (K:Ug sc names l x)
  (h:∀ h',h'.Ns s.heap.objs.size (fun Z=>none)->h'.IsCell (s.heap.objs.size+1) none->(∀ b o,s.heap.get? b=some o->h'.get? b=some o) ->
   Q { scope:=sc,locals:=s.heap.objs.size,globals:=g,cells:=(x,s.heap.objs.size+1)::cl,qual:=qual,func:=none,code:=env.code,frame:=env.frame,builtins:=env.builtins } { s with heap:=h' }) :
  wpAny M A (newFunctionEnv sc g cl [] qual none .none (some env)) Q E s:=by
 simp only [newFunctionEnv,Option.isSome_some,if_true]
 refine wpAny_bind (wpAny_alloc ?_)
 refine wpAny_bind (wpAny_layCells _ (fun name kind cells=>by cases hkc:kind == NameKind.cell <;> simp [hkc]) _ _ _ _ ?_)
 rw [K.one,K.push]
 rw [show ({ s with heap:=s.heap.push { cls:=.type "dict",data:=.dict #[] } }:Shared).heap.objs.size=s.heap.objs.size+1 from Heap.size_push ..]
 refine wpAny_bind (wpAny_pure (wpAny_pure ?_))
 refine h _ ?_ ?_ fun b o e=>Heap.get?_push_of_some _ (Heap.get?_push_of_some _ e)
 ·exact (Heap.Ns.new s.heap (.type "dict")).keeps fun b o e=>Heap.get?_push_of_some _ e
 ·have:(s.heap.push { cls:=.type "dict",data:=.dict #[] }).objs.size=s.heap.objs.size+1:=Heap.size_push ..
  rw [← this]
  exact ⟨_,Heap.get?_push_size _ rfl,rfl⟩
theorem DO (O:C.Ok) {elt iter:Expr}{ifs:List Expr}{x:Str}{px pos:Pos}{sc:Scope}{xs:List AV}{p:AV->Bool}{f:AV->PyData}
  (K:Ug sc C.env.scope.names l x) (hit:Itr C μ l iter xs)
  (ht:∀ L c,∀ d∈xs,Vr (C.comp sc ((x,c)::Zi C.env sc.names []) L) μ ((x,d)::l) ifs (p d))
  (he:∀ L c,∀ d∈xs,p d=true->Ev (C.comp sc ((x,c)::Zi C.env sc.names []) L) μ ((x,d)::l) elt (.dat (f d)))
  (hz:xs.length≤sizeLine) {N:Addr->Prop}{s:Shared} (S:St C N μ l s.heap) {E:Value->Shared->Prop}{RR:Value->Addr->Result->Shared->Prop}
  (hRR:∀ D L h' tk m',Pu C.Fs s.heap h'->Rd (Un N [L]) h' (.ref D) (.list ((xs.filter p).map f))->h'.Ns L m'->s.heap.get? L=none->RR (.ref D) L (.ok .next) { s with heap:=h',toks:=tk }) :
  wpAny (model pg C.w) C.A (eval iter C.env) (fun xv s₁=>wpAny (model pg C.w) C.A (pyIter xv) (fun it s₂=>wpAny (model pg C.w) C.A (newList []) (fun acc s₃ =>
   wpAny (model pg C.w) C.A (newFunctionEnv sc C.env.globals (Zi C.env sc.names []) [] C.env.qual none .none (some C.env)) (fun cenv s₄ =>
    codeAny (model pg C.w) C.A (.compStart (.ListComp elt [⟨.Name x px,iter,ifs,0⟩] sc pos) 0 it acc { cenv with scope:=relabel sc C.env }) (RR acc cenv.locals) s₄) E s₃) E s₂) E s₁) E s:=by
 refine hit N s S _ _ fun it h1 t1 P1 R1=>?_
 refine wpAny_newObj_type ?_
 generalize hH2:h1.push { cls:=.type "list",dict:=none,data:=.seq ([]:List Value).toArray }=H2
 show wpAny (model pg C.w) C.A _ _ E { s with heap:=H2,toks:=t1 }
 refine Jt (s:={ s with heap:=H2,toks:=t1 }) K fun h3 hns3 hc3 up23=>?_
 dsimp only at hns3 hc3 up23 ⊢
 have hD1:h1.get? h1.objs.size=none:=get?_size_none _
 have hD2:H2.get? h1.objs.size=some { cls:=.type "list",dict:=none,data:=.seq ([]:List Value).toArray }:=by rw [← hH2];exact Heap.get?_push_size _ rfl
 have hL2:H2.get? H2.objs.size=none:=get?_size_none _
 have hc2:H2.get? (H2.objs.size+1)=none:=Heap.get?_none_of_le (Nat.le_succ _)
 have hDL:h1.objs.size≠H2.objs.size:=by rw [← hH2,Heap.size_push];exact Nat.ne_of_lt (Nat.lt_succ_self _)
 have hDc:h1.objs.size≠H2.objs.size+1:=by rw [← hH2,Heap.size_push];exact Nat.ne_of_lt (Nat.lt_succ_of_lt (Nat.lt_succ_self _))
 have hLc:H2.objs.size≠H2.objs.size+1:=Nat.ne_of_lt (Nat.lt_succ_self _)
 have up12:∀ b o,h1.get? b=some o->H2.get? b=some o:=fun b o e=>by rw [← hH2];exact Heap.get?_push_of_some _ e
 have n1:∀ b,H2.get? b=none->h1.get? b=none:=fun b e=>by
  cases q:h1.get? b with
  | none=>rfl
  | some o=>exact sNo (Eq.trans (Eq.symm (up12 _ _ q)) e)
 generalize h1.objs.size=D at *
 generalize H2.objs.size+1=c at *
 generalize H2.objs.size=L at *
 have hL1:=n1 L hL2
 have kX:(compEnvC sc ((x,c)::Zi C.env sc.names []) L C.env).kindOf x=some .cell:=Vm K.tgt
 have cX:(compEnvC sc ((x,c)::Zi C.env sc.names []) L C.env).cells.lookup x=some c:=by
  show List.lookup x ((x,c)::_)=_
  rw [List.lookup_cons,beq_self_eq_true]
 refine YS (env:=compEnvC sc ((x,c)::Zi C.env sc.names []) L C.env) (cs:=[L,c]) S R1 P1 (fun a m=>?_) (fun m=>?_) List.mem_cons_self (fun b o e=>up23 b o (up12 b o e)) ⟨_,up23 _ _ hD2⟩ (fun h=>(∃ m,h.Ns L m)/\∃ v0,h.IsCell c v0)
  (fun g g' v k n=>⟨n,let ⟨v0,o,e,d⟩:=v.2;⟨v0,o,k c (by exact List.mem_cons_of_mem _ List.mem_cons_self) (Ne.symm hLc) o e,d⟩⟩) (fun Z v=>v.1) (fun g v b mb=>?_) ⟨⟨_,hns3⟩,_,hc3⟩
  (fun v d s' Q X n q=>?_) (ht L c) (he L c) hz fun h' tk m' P R hn hl=>hRR D L h' tk m' P R hn (P1.none hL1)
 ·rcases List.mem_cons.mp m with z|m
  ·rw [z];exact hD1
  ·rcases List.mem_cons.mp m with z|m
   ·rw [z];exact hL1
   ·rw [List.mem_singleton.mp m];exact n1 c hc2
 ·rcases List.mem_cons.mp m with z|m
  ·exact hDL z
  ·exact hDc (List.mem_singleton.mp m)
 ·rcases List.mem_cons.mp mb with z|m
  ·(refine xE v.1 fun Z Zr0=>?_;refine ZE Zr0 fun o Z Z e Z=>?_;clear Zr0);rw [z];exact ⟨o,e⟩
  ·refine QE v.2 fun Z o e Z=>?_;rw [List.mem_singleton.mp m];exact ⟨o,e⟩
 ·(refine QW fun ZG Zk=>?_;refine xA n fun Z0 Zr0=>?_;refine xE Zr0 fun v0 hv=>?_;clear Zr0;clear n;refine xE Z0 fun m hm=>?_;clear Z0;refine Zk ?_;clear Zk ZG)
  refine wpAny_assign_Name (wpAny_storeName_cell (by simp [compEnvC,relabel,K.kind]) kX cX hv (fun g2 hn2 hs2=>?_))
  have hs2:Heap.SameBut c s'.heap g2:=hs2
  have hm2:g2.Ns L m:=hm.sameBut hs2 hLc
  exact q g2 _ ⟨⟨m,hm2⟩,_,hn2⟩ (fun b o nb e=>hs2.extBut b o (fun z=>nb (by simp [z])) e) fun N' P fz W r=>S.compK O K P fz W hm2 hn2 r
theorem H4 (O:C.Ok) {α:Type}{as:List α} (g:α->AV) (gi:AV->α) (hgi:∀ a,gi (g a)=a) {elt iter:Expr}{ifs:List Expr}{x:Str}{px pos:Pos}{sc:Scope}{p:α->Bool}{f:α->PyData}
  (K:Ug sc C.env.scope.names l x) (hfs:∀ v,foldedSetIterable iter C.env v=pure v) (hit:Itr C μ l iter (as.map g))
  (ht:∀ L c,∀ a∈as,Vr (C.comp sc ((x,c)::Zi C.env sc.names []) L) μ ((x,g a)::l) ifs (p a))
  (he:∀ L c,∀ a∈as,p a=true->Ev (C.comp sc ((x,c)::Zi C.env sc.names []) L) μ ((x,g a)::l) elt (.dat (f a)))
  (hz:as.length≤sizeLine):Ev C μ l (.ListComp elt [⟨.Name x px,iter,ifs,0⟩] sc pos) (.dat (.list ((as.filter p).map f))):=by
 intro N s S Q E q
 rw [← Km g gi hgi as p f] at q
 rw [eval_ListComp]
 have hcl:closureFor sc C.env=pure (Zi C.env sc.names []):=Qb fun n hn=>by
  refine xA (K.free n hn) fun k hl=>?_
  refine xE (Option.isSome_iff_exists.mp hl) fun d hd=>?_
  refine QE (S.fm.cl n d hd k) fun c v a Z=>?_
  rw [a];rfl
 refine wpAny_comprehension_free (g:=⟨.Name x px,iter,ifs,0⟩) (gs:=[]) rfl hfs hcl K.kind K.locs (use:=Option.none) ?_
 refine DO O K hit (p:=fun d=>p (gi d)) (f:=fun d=>f (gi d)) (fun L c d hd=>?_) (fun L c d hd hp=>?_) (by simpa using hz) S (RR:=fun acc L r s'=>compPost (model pg C.w) C.A E Option.none Q acc L r s') fun D L h' tk m' P R hn fL=>?_
 ·(refine xEA (List.mem_map.mp hd) fun a ha Z0=>?_;subst Z0)
  rw [hgi];exact ht L c a ha
 ·(refine xEA (List.mem_map.mp hd) fun a ha Z0=>?_;subst Z0)
  rw [hgi] at hp ⊢;exact he L c a ha hp
 refine ⟨m',hn,fun h'' hs=>?_⟩
 exact q _ h'' tk (P.write hs fL) ((R.mono (Un.fz hs)).weak fun a n=>.inl n)
end
noncomputable def Bv (sc:Scope) (names:List (Str×NameKind)) (ks:List Str) (x:Str):Bool :=
 sc.kind == .function && sc.names.all (fun y=>(y.2 != .local || sc.names.lookup y.1 == some .local) && (y.2 != .cell || y.1 == x) && (y.2 != .free || (names.lookup y.1 == some .cell && ks.contains y.1)) && (y.2 != .local || !ks.contains y.1)) && sc.names.lookup x == some .cell
theorem Ug.of {sc:Scope}{names:List (Str×NameKind)}{l:List (Str×AV)}{x:Str} (h:Bv sc names (l.map (·.1)) x=true) (one:∀ n acc,cellsFrom n sc.names acc=(x,n)::acc) (push:∀ h,pushCells h sc.names=h.push { cls:=.type "cell",data:=.cell none }):Ug sc names l x:=by
 unfold Bv at h
 simp only [Bool.and_eq_true,List.all_eq_true,beq_iff_eq] at h
 (refine xA h fun Z0 h3=>?_;refine xA Z0 fun h1 h2=>?_;clear Z0)
 refine ⟨h1,fun y hy e=>?_,one,push,fun y hy=>?_,fun n hn=>?_,h3,fun y hy=>?_⟩
 ·have:=(h2 y hy).1.1.1
  rw [e] at this
  exact beq_iff_eq.mp this
 ·have:=(h2 _ (ZV hy)).1.1.2
  exact beq_iff_eq.mp this
 ·have:=(h2 _ hn).1.2
  simp only [bne_self_eq_false,Bool.false_or,Bool.and_eq_true,beq_iff_eq] at this
  exact ⟨this.1,by exact Eq.trans Us this.2⟩
 ·have:=(h2 _ (ZV hy)).2
  simp only [bne_self_eq_false,Bool.false_or,Bool.not_eq_true'] at this
  have e:=Us (l:=l) (y:=y)
  rw [this] at e
  cases q:l.lookup y with
  | none=>rfl
  | some d=>rw [q] at e;exact tF e
noncomputable def inL (xs:List Str) (x:Str):Bool:=(xs.map PyData.str).any fun y=>PyData.eqv y (.str x)
noncomputable def gtL (xs:List Str) (x:Str):List Str:=xs.filter fun o=>decide (x.cps.toList < o.cps.toList)
noncomputable def Gx (rows two:List Str) (k:Nat):Bool:=!inL two (rows[k]?.getD "") && (!inL (rows.take k) (rows[k]?.getD "") || PyData.eqv (Zo (gtL two (rows[k]?.getD ""))) (.list []))
noncomputable def QU (one two:List Str):List Str:=((List.range (Zl sLt one).length).filter (Gx (Zl sLt one) two)).map fun k=>((Zl sLt one)[k]?.getD "")
theorem Uu {α:Type} (lt:α->α->Bool) (xs:List α):(Zl lt xs).length=xs.length:=(ZT xs).length_eq
theorem Bc {a:PyData}:UM .Eq a (.list []) (PyData.eqv a (.list [])):=Ke (.inr (by decide))
theorem J9 {x:Str}{xs:List Str}:UM .NotIn (.str x) (Zo xs) (!inL xs x):=Hy (Nat.zero_le _)
section
variable {C:Cx}{μ:Mu}{l:List (Str×AV)}
theorem Q_ {v i:Expr}{pos:Pos}{xs:List Str}{n:Nat}{z:Str} (hv:Ev C μ l v (.dat (Zo xs))) (hi:Ev C μ l i (gN n)) (hx:xs[n]?=some z) (hn:n < 2 ^ 62)
  (hs:∀ a u,subscripted i false (.ref a) (.int (n:Nat) u)=operate [.ref a,.int (n:Nat) u] (getItem (.ref a) (.int (n:Nat) u))):Ev C μ l (.Subscript v i pos) (.dat (.str z)) :=
 Ev.idx (k:=(n:Int)) hv hi (by exact Int.natCast_nonneg _) (by omega) (by show (xs.map PyData.str)[n]?=_;rw [List.getElem?_map,hx];rfl) hs
theorem Bx {v i:Expr}{p pos:Pos}{xs:List Str}{n:Nat} (hv:Ev C μ l v (.dat (Zo xs))) (hi:Ev C μ l i (gN n)) (hz:xs.length≤sizeLine)
  (hs:∀ o j,subscripted (.Slice Option.none (some i) Option.none p) false o j=operate [j,o] (getItem o j)):Ev C μ l (.Subscript v (.Slice Option.none (some i) Option.none p) pos) (.dat (Zo (xs.take n))):=by
 have:=Ev.slice (pos:=pos) (p:=p) (lo:=Option.none) (hi:=some i) (st:=Option.none) (a:=Option.none) (b:=some (n:Int)) (c:=Option.none) hv trivial (show Pt C μ l (some i) (some (n:Int)) from hi) trivial (by decide) (Qx.upto _ n) (by rw [List.length_take,List.length_map];exact Nat.le_trans (Nat.min_le_right _ _) ‹_›) (fun o j=>[j,o]) hs
 rwa [← List.map_take] at this
end
theorem D6 {w:World}{h₁:Heap} (K:K1 w h₁) {k:Nat}{μ:Mu}{one two:List Str} (h64:one.length < 64) (hz:two.length≤1000) :
  Zt w h₁ (k+1) μ 211 [.dat (Zo one),.dat (Zo two)] (.dat (Zo (QU one two))):=by
 refine Zt.of_body (ps:=["one","two"]) K.nms ⟨⟨_,K.kx 211 _ rfl,rfl⟩,Zs K rfl rfl rfl,rfl,rfl,rfl,rfl,by decide,by decide,by decide,rfl,rfl,rfl,fun vs hl=>?_⟩ rfl fun C F=>?_
 ·revert vs;exact HJ fun Z Z=>rfl
 have O:=F.ok
 refine Bd.assign O (a:=.dat (Zo (Zl sLt one))) (Ev.call (f:=.builtin "sorted") (Ev.bui O rfl (F.kindOf rfl) rfl) trivial rfl (Evs.cons rfl (Ev.loc O rfl (F.kindOf rfl) rfl) Evs.nil) (VD h64)) (.inr ⟨F.kindOf rfl,F.cells _ rfl⟩) rfl ?_
 have hlen:=Uu sLt one
 unfold QU
 generalize Zl sLt one=rows at hlen ⊢
 refine Bd.ret ?_
 have e:Zo (((List.range rows.length).filter (Gx rows two)).map fun k=>(rows[k]?.getD ""))=.list (((List.range rows.length).filter (Gx rows two)).map fun k=>PyData.str (rows[k]?.getD "")):=by
  rw [Zo,List.map_map];rfl
 rw [e]
 refine H4 O gN giN KG (Ug.of (by rw [F.sc];rfl) (fun Z Z=>rfl) fun Z=>rfl) (fun Z=>rfl) ?_ (fun L c i hi=>?_) (fun L c i hi Z=>?_) (by rw [List.length_range,hlen,sizeLine_eq];exact oB ‹_› rfl)
 ·exact Itr.range1 O (Ev.bui O rfl (F.kindOf rfl) rfl) rfl (Ev.call (f:=.builtin "len") (Ev.bui O rfl (F.kindOf rfl) rfl) trivial rfl (Evs.cons rfl (Ev.cell O rfl (F.kindOf rfl) rfl) Evs.nil) (by have:=Yg (C:=C) (μ:=μ) (rows.map .str);rwa [List.length_map] at this)) (by exact oK ‹_› ‹_› rfl)
 ·have hi':i < rows.length:=List.mem_range.mp hi
  have hg:rows[i]?=some (rows[i]?.getD ""):=by rw [List.getElem?_eq_getElem hi'];rfl
  unfold Gx
  generalize rows[i]?.getD ""=z at hg ⊢
  refine Vr.one (Y8 (Z8 (O.comp rfl) rfl (Q_ (Ev.cell (O.comp rfl) rfl (Zh (Zd O F.names) rfl) rfl) (Ev.cell (O.comp rfl) rfl (Zh (Zd O F.names) rfl) rfl) hg (by exact rg ‹_› ‹_› ‹_› rfl) fun Z Z=>rfl) (Ev.cell (O.comp rfl) rfl (Zh (Zd O F.names) rfl) rfl) J9) (D4
   (Z8 (O.comp rfl) rfl (Q_ (Ev.cell (O.comp rfl) rfl (Zh (Zd O F.names) rfl) rfl) (Ev.cell (O.comp rfl) rfl (Zh (Zd O F.names) rfl) rfl) hg (by exact rg ‹_› ‹_› ‹_› rfl) fun Z Z=>rfl) (Bx (xs:=rows) (n:=i) (Ev.cell (O.comp rfl) rfl (Zh (Zd O F.names) rfl) rfl) (Ev.cell (O.comp rfl) rfl (Zh (Zd O F.names) rfl) rfl) (by rw [sizeLine_eq];exact oL ‹_› ‹_› rfl) fun Z Z=>rfl) J9)
   (Z8 (O.comp rfl) rfl ?_ (Ev.list Evs.nil rfl (by rw [sizeLine_eq];decide)) Bc)))
  have e2:Zo (gtL two z)=.list ((two.filter fun o=>decide (z.cps.toList < o.cps.toList)).map PyData.str):=rfl
  rw [e2]
  refine Ev.compA (O.comp rfl) gS giS DT (ZD.of (by rw [Zd O F.names];rfl)) (fun Z=>rfl) (Itr.strs (O.comp rfl) (Ev.cell (O.comp rfl) rfl (Zh (Zd O F.names) rfl) rfl)) (fun L' o ho=>?_) (fun L' o ho Z=>?_) (by rw [sizeLine_eq];exact oA ‹_› rfl)
  ·exact Vr.one (Z8 ((O.comp rfl).comp rfl) rfl (Ev.loc ((O.comp rfl).comp rfl) rfl (Zh (Zd (O.comp rfl) (Zd O F.names)) rfl) rfl) (Q_ (Ev.cell ((O.comp rfl).comp rfl) rfl (Zh (Zd (O.comp rfl) (Zd O F.names)) rfl) rfl) (Ev.cell ((O.comp rfl).comp rfl) rfl (Zh (Zd (O.comp rfl) (Zd O F.names)) rfl) rfl) hg (by exact rg ‹_› ‹_› ‹_› rfl) fun Z Z=>rfl) MB)
  ·exact Ev.loc ((O.comp rfl).comp rfl) rfl (Zh (Zd (O.comp rfl) (Zd O F.names)) rfl) rfl
 ·have hi':i < rows.length:=List.mem_range.mp hi
  have hg:rows[i]?=some (rows[i]?.getD ""):=by rw [List.getElem?_eq_getElem hi'];rfl
  exact Q_ (Ev.cell (O.comp rfl) rfl (Zh (Zd O F.names) rfl) rfl) (Ev.cell (O.comp rfl) rfl (Zh (Zd O F.names) rfl) rfl) hg (by exact rg ‹_› ‹_› ‹_› rfl) fun Z Z=>rfl
section
variable {C:Cx}{μ:Mu}{l:List (Str×AV)}
theorem H_ {xs:List PyData}:Jo C μ (.dat (.list xs)) "list":=by
 intro N s va W R
 (refine Zf (Rd.listE R) fun a vs Z0 na la ra za=>?_;subst Z0)
 refine ⟨la.typeIs,fun b e=>?_⟩
 obtain rfl:=Value.ref.inj e
 exact Rd.listD R
theorem GF:Mth "list" "count" "list.count":=⟨F.plainAttrs_list,F.slot_list_count,F.type_list_count⟩
theorem MG {v i:Expr}{p pos:Pos}{xs:List Str}{n:Nat} (hv:Ev C μ l v (.dat (Zo xs))) (hi:Ev C μ l i (gN n)) (hz:xs.length≤sizeLine)
  (hs:∀ o j,subscripted (.Slice (some i) Option.none Option.none p) false o j=operate [j,o] (getItem o j)):Ev C μ l (.Subscript v (.Slice (some i) Option.none Option.none p) pos) (.dat (Zo (xs.drop n))):=by
 have:=Ev.slice (pos:=pos) (p:=p) (lo:=some i) (hi:=Option.none) (st:=Option.none) (a:=some (n:Int)) (b:=Option.none) (c:=Option.none) hv (show Pt C μ l (some i) (some (n:Int)) from hi) trivial trivial (by decide) (Qx.from _ n) (by rw [List.length_drop,List.length_map];exact Nat.le_trans (Nat.sub_le _ _) ‹_›) (fun o j=>[j,o]) hs
 rwa [← List.map_drop] at this
theorem WX {o e:Expr}{apos pos:Pos}{xs:List Str}{x:Str} (hb:attributeBase o "count" C.env (eval o C.env)=eval o C.env) (hl:(apos.endLine == pos.line)=true) (hn:Zu [e]=true)
  (ho:Ev C μ l o (.dat (Zo xs))) (he:Ev C μ l e (.dat (.str x))):Ev C μ l (.Call (.Attribute o "count" apos) [e] [] pos) (.dat (.int (xs.count x:Nat))) :=
 Ev.meth GF hb hl hn (by simp) ho H_ (Evs.cons hn he Evs.nil) (HV xs x)
theorem Q6 (O:C.Ok) {α:Type}{as:List α} (g:α->AV) (gi:AV->α) (hgi:∀ a,gi (g a)=a) {elt iter:Expr}{x:Str}{px pos:Pos}{sc:Scope}{f:α->PyData}
  (K:ZD sc C.env.scope.names l x) (hfs:∀ v,foldedSetIterable iter C.env v=pure v) (hit:Itr C μ l iter (as.map g))
  (he:∀ L,∀ a∈as,Ev (C.comp sc (Zi C.env sc.names []) L) μ ((x,g a)::l) elt (.dat (f a)))
  (hz:as.length≤sizeLine):Ev C μ l (.ListComp elt [⟨.Name x px,iter,[],0⟩] sc pos) (.dat (.list (as.map f))):=by
 have:=Ev.compA (px:=px) (pos:=pos) O g gi hgi (p:=fun Z=>true) (f:=f) (ifs:=[]) K hfs hit (fun L r hr=>Vr.nil) (fun L r hr Z=>he L r hr) hz
 have e:as.filter (fun Z=>true)=as:=by simp
 rwa [e] at this
theorem Itr.range3N (O:C.Ok) {x:Str}{p pos:Pos}{e f g:Expr}{n:Nat} (hf:Ev C μ l (.Name x p) (.cal (.type "range"))) (hn:Zu [e,f,g]=true) (he:Ev C μ l e (.dat (.int ((n:Int) - 1)))) (hg:Ev C μ l f (.dat (.int (-1))))
  (hh:Ev C μ l g (.dat (.int (-1)))) (hb:n < 2 ^ 62):Itr C μ l (.Call (.Name x p) [e,f,g] [] pos) (((List.range n).map fun i=>n - 1 - i).map gN):=by
 have:=Itr.range3 (pos:=pos) O hf hn he hg hh hb
 have e:((List.range n).map fun i=>n - 1 - i).map gN=(List.range n).map fun i=>AV.dat (.int ((n:Int) - 1+(i:Nat) * (-1))):=by
  refine Eq.trans List.map_map ?_
  refine List.map_congr_left fun i hi=>?_
  have:i < n:=List.mem_range.mp hi
  show AV.dat (.int ((n - 1 - i:Nat):Int))=AV.dat (.int _)
  congr 2
  omega
 rwa [e]
end
theorem US {env:Env}{sc:Scope}{v:Expr}{t:Option Expr}{n:Nat}{b:Bool} (h:env.scope=sc) (hr:swapsWith v t n { env with scope:=sc }=pure b):swapsWith v t n env=pure b:=by
 have e:env={ env with scope:=sc }:=by subst h;rfl
 rw [e];exact hr
noncomputable def Pe (r:Str):Bool:=PyData.eqv (.str (Txt.slice r none (some 1))) (.str ".")
noncomputable def Ze (r:Str):Str:=if Pe r=true then "."++r else r
noncomputable def B9 (r:Str):Bool:=ZO r && ZO ("."++r) && ZO (Txt.slice r none (some 1))
noncomputable def gtB (a b:Nat):Bool:=decide ((b:Int) < (a:Int))
noncomputable def UT (rows after:List Str):List Str:=(((List.range rows.length).map fun i=>rows.length - 1 - i).filter fun k=>gtB ((rows.drop k).count (rows[k]?.getD "")) (after.count (rows[k]?.getD ""))).map fun k=>rows[k]?.getD ""
noncomputable def UW (rows after:List Str):List Str:=((List.range after.length).filter fun k=>gtB ((after.take (k+1)).count (after[k]?.getD "")) (rows.count (after[k]?.getD ""))).map fun k=>after[k]?.getD ""
noncomputable def VP (a b c d:List Str):PyData:=.list [.list [Zo a,Zo b],.list [Zo c,Zo d]]
noncomputable def H1 (rows:List Str):PyData:=.list [Zo (rows.map Ze),VP (QU rows (rows.map Ze)) (QU (rows.map Ze) rows) (UT rows (rows.map Ze)) (UW rows (rows.map Ze))]
theorem Oq (α:Type) (as:List α) (f:α->Str):Zo (as.map f)=.list (as.map fun a=>PyData.str (f a)):=by rw [Zo,List.map_map];rfl
theorem Oj {w:World}{h₁:Heap} (K:K1 w h₁) {k:Nat}{μ:Mu}{rows:List Str} (h64:rows.length < 64) (hok:∀ r∈rows,B9 r=true) :
  Zt w h₁ (k+2) μ 216 [.dat (Zo rows)] (.dat (H1 rows)):=by
 refine Zt.of_body (k:=k+1) (ps:=["rows"]) K.nms ⟨⟨_,K.kx 216 _ rfl,rfl⟩,Zs K rfl rfl rfl,rfl,rfl,rfl,rfl,by decide,by decide,by decide,rfl,rfl,rfl,fun vs hl=>?_⟩ rfl fun C F=>?_
 ·revert vs;exact KO fun Z=>rfl
 have O:=F.ok
 have hla:(rows.map Ze).length=rows.length:=List.length_map ..
 unfold H1
 refine Bd.assign O (a:=.dat (Zo (rows.map Ze))) ?_ (.inr ⟨F.kindOf rfl,F.cells _ rfl⟩) (US F.sc rfl) ?_
 ·rw [Oq]
  refine Q6 O gS giS DT (f:=fun r=>.str (Ze r)) (ZD.of (by rw [F.sc];rfl)) (fun Z=>rfl) (Itr.strs O (Ev.cell O rfl (F.kindOf rfl) rfl)) (fun L r hr=>?_) (by rw [sizeLine_eq];exact oB ‹_› rfl)
  ·have hk:=hok r hr
   simp only [B9,Bool.and_eq_true] at hk
   refine Ui (b:=Pe r) (Z8 (O.comp rfl) rfl (Ev.strUpto (Ev.loc (O.comp rfl) rfl (Zh (Zd O F.names) rfl) rfl) (Ev.int 1 _ _) hk.2) (Ev.str (by decide +kernel) _ _) HZ) (fun hb=>?_) fun hb=>?_
   ·rw [Ze,if_pos hb]
    exact ZW (Ev.str (by decide +kernel) _ _) (Ev.loc (O.comp rfl) rfl (Zh (Zd O F.names) rfl) rfl) (KM hk.1.2)
   ·rw [Ze,if_neg (by rw [hb];decide)]
    exact Ev.loc (O.comp rfl) rfl (Zh (Zd O F.names) rfl) rfl
 generalize rows.map Ze=after at hla ⊢
 refine Bd.compA O (as:=(List.range rows.length).map fun i=>rows.length - 1 - i) gN giN KG (p:=fun k=>gtB ((rows.drop k).count (rows[k]?.getD "")) (after.count (rows[k]?.getD ""))) (f:=fun k=>.str (rows[k]?.getD "")) (ZD.of (by rw [F.sc];rfl)) (fun Z=>rfl) ?_ (fun L i hi=>?_) (fun L i hi Z=>?_) (by rw [List.length_map,List.length_range,sizeLine_eq];exact oB ‹_› rfl) (F.kindOf rfl) ?_ ?_
 ·exact Itr.range3N O (Ev.bui O rfl (F.kindOf rfl) rfl) rfl (ZW (Ev.call (f:=.builtin "len") (Ev.bui O rfl (F.kindOf rfl) rfl) trivial rfl (Evs.cons rfl (Ev.cell O rfl (F.kindOf rfl) rfl) Evs.nil) (by have:=Yg (C:=C) (μ:=μ) (rows.map .str);rwa [List.length_map] at this)) (Ev.int 1 _ _) OO) (Ev.una (Ev.int 1 _ _) (UI 1)) (Ev.una (Ev.int 1 _ _) (UI 1)) (by exact oA ‹_› rfl)
 ·(refine xEA (List.mem_map.mp hi) fun j hj Z0=>?_;subst Z0)
  have hj:=List.mem_range.mp hj
  generalize hi':rows.length - 1 - j=i
  have hi2:i < rows.length:=by omega
  have hg:rows[i]?=some (rows[i]?.getD ""):=by rw [List.getElem?_eq_getElem hi2];rfl
  generalize rows[i]?.getD ""=z at hg ⊢
  exact Vr.one (Z8 (O.comp rfl) rfl (WX rfl rfl rfl (MG (Ev.cell (O.comp rfl) rfl (Zh (Zd O F.names) rfl) rfl) (Ev.loc (O.comp rfl) rfl (Zh (Zd O F.names) rfl) rfl) (by rw [sizeLine_eq];exact oB ‹_› rfl) fun Z Z=>rfl) (Q_ (Ev.cell (O.comp rfl) rfl (Zh (Zd O F.names) rfl) rfl) (Ev.loc (O.comp rfl) rfl (Zh (Zd O F.names) rfl) rfl) hg (by exact oq1 ‹_› ‹_› rfl) fun Z Z=>rfl)) (WX rfl rfl rfl (Ev.cell (O.comp rfl) rfl (Zh (Zd O F.names) rfl) rfl) (Q_ (Ev.cell (O.comp rfl) rfl (Zh (Zd O F.names) rfl) rfl) (Ev.loc (O.comp rfl) rfl (Zh (Zd O F.names) rfl) rfl) hg (by exact oq1 ‹_› ‹_› rfl) fun Z Z=>rfl)) BA)
 ·(refine xEA (List.mem_map.mp hi) fun j hj Z0=>?_;subst Z0)
  have hj:=List.mem_range.mp hj
  generalize hi':rows.length - 1 - j=i
  have hi2:i < rows.length:=by omega
  have hg:rows[i]?=some (rows[i]?.getD ""):=by rw [List.getElem?_eq_getElem hi2];rfl
  exact Q_ (Ev.cell (O.comp rfl) rfl (Zh (Zd O F.names) rfl) rfl) (Ev.loc (O.comp rfl) rfl (Zh (Zd O F.names) rfl) rfl) hg (by exact oq1 ‹_› ‹_› rfl) fun Z Z=>rfl
 ·exact US F.sc rfl
 refine Bd.compA O (as:=List.range after.length) gN giN KG (p:=fun k=>gtB ((after.take (k+1)).count (after[k]?.getD "")) (rows.count (after[k]?.getD ""))) (f:=fun k=>.str (after[k]?.getD "")) (ZD.of (by rw [F.sc];rfl)) (fun Z=>rfl) ?_ (fun L i hi=>?_) (fun L i hi Z=>?_) (by rw [List.length_range,sizeLine_eq];exact oL ‹_› ‹_› rfl) (F.kindOf rfl) (US F.sc rfl) ?_
 ·exact Itr.range1 O (Ev.bui O rfl (F.kindOf rfl) rfl) rfl (Ev.call (f:=.builtin "len") (Ev.bui O rfl (F.kindOf rfl) rfl) trivial rfl (Evs.cons rfl (Ev.cell O rfl (F.kindOf rfl) rfl) Evs.nil) (by have:=Yg (C:=C) (μ:=μ) (after.map .str);rwa [List.length_map] at this)) (by exact oK ‹_› ‹_› rfl)
 ·have hi2:i < after.length:=List.mem_range.mp hi
  have hg:after[i]?=some (after[i]?.getD ""):=by rw [List.getElem?_eq_getElem hi2];rfl
  generalize after[i]?.getD ""=z at hg ⊢
  exact Vr.one (Z8 (O.comp rfl) rfl (WX rfl rfl rfl (Bx (n:=i+1) (Ev.cell (O.comp rfl) rfl (Zh (Zd O F.names) rfl) rfl) (ZW (Ev.loc (O.comp rfl) rfl (Zh (Zd O F.names) rfl) rfl) (Ev.int 1 _ _) Pr) (by rw [sizeLine_eq];exact oL ‹_› ‹_› rfl) fun Z Z=>rfl) (Q_ (Ev.cell (O.comp rfl) rfl (Zh (Zd O F.names) rfl) rfl) (Ev.loc (O.comp rfl) rfl (Zh (Zd O F.names) rfl) rfl) hg (by exact rg ‹_› ‹_› ‹_› rfl) fun Z Z=>rfl)) (WX rfl rfl rfl (Ev.cell (O.comp rfl) rfl (Zh (Zd O F.names) rfl) rfl) (Q_ (Ev.cell (O.comp rfl) rfl (Zh (Zd O F.names) rfl) rfl) (Ev.loc (O.comp rfl) rfl (Zh (Zd O F.names) rfl) rfl) hg (by exact rg ‹_› ‹_› ‹_› rfl) fun Z Z=>rfl)) BA)
 ·have hi2:i < after.length:=List.mem_range.mp hi
  have hg:after[i]?=some (after[i]?.getD ""):=by rw [List.getElem?_eq_getElem hi2];rfl
  exact Q_ (Ev.cell (O.comp rfl) rfl (Zh (Zd O F.names) rfl) rfl) (Ev.loc (O.comp rfl) rfl (Zh (Zd O F.names) rfl) rfl) hg (by exact rg ‹_› ‹_› ‹_› rfl) fun Z Z=>rfl
 have K':K1 C.w C.h₁:=by rw [F.w,F.h₁];exact K
 rw [← Oq,← Oq]
 refine Bd.ret (Ev.list (ds:=[.dat (Zo after),.dat (VP (QU rows after) (QU after rows) (UT rows after) (UW rows after))]) (Evs.cons rfl (Ev.cell O rfl (F.kindOf rfl) rfl) (Evs.cons rfl ?_ Evs.nil)) rfl (by rw [sizeLine_eq];simp))
 refine Ev.list (ds:=[.dat (.list [Zo (QU rows after),Zo (QU after rows)]),.dat (.list [Zo (UT rows after),Zo (UW rows after)])]) (Evs.cons rfl ?_ (Evs.cons rfl ?_ Evs.nil)) rfl (by rw [sizeLine_eq];simp)
 ·refine Ev.list (ds:=[.dat (Zo (QU rows after)),.dat (Zo (QU after rows))]) (Evs.cons rfl ?_ (Evs.cons rfl ?_ Evs.nil)) rfl (by rw [sizeLine_eq];simp)
  ·exact Ev.call (f:=.ref 211) (Ev.glob O rfl (F.kindOf rfl) rfl) ⟨_,_,K'.kx 211 _ rfl,rfl⟩ rfl (Evs.cons rfl (Ev.cell O rfl (F.kindOf rfl) rfl) (Evs.cons rfl (Ev.cell O rfl (F.kindOf rfl) rfl) Evs.nil)) (Zt.fn O (D6 (k:=k) K' h64 (by exact oL ‹_› ‹_› rfl)) (by rw [F.k];exact Nat.le_refl _))
  ·exact Ev.call (f:=.ref 211) (Ev.glob O rfl (F.kindOf rfl) rfl) ⟨_,_,K'.kx 211 _ rfl,rfl⟩ rfl (Evs.cons rfl (Ev.cell O rfl (F.kindOf rfl) rfl) (Evs.cons rfl (Ev.cell O rfl (F.kindOf rfl) rfl) Evs.nil)) (Zt.fn O (D6 (k:=k) K' (by exact oK ‹_› ‹_› rfl) (by exact oB ‹_› rfl)) (by rw [F.k];exact Nat.le_refl _))
 ·exact Ev.list (ds:=[.dat (Zo (UT rows after)),.dat (Zo (UW rows after))]) (Evs.cons rfl (Ev.loc O rfl (F.kindOf rfl) rfl) (Evs.cons rfl (Ev.loc O rfl (F.kindOf rfl) rfl) Evs.nil)) rfl (by rw [sizeLine_eq];simp)
noncomputable def Y6 (place:Int):Str:=if (place.fmod 2 == 1)=true then "\r\n" else "\n"
noncomputable def Q5 (place:Int) (line:Str) (held:List Int) (g:Int->Str):List Str:=(line++Y6 place)::held.map g
noncomputable def QL {α:Type} (kind:Int) (xs:List α):List α:=if (kind == 2)=true then xs.reverse else xs
noncomputable def WE (x y:Str) (rows:List Str):Prop :=
 (y.length == 0)=false/\(Builtin.Str.partsBetween x (Builtin.Str.occurrences x y 0 x.length (x.length+1)) y.length).length≤sizeLine/\(∀ z∈Txt.split x y,ZO z=true)/\(Txt.split x y).length≤sizeLine/\(Txt.split x y).take ((Txt.split x y).length - 1)=rows
noncomputable def VH (rows after:List Str):PyData :=
 VP (sld ((Zl sLt rows).length+(Zl sLt after).length+1) (Zl sLt rows) (Zl sLt after) [] []).1 (sld ((Zl sLt rows).length+(Zl sLt after).length+1) (Zl sLt rows) (Zl sLt after) [] []).2
  (Qf rows.reverse after []).1 (Qf rows.reverse after []).2
theorem KS:∀ (es as m:List Str),(Qf es as m).1.length≤m.length+es.length/\(Qf es as m).2.length≤as.length
 | [],as,m=>by simp [Qf]
 | x::r,as,m=>by
  unfold Qf
  split
  ·have h:=KS r (as.erase x) m
   have h2:=List.length_erase_le (a:=x) (l:=as)
   exact ⟨by simp;omega,by omega⟩
  ·have h:=KS r as (m++[x])
   simp only [List.length_append,List.length_cons,List.length_nil] at h ⊢
   omega
theorem OD {w:World}{h₁:Heap} (K:K1 w h₁) {k:Nat}{μ:Mu}{place kind:Int}{line:Str}{held:List Int}{t:Addr}{kvs:List (Int×AV)}{g:Int->Str}{text told:Str}{rows after:List Str}
  (ht:μ t=some (.dict kvs)) (hg:∀ one∈held,Qt kvs one=some (.dat (.str (g one)))) (hheld:held.length≤1000) (hl:ZO (line++Y6 place)=true)
  (htext:Txt.join "" (QL kind (Q5 place line held g))=text) (hj:JoinOk "" (QL kind (Q5 place line held g))=true) (hto:ZO text=true) (hx:text.length+(text.length+1) * 1≤16777216)
  (hro:ZO (Txt.replace text "\r\n" "\n")=true) (hs1:WE (Txt.replace text "\r\n" "\n") "\n" rows) (hq:Zt w h₁ (k+1) μ 55 [.dat (.str text)] (.dat (.str told))) (hs2:WE told "\r\n" after)
  (h64:rows.length < 64) (h64':after.length < 64) :
  Zt w h₁ (k+2) μ 201 [.dat (.int place),.dat (MC line kind held),.obj t] (.dat (.list [.str told,VH rows after])):=by
 refine Zt.of_body (k:=k+1) (ps:=["place","message","sent"]) K.nms ⟨⟨_,K.kx 201 _ rfl,rfl⟩,Zs K rfl rfl rfl,rfl,rfl,rfl,rfl,by decide,by decide,by decide,rfl,rfl,rfl,fun vs hl=>?_⟩ rfl fun C F=>?_
 ·clear hg htext hj hx hro hs1 hq hs2
  revert vs;exact PU fun Z Z Z=>rfl
 have O:=F.ok
 have K':K1 C.w C.h₁:=by rw [F.w,F.h₁];exact K
 refine Bd.unpack O (xs:=["line","kind","held"]) (ds:=[.str line,.int kind,.list (Zc held)]) rfl (Ev.loc O rfl (F.kindOf rfl) rfl) rfl ?_ rfl rfl ?_
 ·clear hg hl htext hj hx hro hs1 hq hs2
  intro y hy
  simp only [List.mem_cons,List.not_mem_nil,or_false] at hy
  rcases hy with rfl|rfl|rfl
  ·exact .inl (F.kindOf rfl)
  ·exact .inl (F.kindOf rfl)
  ·exact .inl (F.kindOf rfl)
 refine Bd.assign O (a:=.dat (Zo (Q5 place line held g))) ?_ (.inl (F.kindOf rfl)) rfl ?_
 ·clear htext hj hx hro hs1 hq hs2
  refine ZW (a:=.list [.str (line++Y6 place)]) (b:=.list (held.map fun one=>.str (g one))) (Ev.list (ds:=[.dat (.str (line++Y6 place))]) (Evs.cons rfl ?_ Evs.nil) rfl (by rw [sizeLine_eq];simp)) ?_ ?_
  ·clear hg
   refine ZW (a:=.str line) (b:=.str (Y6 place)) (Ev.loc O rfl (F.kindOf rfl) rfl) ?_ (KM hl)
   refine Ui (b:=place.fmod 2 == 1) (Z8 O rfl (ZW (Ev.loc O rfl (F.kindOf rfl) rfl) (Ev.int 2 _ _) (VS (by decide))) (Ev.int 1 _ _) UE) (fun hb=>?_) fun hb=>?_
   ·rw [Y6,if_pos hb];exact Ev.str (by decide +kernel) _ _
   ·rw [Y6,if_neg (by rw [hb];decide)];exact Ev.str (by decide +kernel) _ _
  ·clear hl
   refine Q6 O gI giI YL (f:=fun one=>.str (g one)) (ZD.of (by rw [F.sc];rfl)) (fun Z=>rfl) (Itr.ints O (Ev.loc O rfl (F.kindOf rfl) rfl)) (fun L one ho=>?_) (by rw [sizeLine_eq];exact oA ‹_› rfl)
   exact Ev.dictItem (Ev.cell (O.comp rfl) rfl (Zh (Zd O F.names) rfl) rfl) ht (Ev.loc (O.comp rfl) rfl (Zh (Zd O F.names) rfl) rfl) (hg one ho) fun Z Z=>rfl
  ·clear hg hl
   have e:Zo (Q5 place line held g)=.list ([.str (line++Y6 place)]++held.map fun one=>.str (g one)):=by
    rw [Zo,Q5,List.map_cons,List.map_map];rfl
   rw [e]
   exact WZ (by simp;omega)
 refine Bd.assignS O (a:=.dat (.str text)) (ds:=[.dat (Zo (QL kind (Q5 place line held g)))]) (by decide +kernel) B8 rfl rfl rfl (by decide) (Evs.cons rfl ?_ Evs.nil) (by rw [← htext];exact Gi hj (by rw [htext];exact hto)) (.inl (F.kindOf rfl)) rfl ?_
 ·clear hg hl htext hj hx hro hs1 hq hs2
  refine Ui (b:=kind == 2) (Z8 O rfl (Ev.loc O rfl (F.kindOf rfl) rfl) (Ev.int 2 _ _) UE) (fun hb=>?_) fun hb=>?_
  ·rw [QL,if_pos hb]
   have:=Qx.rev ((Q5 place line held g).map .str)
   rw [← List.map_reverse] at this
   exact Ev.slice (a:=Option.none) (b:=Option.none) (c:=some (-1)) (Ev.loc O rfl (F.kindOf rfl) rfl) trivial trivial (Ev.una (Ev.int 1 _ _) (UI 1)) (by decide) this (by rw [sizeLine_eq];simp [Q5];exact oA ‹_› rfl) (fun o j=>[o,j]) fun Z Z=>rfl
  ·rw [QL,if_neg (by rw [hb];decide)]
   exact Ev.loc O rfl (F.kindOf rfl) rfl
 refine BdT.swapped O (xs:=["rows","told"]) (ds:=[Zo rows,.str told]) (DF rfl ?_ ?_) rfl ?_ rfl (Ws F.sc rfl) ?_
 ·clear hg hl htext hj hq hs2
  (refine Qe hs1 fun a1 a2 a3 a4 a5=>?_;clear hs1)
  have hp:=Qx.butLast ((Txt.split (Txt.replace text "\r\n" "\n") "\n").map .str)
  rw [List.length_map,← List.map_take,a5] at hp
  refine GK (a:=Option.none) (b:=some (-1)) (c:=Option.none) (H9 JT rfl rfl rfl (by decide) (BG rfl rfl (by decide) hx hro (Ev.loc O rfl (F.kindOf rfl) rfl)) Jn (Evs.cons rfl (Ev.str (by decide +kernel) _ _) Evs.nil) (B_ a1 a2 a3 a4)) trivial (Ev.una (Ev.int 1 _ _) (UI 1)) trivial (by decide) hp (by rw [List.length_map,sizeLine_eq];exact oB ‹_› rfl) (fun o j=>[j,o]) fun Z Z=>rfl
 ·clear hg hl htext hj hx hro hs1 hs2
  exact Ev.call (f:=.ref 55) (Ev.glob O rfl (F.kindOf rfl) rfl) ⟨_,_,K'.kx 55 _ rfl,rfl⟩ rfl (Evs.cons rfl (Ev.loc O rfl (F.kindOf rfl) rfl) Evs.nil) (Zt.fn O (k:=k+1) (by rw [F.w,F.h₁];exact hq) (by rw [F.k];exact Nat.le_refl _))
 ·clear hg hl htext hj hx hro hs1 hq hs2
  intro y hy
  simp only [List.mem_cons,List.not_mem_nil,or_false] at hy
  rcases hy with rfl|rfl
  ·exact .inl (F.kindOf rfl)
  ·exact .inl (F.kindOf rfl)
 refine Bd.assign O (a:=.dat (Zo after)) ?_ (.inl (F.kindOf rfl)) rfl ?_
 ·clear hg hl htext hj hx hro hs1 hq
  (refine Qe hs2 fun a1 a2 a3 a4 a5=>?_;clear hs2)
  have hp:=Qx.butLast ((Txt.split told "\r\n").map .str)
  rw [List.length_map,← List.map_take,a5] at hp
  exact Ev.slice (a:=Option.none) (b:=some (-1)) (c:=Option.none) (Ev.meth JT rfl rfl rfl (by decide) (Ev.loc O rfl (F.kindOf rfl) rfl) Jn (Evs.cons rfl (Ev.str (by decide +kernel) _ _) Evs.nil) (B_ a1 a2 a3 a4)) trivial (Ev.una (Ev.int 1 _ _) (UI 1)) trivial (by decide) hp (by rw [List.length_map,sizeLine_eq];exact oB ‹_› rfl) (fun o j=>[j,o]) fun Z Z=>rfl
 refine Bd.assign O (a:=.dat (VH rows after)) ?_ (.inl (F.kindOf rfl)) rfl ?_
 ·clear hg hl htext hj hx hro hs1 hq hs2
  have h1:=Uu sLt rows
  have h2:=Uu sLt after
  have h3:=KS rows.reverse after []
  simp only [List.length_nil,List.length_reverse] at h3
  refine Ev.list (ds:=[.dat (.list [Zo (sld ((Zl sLt rows).length+(Zl sLt after).length+1) (Zl sLt rows) (Zl sLt after) [] []).1,Zo (sld ((Zl sLt rows).length+(Zl sLt after).length+1) (Zl sLt rows) (Zl sLt after) [] []).2]),.dat (.list [Zo (Qf rows.reverse after []).1,Zo (Qf rows.reverse after []).2])]) (Evs.cons rfl ?_ (Evs.cons rfl ?_ Evs.nil)) rfl (by rw [sizeLine_eq];simp)
  ·refine Ev.call (f:=.type "list") (Ev.bui O rfl (F.kindOf rfl) rfl) trivial rfl (Evs.cons rfl ?_ Evs.nil) (Wi _)
   refine Ev.call (f:=.ref 182) (Ev.glob O rfl (F.kindOf rfl) rfl) ⟨_,_,K'.kx 182 _ rfl,rfl⟩ rfl (Evs.cons rfl ?_ (Evs.cons rfl ?_ Evs.nil)) (Zt.fn O (k:=k+1) (Hs K' (by exact oL ‹_› ‹_› rfl) (by exact oL ‹_› ‹_› rfl)) (by rw [F.k];exact Nat.le_refl _))
   ·exact Ev.call (f:=.builtin "sorted") (Ev.bui O rfl (F.kindOf rfl) rfl) trivial rfl (Evs.cons rfl (Ev.loc O rfl (F.kindOf rfl) rfl) Evs.nil) (VD h64)
   ·exact Ev.call (f:=.builtin "sorted") (Ev.bui O rfl (F.kindOf rfl) rfl) trivial rfl (Evs.cons rfl (Ev.loc O rfl (F.kindOf rfl) rfl) Evs.nil) (VD h64')
  ·refine Ev.call (f:=.type "list") (Ev.bui O rfl (F.kindOf rfl) rfl) trivial rfl (Evs.cons rfl ?_ Evs.nil) (Wi _)
   exact Pw K' O rfl rfl (k:=k) (by rw [F.k];exact Nat.le_refl _) (Ev.glob O rfl (F.kindOf rfl) rfl) (Ev.loc O rfl (F.kindOf rfl) rfl) (Ev.loc O rfl (F.kindOf rfl) rfl) (by exact oB ‹_› rfl) (by exact oB ‹_› rfl) (by rw [sizeLine_eq];omega) (by rw [sizeLine_eq];omega)
 exact Bd.ret (Ev.list (ds:=[.dat (.str told),.dat (VH rows after)]) (Evs.cons rfl (Ev.loc O rfl (F.kindOf rfl) rfl) (Evs.cons rfl (Ev.loc O rfl (F.kindOf rfl) rfl) Evs.nil)) rfl (by rw [sizeLine_eq];simp))
section
variable {C:Cx}{μ:Mu}{l:List (Str×AV)}
theorem BS {t:Addr}{kvs:List (Int×AV)} (ht:μ t=some (.dict kvs)) (hz:kvs.length < 2 ^ 62):Fn C μ (.builtin "len") [.obj t] (.dat (.int kvs.length)):=by
 intro N s vs W R Q X q
 (refine xEA R.inv1 fun v Z0 r=>?_;subst Z0)
 subst r
 refine Y_ (Q9 W ht) fun hn ps hd rp=>?_
 have hl:=rp.length
 refine call_len_dict (Ul W ht) hd (by omega) ?_
 rw [hl]
 exact q _ s.heap _ (.refl _ _) (.int _ _)
theorem Q4 {v:Int->AV}{k:Int}:∀ (keys:List Int),Qt (keys.map fun p=>(p,v p)) k=if k∈keys then some (v k) else none
 | []=>rfl
 | p::r=>by
  have ih:=Q4 (v:=v) (k:=k) r
  unfold Qt at ih ⊢
  rw [List.map_cons,List.find?_cons]
  by_cases h:p=k
  ·subst h;simp
  ·have:decide (p=k)=false:=decide_eq_false h
   simp only [this]
   refine Eq.trans ih ?_
   have:(k∈p::r)=(k∈r):=by simp [Ne.symm h]
   simp only [this]
theorem W5 {v:Int->AV}{k:Int} (keys:List Int) (h:k∉keys):VZ (keys.map fun p=>(p,v p)) k (v k)=(keys++[k]).map fun p=>(p,v p):=by
 unfold VZ
 rw [if_neg]
 ·simp
 ·simp only [List.any_map,List.any_eq_true,not_exists,not_and]
  intro p hp e
  simp at e
  exact h (e▸hp)
theorem MFn.pureD {w:World}{h₁:Heap}{k:Nat}{f:Addr}{ds:List AV}{d:PyData} (h:MFn w h₁ k μ f ds (fun Z=>False) (fun d' Z=>d'=.dat d) (fun Z Z Z=>False)):Zt w h₁ k μ f ds (.dat d):=by
 intro A envs N s vs AO W R RR q
 refine h A envs N s vs AO W R RR (fun v d' N' μ' h' tk hp mt gr W' r=>?_) fun Z Z Z Z Z Z Z Z x=>x.elim
 subst hp
 exact q v h' tk mt.toPu (Rd.weak gr.up r)
theorem VN {v i:Expr}{pos:Pos}{xs:List PyData}{n:Nat}{d:PyData} (hv:Ev C μ l v (.dat (.list xs))) (hi:Ev C μ l i (.dat (.int (n:Int)))) (hx:xs[n]?=some d) (hn:n < 2 ^ 62)
  (hs:∀ a u,subscripted i false (.ref a) (.int (n:Nat) u)=operate [.ref a,.int (n:Nat) u] (getItem (.ref a) (.int (n:Nat) u))):Ev C μ l (.Subscript v i pos) (.dat d) :=
 Ev.idx (k:=(n:Int)) hv hi (by exact Int.natCast_nonneg _) (by omega) hx hs
end
end Mine
namespace Mine
open PySem PySem.Spec PySem.W PyProof.Rows PySem.Calls PySem.MeetsSeq
set_option maxHeartbeats 2000000
theorem Em.mono {E:Ent}{C:Cx}{μ:Mu}{l:List (Str×AV)}{e:Expr}{Φ:Zq}{Ψ Ψ':AV->Mu->Prop} (h:Em E C μ l e Ψ Φ) (i:∀ d μ',Ψ d μ'->Ψ' d μ'):Em E C μ l e Ψ' Φ :=
 fun N s I Q X q x=>h N s I Q X (fun v d N' μ' h' tk a b c g r=>q v d N' μ' h' tk (i _ _ a) b c g r) x
noncomputable abbrev Msg:=Str×Int×List Int
noncomputable def msD (m:Msg):PyData:=MC m.1 m.2.1 m.2.2
noncomputable def Q0 (ms:List Msg):PyData:=.list (ms.map msD)
noncomputable def Zy (ms:List Msg) (p:Nat):Msg:=ms[p]?.getD ("",0,[])
noncomputable def Y1 (ms:List Msg) (keys:List Int) (p:Nat):Bool:=!decide ((p:Int)∈keys) && PyData.eqv (.list (((Zy ms p).2.2.filter fun o=>!decide (o∈keys)).map .int)) (.list [])
noncomputable def QT (ms:List Msg) (keys:List Int):List Nat:=(List.range ms.length).filter (Y1 ms keys)
noncomputable def ZC (ms:List Msg) (keys:List Int):List Int:=(QT ms keys).map fun (p:Nat)=>(p:Int)
noncomputable def Zm (ms:List Msg):Nat->List Int×List (List Int)
 | 0=>([],[])
 | i+1=>((Zm ms i).1++ZC ms (Zm ms i).1,(Zm ms i).2++if PyData.eqv (.list (Zc (ZC ms (Zm ms i).1))) (.list [])=true then [] else [ZC ms (Zm ms i).1])
noncomputable def Qs (m:Msg) (rowsOf:Int->List Str):List (List Str):=[m.1]::m.2.2.map fun o=>(rowsOf o).map Ze
noncomputable def ZM (rows:List Str):Str:=Txt.join "" ((rows.map Ze).map fun r=>r++"\r\n")
noncomputable def UA (rowsOf:Int->List Str) (p:Int):PyData:=.list [.int p,.str (ZM (rowsOf p)),VP (QU (rowsOf p) ((rowsOf p).map Ze)) (QU ((rowsOf p).map Ze) (rowsOf p)) (UT (rowsOf p) ((rowsOf p).map Ze)) (UW (rowsOf p) ((rowsOf p).map Ze))]
structure DL (ms:List Msg) (rowsOf:Int->List Str) (p:Nat):Prop where
 eq:(QL (Zy ms p).2.1 (Qs (Zy ms p) rowsOf)).flatMap id=rowsOf p
 len:(rowsOf p).length < 64
 row:∀ r∈rowsOf p,B9 r=true
 end_:∀ r∈(rowsOf p).map Ze,ZO (r++"\r\n")=true
 join:JoinOk "" (((rowsOf p).map Ze).map fun r=>r++"\r\n")=true
 text:ZO (ZM (rowsOf p))=true
theorem V0 (ms:List Msg):∀ i,(Zm ms i).1.length≤i * ms.length/\∀ k∈(Zm ms i).1,∃ j p,j < i/\p∈QT ms (Zm ms j).1/\k=(p:Int)
 | 0=>⟨Nat.zero_le _,fun Z h=>by exact absurd h List.not_mem_nil⟩
 | i+1=>by
  refine xA (V0 ms i) fun a b=>?_
  have c:(ZC ms (Zm ms i).1).length≤ms.length:=by
   delta ZC QT
   rw [List.length_map]
   exact Nat.le_trans (List.length_filter_le _ _) (by rw [List.length_range];exact Nat.le_refl _)
  refine ⟨?_,fun k hk=>?_⟩
  ·show ((Zm ms i).1++ZC ms (Zm ms i).1).length≤_
   rw [List.length_append,Nat.succ_mul];exact Nat.add_le_add ‹_› ‹_›
  ·have hk:k∈(Zm ms i).1++ZC ms (Zm ms i).1:=hk
   rcases List.mem_append.mp hk with h|h
   ·refine Zn (b k h) fun j p h1 h2 h3=>?_
    exact ⟨j,p,by exact Nat.le_succ_of_le ‹_›,h2,h3⟩
   ·(refine xEA (List.mem_map.mp h) fun p hp Z0=>?_;subst Z0)
    exact ⟨i,p,by exact Nat.le_refl _,hp,rfl⟩
theorem Y2 (ms:List Msg):∀ i,(Zm ms i).2.length≤i
 | 0=>Nat.zero_le _
 | i+1=>by
  have:=Y2 ms i
  show ((Zm ms i).2++_).length≤_
  rw [List.length_append]
  split <;> simp <;> (first|assumption|exact Nat.le_succ_of_le ‹_›)
theorem Mg {a:PyData}:UM .NotEq a (.list []) (!PyData.eqv a (.list [])):=MN (.inr (by decide))
theorem DD (ms:List Msg) (keys:List Int):(ZC ms keys).Nodup:=by
 delta ZC QT
 exact List.Pairwise.map _ (fun a b h q=>h (by exact Int.ofNat.inj ‹_›)) (List.Pairwise.filter _ List.nodup_range)
theorem WO {ms:List Msg}{keys:List Int}{p:Nat} (h:p∈QT ms keys):(p:Int)∉keys/\p < ms.length/\∀ o∈(Zy ms p).2.2,o∈keys:=by
 delta QT Y1 at h
 refine xA (List.mem_filter.mp h) fun h1 h2=>?_
 rw [Bool.and_eq_true] at h2
 refine ⟨by simpa using h2.1,List.mem_range.mp h1,fun o ho=>?_⟩
 by_cases hk:o∈keys
 ·exact hk
 ·have hm:o∈(Zy ms p).2.2.filter fun o=>!decide (o∈keys):=List.mem_filter.mpr ⟨ho,by simp [hk]⟩
  cases hl:((Zy ms p).2.2.filter fun o=>!decide (o∈keys)) with
  | nil=>rw [hl] at hm;exact absurd hm List.not_mem_nil
  | cons a r=>rw [hl] at h2;exact absurd h2.2 (by simp [PyData.eqv,PyData.eqvAll])
theorem Pj {w:World}{h₁:Heap} (K:K1 w h₁) {k:Nat}{μ:Mu}{ms:List Msg}{rowsOf:Int->List Str}{ks':List Int} (hn:ms.length≤8) (hh:∀ p,(Zy ms p).2.2.length≤10)
  (hR:∀ i < ms.length,∀ p∈QT ms (Zm ms i).1,DL ms rowsOf p) (hkl:(Zm ms ms.length).1.length < 64) (hkas:Vo (Zm ms ms.length).1=some ks') :
  Zt w h₁ (k+3) μ 221 [.dat (Q0 ms)] (.dat (.list [.bool (decide (((Zm ms ms.length).1.length:Int) < ms.length)),.list ((Zm ms ms.length).2.map fun r=>.list (Zc r)),.list (ks'.map (UA rowsOf))])):=by
 refine MFn.pureD ?_
 refine MFn.of_body (k:=k+2) (ps:=["messages"]) K.nms ⟨⟨_,K.kx 221 _ rfl,rfl⟩,Zs K rfl rfl rfl,rfl,rfl,rfl,rfl,by decide,by decide,by decide,rfl,rfl,rfl,fun vs hl=>?_⟩ rfl fun E C F H hD hold hF0=>?_
 ·clear hh hR hkl hkas
  revert vs;exact KO fun Z=>rfl
 refine Xs.post fun Ψ0 mk0=>?_
 have O:=F.ok
 have K':K1 C.w C.h₁:=by rw [F.w,F.h₁];exact K
 have kx:(Kf C).In C.h₁:=K'.kx
 refine Xs.unpackT O.handled H (xs:=["known","rounds"]) (Ψ:=fun ds μ'=>∃ t,ds=[.obj t,.dat (.list [])]/\μ' t=some (.dict [])/\E.h0.get? t=none) rfl ?_ ?_ rfl (Ws F.sc rfl) ?_
 ·clear hh hR hkl hkas
  refine Em.mono (Em.tupM (Ψa:=fun ds μ1=>∃ t,ds=[.obj t,.dat (.list [])]/\μ1=upd μ t (.dict [])/\E.h0.get? t=none/\μ t=none) (Ems.cons rfl (Em.dict0 O.nms) ?_) ?_) ?_
  ·(intro d μ1 Z0;refine Z6 Z0 fun t Z1 Z2 h0 hm=>?_;clear Z0;subst Z1;subst Z2)
   refine Ems.cons rfl (Em.ofEv (d:=.dat (.list [])) (Ev.list Evs.nil rfl (by rw [sizeLine_eq];decide))) ?_
   (intro d μ1 Z0;refine xA Z0 fun Z1 Z2=>?_;clear Z0;subst Z1;subst Z2)
   exact Ems.nil ⟨t,rfl,rfl,h0,hm⟩
  ·(intro ds μ1 Z0;refine xEA Z0 fun t Z1 Z=>?_;clear Z0;subst Z1);rw [sizeLine_eq];simp
  ·(intro d μ1 Z0;refine xEE Z0 fun ds μ2 Zr0=>?_;refine VT Zr0 fun Z1 a Z2 Z3 ha0 ha=>?_;clear Zr0;clear Z0;refine Z6 Z1 fun t Z4 Z5 h0 hm=>?_;clear Z1;subst Z4;subst Z5;subst Z2;subst Z3)
   have hat:t≠a:=fun q=>by rw [← q,Zb] at ha;exact sNo ha
   exact ⟨a,_,rfl,Zb _ _ _,rfl,t,rfl,by exact Eq.trans (Za hat) (Zb _ _ _),h0⟩
 ·clear hh hR hkl hkas
  intro y hy
  simp only [List.mem_cons,List.not_mem_nil,or_false] at hy
  rcases hy with rfl|rfl
  ·exact .inr ⟨F.kindOf rfl,F.cells _ rfl⟩
  ·exact .inl (F.kindOf rfl)
 (intro ds μ1 Z Z0;refine QF Z0 fun t Z1 ht h0=>?_;clear Z0;subst Z1)
 have hw:E.Wr t:=.inr h0
 let val:Int->AV:=fun p=>.dat (H1 (rowsOf p))
 refine Xs.seq (X1.forList (ds:=ms.map msD) (Φ:=fun f μ' l'=>f=.nxt/\Has l' "known" (.obj t)/\Has l' "messages" (.dat (Q0 ms))/\Has l' "rounds" (.dat (.list ((Zm ms ms.length).2.map fun r=>.list (Zc r))))/\μ' t=some (.dict ((Zm ms ms.length).1.map fun p=>(p,val p)))) O H (Zx F rfl) (fun Z=>rfl) (Ev.cell O rfl (F.kindOf rfl) rfl)
  (fun i μ' l'=>Has l' "known" (.obj t)/\Has l' "messages" (.dat (Q0 ms))/\Has l' "rounds" (.dat (.list ((Zm ms i).2.map fun r=>.list (Zc r))))/\μ' t=some (.dict ((Zm ms i).1.map fun p=>(p,val p)))) ⟨rfl,rfl,rfl,ht⟩ ?_ ?_) ?_
 ·clear hkl hkas
  intro i μ2 l2 d hd hI
  refine Xs.post fun Ψ1 mk1=>?_
  (refine VA hI fun k1 k2 k3 ht2=>?_;clear hI)
  have hi:i < ms.length:=by have:=(List.getElem?_eq_some_iff.mp hd).1;simpa using this
  generalize hks:(Zm ms i).1=keys at ht2
  have hlen:keys.length≤64:=by
   have:=(V0 ms i).1
   rw [hks] at this
   exact Nat.le_trans this (Nat.le_trans (Nat.mul_le_mul (Nat.le_of_lt (Nat.lt_of_lt_of_le hi hn)) hn) (by decide))
  have inK:∀ o,(Qt (keys.map fun p=>(p,val p)) o).isSome=decide (o∈keys):=fun o=>by
   rw [Q4];by_cases h:o∈keys <;> simp [h]
  refine Xs.compA H O (l0:=[("known",.obj t),("messages",.dat (Q0 ms))]) (ZB.cons (by exact k1) (ZB.cons (by exact k2) (ZB.nil _))) (as:=List.range ms.length) gN giN KG (p:=Y1 ms keys) (f:=fun p=>.int (p:Nat)) (ZD.of (by rw [F.sc];rfl)) (fun Z=>rfl) ?_ (fun L p hp=>?_) (fun L p hp Z=>?_) (by rw [List.length_range,sizeLine_eq];exact oA ‹_› rfl) (F.kindOf rfl) (US F.sc rfl) ?_
  ·clear hh hR
   exact Itr.range1 O (Ev.bui O rfl (F.kindOf rfl) rfl) rfl (Ev.call (f:=.builtin "len") (Ev.bui O rfl (F.kindOf rfl) rfl) trivial rfl (Evs.cons rfl (Ev.cell O rfl (F.kindOf rfl) rfl) Evs.nil) (by have:=Yg (C:=C) (μ:=μ2) (ms.map msD);rwa [List.length_map] at this)) (by exact oD ‹_› rfl)
  ·clear hR
   have hp':p < ms.length:=List.mem_range.mp hp
   delta Y1
   rw [← inK]
   refine Vr.one (Y8 (Tst.cmp rfl (Ev.loc (O.comp rfl) rfl (Zh (Zd O F.names) rfl) rfl) (Ev.cell (O.comp rfl) rfl (Zh (Zd O F.names) rfl) rfl) (WQ ht2 p)) (Z8 (O.comp rfl) rfl (Ev.compA (O.comp rfl) gI giI YL (ZD.of (by rw [Zd O F.names];rfl)) (fun Z=>rfl) (Itr.ints (O.comp rfl) (VN (n:=2) (VN (n:=p) (d:=msD (Zy ms p)) (Ev.cell (O.comp rfl) rfl (Zh (Zd O F.names) rfl) rfl) (Ev.loc (O.comp rfl) rfl (Zh (Zd O F.names) rfl) rfl) ?_ (by exact oX ‹_› ‹_› rfl) fun Z Z=>rfl) (Ev.int 2 _ _) rfl (by decide) fun Z Z=>rfl)) (fun L' o ho=>?_) (fun L' o ho Z=>?_) (by rw [sizeLine_eq];have:=hh p;exact oA ‹_› rfl)) (Ev.list Evs.nil rfl (by rw [sizeLine_eq];decide)) Bc))
   ·clear hh
    show (ms.map msD)[p]?=_
    rw [List.getElem?_map,List.getElem?_eq_getElem hp',Zy,List.getElem?_eq_getElem hp'];rfl
   ·clear hh
    rw [← inK]
    exact Vr.one (Tst.cmp rfl (Ev.loc ((O.comp rfl).comp rfl) rfl (Zh (Zd (O.comp rfl) (Zd O F.names)) rfl) rfl) (Ev.cell ((O.comp rfl).comp rfl) rfl (Zh (Zd (O.comp rfl) (Zd O F.names)) rfl) rfl) (WQ ht2 o))
   ·clear hh
    exact (Ev.loc ((O.comp rfl).comp rfl) rfl (Zh (Zd (O.comp rfl) (Zd O F.names)) rfl) rfl)
  ·clear hh hR
   exact (Ev.loc (O.comp rfl) rfl (Zh (Zd O F.names) rfl) rfl)
  have efree:((List.range ms.length).filter (Y1 ms keys)).map (fun (p:Nat)=>PyData.int (p:Nat))=Zc (ZC ms keys):=by
   rw [Zc,ZC,List.map_map];rfl
  rw [efree]
  refine Xs.seq (X1.forList (ds:=Zc (ZC ms keys)) (Φ:=fun f μ' l'=>f=.nxt/\Has l' "known" (.obj t)/\Has l' "messages" (.dat (Q0 ms))/\Has l' "rounds" (.dat (.list ((Zm ms i).2.map fun r=>.list (Zc r))))/\Has l' "free" (.dat (.list (Zc (ZC ms keys))))/\μ' t=some (.dict ((keys++ZC ms keys).map fun p=>(p,val p)))) O H (Zx F rfl) (fun Z=>rfl) (Ev.loc O rfl (F.kindOf rfl) rfl)
   (fun j μ' l'=>Has l' "known" (.obj t)/\Has l' "messages" (.dat (Q0 ms))/\Has l' "rounds" (.dat (.list ((Zm ms i).2.map fun r=>.list (Zc r))))/\Has l' "free" (.dat (.list (Zc (ZC ms keys))))/\μ' t=some (.dict ((keys++(ZC ms keys).take j).map fun p=>(p,val p)))) ⟨k1,k2,k3,rfl,by simpa using ht2⟩ ?_ ?_) ?_
  ·intro j μ3 l3 d hd hI
   refine Xs.post fun Ψ2 mk2=>?_
   (refine Qe hI fun m1 m2 m3 m4 ht3=>?_;clear hI)
   rw [Zc,List.getElem?_map] at hd
   (refine xEA (Option.map_eq_some_iff.mp hd) fun q hq Z0=>?_;subst Z0)
   have hq0:=hq
   rw [ZC,List.getElem?_map] at hq
   (refine xEA (Option.map_eq_some_iff.mp hq) fun p hp Z0=>?_;subst Z0)
   have hpm:p∈QT ms keys:=List.mem_of_getElem? hp
   refine xAA (WO hpm) fun n1 n2 n3=>?_
   have RO:=hR i hi p (by rw [hks];exact hpm)
   have hmsg:(ms.map msD)[p]?=some (msD (Zy ms p)):=by
    rw [List.getElem?_map,List.getElem?_eq_getElem n2,Zy,List.getElem?_eq_getElem n2];rfl
   have hhp:=hh p
   generalize hm:Zy ms p=m at hmsg n3 RO hhp
   obtain ⟨line,kind,held⟩:=m
   have nin:(p:Int)∉keys++(ZC ms keys).take j:=by
    intro h
    rcases List.mem_append.mp h with h|h
    ·exact n1 h
    ·clear hh hR
     have nd:=DD ms keys
     obtain ⟨j',hj',e⟩:=List.getElem_of_mem h
     have hjj:j' < j:=by have:=hj';rw [List.length_take] at this;omega
     replace e:=Eq.trans (Eq.symm List.getElem_take) e
     have hj2:=(List.getElem?_eq_some_iff.mp hq0)
     (refine xE hj2 fun hj3 e2=>?_;clear hj2)
     exact List.pairwise_iff_getElem.mp nd j' j (by exact Nat.lt_trans ‹_› ‹_›) hj3 hjj (e.trans e2.symm)
   refine Xs.unpackD O.handled H (xs:=["line","kind","held"]) (ds:=[.str line,.int kind,.list (Zc held)]) rfl (Ev.sub (l0:=[("place",.dat (.int (p:Nat))),("messages",.dat (Q0 ms))]) (VN (n:=p) (Ev.cell O rfl (F.kindOf rfl) rfl) (Ev.loc O rfl (F.kindOf rfl) rfl) hmsg (by exact oX ‹_› ‹_› rfl) fun Z Z=>rfl) (ZB.cons rfl (ZB.cons (by exact m2) (ZB.nil _)))) rfl ?_ rfl rfl ?_
   ·clear hh hR
    intro y hy
    simp only [List.mem_cons,List.not_mem_nil,or_false] at hy
    rcases hy with rfl|rfl|rfl
    ·exact .inl (F.kindOf rfl)
    ·exact .inl (F.kindOf rfl)
    ·exact .inl (F.kindOf rfl)
   refine Xs.assign H (Em.ofEv (d:=.dat (.list ((Qs (line,kind,held) rowsOf).map Zo))) (Ev.sub (l0:=[("held",.dat (.list (Zc held))),("line",.dat (.str line)),("known",.obj t)]) ?_ (ZB.cons rfl (ZB.cons rfl (ZB.cons (by exact m1) (ZB.nil _)))))) (Zx F rfl) rfl ?_
   ·clear hh hR
    refine ZW (a:=.list [Zo [line]]) (b:=.list (held.map fun o=>Zo ((rowsOf o).map Ze))) (Ev.list (ds:=[.dat (Zo [line])]) (Evs.cons rfl (Ev.list (ds:=[.dat (.str line)]) (Evs.cons rfl (Ev.loc O rfl (F.kindOf rfl) rfl) Evs.nil) rfl (by rw [sizeLine_eq];simp)) Evs.nil) rfl (by rw [sizeLine_eq];simp)) ?_ ?_
    ·refine Q6 O gI giI YL (f:=fun o=>Zo ((rowsOf o).map Ze)) (ZD.of (by rw [F.sc];rfl)) (fun Z=>rfl) (Itr.ints O (Ev.loc O rfl (F.kindOf rfl) rfl)) (fun L o ho=>?_) (by rw [sizeLine_eq];simp at hhp;exact oA ‹_› rfl)
     refine VN (n:=0) (Ev.dictItem (d:=val o) (Ev.cell (O.comp rfl) rfl (Zh (Zd O F.names) rfl) rfl) ht3 (Ev.loc (O.comp rfl) rfl (Zh (Zd O F.names) rfl) rfl) ?_ fun Z Z=>rfl) (Ev.int 0 _ _) rfl (by decide) fun Z Z=>rfl
     exact Eq.trans (Q4 _) (Eq.trans (if_pos (List.mem_append.mpr (.inl (n3 o ho)))) rfl)
    ·have e:(Qs (line,kind,held) rowsOf).map Zo=[Zo [line]]++held.map fun o=>Zo ((rowsOf o).map Ze):=by
      rw [Qs,List.map_cons,List.map_map];rfl
     rw [e]
     exact WZ (by simp at hhp ⊢;omega)
   (intro d μ4 Z0;refine xA Z0 fun Z1 Z2=>?_;clear Z0;subst Z1;subst Z2)
   refine Xs.setItem (k:=(p:Int)) (d:=val p) ?_ (Ev.sub (l0:=[("known",.obj t)]) (Ev.cell O rfl (F.kindOf rfl) rfl) (ZB.cons (by exact m1) (ZB.nil _))) (Ev.loc O rfl (F.kindOf rfl) rfl) ht3 hw ?_ rfl ?_
   ·clear hh hR
    refine Ev.sub (l0:=[("parts",.dat (.list ((Qs (line,kind,held) rowsOf).map Zo))),("kind",.dat (.int kind))]) ?_ (ZB.cons rfl (ZB.cons rfl (ZB.nil _)))
    refine Ev.call (f:=.ref 216) (Ev.glob O rfl (F.kindOf rfl) rfl) ⟨_,_,K'.kx 216 _ rfl,rfl⟩ rfl (Evs.cons rfl ?_ Evs.nil) (Zt.fn O (Oj (k:=k) K' RO.len RO.row) (by rw [F.k];exact Nat.le_refl _))
    have er:=RO.eq
    rw [hm] at er
    rw [← er]
    refine Oy O (as:=QL kind (Qs (line,kind,held) rowsOf)) (fun rows=>.dat (Zo rows)) id (ZD.of (by rw [F.sc];rfl)) rfl rfl (fun Z=>rfl) (fun Z Z=>rfl) ?_ (fun L a ha=>(Ev.loc (O.comp rfl) rfl (Zh (Zd O F.names) rfl) rfl)) ?_
    ·have ei:(QL kind (Qs (line,kind,held) rowsOf)).map (fun rows=>AV.dat (Zo rows))=((QL kind (Qs (line,kind,held) rowsOf)).map Zo).map AV.dat:=by rw [List.map_map];rfl
     rw [ei]
     refine Itr.of (d:=.dat (.list ((QL kind (Qs (line,kind,held) rowsOf)).map Zo))) ?_ (Its.list O _)
     refine Ui (b:=kind == 2) (Z8 O rfl (Ev.loc O rfl (F.kindOf rfl) rfl) (Ev.int 2 _ _) UE) (fun hb=>?_) fun hb=>?_
     ·rw [QL,if_pos hb]
      have:=Qx.rev ((Qs (line,kind,held) rowsOf).map Zo)
      rw [← List.map_reverse] at this
      exact Ev.slice (a:=Option.none) (b:=Option.none) (c:=some (-1)) (Ev.loc O rfl (F.kindOf rfl) rfl) trivial trivial (Ev.una (Ev.int 1 _ _) (UI 1)) (by decide) this (by rw [sizeLine_eq];simp [Qs] at hhp ⊢;exact oA ‹_› rfl) (fun o j=>[o,j]) fun Z Z=>rfl
     ·rw [QL,if_neg (by rw [hb];decide)]
      exact (Ev.loc O rfl (F.kindOf rfl) rfl)
    ·have e2:(QL kind (Qs (line,kind,held) rowsOf)).flatMap id=rowsOf p:=er
     rw [e2,sizeLine_eq];have:=RO.len;exact oB ‹_› rfl
   ·have:(ZC ms keys).length≤8:=by
     delta ZC QT
     rw [List.length_map]
     exact Nat.le_trans (List.length_filter_le _ _) (by rw [List.length_range];exact hn)
    rw [sizeLine_eq,List.length_map,List.length_append,List.length_take];omega
   refine Xs.nil (mk2 _ _ _ ⟨m1,m2,m3,m4,?_⟩)
   refine Eq.trans (Zb _ _ _) ?_
   have ed:=W5 (v:=val) (keys++(ZC ms keys).take j) nin
   have et:(ZC ms keys).take (j+1)=(ZC ms keys).take j++[(p:Int)]:=by rw [List.take_add_one,hq0];rfl
   rw [et,← List.append_assoc]
   exact congrArg (fun z=>some (MO.dict z)) ed
  ·clear hh hR
   (intro μ3 l3 Z0;refine Qe Z0 fun m1 m2 m3 m4 ht3=>?_;clear Z0)
   refine Xs.nil ⟨rfl,m1,m2,m3,m4,?_⟩
   rw [Zc,List.length_map,List.take_length] at ht3
   exact ht3
  ·clear hh hR
   (intro f μ3 l3 Z0;refine ZR Z0 fun Z1 m1 m2 m3 m4 ht3=>?_;clear Z0;subst Z1)
   refine Xs.assign H (Em.ofEv (d:=.dat (.list ((Zm ms (i+1)).2.map fun r=>.list (Zc r)))) (Ev.sub (l0:=[("rounds",.dat (.list ((Zm ms i).2.map fun r=>.list (Zc r)))),("free",.dat (.list (Zc (ZC ms keys))))]) ?_ (ZB.cons (by exact m3) (ZB.cons (by exact m4) (ZB.nil _))))) (Zx F rfl) rfl ?_
   ·refine ZW (a:=.list ((Zm ms i).2.map fun r=>.list (Zc r))) (b:=.list (if PyData.eqv (.list (Zc (ZC ms keys))) (.list [])=true then [] else [.list (Zc (ZC ms keys))])) (Ev.loc O rfl (F.kindOf rfl) rfl) ?_ ?_
    ·refine Ui (b:=!PyData.eqv (.list (Zc (ZC ms keys))) (.list [])) (Z8 O rfl (Ev.loc O rfl (F.kindOf rfl) rfl) (Ev.list Evs.nil rfl (by rw [sizeLine_eq];decide)) Mg) (fun hb=>?_) fun hb=>?_
     ·rw [if_neg (by simpa using hb)]
      exact Ev.list (ds:=[.dat (.list (Zc (ZC ms keys)))]) (Evs.cons rfl (Ev.loc O rfl (F.kindOf rfl) rfl) Evs.nil) rfl (by rw [sizeLine_eq];simp)
     ·rw [if_pos (by simpa using hb)]
      exact Ev.list Evs.nil rfl (by rw [sizeLine_eq];decide)
    ·have hrl:=Y2 ms i
     have e:(Zm ms (i+1)).2.map (fun r=>PyData.list (Zc r))=(Zm ms i).2.map (fun r=>.list (Zc r))++(if PyData.eqv (.list (Zc (ZC ms keys))) (.list [])=true then [] else [.list (Zc (ZC ms keys))]):=by
      show ((Zm ms i).2++_).map _=_
      rw [hks,List.map_append]
      congr 1
      split <;> rfl
     rw [e]
     refine WZ ?_
     rw [List.length_map]
     split <;> simp <;> omega
   (intro d μ4 Z0;refine xA Z0 fun Z1 Z2=>?_;clear Z0;subst Z1;subst Z2)
   refine Xs.nil (mk1 _ _ _ ⟨m1,m2,rfl,?_⟩)
   refine Eq.trans ht3 ?_
   show _=some (MO.dict (((Zm ms i).1++ZC ms (Zm ms i).1).map _))
   rw [hks]
 ·clear hh hR hkl hkas
  (intro μ2 l2 Z0;refine VA Z0 fun k1 k2 k3 ht2=>?_;clear Z0)
  rw [List.length_map] at k3 ht2
  exact Xs.nil ⟨rfl,k1,k2,k3,ht2⟩
 ·clear hh
  (intro f μ2 l2 Z0;refine Qe Z0 fun Z1 k1 k2 k3 ht2=>?_;clear Z0;subst Z1)
  have dk:=(V0 ms ms.length).2
  generalize hks:(Zm ms ms.length).1=keys at ht2 hkl hkas dk mk0
  have RO:∀ q∈keys,∃ p:Nat,q=(p:Int)/\DL ms rowsOf p:=fun q hq=>by
   refine Zn (dk q hq) fun j p h1 h2 h3=>?_
   exact ⟨p,h3,hR j h1 p h2⟩
  refine Xs.assign H (Em.ofEv (d:=.dat (.list (ks'.map (UA rowsOf)))) (Ev.sub (l0:=[("known",.obj t)]) ?_ (ZB.cons (by exact k1) (ZB.nil _)))) (Zx F rfl) rfl ?_
  ·clear hR
   refine Ev.call (f:=.builtin "sorted") (Ev.bui O rfl (F.kindOf rfl) rfl) trivial rfl (Evs.cons rfl ?_ Evs.nil) (Uy O (G:=UA rowsOf) (fun q=>⟨_,rfl⟩) hkl hkas)
   have ei:keys.map gI=(keys.map fun p=>(p,val p)).map fun kv=>AV.dat (.int kv.1):=by rw [List.map_map];rfl
   refine Q6 O gI giI YL (f:=UA rowsOf) (ZD.of (by rw [F.sc];rfl)) (fun Z=>rfl) (by rw [ei];exact Itr.of (Ev.cell O rfl (F.kindOf rfl) rfl) (Its.dictKeys O ht2)) (fun L q hq=>?_) (by rw [sizeLine_eq];exact oB ‹_› rfl)
   (refine xEA (RO q hq) fun p Z0 ro=>?_;subst Z0)
   have hg:Qt (keys.map fun p=>(p,val p)) (p:Int)=some (val p):=by exact Eq.trans (Q4 _) (Eq.trans (if_pos hq) rfl)
   refine Ev.list (ds:=[.dat (.int (p:Nat)),.dat (.str (ZM (rowsOf p))),.dat (VP (QU (rowsOf p) ((rowsOf p).map Ze)) (QU ((rowsOf p).map Ze) (rowsOf p)) (UT (rowsOf p) ((rowsOf p).map Ze)) (UW (rowsOf p) ((rowsOf p).map Ze)))]) (Evs.cons rfl (Ev.loc (O.comp rfl) rfl (Zh (Zd O F.names) rfl) rfl) (Evs.cons rfl ?_ (Evs.cons rfl ?_ Evs.nil))) rfl (by rw [sizeLine_eq];simp)
   ·clear hkl hkas
    refine Ev.meth B8 rfl rfl rfl (by decide) (Ev.str (by decide +kernel) _ _) Jn (Evs.cons rfl ?_ Evs.nil) (Gi ro.join ro.text)
    show Ev _ _ _ _ (.dat (Zo (((rowsOf p).map Ze).map fun r=>r++"\r\n")))
    rw [Oq]
    refine Q6 (O.comp rfl) gS giS DT (f:=fun r=>.str (r++"\r\n")) (ZD.of (by rw [Zd O F.names];rfl)) (fun Z=>rfl) (Itr.strs (O.comp rfl) (VN (n:=0) (Ev.dictItem (d:=val p) (Ev.cell (O.comp rfl) rfl (Zh (Zd O F.names) rfl) rfl) ht2 (Ev.loc (O.comp rfl) rfl (Zh (Zd O F.names) rfl) rfl) hg fun Z Z=>rfl) (Ev.int 0 _ _) rfl (by decide) fun Z Z=>rfl)) (fun L' r hr=>?_) (by rw [sizeLine_eq,List.length_map];have:=ro.len;exact oB ‹_› rfl)
    exact ZW (Ev.loc ((O.comp rfl).comp rfl) rfl (Zh (Zd (O.comp rfl) (Zd O F.names)) rfl) rfl) (Ev.str (by decide +kernel) _ _) (KM (ro.end_ r hr))
   ·clear hkl hkas
    exact VN (n:=1) (Ev.dictItem (d:=val p) (Ev.cell (O.comp rfl) rfl (Zh (Zd O F.names) rfl) rfl) ht2 (Ev.loc (O.comp rfl) rfl (Zh (Zd O F.names) rfl) rfl) hg fun Z Z=>rfl) (Ev.int 1 _ _) rfl (by decide) fun Z Z=>rfl
  (intro d μ3 Z0;refine xA Z0 fun Z1 Z2=>?_;clear Z0;subst Z1;subst Z2)
  refine Xs.ret (Em.ofEv (d:=.dat (.list [.bool (decide ((keys.length:Int) < ms.length)),.list ((Zm ms ms.length).2.map fun r=>.list (Zc r)),.list (ks'.map (UA rowsOf))])) (Ev.sub (l0:=[("told",.dat (.list (ks'.map (UA rowsOf)))),("rounds",.dat (.list ((Zm ms ms.length).2.map fun r=>.list (Zc r)))),("known",.obj t),("messages",.dat (Q0 ms))]) ?_ (ZB.cons rfl (ZB.cons (by exact k3) (ZB.cons (by exact k1) (ZB.cons (by exact k2) (ZB.nil _))))))) ?_
  ·refine Ev.list (ds:=[.dat (.bool (decide ((keys.length:Int) < ms.length))),.dat (.list ((Zm ms ms.length).2.map fun r=>.list (Zc r))),.dat (.list (ks'.map (UA rowsOf)))]) (Evs.cons rfl ?_ (Evs.cons rfl (Ev.loc O rfl (F.kindOf rfl) rfl) (Evs.cons rfl (Ev.loc O rfl (F.kindOf rfl) rfl) Evs.nil))) rfl (by rw [sizeLine_eq];simp)
   exact Ev.cmp rfl (Ev.call (f:=.builtin "len") (Ev.bui O rfl (F.kindOf rfl) rfl) trivial rfl (Evs.cons rfl (Ev.cell O rfl (F.kindOf rfl) rfl) Evs.nil) (by have:=BS (C:=C) ht2 (by rw [List.length_map];exact oA ‹_› rfl);rwa [List.length_map] at this)) (Ev.call (f:=.builtin "len") (Ev.bui O rfl (F.kindOf rfl) rfl) trivial rfl (Evs.cons rfl (Ev.cell O rfl (F.kindOf rfl) rfl) Evs.nil) (by have:=Yg (C:=C) (μ:=μ3) (ms.map msD);rwa [List.length_map] at this)) (Qo O Me)
  ·clear hR hkl hkas
   (intro d μ3 Z0;refine xA Z0 fun Z1 Z2=>?_;clear Z0;subst Z1;subst Z2)
   exact mk0 _ _ _ rfl
end Mine
namespace Mine
open PySem PySem.Spec PySem.W PyProof.Rows PySem.Calls PySem.MeetsSeq
set_option maxHeartbeats 1000000
section
variable {E:Ent}{C:Cx}{μ:Mu}{l:List (Str×AV)}{Φ:Zq}
theorem Bf (O:C.Ok) {nm:Str}{fp cpos:Pos}{e:Expr}{ds:List PyData} (hf:Ev C μ l (.Name nm fp) (.cal (.type "enumerate"))) (hn:Zu [e]=true) (he:Ev C μ l e (.dat (.list ds)))
  {N:Addr->Prop}{s:Shared} (S:St C N μ l s.heap) {Q:Value->Shared->Prop}{X:Value->Shared->Prop}
  (q:∀ (h2 h3:Heap) (t3:Nat) (a:Addr) (vs:List Value),Pu C.Fs s.heap h2->(∀ b o,h2.get? b=some o->h3.get? b=some o)->¬ N a->h2.IsList a vs.toArray->Rds N h2 vs ds->IsEnum h3 (h2.objs.size+1) h2.objs.size 0 .none->h3.IsListIter h2.objs.size a 0 ->
   Q (.ref (h2.objs.size+1)) { s with heap:=h3,toks:=t3 }) :
  wpAny (model pg C.w) C.A (eval (.Call (.Name nm fp) [e] [] cpos) C.env) (fun v s₁=>wpAny (model pg C.w) C.A (pyIter v) Q X s₁) X s:=by
 refine Call_Name rfl (hf N s S _ _ fun fv h1 t1 P1 R1=>?_)
 subst R1
 refine Qq (C:=C) (f:=.type "enumerate") trivial hn ((Evs.cons hn he Evs.nil) cpos N _ (S.pu P1) _ _ fun vs h2 t2 P2 R2=>⟨((S.pu P1).pu P2).wd.stays,?_⟩)
 (refine xEA R2.inv1 fun v Z0 r=>?_;subst Z0)
 (refine Zf (Rd.listE r) fun a us Z0 na la ra za=>?_;subst Z0)
 refine call_enumerate_list la fun h3 hE hI hsz K3=>?_
 exact wpAny_pyIter_enum hE (q h2 h3 _ a us (P1.trans P2) K3 na la ra hE hI)
theorem Pk {x y:Str}{px py tp:Pos}{k:Nat}{e it a:Addr}{vs:List Value}{ds:List PyData} (O:C.Ok) (H:Hdr C) (hkx:Zp C x) (hky:Zp C y) (hei:e≠it) (hae:a≠e) (hai:a≠it) (hsz:vs.length=ds.length) (inv:Nat->Mu->List (Str×AV)->Prop) :
  Wg E C [e,it] e (.Tuple [.Name x px,.Name y py] k tp) ds (fun i d l=>(y,.dat d)::(x,.dat (.int (i:Nat)))::l) inv (fun N Z i h=>((∃ old,IsEnum h e it i old)/\h.IsListIter it a i/\h.IsList a vs.toArray)/\¬ N a/\Rds N h vs ds):=by
 have w:=WalksT.enumerate (prog:=pg) (w:=C.w) (A:=C.A) O.handled e it a hei hae hai vs.toArray
 have hsz:vs.toArray.size=ds.length:=by exact Eq.trans List.size_toArray (Eq.trans hsz rfl)
 refine ⟨fun N μ1 l1 i d s Q X R hx I1 p1 T0 q r=>?_,fun N μ1 s Q X W T0 q=>w.done _ _ _ (by rw [hsz];exact T0.1) q⟩
 (refine xAA T0 fun T1 na1 R1=>?_;clear T0)
 refine w.item i _ _ _ (by rw [hsz];exact (List.getElem?_eq_some_iff.mp hx).1) T1 fun T vals g2 t2 hv hTn hT hM k2=>?_
 (refine QE hv fun ti v hvi Z0=>?_;subst Z0)
 refine r _ _ (w.go _ _ _ i T _ _ _ hM fun g3 T3 k3=>?_)
 have kk:∀ b o,b∉[e,it]->s.heap.get? b=some o->g3.get? b=some o:=fun b o n e=>k3 b o n (k2 b o n e)
 have al3:∀ c∈[e,it],∃ o,g3.get? c=some o:=fun c mc=>by
  simp only [List.mem_cons,List.not_mem_nil,or_false] at mc
  rcases mc with rfl|rfl
  ·(refine xA T3 fun Z0 Z=>?_;clear T3;refine xE Z0 fun Z hh=>?_;clear Z0);exact ⟨_,hh⟩
  ·(refine xAA T3 fun Z Z0 Z=>?_;clear T3;refine xEA Z0 fun o hh Z=>?_;clear Z0);exact ⟨o,hh⟩
 refine xA (I1.privs p1 kk al3) fun I3 fz3=>?_
 have hT3:g3.IsTuple T #[.int i ti,v]:=by
  (refine xEA hT fun o h1 h2=>?_;clear hT)
  exact ⟨o,k3 T o (w.apart i T g2 hM) h1,h2⟩
 have Rv:Rd N g3 v d:=by
  refine xEA ((R1.mono fz3).get hx) fun v' e1 e2=>?_
  have:vs[i]?=some v:=by simpa using hvi
  rw [this] at e1;obtain rfl:=Option.some.inj e1;exact e2
 show wpAny _ _ (do standAt tp;PySem.unpack (.ref T) (assignEach [.Name x px,.Name y py] C.env)) _ _ _
 refine wpAny_bind (wpAny_standAt ?_)
 refine ZL (Qj (env:=C.env) (ts:=[.Name x px,.Name y py]) (xs:=[x,y]) rfl) fun e1 e2 ps e3 e4=>?_
 refine wpAny_bind (wpAny_holding (wpAny_unpackItems_tuple (items:=#[.int i ti,v]) O.handled hT3 fun g4 K4=>?_))
 have P4:Pu C.Fs g3 g4:=.of_keeps fun b o e=>K4 b o (fun q=>by rw [q,get?_size_none] at e;exact noS e) e
 rw [e4]
 refine Im.storeAll H [x,y] _ [.int i ti,v] [.dat (.int (i:Nat)),.dat d] l1 _ _ _ (I3.pu P4) (.cons (.int _ _) (.cons (Rd.mono (P4.fz I3.st.wd.fsN) Rv) .nil)) rfl (by simp [e3]) (fun z hz=>by
  simp only [List.mem_cons,List.not_mem_nil,or_false] at hz
  rcases hz with rfl|rfl
  ·exact hkx
  ·exact hky) (fun j z f hz hf v s Q hQ=>?_) fun g5 t5 I5 K5=>?_
 ·replace hf:=Eq.trans (Eq.symm (List.getElem?_map)) hf
  (refine xEA (Option.map_eq_some_iff.mp hf) fun Z0 hz' Z1=>?_;rcases Z0 with ⟨y',p⟩;subst Z1)
  have:y'=z:=by
   have:=List.getElem?_zip_eq_some.mp hz'
   rw [hz] at this;exact (Option.some.inj this.1).symm
  subst this
  exact PyProof.Rows.assign_Name hQ
 have keep5:∀ b o,b∉C.Fs->(∀ n,C.env.cells.lookup n≠some b)->μ1 b=none->g3.get? b=some o->g5.get? b=some o:=fun b o n1 n2 n3 e=>K5.keep b o n1 n2 n3 (P4.keep b o n1 e)
 have a35:∀ b o,g3.get? b=some o->∃ o',g5.get? b=some o':=fun b o e=>let ⟨_,y⟩:=P4.fr b o e;K5.al b _ y
 refine q g5 t5 I5 (fun b o n1 n2 n3 n4 e=>keep5 b o n2 n3 n4 (kk b o n1 e)) (fun b o e'=>?_) fun N2 μ2 l2 g6 b c dd Z=>?_
 ·by_cases hq:b∈[e,it]
  ·refine xE (al3 b hq) fun o2 z=>?_;exact a35 b o2 z
  ·exact a35 b o (kk b o hq e')
 have pk6:∀ c'∈[e,it],∀ o,g3.get? c'=some o->g6.get? c'=some o:=fun c' mc o z=>c.keep c' o (p1 c' mc).fs (p1 c' mc).cl (p1 c' mc).mu (keep5 c' o (p1 c' mc).fs (p1 c' mc).cl (p1 c' mc).mu z)
 have fz36:Fz N N2 g3 g6:=by
  have z56:=I5.fz c dd
  refine ⟨fun b o n y=>z56.keep b o n (keep5 b o (fun m=>n (I3.st.wd.fsN b m)) (fun x q=>n (I3.own.cell x b q).1) (by
    cases hm:μ1 b with
    | none=>rfl
    | some m=>exact absurd (I3.st.wd.mu b m hm).1 n) y),fun b n=>(dd.new b n).elim .inl fun z=>.inr ?_⟩
  cases yy:g3.get? b with
  | none=>rfl
  | some o=>refine xE (a35 b o yy) fun Z zz=>?_;exact noS (Eq.trans (Eq.symm z) zz)
 refine xEA (id T3.2.2) fun oa hoa Z=>?_
 refine ⟨w.frame (i+1) g3 g6 T3 fun b mb o z=>?_,fz36.not na1 hoa,(R1.mono fz3).mono fz36⟩
 simp only [List.mem_cons,List.not_mem_nil,or_false] at mb
 rcases mb with rfl|rfl|rfl
 ·exact pk6 _ (by exact List.mem_cons_self) o z
 ·exact pk6 _ (by exact List.mem_cons_of_mem _ List.mem_cons_self) o z
 ·exact fz36.keep _ o na1 z
theorem X1.forEnum {x y nm:Str}{px py tp fp cpos pos:Pos}{k:Nat}{e:Expr}{body orelse:List Stmt}{ds:List PyData} (O:C.Ok) (H:Hdr C) (hkx:Zp C x) (hky:Zp C y)
  (hf:Ev C μ l (.Name nm fp) (.cal (.type "enumerate"))) (hn:Zu [e]=true) (he:Ev C μ l e (.dat (.list ds)))
  (inv:Nat->Mu->List (Str×AV)->Prop) (i0:inv 0 μ l)
  (step:∀ i μ l d,ds[i]?=some d->inv i μ l->Xs E C μ ((y,.dat d)::(x,.dat (.int (i:Nat)))::l) body (lp (inv (i+1)) Φ))
  (fin:∀ μ l,inv ds.length μ l->Xs E C μ l orelse Φ):X1 E C μ l (.For (.Tuple [.Name x px,.Name y py] k tp) (.Call (.Name nm fp) [e] [] cpos) body orelse pos) Φ:=by
 refine Gd (xs:=ds) (nm:=fun i d l=>(y,.dat d)::(x,.dat (.int (i:Nat)))::l) H (fun Z=>rfl) inv i0 step fin fun N s Im0 Q X q=>?_
 refine Bf O hf hn he Im0.st fun h2 h3 t3 a vs P2 k3 na la ra hE hI=>?_
 have n2:∀ c∈[h2.objs.size+1,h2.objs.size],h2.get? c=none:=fun c mc=>by
  simp only [List.mem_cons,List.not_mem_nil,or_false] at mc
  rcases mc with rfl|rfl
  ·exact Heap.get?_none_of_le (Nat.le_succ _)
  ·exact get?_size_none _
 refine xEA (id la) fun oa hoa Z=>?_
 have hlt:a < h2.objs.size:=Heap.lt_size hoa
 have hae:a≠h2.objs.size+1:=Nat.ne_of_lt (Nat.lt_succ_of_lt hlt)
 have hai:a≠h2.objs.size:=Nat.ne_of_lt hlt
 refine q [h2.objs.size+1,h2.objs.size] _ h2 h3 t3 _ P2 k3 n2 (fun c mc=>?_) (Pk (a:=a) (vs:=vs) O H hkx hky (Nat.succ_ne_self _) hae hai ra.length inv) ⟨⟨⟨_,hE⟩,hI,la.at fun o z=>k3 a o z⟩,fun n=>n.elim na fun m=>by simp [hae,hai] at m,ra.mono (Fz.un k3 n2)⟩
 simp only [List.mem_cons,List.not_mem_nil,or_false] at mc
 rcases mc with rfl|rfl
 ·exact ⟨_,hE⟩
 ·(refine xEA hI fun o hh Z=>?_;clear hI);exact ⟨o,hh⟩
end
section
variable {E:Ent}{C:Cx}{μ:Mu}{l:List (Str×AV)}{Φ:Zq}
theorem St.comp2 {N N':Addr->Prop}{h h':Heap}{sc:Scope}{x y:Str}{L:Addr}{m:Str->Option Value}{v u:Value}{d e:AV}
  (S:St C N μ l h) (O:C.Ok) (K:ZD sc C.env.scope.names l x) (hy:sc.names.lookup y=some .local) (P:Pu C.Fs h h') (fz:Fz N N' h h') (W:Wd C.w C.h₁ C.Fs N' μ h')
  (hn:h'.Ns L m) (hx:m x=some v) (hv:RdA N' h' v d) (hx2:m y=some u) (hu:RdA N' h' u e):St (C.comp sc (Zi C.env sc.names []) L) N' μ ((y,e)::(x,d)::l) h':=by
 have S1:=S.comp O K P fz W hn hx hv
 refine ⟨W,⟨⟨m,hn,fun z b he hk=>?_⟩,fun z b he hk=>?_⟩⟩
 ·rcases ZJ he with ⟨rfl,rfl⟩|⟨ne,he⟩
  ·exact ⟨u,hx2,hu⟩
  ·refine xEA S1.fm.ns fun m' hn' rr=>?_
   rcases ZJ he with ⟨rfl,rfl⟩|⟨ne',he⟩
   ·exact ⟨v,hx,hv⟩
   ·have hk':(QO C.env.scope.names sc.names).lookup z=some .local:=by rw [← Ql O.kind];exact hk
    rcases ZY hk' with ⟨q,_⟩|⟨q,_⟩
    ·rcases K.own z q with rfl|w
     ·exact absurd rfl ne'
     ·replace he:=Eq.trans (Eq.symm w) he;exact noS he
    ·cases q
 ·rcases ZJ he with ⟨rfl,rfl⟩|⟨ne,he⟩
  ·have hk2:(relabel sc C.env).names.lookup z=some .local:=lookup_relabel_local hy
   have hk3:(relabel sc C.env).names.lookup z=some .cell:=hk
   rw [hk2] at hk3;cases hk3
  ·exact S1.fm.cl z b he hk
theorem Dv (O:C.Ok) {elt e:Expr}{x y nm:Str}{px py tp fp cpos pos:Pos}{kk:Nat}{sc:Scope}{ds:List PyData}{f:Nat->PyData}
  (K:ZD sc C.env.scope.names l x) (hy:sc.names.lookup y=some .local) (hxy:x≠y)
  (hf:Ev C μ l (.Name nm fp) (.cal (.type "enumerate"))) (hn:Zu [e]=true) (hel:Ev C μ l e (.dat (.list ds)))
  (he:∀ L i d,ds[i]?=some d->Ev (C.comp sc (Zi C.env sc.names []) L) μ ((y,.dat d)::(x,.dat (.int (i:Nat)))::l) elt (.dat (f i)))
  (hz:ds.length≤sizeLine) {N:Addr->Prop}{s:Shared} (S:St C N μ l s.heap) {X:Value->Shared->Prop}{RR:Value->Addr->Result->Shared->Prop}
  (hRR:∀ D L h' tk m',Pu C.Fs s.heap h'->Rd (Un N [L]) h' (.ref D) (.list ((List.range ds.length).map f))->h'.Ns L m'->s.heap.get? L=none->RR (.ref D) L (.ok .next) { s with heap:=h',toks:=tk }) :
  wpAny (model pg C.w) C.A (eval (.Call (.Name nm fp) [e] [] cpos) C.env) (fun xv s₁=>wpAny (model pg C.w) C.A (pyIter xv) (fun it s₂=>wpAny (model pg C.w) C.A (newList []) (fun acc s₃ =>
   wpAny (model pg C.w) C.A (newFunctionEnv sc C.env.globals (Zi C.env sc.names []) [] C.env.qual none .none (some C.env)) (fun cenv s₄ =>
    codeAny (model pg C.w) C.A (.compStart (.ListComp elt [⟨.Tuple [.Name x px,.Name y py] kk tp,.Call (.Name nm fp) [e] [] cpos,[],0⟩] sc pos) 0 it acc { cenv with scope:=relabel sc C.env }) (RR acc cenv.locals) s₄) X s₃) X s₂) X s₁) X s:=by
 refine Bf O hf hn hel S fun h2 h1 t1 a vs P2 k21 na la ra hE hI=>?_
 have P1:Pu C.Fs s.heap h1:=P2.trans (.of_keeps k21)
 have n2:∀ c∈[h2.objs.size+1,h2.objs.size],h2.get? c=none:=fun c mc=>by
  simp only [List.mem_cons,List.not_mem_nil,or_false] at mc
  rcases mc with rfl|rfl
  ·exact Heap.get?_none_of_le (Nat.le_succ _)
  ·exact get?_size_none _
 have al1:∀ c∈[h2.objs.size+1,h2.objs.size],∃ o,h1.get? c=some o:=fun c mc=>by
  simp only [List.mem_cons,List.not_mem_nil,or_false] at mc
  rcases mc with rfl|rfl
  ·exact ⟨_,hE⟩
  ·(refine xEA hI fun o hh Z=>?_;clear hI);exact ⟨o,hh⟩
 refine xEA (id la) fun oa hoa Z=>?_
 have hlt:a < h2.objs.size:=Heap.lt_size hoa
 have hei:h2.objs.size+1≠h2.objs.size:=Nat.succ_ne_self _
 have hae:a≠h2.objs.size+1:=Nat.ne_of_lt (Nat.lt_succ_of_lt hlt)
 have hai:a≠h2.objs.size:=Nat.ne_of_lt hlt
 generalize h2.objs.size+1=e' at *
 generalize h2.objs.size=it at *
 refine wpAny_newObj_type ?_
 generalize hH2:h1.push { cls:=.type "list",dict:=none,data:=.seq ([]:List Value).toArray }=H2
 show wpAny (model pg C.w) C.A _ _ X { s with heap:=H2,toks:=t1 }
 refine wpAny_newFunctionEnv (s:={ s with heap:=H2,toks:=t1 }) K.cell (by intro y hy;exact absurd hy List.not_mem_nil) (fun h3 hns3 hsb3=>?_) K.kind
 have hD1:h1.get? h1.objs.size=none:=get?_size_none _
 have hD2:H2.get? h1.objs.size=some { cls:=.type "list",dict:=none,data:=.seq ([]:List Value).toArray }:=by rw [← hH2];exact Heap.get?_push_size _ rfl
 have hL2:H2.get? H2.objs.size=none:=get?_size_none _
 have hDL:h1.objs.size≠H2.objs.size:=by rw [← hH2,Heap.size_push];exact Nat.ne_of_lt (Nat.lt_succ_self _)
 have up12:∀ b o,h1.get? b=some o->H2.get? b=some o:=fun b o e=>by rw [← hH2];exact Heap.get?_push_of_some _ e
 have neL:∀ b o,H2.get? b=some o->b≠H2.objs.size:=fun b o e q=>by rw [q,hL2] at e;exact noS e
 have up23:∀ b o,H2.get? b=some o->h3.get? b=some o:=fun b o e=>hsb3.extBut b o (neL b o e) (Heap.get?_push_of_some _ e)
 have up13:∀ b o,h1.get? b=some o->h3.get? b=some o:=fun b o e=>up23 b o (up12 b o e)
 generalize hDg:h1.objs.size=D at *
 generalize hLg:H2.objs.size=L at *
 have hL1:h1.get? L=none:=by
  cases q:h1.get? L with
  | none=>rfl
  | some o=>replace hL2:=Eq.trans (Eq.symm (up12 _ _ q)) hL2;exact sNo hL2
 have sNone:∀ b,h1.get? b=none->s.heap.get? b=none:=fun b z=>by
  cases q:s.heap.get? b with
  | none=>rfl
  | some o=>refine xE (P1.fr _ _ q) fun Z z'=>?_;replace z':=Eq.trans (Eq.symm z) z';exact noS z'
 have fD:=sNone D hD1
 have fL:=sNone L hL1
 have wrF:∀ c∈[e',it],s.heap.get? c=none:=fun c mc=>by
  cases q:s.heap.get? c with
  | none=>rfl
  | some o=>refine xE (P2.fr _ _ q) fun Z z=>?_;replace z:=Eq.trans (Eq.symm (n2 c mc)) z;exact noS z
 have wrO:∀ b,h1.get? b=none->b∉[e',it]:=fun b z m=>by refine xE (al1 b m) fun o w=>?_;replace w:=Eq.trans (Eq.symm z) w;exact noS w
 have wrD:=wrO D hD1
 have wrL:=wrO L hL1
 have aD:a≠D:=fun q=>by rw [← q,k21 _ _ hoa] at hD1;exact sNo hD1
 have aL:a≠L:=fun q=>by rw [← q,k21 _ _ hoa] at hL1;exact sNo hL1
 have mem4:∀ b,b∈D::L::[e',it]->b=D∨b=L∨b∈[e',it]:=fun b m=>by simpa using m
 have newF:∀ b∈D::L::[e',it],s.heap.get? b=none:=fun b m=>by
  rcases mem4 b m with rfl|rfl|m
  ·exact fD
  ·exact fL
  ·exact wrF b m
 have NL:Un N (D::L::[e',it]) L:=.inr (by exact List.mem_cons_of_mem _ List.mem_cons_self)
 have ND:Un N (D::L::[e',it]) D:=.inr (by exact List.mem_cons_self)
 have Nw:∀ b∈[e',it],Un N (D::L::[e',it]) b:=fun b m=>.inr (by simp at m ⊢;rcases m with rfl|rfl <;> simp)
 have P3:Pu C.Fs s.heap h3:=P1.trans (.of_keeps up13)
 have nF:∀ b,s.heap.get? b=none->b∉C.Fs:=fun b e m'=>by refine ZE (S.wd.fr b m') fun o Z Z q Z=>?_;replace q:=Eq.trans (Eq.symm e) q;exact noS q
 have aF:a∉C.Fs:=fun m=>na (S.wd.fsN a m)
 have wk:=WalksT.enumerate (prog:=pg) (w:=C.w) (A:=C.A) O.handled e' it a hei hae hai vs.toArray
 have hsz:vs.toArray.size=ds.length:=by exact Eq.trans List.size_toArray (Eq.trans ra.length rfl)
 have ra3:Rds (Un N (D::L::[e',it])) h3 vs ds:=by
  refine ra.mono (⟨fun b o n e=>up13 b o (k21 b o e),fun b y=>y.elim .inl fun m=>.inr ?_⟩:Fz N (Un N (D::L::[e',it])) h2 h3)
  rcases mem4 b m with rfl|rfl|m
  ·cases q:h2.get? b with
   | none=>rfl
   | some o=>replace hD1:=Eq.trans (Eq.symm (k21 _ _ q)) hD1;exact sNo hD1
  ·cases q:h2.get? b with
   | none=>rfl
   | some o=>replace hL1:=Eq.trans (Eq.symm (k21 _ _ q)) hL1;exact sNo hL1
  ·exact n2 b m
 have kX:(compEnvC sc (Zi C.env sc.names []) L C.env).kindOf x=some .local:=lookup_relabel_local K.tgt
 have kY:(compEnvC sc (Zi C.env sc.names []) L C.env).kindOf y=some .local:=lookup_relabel_local hy
 have T0:(∃ old,IsEnum h3 e' it ((0:Nat):Int) old)/\h3.IsListIter it a 0/\h3.IsList a vs.toArray:=⟨⟨_,up13 _ _ hE⟩,hI.at fun o z=>up13 it o z,la.at fun o z=>up13 a o (k21 a o z)⟩
 have pm:∀ b,b∉[L,e',it]->b≠L/\b∉[e',it]:=fun b n=>⟨fun q=>n (by simp [q]),fun m=>n (List.mem_cons_of_mem _ m)⟩
 have w:Cw C (compEnvC sc (Zi C.env sc.names []) L C.env) (Un N (D::L::[e',it])) μ D e' L [L,e',it] (fun v Q X s₁=>wpAny (model pg C.w) C.A (letOwnedTupleGo (.Tuple [.Name x px,.Name y py] kk tp) (.ref e') v) (fun Z s'=>wpAny (model pg C.w) C.A (PySem.assign (.Tuple [.Name x px,.Name y py] kk tp) (compEnvC sc (Zi C.env sc.names []) L C.env) v) Q X s') X s₁) (List.range ds.length) (fun i=>(y,.dat (ds[i]?.getD .none))::(x,.dat (.int (i:Nat)))::l) s.heap
   (fun i h=>((∃ old,IsEnum h e' it i old)/\h.IsListIter it a i/\h.IsList a vs.toArray)/\Rds (Un N (D::L::[e',it])) h vs ds/\∃ m,h.Ns L m):={
  ns:=fun i g t=>t.2.2
  frame:=fun i g g' t k n fz=>by
   refine ⟨wk.frame i g g' t.1 fun b mb o zz=>?_,t.2.1.mono fz,n⟩
   simp only [List.mem_cons,List.not_mem_nil,or_false] at mb
   rcases mb with rfl|rfl|rfl
   ·exact k _ o (nF _ (wrF _ (by exact List.mem_cons_self))) (fun q=>wrD (by simp [← q])) (fun q=>wrL (by simp [← q])) zz
   ·exact k _ o (nF _ (wrF _ (by exact List.mem_cons_of_mem _ List.mem_cons_self))) (fun q=>wrD (by simp [← q])) (fun q=>wrL (by simp [← q])) zz
   ·exact k _ o aF aD aL zz
  item:=fun i j s' Q X R hx t P al qq r=>by
   refine xE (List.getElem?_eq_some_iff.mp hx) fun hlt hj=>?_
   rw [List.length_range] at hlt
   replace hj:=Eq.trans (Eq.symm (List.getElem_range _)) hj
   subst hj
   (refine xAA t fun hT hRa Zr0=>?_;refine xE Zr0 fun m hN=>?_;clear Zr0;clear t)
   obtain ⟨d,hd⟩:∃ d,ds[i]?=some d:=⟨_,List.getElem?_eq_getElem hlt⟩
   refine wk.item i s' _ _ (by rw [hsz];exact hlt) hT fun T vals g2 t2 hv hTn hTt hM k2=>?_
   (refine QE hv fun ti v hvi Z0=>?_;subst Z0)
   refine r _ _ (wk.go _ _ _ i T _ _ _ hM fun g3 T3 k3=>?_)
   have kk3:∀ b o,b∉[e',it]->s'.heap.get? b=some o->g3.get? b=some o:=fun b o n e=>k3 b o n (k2 b o n e)
   have hT3:IsTup g3 T #[.int i ti,v]:=by
    (refine QF hTt fun o h1 h2 h3=>?_;clear hTt)
    exact ⟨o,k3 T o (wk.apart i T g2 hM) h1,h2,h3⟩
   refine assign_Tuple_tuple O.handled hT3 rfl rfl fun g4 he4=>?_
   have k4:∀ b o,g3.get? b=some o->g4.get? b=some o:=fun b o e=>he4 b o (Nat.ne_of_lt (Heap.lt_size e)) e
   have hN4:g4.Ns L m:=hN.at' fun o e=>k4 L o (kk3 L o wrL e)
   refine assignInOrder_cons (wpAny_assign_Name (wpAny_storeName_local kX hN4 (fun g5 hn5 hs5=>?_) (by simp [compEnvC,relabel,K.kind])))
   have hs5:Heap.SameBut L g4 g5:=hs5
   refine assignInOrder_cons (wpAny_assign_Name (wpAny_storeName_local kY hn5 (fun g6 hn6 hs6=>?_) (by simp [compEnvC,relabel,K.kind])))
   have hs6:Heap.SameBut L g5 g6:=hs6
   refine assignInOrder_nil ?_
   have k36:∀ b o,b≠L->g3.get? b=some o->g6.get? b=some o:=fun b o n e=>hs6.extBut b o n (hs5.extBut b o n (k4 b o e))
   have P6:Pu C.Fs s.heap g6:=(((P.ext kk3 wrF).trans (.of_keeps k4)).write hs5 fL).write hs6 fL
   have fz6:Fz (Un N (D::L::[e',it])) (Un N (D::L::[e',it])) s'.heap g6:=⟨fun b o n e=>k36 b o (fun q=>n (q▸NL)) (kk3 b o (fun q=>n (Nw b q)) e),fun Z y=>.inl y⟩
   have T6:(∃ old,IsEnum g6 e' it ((i+1:Nat):Int) old)/\g6.IsListIter it a (i+1)/\g6.IsList a vs.toArray:=wk.frame (i+1) g3 g6 T3 fun b mb o z=>k36 b o (fun q=>by
    simp only [List.mem_cons,List.not_mem_nil,or_false] at mb
    rcases mb with rfl|rfl|rfl
    ·exact wrL (by simp [← q])
    ·exact wrL (by simp [← q])
    ·exact aL q) z
   have W6:Wd C.w C.h₁ C.Fs (Un N (D::L::[e',it])) μ g6:=S.wd.grow P6 newF fun b mb=>by
    rcases mem4 b mb with rfl|rfl|mb
    ·(refine xE al fun o e=>?_;clear al);exact ⟨o,k36 _ o hDL (kk3 _ o wrD e)⟩
    ·(refine ZE hn6 fun o Z Z e Z=>?_;clear hn6);exact ⟨o,e⟩
    ·simp only [List.mem_cons,List.not_mem_nil,or_false] at mb
     rcases mb with rfl|rfl
     ·(refine xA T6 fun Z0 Z=>?_;clear T6;refine xE Z0 fun Z hh=>?_;clear Z0);exact ⟨_,hh⟩
     ·(refine xAA T6 fun Z Z0 Z=>?_;clear T6;refine xEA Z0 fun o hh Z=>?_;clear Z0);exact ⟨o,hh⟩
   have Ra6:=hRa.mono fz6
   have Rv:Rd (Un N (D::L::[e',it])) g6 v d:=by
    refine xEA (Ra6.get hd) fun v' e1 e2=>?_
    have:vs[i]?=some v:=by simpa using hvi
    replace e1:=Eq.trans (Eq.symm this) e1;obtain rfl:=Option.some.inj e1;exact e2
   refine qq g6 _ ?_ ⟨T6,Ra6,_,hn6⟩ fun b o n e=>k36 b o (pm b n).1 (kk3 b o (pm b n).2 e)
   rw [hd]
   exact S.comp2 (d:=.dat (.int (i:Nat))) (e:=.dat d) O K hy P6 ⟨fun a o n e=>P6.keep a o (fun m=>n (S.wd.fsN a m)) e,fun a y=>y.imp id (newF a)⟩ W6 hn6 (v:=.int i ti) (u:=v) (by simp [hxy]) (.int _ _) (by simp) Rv
  done:=fun s' Q X t q=>by
   (refine xAA t fun hT Z Zr0=>?_;refine xE Zr0 fun m hN=>?_;clear Zr0;clear t)
   rw [List.length_range,← hsz] at hT
   exact wk.done s' _ _ hT fun g1 tk1 K1=>q g1 tk1 m (hN.at' fun o e=>K1 L o wrL e) fun b o n e=>K1 b o (pm b n).2 e
  ps0:=fun b m=>newF b (List.mem_cons_of_mem _ m)
  psN:=fun b m=>.inr (List.mem_cons_of_mem _ m)
  psD:=fun m=>(List.mem_cons.mp m).elim hDL wrD
  d0:=fD
  dN:=ND
  lps:=List.mem_cons_self }
 have hz':(List.range ds.length).length≤sizeLine:=by rw [List.length_range];exact hz
 have eF:(List.range ds.length).filter (fun Z=>true)=List.range ds.length:=List.filter_eq_self.mpr fun Z Z=>rfl
 have loop:∀ s₃:Shared,s₃={ s with heap:=h3,toks:=t1+([]:List (Str×Value)).length } ->
   codeAny (model pg C.w) C.A (.compLoop (.ListComp elt [⟨.Tuple [.Name x px,.Name y py] kk tp,.Call (.Name nm fp) [e] [] cpos,[],0⟩] sc pos) 0 (.ref e') (.ref D) (compEnvC sc (Zi C.env sc.names []) L C.env)) (RR (.ref D) L) s₃:=by
  rintro s₃ rfl
  refine LCp.codeAny_compLoop_pair (env:=compEnvC sc (Zi C.env sc.names []) L C.env) (G5 C (Un N (D::L::[e',it])) D s (List.range ds.length) (fun Z=>true) f (fun i h=>((∃ old,IsEnum h e' it i old)/\h.IsListIter it a i/\h.IsList a vs.toArray)/\Rds (Un N (D::L::[e',it])) h vs ds/\∃ m,h.Ns L m))
   (fun k s' hi=>w.turn hi (fun i j h tk ws hx hk St2 T2 P hD hR=>?_) (fun h tk m ws hn P hD hR=>?_) fun Z Z z=>z) ((List.range ds.length).length+1) ⟨h3,_,0,[],rfl,rfl,Nat.zero_le _,⟨T0,ra3,_,hns3⟩,P3,⟨_,up23 _ _ hD2⟩,.nil⟩
  ·refine w.app S (fun Z n=>.inl n) hz' hx hk St2 T2 P hD hR rfl ?_
   refine xE (List.getElem?_eq_some_iff.mp hx) fun hlt hj=>?_
   rw [List.length_range] at hlt
   replace hj:=Eq.trans (Eq.symm (List.getElem_range _)) hj
   subst hj
   have hd:ds[i]?=some ds[i]:=List.getElem?_eq_getElem hlt
   rw [hd]
   exact he L i _ hd
  ·have r:=w.list S (fun Z n=>.inl n) hz' hD hR
   rw [eF] at r
   exact hRR D L h tk m P r hn fL
 exact codeAny_compStart_list (loop _ rfl) (wk.self 0 _ _ _ T0 (loop _ rfl))
theorem Xs.compE {r:List Stmt} (H:Hdr C) (O:C.Ok) {elt e:Expr}{x y z nm:Str}{px py pz tp fp cpos pos spos:Pos}{kk:Nat}{sc:Scope}{ds:List PyData}{f:Nat->PyData}
  (K:ZD sc C.env.scope.names l x) (hy:sc.names.lookup y=some .local) (hxy:x≠y)
  (hf:Ev C μ l (.Name nm fp) (.cal (.type "enumerate"))) (hn:Zu [e]=true) (hel:Ev C μ l e (.dat (.list ds)))
  (he:∀ L i d,ds[i]?=some d->Ev (C.comp sc (Zi C.env sc.names []) L) μ ((y,.dat d)::(x,.dat (.int (i:Nat)))::l) elt (.dat (f i)))
  (hz:ds.length≤sizeLine) (hk:C.env.kindOf z=some .local)
  (hs:swapsWith (.ListComp elt [⟨.Tuple [.Name x px,.Name y py] kk tp,.Call (.Name nm fp) [e] [] cpos,[],0⟩] sc pos) (some (.Name z pz)) spos.line C.env=pure true)
  (hr:Xs E C μ ((z,.dat (.list ((List.range ds.length).map f)))::l) r Φ):Xs E C μ l (.Assign [.Name z pz] (.ListComp elt [⟨.Tuple [.Name x px,.Name y py] kk tp,.Call (.Name nm fp) [e] [] cpos,[],0⟩] sc pos) spos::r) Φ:=by
 intro N s I Q X q xx
 have S:=I.st
 refine wpAny_execs_cons ?_
 rw [exec_Assign_Name_used _ _ _ _ hs]
 refine wpAny_bind (wpAny_standAt (wpAny_bind ?_))
 show wpAny _ C.A (do let _ ← comprehension (.ListComp elt [⟨.Tuple [.Name x px,.Name y py] kk tp,.Call (.Name nm fp) [e] [] cpos,[],0⟩] sc pos) sc C.env _ (newList []) false (eval (.Call (.Name nm fp) [e] [] cpos) C.env) (some (PySem.assign (.Name z pz) C.env))) _ _ s
 have hcl:closureFor sc C.env=pure (Zi C.env sc.names []):=Qb fun n hn=>by
  refine xA (K.free n hn) fun k hl=>?_
  refine xE (Option.isSome_iff_exists.mp hl) fun d hd=>?_
  refine QE (S.fm.cl n d hd k) fun c v a Z=>?_
  rw [a];rfl
 refine wpAny_bind (wpAny_comprehension_free (g:=⟨.Tuple [.Name x px,.Name y py] kk tp,.Call (.Name nm fp) [e] [] cpos,[],0⟩) (gs:=[]) rfl (fun Z=>rfl) hcl K.kind K.locs (use:=some (PySem.assign (.Name z pz) C.env)) ?_)
 refine Dv O K hy hxy hf hn hel he hz S (RR:=fun acc L r s'=>compPost (model pg C.w) C.A X (some (PySem.assign (.Name z pz) C.env)) _ acc L r s') fun D L h' tk m' P R hn fL=>?_
 refine PyProof.Rows.assign_Name ?_
 refine ZE (id hn) fun oL Z Z hoL Z=>?_
 refine xAA (I.newPrivPu P fL hoL) fun I1 pr nL=>?_
 refine I1.store H.kind (s:={ s with heap:=h',toks:=tk }) (v:=.ref D) (d:=.dat (.list ((List.range ds.length).map f))) R (.inl hk) fun h2 t2 I2 fz2 K2=>?_
 refine ⟨m',hn.at' fun o e=>K2.keep L o pr.fs pr.cl pr.mu e,fun h3 hs3=>?_⟩
 have I3:=I2.drop pr (h':=h3) fun b o nb e=>hs3.extBut b o nb e
 have ne:∀ a o,s.heap.get? a=some o->a≠L:=fun a o e z=>by rw [z,fL] at e;exact noS e
 refine wpAny_pure (wpAny_pure (Xs.rest (s:=s) hr I3 ⟨fun a o n1 n2 n3 e=>hs3.extBut a o (ne a o e) (K2.keep a o n1 n2 n3 (P.keep a o n1 e)),fun a o e=>?_⟩ ⟨fun a na=>⟨.inl na,fun z=>nL (z▸na)⟩,fun a na=>na.1.elim .inl fun y=>.inr (by rw [List.mem_singleton.mp y];exact fL),fun a na=>.inl na⟩ q xx))
 refine xE (P.fr a o e) fun sl y=>?_
 refine xE (K2.al a _ y) fun o' z=>?_
 exact ⟨o',hs3.extBut a _ (ne a o e) z⟩
end
end Mine
namespace Mine
open PySem
noncomputable def Js (bs:List Bn) (n np:Int):List Bn:=bs.map fun b=>if b.1=n then (b.1,np,b.2.2) else b
noncomputable def UB (bs:List Bn) (rs:List Int):List Bn:=rs.foldl (fun bs n=>Js bs n (-1)) bs
noncomputable def DM (st:List Bn×List Int) (s:Int):List Bn×List Int :=
 match st.1.find? (fun b=>b.1=s) with
 | some b=>(Js st.1 s (b.2.1 - 1),if b.2.1 - 1=0 then st.2++[s] else st.2)
 | none=>st
noncomputable def Wt (st:List Bn×List Int) (n:Int):List Bn×List Int :=
 match st.1.find? (fun b=>b.1=n) with
 | some b=>b.2.2.foldl DM (Js st.1 n (-2),st.2)
 | none=>st
noncomputable def Uw (st:List Bn×List Int) (rs:List Int):List Bn×List Int:=rs.foldl Wt st
theorem YK (ns:List Nd) (n np:Int):Zg (ZI ns n np)=Js (Zg ns) n np:=by
 unfold Zg ZI Js
 rw [List.map_map,List.map_map]
 refine List.map_congr_left fun t Z=>?_
 simp only [Function.comp]
 split <;> rfl
theorem Yl:∀ (rs:List Int) (ns:List Nd),Zg (outs ns rs)=UB (Zg ns) rs
 | [],_=>rfl
 | n::rs,ns=>by
  show Zg (outs (ZI ns n (-1)) rs)=UB (Js (Zg ns) n (-1)) rs
  rw [Yl rs,YK]
theorem JZ (ns:List Nd) (n:Int):(Zg ns).find? (fun b=>b.1=n)=(ns.find? fun t=>t.n=n).map fun t=>(t.n,t.np,t.su):=by
 unfold Zg
 exact (List.find?_map)
theorem H7 (st:List Nd×List Int) (s:Int):DM (Zg st.1,st.2) s=(Zg (ZH st s).1,(ZH st s).2):=by
 unfold DM ZH
 simp only [JZ]
 cases st.1.find? (fun t=>t.n=s) with
 | none=>rfl
 | some t=>simp only [Option.map_some,YK]
theorem J0:∀ (su:List Int) (st:List Nd×List Int),su.foldl DM (Zg st.1,st.2)=(Zg (su.foldl ZH st).1,(su.foldl ZH st).2)
 | [],_=>rfl
 | s::su,st=>by
  rw [List.foldl_cons,List.foldl_cons,H7]
  exact J0 su (ZH st s)
theorem Dg (st:List Nd×List Int) (n:Int):Wt (Zg st.1,st.2) n=(Zg (QX st n).1,(QX st n).2):=by
 unfold Wt QX
 simp only [JZ]
 cases st.1.find? (fun t=>t.n=n) with
 | none=>rfl
 | some t =>
  simp only [Option.map_some]
  rw [← YK]
  exact J0 t.su (ZI st.1 n (-2),st.2)
theorem Yi:∀ (rs:List Int) (st:List Nd×List Int),Uw (Zg st.1,st.2) rs=(Zg (ZP st rs).1,(ZP st rs).2)
 | [],_=>rfl
 | n::rs,st=>by
  show Uw (Wt (Zg st.1,st.2) n) rs=_
  rw [Dg]
  exact Yi rs (QX st n)
noncomputable def okB (bs:List Bn) (rs:List Int):Bool :=
 rs.all (fun n=>bs.any fun b=>b.1 == n) && (List.range rs.length).all (fun i=>(Uw (UB bs rs,[]) (rs.take i)).1.any (fun b=>b.1 == rs.getD i 0 && b.2.1 == -1)) &&
 (List.range (rs.length+1)).all (fun i=>decide ((Uw (UB bs rs,[]) (rs.take i)).2.length≤1000))
noncomputable def Kz:Nat->List Bn×List Int->Option (List (List Int))
 | 0,_=>none
 | f+1,(bs,rd)=>if rd.isEmpty then some [] else if okB bs rd then (Kz f (Uw (UB bs rd,[]) rd)).map (rd::·) else none
noncomputable def GY (bs:List Bn):Bool:=bs.all fun b=>decide (b.2.2.length≤100) && b.2.2.all fun s=>bs.any fun c=>c.1 == s
end Mine
namespace Mine
open PySem PySem.Spec PySem.W PyProof.Rows PySem.Calls PySem.MeetsSeq
set_option maxHeartbeats 1000000
section
variable {E:Ent}{C:Cx}{μ:Mu}{l:List (Str×AV)}{Φ:Zq}{Ψ:AV->Mu->Prop}{Θ:Value->Value->Mu->Prop}
theorem DP {o:Expr}{name:Str}{apos pos:Pos}{es:List Expr}{x dx cl f:Addr}{fs:List (Str×AV)}{ds:List AV}{d:AV} (kx:(Kf C).In C.h₁) (hfn:∃ o fd,C.h₁.get? f=some o/\o.data=.func fd)
  (hb:attributeBase o name C.env (eval o C.env)=eval o C.env) (hl:(apos.endLine == pos.line)=true) (hn:Zu es=true) (hk:es.length < 30)
  (ho:Ev C μ l o (.obj x)) (hx:μ x=some (.inst cl dx)) (hd:μ dx=some (.ns fs)) (hno:fs.lookup name=none) (hg:plainGet (Kf C) cl name=true) (hf:findIn (Kf C) (.ref cl) name=some (some (.ref f))) (ht:typeIn (Kf C) (.ref f)=some (.type "function"))
  (ha:Evs C μ l es ds) (hF:Fn C μ (.ref f) (.obj x::ds) d):Ev C μ l (.Call (.Attribute o name apos) es [] pos) d:=by
 intro N s S Q X q
 rw [arm_eval_Call,hb]
 refine wpAny_bind (ho N s S _ _ fun va h1 t1 P1 R1=>?_)
 subst R1
 have W1:=(S.pu P1).wd
 (refine ZL (W1.mu x _ hx) fun Z Z ox hox Z0=>?_;subst Z0)
 (refine Qh (W1.mu dx _ hd) fun Z Z od hod en n Z0 rs=>?_;subst Z0)
 have KX:(Kf C).In h1:=fun a o e=>W1.stays a o (kx a o e)
 have II:InstAt h1 x ⟨.ref cl,some dx,.plain,#[]⟩ cl (some (dictOf en n)):=⟨hox,rfl,rfl,hod⟩
 refine wpAny_bind (wpAny_standAt ?_)
 have hfew:methodCallForm (es.length+([]:List Keyword).length) (backTo pos (starEach es C.env)) (backToKw pos (keywordEach [] C.env))=true:=by
  have e1:(backTo pos (starEach es C.env)).all (fun x=>!x.1)=true:=by
   have:=Zj (env:=C.env) (pos:=pos) hn
   rw [List.any_eq_false] at this
   rw [List.all_eq_true];intro x hx;simpa using this x hx
  unfold methodCallForm
  rw [e1]
  simpa [keywordEach,backToKw] using hk
 unfold methodCall
 rw [hfew]
 refine wpAny_bind (wpAny_holding ?_)
 refine method_fn (s:={ s with heap:=h1,toks:=t1 }) KX II (plainGet_of hg).1 (plainGet_of hg).2 hf ht (by show (lookIn name (dictOf en n)).map _=_;rw [lookIn_dict,rs.getL_none hno];rfl) ?_
 have hpos:methodCallPos true o C.env apos pos=pure pos:=by unfold methodCallPos;simp [hl]
 refine wpAny_bind (wpAny_of_eq hpos ?_)
 (refine QE hfn fun of fd hof hfd=>?_;clear hfn)
 refine callWith_function (Zw hn (ha pos N _ (S.pu P1) _ _ fun vs h2 t2 P2 R2=>⟨⟨((S.pu P1).pu P2).wd.stays f of hof,hfd⟩,?_⟩))
 exact hF N _ (.ref x::vs) ((S.pu P1).pu P2).wd (.cons rfl R2) _ _ fun v h' tk P r=>q v h' tk (P1.trans (P2.trans P)) r
theorem MFn.mono {w:World}{h₁:Heap}{k:Nat}{f:Addr}{ds:List AV}{D:Addr->Prop}{Ψ Ψ':AV->Mu->Prop}{Θ Θ':Value->Value->Mu->Prop} (h:MFn w h₁ k μ f ds D Ψ Θ) (i:∀ d μ',Ψ d μ'->Ψ' d μ') (j:∀ c t μ',Θ c t μ'->Θ' c t μ'):MFn w h₁ k μ f ds D Ψ' Θ' :=
 fun A envs N s vs AO W R RR q x=>h A envs N s vs AO W R RR (fun v d N' μ' h' tk a b c g r=>q v d N' μ' h' tk (i _ _ a) b c g r) fun e cls ctx N' μ' h1 h' tk a b c g X=>x e cls ctx N' μ' h1 h' tk (j _ _ _ a) b c g X
theorem MFn.fnN2 (O:C.Ok) {k:Nat}{f:Addr}{ds:List AV}{D:Addr->Prop} (h:MFn C.w C.h₁ k μ f ds D Ψ Θ) (hk:k≤C.k) (hD:∀ a,D a->μ a≠none/\E.Wr a) :
  FnM E C μ (.ref f) ds (fun d μ'=>Ψ d μ'/\QI E μ μ') (fun c t μ'=>Θ c t μ'/\QI E μ μ'):=by
 intro l N s vs I R Q X q x
 exact h.fnM O hk hD l N s vs I R Q X (fun v d N' μ' h' tk a b c g r=>q v d N' μ' h' tk ⟨a,I.newIn g⟩ b c g r) fun e cls ctx ph N' μ' h1 h' tk a b c g X1 hp=>x e cls ctx ph N' μ' h1 h' tk ⟨a,I.newIn g⟩ b c g X1 hp
theorem MFn.toPureRun {w:World}{h₁:Heap}{k:Nat}{f:Addr}{ds:List AV}{a b:PyData}{rs:List PyData}
  (h:MFn w h₁ k μ f ds (fun Z=>False) (fun d μ'=>∃ t ro,d=.obj t/\μ t=none/\μ ro=none/\μ' t=some (.list [.dat a,.obj ro,.dat b])/\μ' ro=some (.list (rs.map .dat))) (fun Z Z Z=>False))
  (hz:rs.length≤sizeLine):Zt w h₁ k μ f ds (.dat (.list [a,.list rs,b])):=by
 intro A envs N s vs AO W R RR q
 refine h A envs N s vs AO W R RR (fun v d N' μ' h' tk hp mt gr W' r=>?_) fun Z Z Z Z Z Z Z Z x=>x.elim
 (refine Zf hp fun t ro Z0 t0 r0 ht hr=>?_;clear hp;subst Z0)
 subst r
 have nn:∀ x,μ x=none->μ' x≠none->¬ N x:=fun x e1 e2 n=>by
  refine xE (W.nhi x n) fun o e=>?_
  rcases gr.mu x e2 with y|y
  ·exact y e1
  ·exact noS (Eq.trans (Eq.symm y) e)
 refine q _ h' tk mt.toPu ?_
 (refine Qh (W'.mu t _ ht) fun Z Z o ho us n Z0 rr=>?_;subst Z0)
 (refine VL rr.inv3 fun v1 v2 v3 Z0 r1 r2 r3=>?_;subst Z0)
 subst r2
 (refine Qh (W'.mu ro _ hr) fun Z Z o2 ho2 us2 n2 Z0 rr2=>?_;subst Z0)
 refine Rd.list ho (nn t t0 (by rw [ht];exact Option.some_ne_none _)) rfl rfl ?_ (by show 3≤sizeLine;rw [sizeLine_eq];decide) rfl
 refine .cons (Rd.weak gr.up r1) (.cons ?_ (.cons (Rd.weak gr.up r3) .nil))
 refine Rd.list ho2 (nn ro r0 (by rw [hr];exact Option.some_ne_none _)) rfl rfl ?_ hz rfl
 have:=(rr2.datas (QK rs)).weak gr.up
 exact this
end
end Mine
namespace Mine
open PySem PySem.Spec PySem.W PyProof.Rows PySem.Calls PySem.MeetsSeq
set_option maxHeartbeats 2000000
structure Qy (E:Ent) (μ:Mu) (x dx d:Addr) (ready:AV) (po nf:Int) (ns:List Nd) (s j ro:Addr) (sent judged:List (Int×AV)) (rl:List AV):Prop where
 ts:Ua μ x dx d ready po nf
 nsa:QP μ d ns
 hs:μ s=some (.dict sent)
 hj:μ j=some (.dict judged)
 hro:μ ro=some (.list rl)
 wdx:E.h0.get? dx=none
 wd:E.h0.get? d=none
 ws:E.h0.get? s=none
 wj:E.h0.get? j=none
 wro:E.h0.get? ro=none
 wns:∀ t∈ns,E.h0.get? t.ia=none/\E.h0.get? t.sa=none
 sd:s≠d
 jd:j≠d
 sj:s≠j
 rosa:∀ t∈ns,ro≠t.sa
theorem Hv {C:Cx}{μ:Mu}{l:List (Str×AV)} (K:C.env.scope.kind=.function) (nms:Nms C.h₁) (hg:C.env.globals=mainGlobals) {x:Str}{pos:Pos}{d:AV} (hl:OP.lookup x=some d) (hk:C.env.kindOf x=some .globalImplicit) (hd:(x == ("__debug__":Str))=false):Ev C μ l (.Name x pos) d:=by
 intro N s S Q E q
 refine Vk nms.nm fun mg mb a b c e=>?_
 refine xEA (c x d hl) fun v f g=>?_
 refine Name_function_global K hk (loadGlobal_global (mg:=mg) ?_ f ?_) hd
 ·rw [hg];exact a.keeps S.wd.stays
 ·exact q v s.heap s.toks (.refl _ _) (RdA.mono ⟨fun a o Z e=>S.wd.stays a o e,fun a n=>.inr (S.wd.nlo a n)⟩ g)
theorem HK {ns:List Nd} (h:GY (Zg ns)=true):(∀ t∈ns,t.su.length≤100)/\∀ t∈ns,∀ s∈t.su,∃ u∈ns,u.n=s:=by
 unfold GY at h
 rw [List.all_eq_true] at h
 have key:∀ t∈ns,t.su.length≤100/\∀ s∈t.su,∃ u∈ns,u.n=s:=fun t ht=>by
  have:=h (t.n,t.np,t.su) (List.mem_map.mpr ⟨t,ht,rfl⟩)
  rw [Bool.and_eq_true,decide_eq_true_eq,List.all_eq_true] at this
  refine ⟨this.1,fun s hs=>?_⟩
  refine xEA (List.any_eq_true.mp (this.2 s hs)) fun c hc e=>?_
  (refine xEA (List.mem_map.mp hc) fun u hu Z0=>?_;subst Z0)
  exact ⟨u,hu,by exact beq_iff_eq.mp e⟩
 exact ⟨fun t ht=>(key t ht).1,fun t ht=>(key t ht).2⟩
noncomputable def MF (ns:List Nd):Prop:=(∀ t∈ns,t.su.length≤100)/\∀ t∈ns,∀ s∈t.su,∃ u∈ns,u.n=s
theorem MF.same {a b:List Nd} (h:ZA a b) (p:MF b):MF a:=by
 refine ⟨fun t ht=>?_,fun t ht s hs=>?_⟩
 ·refine ZU (h.mem ht) fun u hu Z Z Z e=>?_
  rw [← e];exact p.1 u hu
 ·refine ZU (h.mem ht) fun u hu Z Z Z e=>?_
  obtain ⟨v,hv,e2⟩:=p.2 u hu s (by rw [e];exact hs)
  refine QF (h.symm.mem hv) fun v' hv' e3 Z=>?_
  exact ⟨v',hv',e3.trans e2⟩
theorem ZA.outs:∀ (rs:List Int) (ns:List Nd),ZA (outs ns rs) ns
 | [],ns=>ZA.refl ns
 | n::rs,ns=>(ZA.outs rs (ZI ns n (-1))).trans (ZA.set ns n (-1))
theorem Gh {f:Nat}{bs:List Bn}{rd:List Int}{rest:List (List Int)} (h:Kz f (bs,rd)=some rest):(rd=[]/\rest=[])∨(rd≠[]/\okB bs rd=true/\∃ f' rest',rest=rd::rest'/\Kz f' (Uw (UB bs rd,[]) rd)=some rest'):=by
 cases f with
 | zero=>exact noS h
 | succ f =>
  unfold Kz at h
  cases hr:rd.isEmpty with
  | true=>rw [hr,if_pos rfl] at h;exact .inl ⟨List.isEmpty_iff.mp hr,(Option.some.inj h).symm⟩
  | false =>
   rw [hr,if_neg (by decide)] at h
   cases ho:okB bs rd with
   | false=>rw [ho,if_neg (by decide)] at h;exact noS h
   | true =>
    rw [ho,if_pos rfl] at h
    refine xEA (Option.map_eq_some_iff.mp h) fun r' h1 h2=>?_
    exact .inr ⟨fun q=>(by rw [q] at hr;exact tF hr),rfl,f,r',h2.symm,h1⟩
theorem PV {ns:List Nd}{rd:List Int} (h:okB (Zg ns) rd=true):(∀ n∈rd,∃ t∈ns,t.n=n)/\(∀ i n,rd[i]?=some n->∃ t∈(ZP (outs ns rd,[]) (rd.take i)).1,t.n=n/\t.np=-1)/\∀ i,(ZP (outs ns rd,[]) (rd.take i)).2.length≤1000:=by
 unfold okB at h
 rw [Bool.and_eq_true,Bool.and_eq_true,List.all_eq_true,List.all_eq_true,List.all_eq_true] at h
 (refine QW fun ZG Zk=>?_;refine xA h fun Z0 h3=>?_;refine xA Z0 fun h1 h2=>?_;clear Z0;refine Zk ?_;clear Zk ZG)
 have bd:∀ i,Uw (UB (Zg ns) rd,[]) (rd.take i)=(Zg (ZP (outs ns rd,[]) (rd.take i)).1,(ZP (outs ns rd,[]) (rd.take i)).2):=fun i=>by
  rw [← Yl];exact Yi (rd.take i) (outs ns rd,[])
 refine ⟨fun n hn=>?_,fun i n hi=>?_,fun i=>?_⟩
 ·refine xEA (List.any_eq_true.mp (h1 n hn)) fun c hc e=>?_
  (refine xEA (List.mem_map.mp hc) fun t ht Z0=>?_;subst Z0)
  exact ⟨t,ht,by exact beq_iff_eq.mp e⟩
 ·have hlt:=(List.getElem?_eq_some_iff.mp hi).1
  have:=h2 i (List.mem_range.mpr hlt)
  rw [bd i] at this
  refine xEA (List.any_eq_true.mp this) fun c hc e=>?_
  (refine xEA (List.mem_map.mp hc) fun t ht Z0=>?_;subst Z0)
  rw [Bool.and_eq_true,beq_iff_eq,beq_iff_eq] at e
  refine ⟨t,ht,?_,e.2⟩
  have e1:=e.1
  rw [List.getD_eq_getElem?_getD,hi] at e1
  exact e1
 ·by_cases hi:i≤rd.length
  ·have:=h3 i (List.mem_range.mpr (by exact Nat.lt_succ_of_le ‹_›))
   rw [bd i] at this
   exact of_decide_eq_true this
  ·have e:rd.take i=rd.take rd.length:=by rw [List.take_length,List.take_of_length_le (by exact Nat.le_of_not_le ‹_›)]
   rw [e]
   have:=h3 rd.length (List.mem_range.mpr (by exact Nat.le_refl _))
   rw [bd rd.length] at this
   exact of_decide_eq_true this
theorem Qy.ext {E:Ent}{μ μ':Mu}{x dx d:Addr}{ready:AV}{po nf:Int}{ns:List Nd}{s j ro:Addr}{sent judged:List (Int×AV)}{rl:List AV} (S:Qy E μ x dx d ready po nf ns s j ro sent judged rl) (h:∀ y,μ y≠none->μ' y=μ y):Qy E μ' x dx d ready po nf ns s j ro sent judged rl:=by
 have g:∀ {y m},μ y=some m->μ' y=some m:=fun {y m} e=>by rw [h y (by rw [e];exact Option.some_ne_none m)];exact e
 exact { S with ts:=⟨g S.ts.x,g S.ts.dx⟩,nsa:=⟨g S.nsa.dict,fun t ht=>g (S.nsa.info t ht),fun t ht=>g (S.nsa.succ t ht),S.nsa.nd,S.nsa.sd⟩,hs:=g S.hs,hj:=g S.hj,hro:=g S.hro }
theorem Qy.put {E:Ent}{μ:Mu}{x dx d r:Addr}{po nf:Int}{ns:List Nd}{s j ro:Addr}{sent judged A B:List (Int×AV)}{rl rr:List AV} (S:Qy E μ x dx d (.obj r) po nf ns s j ro sent judged rl) (hr:μ r=some (.list rr)):Qy E (upd (upd μ s (.dict A)) j (.dict B)) x dx d (.obj r) po nf ns s j ro A B rl/\upd (upd μ s (.dict A)) j (.dict B) r=some (.list rr):=by
 have keep:∀ {y:Addr}{m:MO},μ y=some m->y≠s->y≠j->upd (upd μ s (.dict A)) j (.dict B) y=some m:=fun h1 h2 h3=>by exact Eq.trans (Za h3) (Eq.trans (Za h2) h1)
 refine ⟨{ S with ts:=⟨keep S.ts.x (kd2 S.ts.x S.hs rfl) (kd2 S.ts.x S.hj rfl),keep S.ts.dx (kd2 S.ts.dx S.hs rfl) (kd2 S.ts.dx S.hj rfl)⟩,nsa:=⟨keep S.nsa.dict (Ne.symm S.sd) (Ne.symm S.jd),fun t ht=>keep (S.nsa.info t ht) (kd2 (S.nsa.info t ht) S.hs rfl) (kd2 (S.nsa.info t ht) S.hj rfl),fun t ht=>keep (S.nsa.succ t ht) (kd2 (S.nsa.succ t ht) S.hs rfl) (kd2 (S.nsa.succ t ht) S.hj rfl),S.nsa.nd,S.nsa.sd⟩,hs:=by exact Eq.trans (Za S.sj) (Zb _ _ _),hj:=Zb _ _ _,hro:=keep S.hro (kd2 S.hro S.hs rfl) (kd2 S.hro S.hj rfl) },keep hr (kd2 hr S.hs rfl) (kd2 hr S.hj rfl)⟩
theorem Qy.app {E:Ent}{μ:Mu}{x dx d r:Addr}{po nf:Int}{ns:List Nd}{s j ro:Addr}{sent judged:List (Int×AV)}{rl rl' rr:List AV} (S:Qy E μ x dx d (.obj r) po nf ns s j ro sent judged rl) (hr:μ r=some (.list rr)) (rro:r≠ro):Qy E (upd μ ro (.list rl')) x dx d (.obj r) po nf ns s j ro sent judged rl'/\upd μ ro (.list rl') r=some (.list rr):=by
 have keep:∀ {y:Addr}{m:MO},μ y=some m->y≠ro->upd μ ro (.list rl') y=some m:=fun h1 h2=>by exact Eq.trans (Za h2) h1
 refine ⟨{ S with ts:=⟨keep S.ts.x (kd2 S.ts.x S.hro rfl),keep S.ts.dx (kd2 S.ts.dx S.hro rfl)⟩,nsa:=⟨keep S.nsa.dict (kd2 S.nsa.dict S.hro rfl),fun t ht=>keep (S.nsa.info t ht) (kd2 (S.nsa.info t ht) S.hro rfl),fun t ht=>keep (S.nsa.succ t ht) (Ne.symm (S.rosa t ht)),S.nsa.nd,S.nsa.sd⟩,hs:=keep S.hs (kd2 S.hs S.hro rfl),hj:=keep S.hj (kd2 S.hj S.hro rfl),hro:=Zb _ _ _ },keep hr rro⟩
noncomputable def Zv (ms:List Msg):Nat->List Bn
 | 0=>[]
 | i+1=>Bu (Zv ms i) (i:Nat) (Zy ms i).2.2
structure MI (ms:List Msg) (rowsOf:Int->List Str) (p:Nat) (text:Str):Prop where
 line:ZO ((Zy ms p).1++Y6 p)=true
 eqn:Txt.join "" (QL (Zy ms p).2.1 (Q5 p (Zy ms p).1 (Zy ms p).2.2 fun o=>ZM (rowsOf o)))=text
 join:JoinOk "" (QL (Zy ms p).2.1 (Q5 p (Zy ms p).1 (Zy ms p).2.2 fun o=>ZM (rowsOf o)))=true
 ok:ZO text=true
 len:text.length+(text.length+1) * 1≤16777216
 rep:ZO (Txt.replace text "\r\n" "\n")=true
 rows:WE (Txt.replace text "\r\n" "\n") "\n" (rowsOf p)
 told:∀ (w:World) (h₁:Heap),K1 w h₁->∀ (k:Nat) (μ:Mu),Zt w h₁ (k+1) μ 55 [.dat (.str text)] (.dat (.str (ZM (rowsOf p))))
 after:WE (ZM (rowsOf p)) "\r\n" ((rowsOf p).map Ze)
 l64:(rowsOf p).length < 64
noncomputable def Wh (rowsOf:Int->List Str) (p:Int):AV:=.dat (.str (ZM (rowsOf p)))
noncomputable def Vw (rowsOf:Int->List Str) (p:Int):AV:=.dat (VH (rowsOf p) ((rowsOf p).map Ze))
noncomputable def DW (rowsOf:Int->List Str) (p:Int):PyData:=.list [.int p,.str (ZM (rowsOf p)),VH (rowsOf p) ((rowsOf p).map Ze)]
theorem Pq {w:World}{h₁:Heap} (K:K1 w h₁) {k:Nat}{μ:Mu}{ms:List Msg}{rowsOf:Int->List Str}{texts:Nat->Str}{rs:List (List Int)}{ks':List Int}{F:Nat}{b:Bool}{f:Nat} (hn:ms.length≤8) (hh:∀ p,(Zy ms p).2.2.length≤10)
  (hpre:∀ i,i≤ms.length->(Zv ms i).length≤500/\∀ c∈Zv ms i,c.2.2.length≤90)
  (hsu:GY (Zv ms ms.length)=true) (hb:Wc (suB (Zv ms ms.length)) F ((Zv ms ms.length).map (·.1)) []=some b)
  (hrun:Kz f (Zv ms ms.length,Vh (Zv ms ms.length))=some rs) (hr64:∀ r∈rs,r.length < 64)
  (hord:∀ (pre:List Int) (p:Int) (post:List Int),rs.flatten=pre++p::post->∃ q:Nat,p=(q:Int)/\q < ms.length/\p∉pre/\(∀ o∈(Zy ms q).2.2,o∈pre)/\MI ms rowsOf q (texts q))
  (hkl:rs.flatten.length < 64) (hrl:rs.length≤64) (hkas:Vo rs.flatten=some ks') :
  Zt w h₁ (k+6) μ 206 [.dat (Q0 ms)] (.dat (.list [.bool b,.list (rs.map fun r=>.list (Zc (Zl iLt r))),.list (ks'.map (DW rowsOf))])):=by
 refine MFn.toPureRun ?_ (by rw [List.length_map,sizeLine_eq];exact oA ‹_› rfl)
 refine MFn.of_body (k:=k+5) (ps:=["messages"]) K.nms ⟨⟨_,K.kx 206 _ rfl,rfl⟩,Zs K rfl rfl rfl,rfl,rfl,rfl,rfl,by decide,by decide,by decide,rfl,rfl,rfl,fun vs hl=>?_⟩ rfl fun E C F H hD hold hF0=>?_
 ·clear hh hpre hsu hb hrun hord hkas
  revert vs;exact KO fun Z=>rfl
 have O:=F.ok
 have K':K1 C.w C.h₁:=by rw [F.w,F.h₁];exact K
 have kx:(Kf C).In C.h₁:=K'.kx
 have ck:=F.k
 refine Xs.post fun Ψ0 mk0=>?_
 refine Xs.unpackT O.handled H (xs:=["sorter","sent","rounds","judged","ring"]) (Ψ:=fun ds μ'=>∃ x dx d s j ro,ds=[.obj x,.obj s,.obj ro,.obj j,.dat (.bool false)]/\Qy E μ' x dx d (.dat .none) 0 0 [] s j ro [] [] []/\μ ro=none) rfl ?_ ?_ rfl rfl ?_
 ·clear hh hpre hsu hb hrun hord hkas
  refine Em.mono (Em.tupM (Ψa:=fun ds μ'=>ds.length≤5/\∃ x dx d s j ro,ds=[.obj x,.obj s,.obj ro,.obj j,.dat (.bool false)]/\Qy E μ' x dx d (.dat .none) 0 0 [] s j ro [] [] []/\μ ro=none) (Ems.cons rfl (Em.callM (Θ:=fun Z Z Z=>False) kx rfl (Ev.glob O rfl (F.kindOf rfl) rfl) rfl (Ems.nil (Ψ:=fun ds μ'=>ds=[]/\μ'=μ) ⟨rfl,rfl⟩) (fun ds μ' h=>by
   rw [h.1,h.2]
   exact Dm O kx (k:=1) (by exact oF ‹_› rfl) (Ψ:=fun x dx μ'=>∃ dd,upd (upd μ dx (.ns [])) x (.inst 171 dx) dd=none/\Ua μ' x dx dd (.dat .none) 0 0/\μ' dd=some (.dict [])/\∀ y,y≠dx->y≠dd->μ' y=upd (upd μ dx (.ns [])) x (.inst 171 dx) y) fun x dx hx hdx hne=>Hn (k:=0) K' (Zb _ _ _) (by exact Eq.trans (Za (Ne.symm hne)) (Zb _ _ _))) (fun Z Z Z z=>z.elim)) ?_) ?_) ?_
  ·(intro Z μ1 Z0;refine xEE Z0 fun x dx Zr0=>?_;refine ZK Zr0 fun Z1 hx hdx hne wx wdx Z2 nw=>?_;clear Zr0;clear Z0;subst Z1;refine Z6 Z2 fun dd h0 T hdd fr=>?_;clear Z2)
   refine Ems.cons rfl (Em.dict0 O.nms) ?_
   (intro Z μ2 Z0;refine Z6 Z0 fun s Z1 Z2 ws hs=>?_;clear Z0;subst Z1;subst Z2)
   refine Ems.cons rfl Em.list0 ?_
   (intro Z μ3 Z0;refine Z6 Z0 fun ro Z1 Z2 wro hro=>?_;clear Z0;subst Z1;subst Z2)
   refine Ems.cons rfl (Em.dict0 O.nms) ?_
   (intro Z μ4 Z0;refine Z6 Z0 fun j Z1 Z2 wj hj=>?_;clear Z0;subst Z1;subst Z2)
   refine Ems.cons rfl (Em.ofEv (d:=.dat (.bool false)) (Ev.bool _ _ _)) ?_
   (intro Z μ5 Z0;refine xA Z0 fun Z1 Z2=>?_;clear Z0;subst Z1;subst Z2)
   have nn:∀ {ν:Mu}{a b:Addr}{m:MO},ν a=none->ν b=some m->b≠a:=fun h1 h2 q=>by rw [q,h1] at h2;exact noS h2
   have ddx:dd≠x:=kd2 h0 (Zb _ _ _) rfl
   have dddx:dd≠dx:=fun q=>by rw [q,Za (Ne.symm hne),Zb] at h0;exact sNo h0
   have md:μ dd=none:=by exact Eq.trans (Eq.symm (Za dddx)) (Eq.trans (Eq.symm (Za ddx)) h0)
   have wdd:E.h0.get? dd=none:=(nw dd (by rw [hdd];exact Option.some_ne_none _)).resolve_left (fun z=>z md)
   have lift:∀ {y:Addr}{m:MO},μ1 y=some m->upd (upd (upd μ1 s (.dict [])) ro (.list [])) j (.dict []) y=some m:=fun {y m} e=>by
    have e1:upd μ1 s (.dict []) y=some m:=by exact Eq.trans (Za (nn hs e)) e
    have e2:upd (upd μ1 s (.dict [])) ro (.list []) y=some m:=by exact Eq.trans (Za (nn hro e1)) e1
    exact Eq.trans (Za (nn hj e2)) e2
   have es2:upd (upd μ1 s (.dict [])) ro (.list []) s=some (.dict []):=by exact Eq.trans (Za (nn hro (Zb _ _ _))) (Zb _ _ _)
   have er3:upd (upd (upd μ1 s (.dict [])) ro (.list [])) j (.dict []) ro=some (.list []):=by exact Eq.trans (Za (nn hj (Zb _ _ _))) (Zb _ _ _)
   refine Ems.nil ⟨by exact Nat.le_refl _,x,dx,dd,s,j,ro,rfl,⟨⟨lift T.x,lift T.dx⟩,⟨lift hdd,fun Z h=>(by exact absurd h List.not_mem_nil),fun Z h=>(by exact absurd h List.not_mem_nil),List.nodup_nil,List.nodup_nil⟩,?_,Zb _ _ _,er3,wdx,wdd,ws,wj,wro,fun Z h=>(by exact absurd h List.not_mem_nil),fun q=>?_,fun q=>?_,fun q=>?_,fun Z h=>(by exact absurd h List.not_mem_nil)⟩,?_⟩
   ·exact Eq.trans (Za (nn hj es2)) es2
   ·rw [q,hdd] at hs;exact sNo hs
   ·have:=lift (y:=dd) hdd
    have e2:upd (upd μ1 s (.dict [])) ro (.list []) dd=some (.dict []):=by
     have e1:upd μ1 s (.dict []) dd=some (.dict []):=by exact Eq.trans (Za (nn hs hdd)) hdd
     exact Eq.trans (Za (nn hro e1)) e1
    rw [q,e2] at hj;exact sNo hj
   ·rw [← q,es2] at hj;exact sNo hj
   ·have r1:μ1 ro=none:=by
     have:ro≠s:=kd2 hro (Zb _ _ _) rfl
     exact Eq.trans (Eq.symm (Za this)) hro
    have a1:ro≠dx:=kd2 r1 T.dx rfl
    have a2:ro≠dd:=kd2 r1 hdd rfl
    have a3:ro≠x:=kd2 r1 T.x rfl
    exact Eq.trans (Eq.symm (Za a1)) (Eq.trans (Eq.symm (Za a3)) (Eq.trans (Eq.symm (fr ro a1 a2)) r1))
  ·(intro ds μ1 Z0;refine xA Z0 fun h Z=>?_;clear Z0);rw [sizeLine_eq];exact oA ‹_› rfl
  ·(intro Z μ1 Z0;refine xEE Z0 fun ds μ2 Zr0=>?_;refine VT Zr0 fun Z1 a Z2 Z3 ha0 ha=>?_;clear Zr0;clear Z0;refine xA Z1 fun Z Zr1=>?_;refine Ux Zr1 fun x dx d s Zr2=>?_;clear Zr1;refine Zn Zr2 fun j ro Z4 S r0=>?_;clear Zr2;clear Z1;subst Z4;subst Z2;subst Z3)
   exact ⟨a,_,rfl,Zb _ _ _,rfl,x,dx,d,s,j,ro,rfl,S.ext fun y hy=>Za fun q=>hy (q▸ha),r0⟩
 ·clear hh hpre hsu hb hrun hord hkas
  intro y hy
  simp only [List.mem_cons,List.not_mem_nil,or_false] at hy
  rcases hy with rfl|rfl|rfl|rfl|rfl
  ·exact .inl (F.kindOf rfl)
  ·exact .inr ⟨F.kindOf rfl,F.cells _ rfl⟩
  ·exact .inl (F.kindOf rfl)
  ·exact .inr ⟨F.kindOf rfl,F.cells _ rfl⟩
  ·exact .inl (F.kindOf rfl)
 (intro ds μ1 Z Z0;refine Ux Z0 fun x dx d s Zr0=>?_;refine Zn Zr0 fun j ro Z1 S1 ro0=>?_;clear Zr0;clear Z0;subst Z1)
 refine Xs.seq (X1.forEnum (ds:=ms.map msD) (Φ:=fun f μ' l'=>f=.nxt/\Has l' "sorter" (.obj x)/\Has l' "messages" (.dat (Q0 ms))/\Has l' "sent" (.obj s)/\Has l' "rounds" (.obj ro)/\Has l' "judged" (.obj j)/\Has l' "ring" (.dat (.bool false))/\∃ ns,Qy E μ' x dx d (.dat .none) 0 0 ns s j ro [] [] []/\Zg ns=Zv ms ms.length) O H (Zx F rfl) (Zx F rfl) (Ev.bui O rfl (F.kindOf rfl) rfl) rfl (Ev.loc O rfl (F.kindOf rfl) rfl)
  (fun i μ' l'=>i≤ms.length/\Has l' "sorter" (.obj x)/\Has l' "messages" (.dat (Q0 ms))/\Has l' "sent" (.obj s)/\Has l' "rounds" (.obj ro)/\Has l' "judged" (.obj j)/\Has l' "ring" (.dat (.bool false))/\∃ ns,Qy E μ' x dx d (.dat .none) 0 0 ns s j ro [] [] []/\Zg ns=Zv ms i) ⟨Nat.zero_le _,rfl,rfl,rfl,rfl,rfl,rfl,[],S1,rfl⟩ ?_ ?_) ?_
 ·clear hsu hb hrun hord hkas
  intro i μ2 l2 dd hd hI
  refine Xs.post fun Ψ mk=>?_
  (refine ZR hI fun Z k1 k2 k3 k4 Zr0=>?_;refine ZL Zr0 fun k5 k6 ns S e=>?_;clear Zr0;clear hI)
  have hi:i < ms.length:=by have:=(List.getElem?_eq_some_iff.mp hd).1;simpa using this
  have hdd:dd=msD (Zy ms i):=by
   rw [List.getElem?_map,List.getElem?_eq_getElem hi] at hd
   rw [Zy,List.getElem?_eq_getElem hi]
   exact (Option.some.inj hd).symm
  subst hdd
  refine xA (hpre i (by assumption)) fun p1 p2=>?_
  have hl1:ns.length=(Zv ms i).length:=by rw [← e,Zg,List.length_map]
  have hl2:∀ t∈ns,t.su.length≤90:=fun t ht=>p2 (t.n,t.np,t.su) (by rw [← e];exact List.mem_map.mpr ⟨t,ht,rfl⟩)
  have hhi:=hh i
  refine Xs.expr H (Em.methStar (Θ:=fun Z Z Z=>False) O kx rfl rfl rfl (DA.two (d:=.dat (.int (i:Nat))) rfl (Ev.loc O rfl (F.kindOf rfl) rfl) (VN (n:=2) (Ev.loc O rfl (F.kindOf rfl) rfl) (Ev.int 2 _ _) rfl (by decide) fun Z Z=>rfl) rfl) (Ev.sub (l0:=[("sorter",.obj x)]) (Ev.loc O rfl (F.kindOf rfl) rfl) (ZB.cons (by exact k1) (ZB.nil _))) S.ts.x S.ts.dx rfl rfl rfl rfl rfl rfl rfl rfl rfl
   (OS (k:=k) K' (n:=(i:Nat)) (ps:=(Zy ms i).2.2) S.ts S.nsa (by omega) (fun t ht=>by have:=hl2 t ht;exact oA ‹_› rfl)) (by exact oE ‹_› rfl) (fun a ha=>?_) (fun Z Z Z z=>z.elim)) rfl ?_
  ·clear hh hpre
   rcases ha with rfl|⟨t,ht,rfl|rfl⟩
   ·exact ⟨by rw [S.nsa.dict];exact Option.some_ne_none _,.inr S.wd⟩
   ·exact ⟨by rw [S.nsa.info t ht];exact Option.some_ne_none _,.inr (S.wns t ht).1⟩
   ·exact ⟨by rw [S.nsa.succ t ht];exact Option.some_ne_none _,.inr (S.wns t ht).2⟩
  (intro Z μ3 Z0;refine xA Z0 fun Z1 nw=>?_;clear Z0;refine xA Z1 fun Z2 Zr0=>?_;refine ZU Zr0 fun ns' N' eb og Z fr=>?_;clear Zr0;clear Z1;subst Z2)
  have keep:∀ {y:Addr}{m:MO},μ2 y=some m->y≠d->(∀ t∈ns,y≠t.ia/\y≠t.sa)->μ3 y=some m:=fun {y m} h1 h2 h3=>by rw [fr y h2 h3 (by rw [h1];exact Option.some_ne_none m)];exact h1
  refine Xs.nil (mk _ _ _ ⟨by assumption,k1,k2,k3,k4,k5,k6,ns',⟨⟨keep S.ts.x ?_ fun t ht=>⟨?_,?_⟩,keep S.ts.dx ?_ fun t ht=>⟨?_,?_⟩⟩,N',keep S.hs S.sd fun t ht=>⟨?_,?_⟩,keep S.hj S.jd fun t ht=>⟨?_,?_⟩,keep S.hro ?_ fun t ht=>⟨?_,S.rosa t ht⟩,S.wdx,S.wd,S.ws,S.wj,S.wro,fun u hu=>?_,S.sd,S.jd,S.sj,fun u hu=>?_⟩,?_⟩)
  ·exact kd2 S.ts.x S.nsa.dict rfl
  ·exact kd2 S.ts.x (S.nsa.info t ht) rfl
  ·exact kd2 S.ts.x (S.nsa.succ t ht) rfl
  ·exact kd2 S.ts.dx S.nsa.dict rfl
  ·exact kd2 S.ts.dx (S.nsa.info t ht) rfl
  ·exact kd2 S.ts.dx (S.nsa.succ t ht) rfl
  ·exact kd2 S.hs (S.nsa.info t ht) rfl
  ·exact kd2 S.hs (S.nsa.succ t ht) rfl
  ·exact kd2 S.hj (S.nsa.info t ht) rfl
  ·exact kd2 S.hj (S.nsa.succ t ht) rfl
  ·exact kd2 S.hro S.nsa.dict rfl
  ·exact kd2 S.hro (S.nsa.info t ht) rfl
  ·clear hh hpre
   rcases og u hu with ⟨v,hv,e1,e2⟩|⟨e1,e2⟩
   ·rw [← e1,← e2];exact S.wns v hv
   ·exact ⟨(nw u.ia (by rw [N'.info u hu];exact Option.some_ne_none _)).resolve_left fun z=>z e1,(nw u.sa (by rw [N'.succ u hu];exact Option.some_ne_none _)).resolve_left fun z=>z e2⟩
  ·clear hh hpre
   rcases og u hu with ⟨v,hv,e1,e2⟩|⟨e1,e2⟩
   ·rw [← e2];exact S.rosa v hv
   ·exact kd2 S.hro e2 rfl
  ·clear hh hpre
   rw [eb,e];rfl
 ·clear hh hpre hsu hb hrun hord hkas
  (intro μ2 l2 Z0;refine ZR Z0 fun Z k1 k2 k3 k4 Zr0=>?_;refine ZL Zr0 fun k5 k6 ns S2 e2=>?_;clear Zr0;clear Z0)
  rw [List.length_map] at e2
  exact Xs.nil ⟨rfl,k1,k2,k3,k4,k5,k6,ns,S2,e2⟩
 (intro f' μ2 l2 Z0;refine ZR Z0 fun Z1 k1 k2 k3 k4 Zr0=>?_;refine ZL Zr0 fun k5 k6 ns S2 e2=>?_;clear Zr0;clear Z0;subst Z1)
 refine Xs.seq (Ψ:=fun f μ' l'=>f=.nxt/\Has l' "sorter" (.obj x)/\Has l' "messages" (.dat (Q0 ms))/\Has l' "sent" (.obj s)/\Has l' "rounds" (.obj ro)/\Has l' "judged" (.obj j)/\Has l' "ring" (.dat (.bool b))/\∃ r,Qy E μ' x dx d (.obj r) 0 0 ns s j ro [] [] []/\μ' r=some (.list ((Zc (Vh (Zv ms ms.length))).map .dat))/\E.h0.get? r=none/\r≠ro/\∀ t∈ns,t.sa≠r) (X1.try H (Ψ:=fun f μ' l'=>(f=.nxt/\b=false∨f=.exc (.ref 89) .none/\b=true)/\l'=l2/\∃ r,Qy E μ' x dx d (.obj r) 0 0 ns s j ro [] [] []/\μ' r=some (.list ((Zc (Vh (Zv ms ms.length))).map .dat))/\E.h0.get? r=none/\r≠ro/\∀ t∈ns,t.sa≠r) (c:=.ref 89) ?_ ?_) ?_
 ·clear hh hrun hord hkas
  refine Xs.post fun Ψ mk=>?_
  have hsu':=HK (ns:=ns) (by rw [e2];exact hsu)
  have en:ns.map (·.n)=(Zv ms ms.length).map (·.1):=by rw [← e2,Zg,List.map_map];rfl
  have hl1:ns.length=(Zv ms ms.length).length:=by rw [← e2,Zg,List.length_map]
  have fin:∀ μ',(∃ r,HQ μ2 μ' x dx d r 0 0 (Zg ns))->QI E μ2 μ'->∃ r,Qy E μ' x dx d (.obj r) 0 0 ns s j ro [] [] []/\μ' r=some (.list ((Zc (Vh (Zv ms ms.length))).map .dat))/\E.h0.get? r=none/\r≠ro/\∀ t∈ns,t.sa≠r:=by
   (intro μ' Z0;refine Z6 Z0 fun r r0 T hr fr=>?_;clear Z0;intro nw)
   have keep:∀ {y:Addr}{m:MO},μ2 y=some m->y≠dx->μ' y=some m:=fun {y m} h1 h2=>by rw [fr y h2 (by rw [h1];exact Option.some_ne_none m)];exact h1
   refine ⟨r,{ S2 with ts:=T,nsa:=⟨keep S2.nsa.dict (kd2 S2.nsa.dict S2.ts.dx rfl),fun t ht=>keep (S2.nsa.info t ht) (kd2 (S2.nsa.info t ht) S2.ts.dx rfl),fun t ht=>keep (S2.nsa.succ t ht) (kd2 (S2.nsa.succ t ht) S2.ts.dx rfl),S2.nsa.nd,S2.nsa.sd⟩,hs:=keep S2.hs (kd2 S2.hs S2.ts.dx rfl),hj:=keep S2.hj (kd2 S2.hj S2.ts.dx rfl),hro:=keep S2.hro (kd2 S2.hro S2.ts.dx rfl) },by rw [← e2];exact hr,?_,fun q=>?_,fun t ht q=>?_⟩
   ·exact (nw r (by rw [hr];exact Option.some_ne_none _)).resolve_left fun z=>z r0
   ·clear hpre hsu hb
    rw [q,S2.hro] at r0;exact sNo r0
   ·clear hpre hsu hb
    rw [← q,S2.nsa.succ t ht] at r0;exact sNo r0
  refine Xs.expr H (Em.methOwn kx ⟨_,_,K'.kx 126 _ rfl,rfl⟩ rfl rfl rfl (by decide) (Ev.sub (l0:=[("sorter",.obj x)]) (Ev.loc O rfl (F.kindOf rfl) rfl) (ZB.cons (by exact k1) (ZB.nil _))) S2.ts.x S2.ts.dx rfl rfl rfl rfl Evs.nil (MFn.fnN2 O (Dh (k:=k) K' S2.ts S2.nsa hsu'.2 (by rw [en,e2];exact hb) (by have:=(hpre ms.length (Nat.le_refl _)).1;exact oJ ‹_› ‹_› rfl)) (by exact oE ‹_› rfl) (fun a ha=>?_)) ?_) rfl ?_
  ·clear hpre hsu hb
   subst ha;exact ⟨by rw [S2.ts.dx];exact Option.some_ne_none _,.inr S2.wdx⟩
  ·clear hpre hsu hb
   (intro c t μ' Z0;refine xA Z0 fun Z1 nw=>?_;clear Z0;refine VA Z1 fun hb1 Z2 Z3 hp=>?_;clear Z1;subst Z2;subst Z3)
   exact mk _ _ _ ⟨.inr ⟨rfl,hb1⟩,rfl,fin μ' hp nw⟩
  ·clear hpre hsu hb
   (intro dd μ' Z0;refine xA Z0 fun Z1 nw=>?_;clear Z0;refine xAA Z1 fun hb1 Z2 hp=>?_;clear Z1;subst Z2)
   exact Xs.nil (mk _ _ _ ⟨.inl ⟨rfl,hb1⟩,rfl,fin μ' hp nw⟩)
 ·clear hh hpre hsu hb hrun hord hkas
  (intro f' μ3 l3 Z0;refine xAA Z0 fun hf Z1 Zr0=>?_;refine ZU Zr0 fun r S3 hr wr rro rsa=>?_;clear Zr0;clear Z0;subst Z1)
  rcases hf with ⟨rfl,rfl⟩|⟨rfl,rfl⟩
  ·exact Xs.nil ⟨rfl,k1,k2,k3,k4,k5,k6,r,S3,hr,wr,rro,rsa⟩
  ·refine ⟨Px kx,fun e=>⟨Hv (C:=C.mk' e) O.kind O.nms O.glob rfl (F.kindOf rfl) rfl,?_⟩⟩
   refine Xs.assign (H.mark _) (Em.ofEv (C:=C.mk' e) (d:=.dat (.bool true)) (Ev.bool _ _ _)) (Zx F rfl) rfl ?_
   (intro dd μ4 Z0;refine xA Z0 fun Z1 Z2=>?_;clear Z0;subst Z1;subst Z2)
   exact Xs.nil ⟨fun Z Z q=>(by cases q),rfl,k1,k2,k3,k4,k5,rfl,r,S3,hr,wr,rro,rsa⟩
 (intro f' μ3 l3 Z0;refine ZK Z0 fun Z1 k1 k2 k3 k4 k5 k6 Zr0=>?_;refine ZU Zr0 fun r S3 hr wr rro rsa=>?_;clear Zr0;clear Z0;subst Z1)
 refine Xs.seq (X1.whileP H (Φ:=fun f μ' l'=>f=.nxt/\Has l' "sent" (.obj s)/\Has l' "rounds" (.obj ro)/\Has l' "judged" (.obj j)/\Has l' "ring" (.dat (.bool b))/\∃ ns po,Qy E μ' x dx d (.obj r) po po ns s j ro (rs.flatten.map fun p=>(p,Wh rowsOf p)) (rs.flatten.map fun p=>(p,Vw rowsOf p)) (rs.map fun r=>.dat (.list (Zc (Zl iLt r)))))
  (fun n μ' l'=>Has l' "sorter" (.obj x)/\Has l' "messages" (.dat (Q0 ms))/\Has l' "sent" (.obj s)/\Has l' "rounds" (.obj ro)/\Has l' "judged" (.obj j)/\Has l' "ring" (.dat (.bool b))/\∃ ns po rd pre rest f,Kz f (Zg ns,rd)=some rest/\n=rest.length/\rs=pre++rest/\MF ns/\Qy E μ' x dx d (.obj r) po po ns s j ro (pre.flatten.map fun p=>(p,Wh rowsOf p)) (pre.flatten.map fun p=>(p,Vw rowsOf p)) (pre.map fun r=>.dat (.list (Zc (Zl iLt r))))/\μ' r=some (.list ((Zc rd).map .dat))/\∀ t∈ns,t.sa≠r) ?_ rs.length ⟨k1,k2,k3,k4,k5,k6,ns,0,Vh (Zv ms ms.length),[],rs,f,by rw [e2];exact hrun,rfl,rfl,HK (by rw [e2];exact hsu),S3,hr,rsa⟩) ?_
 ·clear hpre hsu hb hrun hkas
  (intro J Ψ mJ mk n μ4 l4 Z0;refine xA Z0 fun k1 Zr0=>?_;refine ZR Zr0 fun k2 k3 k4 k5 k6 Zr1=>?_;clear Zr0;refine Ux Zr1 fun ns4 po rd pre Zr2=>?_;clear Zr1;refine Zf Zr2 fun rest f4 hrB Z1 hrs suc Z2=>?_;clear Zr2;clear Z0;subst Z1;refine xAA Z2 fun S hr4 rsa4=>?_;clear Z2)
  have hrd:rd.length < 64:=by
   rcases Gh hrB with ⟨rfl,_⟩|⟨_,_,_,r',e',_⟩
   ·decide
   ·exact hr64 rd (by rw [hrs,e'];simp)
  have act:Tst C μ4 l4 _ (!rd.isEmpty):=Tst.ofEv (DP (name:="is_active") (apos:=⟨193,10,193,26⟩) (pos:=⟨193,10,193,28⟩) (o:=.Name "sorter" ⟨193,10,193,16⟩) kx ⟨_,_,K'.kx 140 _ rfl,rfl⟩ rfl rfl rfl (by decide) (Ev.sub (l0:=[("sorter",.obj x)]) (Ev.loc O rfl (F.kindOf rfl) rfl) (ZB.cons (by exact k1) (ZB.nil _))) S.ts.x S.ts.dx rfl rfl rfl rfl Evs.nil (Zt.fn O (k:=1) (MFn.pureD (MFn.mono (Ko (k:=0) K' S.ts hr4 (by rw [List.length_map,List.length_map];exact oB ‹_› rfl)) (fun d' μ' h=>h.1) fun Z Z Z z=>z)) (by exact oF ‹_› rfl))) (by rw [show (decide (po < po) || !((Zc rd).map AV.dat).isEmpty)=!rd.isEmpty by cases rd <;> simp [Zc]];exact WN _ _) rfl
  rcases Gh hrB with ⟨rfl,rfl⟩|⟨hne,hok,f5,rest',rfl,hrun'⟩
  ·clear hh hord
   refine .inr (.inl ⟨act,Xs.nil (mk _ _ _ ⟨rfl,k3,k4,k5,k6,ns4,po,?_⟩)⟩)
   rw [hrs,List.append_nil];exact S
  refine .inl ⟨by
   have:(!rd.isEmpty)=true:=(by cases rd <;> simp at hne ⊢)
   rw [this] at act;exact act,?_⟩
  refine xAA (PV hok) fun ok1 ok2 ok3=>?_
  refine Xs.assign H (Em.methOwn (Θ:=fun Z Z Z=>False) kx ⟨_,_,K'.kx 133 _ rfl,rfl⟩ rfl rfl rfl (by decide) (Ev.sub (l0:=[("sorter",.obj x)]) (Ev.loc O rfl (F.kindOf rfl) rfl) (ZB.cons (by exact k1) (ZB.nil _))) S.ts.x S.ts.dx rfl rfl rfl rfl Evs.nil (MFn.fnM O (Kq (k:=k) K' S.ts S.nsa hr4 (by exact oB ‹_› rfl) ok1 rsa4) (by exact oE ‹_› rfl) (fun a ha=>?_)) (fun Z Z Z z=>z.elim)) (Zx F rfl) rfl ?_
  ·clear hh hord
   rcases ha with rfl|rfl|⟨t,ht,rfl⟩
   ·exact ⟨by rw [S.ts.dx];exact Option.some_ne_none _,.inr S.wdx⟩
   ·exact ⟨by rw [hr4];exact Option.some_ne_none _,.inr wr⟩
   ·exact ⟨by rw [S.nsa.info t ht];exact Option.some_ne_none _,.inr (S.wns t ht).1⟩
  (intro dd μ5 Z0;refine Qe Z0 fun Z1 T5 N5 hr5 fr5=>?_;clear Z0;subst Z1)
  have keep5:∀ {y:Addr}{m:MO},μ4 y=some m->y≠dx->y≠r->(∀ t∈ns4,y≠t.ia)->μ5 y=some m:=fun {y m} h1 h2 h3 h4=>by exact Eq.trans (fr5 y h2 h3 h4) h1
  have S5:Qy E μ5 x dx d (.obj r) (po+rd.length) po (outs ns4 rd) s j ro (pre.flatten.map fun p=>(p,Wh rowsOf p)) (pre.flatten.map fun p=>(p,Vw rowsOf p)) (pre.map fun r=>.dat (.list (Zc (Zl iLt r)))):=by
   refine { S with ts:=T5,nsa:=N5,hs:=keep5 S.hs (kd2 S.hs S.ts.dx rfl) (kd2 S.hs hr4 rfl) fun t ht=>kd2 S.hs (S.nsa.info t ht) rfl,hj:=keep5 S.hj (kd2 S.hj S.ts.dx rfl) (kd2 S.hj hr4 rfl) fun t ht=>kd2 S.hj (S.nsa.info t ht) rfl,hro:=keep5 S.hro (kd2 S.hro S.ts.dx rfl) (Ne.symm rro) fun t ht=>kd2 S.hro (S.nsa.info t ht) rfl,wns:=fun t ht=>?_,rosa:=fun t ht=>?_ }
   ·clear hh hord
    refine ZU (Vy rd ht) fun u hu Z e1 e2 Z=>?_
    rw [← e1,← e2];exact S.wns u hu
   ·clear hh hord
    refine ZU (Vy rd ht) fun u hu Z e1 e2 Z=>?_
    rw [← e2];exact S.rosa u hu
  have rsa5:∀ t∈outs ns4 rd,t.sa≠r:=fun t ht=>by
   refine ZU (Vy rd ht) fun u hu Z e1 e2 Z=>?_
   rw [← e2];exact rsa4 u hu
  have suc5:MF (outs ns4 rd):=suc.same (ZA.outs rd ns4)
  refine Xs.seq (X1.forTuple (ds:=Zc rd) (Φ:=fun f μ' l'=>f=.nxt/\Has l' "sorter" (.obj x)/\Has l' "messages" (.dat (Q0 ms))/\Has l' "sent" (.obj s)/\Has l' "rounds" (.obj ro)/\Has l' "judged" (.obj j)/\Has l' "ring" (.dat (.bool b))/\Has l' "ready" (.dat (.tuple (Zc rd)))/\Qy E μ' x dx d (.obj r) (po+rd.length) po (outs ns4 rd) s j ro ((pre.flatten++rd).map fun p=>(p,Wh rowsOf p)) ((pre.flatten++rd).map fun p=>(p,Vw rowsOf p)) (pre.map fun r=>.dat (.list (Zc (Zl iLt r))))/\μ' r=some (.list [])) O H (Zx F rfl) (fun Z=>rfl) (Ev.loc O rfl (F.kindOf rfl) rfl)
   (fun i μ' l'=>Has l' "sorter" (.obj x)/\Has l' "messages" (.dat (Q0 ms))/\Has l' "sent" (.obj s)/\Has l' "rounds" (.obj ro)/\Has l' "judged" (.obj j)/\Has l' "ring" (.dat (.bool b))/\Has l' "ready" (.dat (.tuple (Zc rd)))/\Qy E μ' x dx d (.obj r) (po+rd.length) po (outs ns4 rd) s j ro ((pre.flatten++rd.take i).map fun p=>(p,Wh rowsOf p)) ((pre.flatten++rd.take i).map fun p=>(p,Vw rowsOf p)) (pre.map fun r=>.dat (.list (Zc (Zl iLt r))))/\μ' r=some (.list [])) ⟨k1,k2,k3,k4,k5,k6,rfl,by simpa using S5,hr5⟩ ?_ ?_) ?_
  ·intro i μ6 l6 dd hd hI
   refine Xs.post fun Ψ mk=>?_
   (refine xA hI fun m1 Zr0=>?_;refine ZK Zr0 fun m2 m3 m4 m5 m6 m7 S6 hr6=>?_;clear Zr0;clear hI)
   rw [Zc,List.getElem?_map] at hd
   (refine xEA (Option.map_eq_some_iff.mp hd) fun p hp Z0=>?_;subst Z0)
   have hlt:=(List.getElem?_eq_some_iff.mp hp).1
   have hsplit:rd=rd.take i++p::rd.drop (i+1):=by
    have:=List.take_append_drop i rd
    rw [List.drop_eq_getElem_cons hlt,(List.getElem?_eq_some_iff.mp hp).2] at this
    exact this.symm
   obtain ⟨q,rfl,hq,nin,hin,SO⟩:=hord (pre.flatten++rd.take i) p (rd.drop (i+1)++rest'.flatten) (by
    rw [hrs,List.flatten_append,List.flatten_cons]
    conv=>lhs;rw [hsplit]
    simp [List.append_assoc])
   have hmsg:(ms.map msD)[q]?=some (msD (Zy ms q)):=by
    rw [List.getElem?_map,List.getElem?_eq_getElem hq,Zy,List.getElem?_eq_getElem hq];rfl
   have hlen:(pre.flatten++rd.take i).length < 64:=by
    have:rs.flatten.length=pre.flatten.length+(rd.length+rest'.flatten.length):=by rw [hrs,List.flatten_append,List.flatten_cons,List.length_append,List.length_append]
    rw [List.length_append,List.length_take];omega
   have SK:Zt C.w C.h₁ (k+2) μ6 201 [.dat (.int (q:Nat)),.dat (MC (Zy ms q).1 (Zy ms q).2.1 (Zy ms q).2.2),.obj s] (.dat (.list [.str (ZM (rowsOf q)),VH (rowsOf q) ((rowsOf q).map Ze)])) :=
    OD (k:=k) K' (g:=fun o=>ZM (rowsOf o)) S6.hs (fun o ho=>by rw [Q4,if_pos (hin o ho)];rfl) (by have:=hh q;exact oA ‹_› rfl) SO.line SO.eqn SO.join SO.ok SO.len SO.rep SO.rows (SO.told _ _ K' k μ6) SO.after SO.l64 (by rw [List.length_map];exact SO.l64)
   refine Xs.unpackItems O.handled (k:=(q:Nat)) (k':=(q:Nat)) (Ev.sub (l0:=[("place",.dat (.int (q:Nat))),("messages",.dat (Q0 ms)),("sent",.obj s)]) (Ev.call (f:=.ref 201) (Ev.glob O rfl (F.kindOf rfl) rfl) ⟨_,_,K'.kx 201 _ rfl,rfl⟩ rfl (Evs.cons rfl (Ev.loc O rfl (F.kindOf rfl) rfl) (Evs.cons rfl (VN (n:=q) (Ev.loc O rfl (F.kindOf rfl) rfl) (Ev.loc O rfl (F.kindOf rfl) rfl) hmsg (by exact oX ‹_› ‹_› rfl) fun Z Z=>rfl) (Evs.cons rfl (Ev.cell O rfl (F.kindOf rfl) rfl) Evs.nil))) (Zt.fn O SK (by exact oE ‹_› rfl))) (ZB.cons rfl (ZB.cons (by exact m2) (ZB.cons (by exact m3) (ZB.nil _)))))
    (Ev.sub (l0:=[("sent",.obj s)]) (Ev.cell O rfl (F.kindOf rfl) rfl) (ZB.cons (by exact m3) (ZB.nil _))) (Ev.loc O rfl (F.kindOf rfl) rfl) (fun μ'=>Ev.sub (l0:=[("judged",.obj j)]) (Ev.cell O rfl (F.kindOf rfl) rfl) (ZB.cons (by exact m5) (ZB.nil _))) (fun μ'=>(Ev.loc O rfl (F.kindOf rfl) rfl)) S6.hs S6.hj (Ne.symm S6.sj) (.inr S6.ws) (.inr S6.wj) (by rw [sizeLine_eq,List.length_map];exact oB ‹_› rfl) (by rw [sizeLine_eq,List.length_map];exact oB ‹_› rfl) rfl rfl ?_
   have et:rd.take (i+1)=rd.take i++[(q:Int)]:=by rw [List.take_add_one,hp];rfl
   have e1:=W5 (v:=Wh rowsOf) (pre.flatten++rd.take i) nin
   have e2:=W5 (v:=Vw rowsOf) (pre.flatten++rd.take i) nin
   refine xA (S6.put (A:=VZ ((pre.flatten++rd.take i).map fun p=>(p,Wh rowsOf p)) (q:Nat) (Wh rowsOf (q:Nat))) (B:=VZ ((pre.flatten++rd.take i).map fun p=>(p,Vw rowsOf p)) (q:Nat) (Vw rowsOf (q:Nat))) hr6) fun S7 hr7=>?_
   refine Xs.nil (mk _ _ _ ⟨m1,m2,m3,m4,m5,m6,m7,?_,hr7⟩)
   rw [et,← List.append_assoc,← e1,← e2]
   exact S7
  ·clear hh hord
   (intro μ6 l6 Z0;refine xA Z0 fun m1 Zr0=>?_;refine ZK Zr0 fun m2 m3 m4 m5 m6 m7 S6 hr6=>?_;clear Zr0;clear Z0)
   rw [List.length_map,List.take_length] at S6
   exact Xs.nil ⟨rfl,m1,m2,m3,m4,m5,m6,m7,S6,hr6⟩
  (intro f6 μ6 l6 Z0;refine xAA Z0 fun Z1 m1 Zr0=>?_;refine ZK Zr0 fun m2 m3 m4 m5 m6 m7 S6 hr6=>?_;clear Zr0;clear Z0;subst Z1)
  refine Xs.expr H (Em.meth (Θ:=fun Z Z Z=>False) Qr rfl rfl rfl (by decide) (Ev.sub (l0:=[("rounds",.obj ro)]) (Ev.loc O rfl (F.kindOf rfl) rfl) (ZB.cons (by exact m4) (ZB.nil _))) (ZN S6.hro) (Evs.cons rfl (Ev.sub (l0:=[("ready",.dat (.tuple (Zc rd)))]) (Ev.call (f:=.builtin "sorted") (Ev.bui O rfl (F.kindOf rfl) rfl) trivial rfl (Evs.cons rfl (Ev.loc O rfl (F.kindOf rfl) rfl) Evs.nil) (YM hrd)) (ZB.cons (by exact m7) (ZB.nil _))) Evs.nil) (QJ S6.hro (.inr S6.wro) (by
   rw [sizeLine_eq,List.length_map]
   have:rs.length=pre.length+(rest'.length+1):=by rw [hrs,List.length_append,List.length_cons]
   omega)) (fun Z Z Z z=>z.elim)) rfl ?_
  (intro Z μ7 Z0;refine xA Z0 fun Z1 Z2=>?_;clear Z0;subst Z1;subst Z2)
  refine xA (S6.app (rl':=(pre.map fun r=>AV.dat (.list (Zc (Zl iLt r))))++[.dat (.list (Zc (Zl iLt rd)))]) hr6 rro) fun S7 hr7=>?_
  refine Xs.expr H (Em.methStar (Θ:=fun Z Z Z=>False) O kx rfl rfl rfl (DA.lone (Ev.sub (l0:=[("ready",.dat (.tuple (Zc rd)))]) (Ev.loc O rfl (F.kindOf rfl) rfl) (ZB.cons (by exact m7) (ZB.nil _))) rfl) (Ev.sub (l0:=[("sorter",.obj x)]) (Ev.loc O rfl (F.kindOf rfl) rfl) (ZB.cons (by exact m1) (ZB.nil _))) S7.ts.x S7.ts.dx rfl rfl rfl rfl rfl rfl rfl rfl rfl
   (Om (k:=k) K' (rs:=rd) (rd:=[]) S7.ts S7.nsa hr7 (by exact oB ‹_› rfl) rsa5 suc5.2 ok2 ok3 suc5.1) (by exact oE ‹_› rfl) (fun a ha=>?_) (fun Z Z Z z=>z.elim)) rfl ?_
  ·clear hh hord
   rcases ha with rfl|rfl|⟨t,ht,rfl⟩
   ·exact ⟨by rw [S7.ts.dx];exact Option.some_ne_none _,.inr S7.wdx⟩
   ·exact ⟨by rw [hr7];exact Option.some_ne_none _,.inr wr⟩
   ·exact ⟨by rw [S7.nsa.info t ht];exact Option.some_ne_none _,.inr (S7.wns t ht).1⟩
  (intro Z μ8 Z0;refine xA Z0 fun Z1 nw8=>?_;clear Z0;refine Qe Z1 fun Z2 T8 N8 hr8 fr8=>?_;clear Z1;subst Z2)
  generalize hμ7:upd μ6 ro (.list ((pre.map fun r=>AV.dat (.list (Zc (Zl iLt r))))++[.dat (.list (Zc (Zl iLt rd)))]))=μ7 at S7 hr7 fr8
  have keep8:∀ {y:Addr}{m:MO},μ7 y=some m->y≠dx->y≠r->(∀ t∈outs ns4 rd,y≠t.ia)->μ8 y=some m:=fun {y m} h1 h2 h3 h4=>by rw [fr8 y h2 h3 h4];exact h1
  have same:ZA (ZP (outs ns4 rd,[]) rd).1 (outs ns4 rd):=ZA.dones rd (outs ns4 rd,[])
  have bd:=Yi rd (outs ns4 rd,[])
  rw [Yl] at bd
  refine Xs.nil ⟨rest'.length,by exact Nat.le_refl _,mJ _ _ _ ⟨m1,m2,m3,m4,m5,m6,(ZP (outs ns4 rd,[]) rd).1,po+rd.length,(ZP (outs ns4 rd,[]) rd).2,pre++[rd],rest',f5,by rw [bd] at hrun';exact hrun',rfl,by rw [hrs];simp,suc5.same same,?_,hr8,fun t ht=>?_⟩⟩
  ·clear hh hord
   have em:(pre++[rd]).map (fun r=>AV.dat (.list (Zc (Zl iLt r))))=pre.map (fun r=>AV.dat (.list (Zc (Zl iLt r))))++[.dat (.list (Zc (Zl iLt rd)))]:=by rw [List.map_append];rfl
   rw [List.flatten_append,List.flatten_singleton,em]
   refine { S7 with ts:=T8,nsa:=N8,hs:=keep8 S7.hs (kd2 S7.hs S7.ts.dx rfl) (kd2 S7.hs hr7 rfl) fun t ht=>kd2 S7.hs (S7.nsa.info t ht) rfl,hj:=keep8 S7.hj (kd2 S7.hj S7.ts.dx rfl) (kd2 S7.hj hr7 rfl) fun t ht=>kd2 S7.hj (S7.nsa.info t ht) rfl,hro:=keep8 S7.hro (kd2 S7.hro S7.ts.dx rfl) (Ne.symm rro) fun t ht=>kd2 S7.hro (S7.nsa.info t ht) rfl,wns:=fun t ht=>?_,rosa:=fun t ht=>?_ }
   ·refine ZU (same.mem ht) fun u hu Z e1 e2 Z=>?_
    rw [← e1,← e2];exact S7.wns u hu
   ·refine ZU (same.mem ht) fun u hu Z e1 e2 Z=>?_
    rw [← e2];exact S7.rosa u hu
  ·clear hh hord
   refine ZU (same.mem ht) fun u hu Z e1 e2 Z=>?_
   rw [← e2];exact rsa5 u hu
 (intro f' μ4 l4 Z0;refine ZR Z0 fun Z1 k1 k2 k3 k4 Zr0=>?_;refine xEE Zr0 fun ns4 po S4=>?_;clear Zr0;clear Z0;subst Z1)
 refine Xs.ret (Em.listM (Ems.ofEvs (ds:=[.dat (.bool b),.obj ro,.dat (.list (ks'.map (DW rowsOf)))]) (Evs.cons rfl (Ev.sub (l0:=[("ring",.dat (.bool b))]) (Ev.loc O rfl (F.kindOf rfl) rfl) (ZB.cons (by exact k4) (ZB.nil _))) (Evs.cons rfl (Ev.sub (l0:=[("rounds",.obj ro)]) (Ev.loc O rfl (F.kindOf rfl) rfl) (ZB.cons (by exact k2) (ZB.nil _))) (Evs.cons rfl (Ev.sub (l0:=[("sent",.obj s),("judged",.obj j)]) ?_ (ZB.cons (by exact k1) (ZB.cons (by exact k3) (ZB.nil _)))) Evs.nil)))) ?_) ?_
 ·clear hh hpre hsu hb hrun hord
  refine Ev.call (f:=.builtin "sorted") (Ev.bui O rfl (F.kindOf rfl) rfl) trivial rfl (Evs.cons rfl ?_ Evs.nil) (Uy O (G:=DW rowsOf) (fun q=>⟨_,rfl⟩) hkl hkas)
  have ei:rs.flatten.map gI=(rs.flatten.map fun p=>(p,Wh rowsOf p)).map fun kv=>AV.dat (.int kv.1):=by rw [List.map_map];rfl
  refine Q6 O gI giI YL (f:=DW rowsOf) (ZD.of (by rw [F.sc];rfl)) (fun Z=>rfl) (by rw [ei];exact Itr.of (Ev.cell O rfl (F.kindOf rfl) rfl) (Its.dictKeys O S4.hs)) (fun L q hq=>?_) (by rw [sizeLine_eq];exact oB ‹_› rfl)
  refine Ev.list (ds:=[.dat (.int q),Wh rowsOf q,Vw rowsOf q]) (Evs.cons rfl (Ev.loc (O.comp rfl) rfl (Zh (Zd O F.names) rfl) rfl) (Evs.cons rfl (Ev.dictItem (Ev.cell (O.comp rfl) rfl (Zh (Zd O F.names) rfl) rfl) S4.hs (Ev.loc (O.comp rfl) rfl (Zh (Zd O F.names) rfl) rfl) (by rw [Q4,if_pos hq]) fun Z Z=>rfl) (Evs.cons rfl (Ev.dictItem (Ev.cell (O.comp rfl) rfl (Zh (Zd O F.names) rfl) rfl) S4.hj (Ev.loc (O.comp rfl) rfl (Zh (Zd O F.names) rfl) rfl) (by rw [Q4,if_pos hq]) fun Z Z=>rfl) Evs.nil))) rfl (by rw [sizeLine_eq];simp)
 ·clear hh hpre hsu hb hrun hord hkas
  (intro ds' μ' Z0;refine xA Z0 fun Z1 Z2=>?_;clear Z0;subst Z1;subst Z2);rw [sizeLine_eq];simp
 ·clear hh hpre hsu hb hrun hord hkas
  (intro dd μ' Z0;refine xEE Z0 fun ds' μ5 Zr0=>?_;refine VT Zr0 fun Z1 t Z2 Z3 t0 t1=>?_;clear Zr0;clear Z0;refine xA Z1 fun Z4 Z5=>?_;clear Z1;subst Z4;subst Z5;subst Z2;subst Z3)
  have noneOf:∀ a,E.h0.get? a=none->μ a=none:=fun a ha=>by
   cases q:μ a with
   | none=>rfl
   | some m=>refine xE (hold a m q) fun o ho=>?_;rw [ha] at ho;exact noS ho
  have hne:ro≠t:=kd2 S4.hro t1 rfl
  refine mk0 _ _ _ ⟨t,ro,rfl,noneOf t t0,noneOf ro S4.wro,Zb _ _ _,?_⟩
  rw [Za hne,S4.hro,List.map_map];rfl
noncomputable def Qk (xs:List Int):List Int:=xs.take 3++[4,33,71,102,282]
noncomputable def K9 (ns:List Int) (i:Nat):Msg:=(Yr (ns[i]?.getD 0),(ns[i]?.getD 0).fmod 4,Z9 (ns[i]?.getD 0) (i:Nat) (ns.length:Nat))
noncomputable def W8 (ns:List Int):List Msg:=(List.range ns.length).map (K9 ns)
theorem Ot {C:Cx}{μ:Mu} (ns:List Int):Fn C μ (.builtin "len") [.dat (.list (Zc ns))] (.dat (.int (ns.length:Nat))):=by
 have:=Yg (C:=C) (μ:=μ) (Zc ns)
 rwa [Zc,List.length_map] at this
theorem Pa {w:World}{h₁:Heap} (K:K1 w h₁) {k:Nat}{μ:Mu}{xs:List Int}{R D:PyData} (hx:xs.length≤63)
  (hrun:∀ μ,Zt w h₁ (k+6) μ 206 [.dat (Q0 (W8 (Qk xs)))] (.dat R)) (hdue:∀ μ,Zt w h₁ (k+6) μ 221 [.dat (Q0 (W8 (Qk xs)))] (.dat D)) (hdp:R.depth≤64∨D.depth≤64) :
  Zt w h₁ (k+7) μ 226 [.dat (.list (Zc xs))] (.dat (.bool (PyData.eqv R D))):=by
 refine MFn.pureD ?_
 refine MFn.of_body (k:=k+6) (ps:=["script"]) K.nms ⟨⟨_,K.kx 226 _ rfl,rfl⟩,Zs K rfl rfl rfl,rfl,rfl,rfl,rfl,by decide,by decide,by decide,rfl,rfl,rfl,fun vs hl=>?_⟩ rfl fun E C F H hD hold hF0=>?_
 ·revert vs;exact KO fun Z=>rfl
 have O:=F.ok
 have K':K1 C.w C.h₁:=by rw [F.w,F.h₁];exact K
 have ck:=F.k
 have hlen:(Qk xs).length≤8:=by unfold Qk;rw [List.length_append,List.length_take];simp;exact Nat.min_le_left _ _
 have hpos:(Qk xs).length≠0:=by unfold Qk;rw [List.length_append];exact nofun
 refine Xs.assign H (Em.ofEv (d:=.dat (.list (Zc (Qk xs)))) ?_) (.inr ⟨F.kindOf rfl,F.cells _ rfl⟩) rfl ?_
 ·have e:Zc (Qk xs)=(Zc xs).take 3++[.int 4,.int 33,.int 71,.int 102,.int 282]:=by
   unfold Qk Zc;rw [List.map_append,List.map_take];rfl
  refine ZW (a:=.list ((Zc xs).take 3)) (b:=.list [.int 4,.int 33,.int 71,.int 102,.int 282]) ?_ ?_ ?_
  ·exact Ev.slice (a:=Option.none) (b:=some ((3:Nat):Int)) (c:=Option.none) (Ev.loc O rfl (F.kindOf rfl) rfl) trivial (Ev.int 3 _ _) trivial (by decide) (Qx.upto _ 3) (by rw [List.length_take,sizeLine_eq];exact oA (Nat.min_le_left _ _) rfl) (fun o j=>[j,o]) fun Z Z=>rfl
  ·exact Ev.list (ds:=[.dat (.int 4),.dat (.int 33),.dat (.int 71),.dat (.int 102),.dat (.int 282)]) (Evs.cons rfl (Ev.int _ _ _) (Evs.cons rfl (Ev.int _ _ _) (Evs.cons rfl (Ev.int _ _ _) (Evs.cons rfl (Ev.int _ _ _) (Evs.cons rfl (Ev.int _ _ _) Evs.nil))))) rfl (by rw [sizeLine_eq];decide)
  ·rw [e]
   exact WZ (by rw [List.length_take];simp;exact oA (Nat.min_le_left _ _) rfl)
 (intro d μ1 Z0;refine xA Z0 fun Z1 Z2=>?_;clear Z0;subst Z1;subst Z2)
 generalize Qk xs=ns at *
 have ed:((List.range (Zc ns).length).map fun i=>msD (K9 ns i))=(W8 ns).map msD:=by
  unfold W8;rw [List.map_map,Zc,List.length_map];rfl
 refine Xs.compE H O (ds:=Zc ns) (f:=fun i=>msD (K9 ns i)) (ZD.of (by rw [F.sc];rfl)) rfl (by decide) (Ev.bui O rfl (F.kindOf rfl) rfl) rfl (Ev.cell O rfl (F.kindOf rfl) rfl) (fun L i d hd=>?_) (by rw [Zc,List.length_map,sizeLine_eq];exact oA ‹_› rfl) (F.kindOf rfl) (US F.sc rfl) ?_
 ·rw [Zc,List.getElem?_map] at hd
  (refine xEA (Option.map_eq_some_iff.mp hd) fun z hz Z0=>?_;subst Z0)
  have ez:ns[i]?.getD 0=z:=by rw [hz];rfl
  have em:msD (K9 ns i)=MC (Yr z) (z.fmod 4) (Z9 z (i:Nat) (ns.length:Nat)):=by unfold msD K9;rw [ez]
  rw [em]
  refine Ev.call (f:=.ref 196) (Ev.glob (O.comp rfl) rfl (Zh (Zd O F.names) rfl) rfl) ⟨_,_,K'.kx 196 _ rfl,rfl⟩ rfl (Evs.cons rfl (Ev.loc (O.comp rfl) rfl (Zh (Zd O F.names) rfl) rfl) (Evs.cons rfl (Ev.loc (O.comp rfl) rfl (Zh (Zd O F.names) rfl) rfl) (Evs.cons rfl ?_ Evs.nil))) (Zt.fn (O.comp rfl) (Du (k:=0) K' (by omega)) (by show 1≤C.k;exact oF ‹_› rfl))
  exact Ev.call (f:=.builtin "len") (Ev.bui (O.comp rfl) rfl (Zh (Zd O F.names) rfl) rfl) trivial rfl (Evs.cons rfl (Ev.cell (O.comp rfl) rfl (Zh (Zd O F.names) rfl) rfl) Evs.nil) (Ot ns)
 rw [ed]
 refine Xs.ret (Em.ofEv (d:=.dat (.bool (PyData.eqv R D))) ?_) ?_
 ·refine Ev.cmp rfl (Ev.call (f:=.ref 206) (Ev.glob O rfl (F.kindOf rfl) rfl) ⟨_,_,K'.kx 206 _ rfl,rfl⟩ rfl (Evs.cons rfl (Ev.loc O rfl (F.kindOf rfl) rfl) Evs.nil) (Zt.fn O (k:=k+6) (by rw [F.w,F.h₁];exact hrun μ1) (by exact oE ‹_› rfl))) (Ev.call (f:=.ref 221) (Ev.glob O rfl (F.kindOf rfl) rfl) ⟨_,_,K'.kx 221 _ rfl,rfl⟩ rfl (Evs.cons rfl (Ev.loc O rfl (F.kindOf rfl) rfl) Evs.nil) (Zt.fn O (k:=k+6) (by rw [F.w,F.h₁];exact hdue μ1) (by exact oE ‹_› rfl))) (Qo O (Ke hdp))
 ·(intro d μ2 Z0;refine xA Z0 fun Z1 Z2=>?_;clear Z0;subst Z1;subst Z2);rfl
end Mine
namespace Mine
open PySem
noncomputable def mkG (hs:List (List Int)):List Msg:=hs.map fun h=>("",0,h)
noncomputable def BU (hs:List (List Int)):Nat->Nat->Nat
 | 0,_=>0
 | f+1,p=>1+((hs.getD p []).map fun o=>BU hs f o.toNat).sum
mutual
noncomputable def noDict:PyData->Bool
 | .list xs=>QC xs
 | .tuple xs=>QC xs
 | .dict _=>false
 | .none=>true
 | .bool _=>true
 | .int _=>true
 | .str _=>true
noncomputable def QC:List PyData->Bool
 | []=>true
 | x::xs=>noDict x && QC xs
end
mutual
theorem Dd:∀ d:PyData,noDict d=true->PyData.eqv d d=true
 | .none,_=>rfl
 | .bool b,_=>by simp [PyData.eqv]
 | .int i,_=>by simp [PyData.eqv]
 | .str x,_=>by simp [PyData.eqv]
 | .list xs,h=>by
  simp only [PyData.eqv]
  exact UD xs (by simpa [noDict] using h)
 | .tuple xs,h=>by
  simp only [PyData.eqv]
  exact UD xs (by simpa [noDict] using h)
 | .dict _,h=>by simp [noDict] at h
theorem UD:∀ xs:List PyData,QC xs=true->PyData.eqvAll xs xs=true
 | [],_=>rfl
 | x::xs,h=>by
  simp only [QC,Bool.and_eq_true] at h
  simp only [PyData.eqvAll,Bool.and_eq_true]
  exact ⟨Dd x h.1,UD xs h.2⟩
end
theorem YA (xs:List Str) (x:Str):inL xs x=true ↔ x∈xs:=by
 unfold inL
 rw [List.any_map,List.any_eq_true]
 constructor
 ·(intro Z0;refine xEA Z0 fun y hy e=>?_;clear Z0)
  simp only [Function.comp,PyData.eqv,beq_iff_eq] at e
  exact e▸hy
 ·intro h
  exact ⟨x,h,by simp [PyData.eqv]⟩
theorem Gl {ms ms':List Msg} (h:ms.map (·.2.2)=ms'.map (·.2.2)) (p:Nat):(Zy ms p).2.2=(Zy ms' p).2.2:=by
 have e:(ms.map (·.2.2))[p]?=(ms'.map (·.2.2))[p]?:=by rw [h]
 rw [List.getElem?_map,List.getElem?_map] at e
 unfold Zy
 cases h1:ms[p]? with
 | none =>
  rw [h1] at e
  cases h2:ms'[p]? with
  | none=>rfl
  | some b=>rw [h2] at e;exact noS e
 | some a =>
  rw [h1] at e
  cases h2:ms'[p]? with
  | none=>rw [h2] at e;exact sNo e
  | some b=>rw [h2] at e;exact Option.some.inj e
theorem Ha {ms ms':List Msg} (h:ms.map (·.2.2)=ms'.map (·.2.2)) (keys:List Int):QT ms keys=QT ms' keys:=by
 have hl:ms.length=ms'.length:=by have:=congrArg List.length h;simpa using this
 unfold QT
 rw [hl]
 refine List.filter_congr fun p Z=>?_
 unfold Y1
 rw [Gl h p]
theorem Bi {ms ms':List Msg} (h:ms.map (·.2.2)=ms'.map (·.2.2)):∀ i,Zm ms i=Zm ms' i
 | 0=>rfl
 | i+1=>by
  have e:∀ ks,ZC ms ks=ZC ms' ks:=fun ks=>by unfold ZC;rw [Ha h]
  unfold Zm
  rw [Bi h i,e]
theorem BB {ms ms':List Msg} (h:ms.map (·.2.2)=ms'.map (·.2.2)):∀ i,Zv ms i=Zv ms' i
 | 0=>rfl
 | i+1=>by
  unfold Zv
  rw [BB h i,Gl h i]
theorem My (hs:List (List Int)):(mkG hs).map (·.2.2)=hs:=by
 unfold mkG;exact Eq.trans List.map_map (List.map_id'' (fun Z=>rfl) hs)
section
variable {α β:Type}
noncomputable def WU (f:α->β) (l:List α):List β:=List.rec [] (fun a Z r=>f a::r) l
noncomputable def Wu (f:α->Bool) (l:List α):Bool:=List.rec false (fun a Z r=>Bool.rec r true (f a)) l
noncomputable def QY (f:α->Bool) (l:List α):Bool:=List.rec true (fun a Z r=>Bool.rec false r (f a)) l
noncomputable def U_ (f:α->Bool) (l:List α):List α:=List.rec [] (fun a Z r=>Bool.rec r (a::r) (f a)) l
noncomputable def Uc (l m:List α):List α:=List.rec m (fun a Z r=>a::r) l
noncomputable def JD (f:β->α->β) (l:List α):β->β:=List.rec (fun b=>b) (fun a Z r b=>r (f b a)) l
noncomputable def JI (f:α->Bool) (l:List α):Option α:=List.rec none (fun a Z r=>Bool.rec r (some a) (f a)) l
noncomputable def QZ (l:List α):Nat:=List.rec 0 (fun Z Z r=>r+1) l
noncomputable def Ky (l:List α):Nat->Option α:=List.rec (fun Z=>none) (fun a Z r i=>Nat.rec (some a) (fun k Z=>r k) i) l
noncomputable def Ym (l:List (List α)):List α:=List.rec [] (fun a Z r=>Uc a r) l
noncomputable def Zz (b:Bool) (x y:α):α:=Bool.rec y x b
noncomputable def Vi (a b:Bool):Bool:=Bool.rec false b a
theorem Vp (f:α->β):∀ l:List α,WU f l=l.map f
 | []=>rfl
 | a::l=>congrArg (f a::·) (Vp f l)
theorem Uj (f:α->Bool):∀ l:List α,Wu f l=l.any f
 | []=>rfl
 | a::l=>by
  have h:Wu f (a::l)=(Bool.rec (Wu f l) true (f a):Bool):=rfl
  rw [h,Uj f l,List.any_cons]
  cases f a <;> rfl
theorem QR (f:α->Bool):∀ l:List α,QY f l=l.all f
 | []=>rfl
 | a::l=>by
  have h:QY f (a::l)=(Bool.rec false (QY f l) (f a):Bool):=rfl
  rw [h,QR f l,List.all_cons]
  cases f a <;> rfl
theorem Wz (f:α->Bool):∀ l:List α,U_ f l=l.filter f
 | []=>rfl
 | a::l=>by
  have h:U_ f (a::l)=(Bool.rec (U_ f l) (a::U_ f l) (f a):List α):=rfl
  rw [h,Wz f l,List.filter_cons]
  cases f a <;> rfl
theorem Vs (m:List α):∀ l:List α,Uc l m=l++m
 | []=>rfl
 | a::l=>congrArg (a::·) (Vs m l)
theorem BP (f:β->α->β):∀ (l:List α) (b:β),JD f l b=l.foldl f b
 | [],_=>rfl
 | a::l,b=>BP f l (f b a)
theorem WH (f:α->Bool):∀ l:List α,JI f l=l.find? f
 | []=>rfl
 | a::l=>by
  have h:JI f (a::l)=(Bool.rec (JI f l) (some a) (f a):Option α):=rfl
  rw [h,WH f l,List.find?_cons]
  cases f a <;> rfl
theorem QB:∀ l:List α,QZ l=l.length
 | []=>rfl
 | _::l=>congrArg (·+1) (QB l)
theorem U5:∀ (l:List α) (i:Nat),Ky l i=l[i]?
 | [],_=>rfl
 | _::_,0=>rfl
 | _::l,i+1=>U5 l i
theorem Bs:∀ l:List (List α),Ym l=l.flatten
 | []=>rfl
 | a::l=>by
  have h:Ym (a::l)=Uc a (Ym l):=rfl
  rw [h,Vs,Bs l];rfl
theorem Vb (b:Bool) (x y:α):Zz b x y=if b=true then x else y:=by cases b <;> rfl
theorem VI (a b:Bool):Vi a b=(a && b):=by cases a <;> rfl
end
noncomputable def inR (n:Nat) (l:List Nat):Bool:=Wu (Nat.beq n) l
theorem Ud (a b:Nat):Nat.beq a b=decide (a=b):=by
 by_cases h:a=b
 ·subst h;simp [Nat.beq_refl]
 ·rw [decide_eq_false h]
  cases q:Nat.beq a b with
  | false=>rfl
  | true=>exact (h (Nat.eq_of_beq_eq_true q)).elim
theorem Uk (n:Nat) (l:List Nat):inR n l=decide (n∈l):=by
 unfold inR
 rw [Uj,Bool.eq_iff_iff,List.any_eq_true,decide_eq_true_eq]
 constructor
 ·(intro Z0;refine xEA Z0 fun x hx e=>?_;clear Z0)
  rw [Ud,decide_eq_true_eq] at e
  exact e▸hx
 ·intro h;exact ⟨n,h,by exact Eq.trans (Ud _ _) (decide_eq_true rfl)⟩
noncomputable def zi (l:List Nat):List Int:=l.map fun (n:Nat)=>(n:Int)
theorem UV {n:Nat}{l:List Nat}:(n:Int)∈zi l ↔ n∈l:=by
 unfold zi
 rw [List.mem_map]
 exact ⟨fun ⟨m,h,e⟩=>by rw [show n=m by omega];exact h,fun h=>⟨n,h,rfl⟩⟩
theorem Y0 (a b:List Nat):zi (a++b)=zi a++zi b:=List.map_append ..
theorem Vj (a:List Nat):(zi a).length=a.length:=List.length_map ..
theorem YE (n:Nat) (a:List Nat):zi (n::a)=(n:Int)::zi a:=rfl
theorem Ge:∀ l:List (List Nat),zi l.flatten=(l.map zi).flatten
 | []=>rfl
 | a::l=>by rw [List.flatten_cons,List.map_cons,List.flatten_cons,Y0,Ge l]
noncomputable abbrev Nn:=Nat×Int×List Nat
noncomputable def toB (b:Nn):Bn:=((b.1:Int),b.2.1,zi b.2.2)
noncomputable def isI (k:Nat) (z:Int):Bool:=Int.rec (fun m=>Nat.beq m k) (fun Z=>false) z
noncomputable def Hp (z:Int):Int:=Int.rec (fun m=>Nat.rec (Int.negSucc 0) (fun k Z=>Int.ofNat k) m) (fun m=>Int.negSucc (m+1)) z
noncomputable def PQ (z:Int) (k:Nat):Int:=Int.rec (fun m=>Int.ofNat (m+k)) (fun m=>Int.negSucc m+(k:Int)) z
noncomputable def MT (z:Int):Bool:=Int.rec (fun Z=>false) (fun m=>Nat.beq m 0) z
theorem Ml (k:Nat) (z:Int):isI k z=decide (z=(k:Int)):=by
 cases z with
 | ofNat m =>
  show Nat.beq m k=_
  refine Eq.trans (Ud _ _) ?_
  exact decide_eq_decide.mpr ⟨fun e=>by rw [e];rfl,fun e=>Int.ofNat.inj e⟩
 | negSucc m =>
  show false=_
  rw [decide_eq_false]
  intro e;cases e
theorem M1 (z:Int):MT z=decide (z=-1):=by
 cases z with
 | ofNat m =>
  show false=_
  rw [decide_eq_false]
  intro e;cases e
 | negSucc m =>
  show Nat.beq m 0=_
  refine Eq.trans (Ud _ _) ?_
  exact decide_eq_decide.mpr ⟨fun e=>by rw [e];rfl,fun e=>Int.negSucc.inj e⟩
theorem Mp (z:Int):Hp z=z - 1:=by
 cases z with
 | ofNat m =>
  cases m with
  | zero=>rfl
  | succ k=>show Int.ofNat k=Int.ofNat (k+1) - 1;simp only [Int.ofNat_eq_natCast];omega
 | negSucc m=>rfl
theorem M7 (z:Int) (k:Nat):PQ z k=z+(k:Int):=by
 cases z with
 | ofNat m=>rfl
 | negSucc m=>rfl
noncomputable def HE (bs:List Nn) (n:Nat):List Nn:=Zz (Wu (fun b=>Nat.beq b.1 n) bs) bs (Uc bs [(n,Int.ofNat 0,[])])
noncomputable def Oo (bs:List Nn) (n k:Nat):List Nn:=WU (fun b=>Zz (Nat.beq b.1 n) (b.1,PQ b.2.1 k,b.2.2) b) bs
noncomputable def Ps (bs:List Nn) (p n:Nat):List Nn:=WU (fun b=>Zz (Nat.beq b.1 p) (b.1,b.2.1,Uc b.2.2 [n]) b) bs
noncomputable def OA (bs:List Nn) (n:Nat) (ps:List Nat):List Nn:=JD (fun bs p=>Ps (HE bs p) p n) ps (Oo (HE bs n) n (QZ ps))
noncomputable def KV (bs:List Nn):List Nat:=WU (fun b=>b.1) (U_ (fun b=>isI 0 b.2.1) bs)
noncomputable def Dc (bs:List Nn) (n:Nat) (np:Int):List Nn:=WU (fun b=>Zz (Nat.beq b.1 n) (b.1,np,b.2.2) b) bs
noncomputable def UU (bs:List Nn) (rs:List Nat):List Nn:=JD (fun bs n=>Dc bs n (Int.negSucc 0)) rs bs
noncomputable def Ov (st:List Nn×List Nat) (s:Nat):List Nn×List Nat:=Option.rec st (fun b=>(Dc st.1 s (Hp b.2.1),Zz (isI 1 b.2.1) (Uc st.2 [s]) st.2)) (JI (fun b=>Nat.beq b.1 s) st.1)
noncomputable def YG (st:List Nn×List Nat) (n:Nat):List Nn×List Nat:=Option.rec st (fun b=>JD Ov b.2.2 (Dc st.1 n (Int.negSucc 1),st.2)) (JI (fun b=>Nat.beq b.1 n) st.1)
noncomputable def JF (st:List Nn×List Nat) (rs:List Nat):List Nn×List Nat:=JD YG rs st
theorem Jc (a b:Nat):((a:Int) == (b:Int))=Nat.beq a b:=by
 rw [Ud,Bool.eq_iff_iff,beq_iff_eq,decide_eq_true_eq];omega
theorem Mh (a b:Nat):decide ((a:Int)=(b:Int))=Nat.beq a b:=by
 rw [Ud];exact decide_eq_decide.mpr (by omega)
theorem Kh (bs:List Nn) (n:Nat):(bs.map toB).any (fun b=>b.1 == (n:Int))=bs.any (fun b=>Nat.beq b.1 n):=by
 refine Eq.trans List.any_map ?_
 congr 1;funext b;exact Jc _ _
theorem BR (bs:List Nn) (n:Nat):(bs.map toB).find? (fun b=>decide (b.1=(n:Int)))=(bs.find? fun b=>Nat.beq b.1 n).map toB:=by
 refine Eq.trans (List.find?_map) ?_
 congr 2;funext b;exact Mh _ _
theorem WG {α:Type} (a b:Nat) (x y:α):(if (a:Int)=(b:Int) then x else y)=Zz (Nat.beq a b) x y:=by
 rw [Vb,Ud]
 by_cases h:a=b
 ·rw [if_pos (by exact congrArg _ ‹_›),if_pos (decide_eq_true h)]
 ·rw [if_neg (by omega),if_neg (by rw [decide_eq_false h];decide)]
theorem V3 {α β:Type} (f:α->β) (b:Bool) (x y:α):f (Zz b x y)=Zz b (f x) (f y):=by cases b <;> rfl
theorem GD (bs:List Nn) (n:Nat):V7 (bs.map toB) n=(HE bs n).map toB:=by
 unfold V7 HE
 rw [Kh,Uj,Vb,Vs]
 split
 ·rfl
 ·rw [List.map_append];rfl
theorem MR (bs:List Nn) (n k:Nat):Jx (bs.map toB) n k=(Oo bs n k).map toB:=by
 unfold Jx Oo
 rw [Vp,List.map_map,List.map_map]
 refine List.map_congr_left fun b Z=>?_
 simp only [Function.comp,V3 toB]
 rw [← WG,M7];rfl
theorem OE (bs:List Nn) (p n:Nat):W9 (bs.map toB) p n=(Ps bs p n).map toB:=by
 unfold W9 Ps
 rw [Vp,List.map_map,List.map_map]
 refine List.map_congr_left fun b Z=>?_
 simp only [Function.comp,V3 toB,Vs]
 rw [← WG]
 simp only [toB,Y0];rfl
theorem KE (bs:List Nn) (n:Nat) (np:Int):Js (bs.map toB) n np=(Dc bs n np).map toB:=by
 unfold Js Dc
 rw [Vp,List.map_map,List.map_map]
 refine List.map_congr_left fun b Z=>?_
 simp only [Function.comp,V3 toB]
 rw [← WG];rfl
theorem M6 (n:Nat) (ps:List Nat) (bs:List Nn):Bu (bs.map toB) n (zi ps)=(OA bs n ps).map toB:=by
 unfold Bu OA
 rw [GD,Vj,MR,BP,QB]
 generalize Oo (HE bs n) n ps.length=bs'
 induction ps generalizing bs' with
 | nil=>rfl
 | cons p ps ih =>
  rw [YE,List.foldl_cons,List.foldl_cons,GD,OE]
  exact ih _
theorem GO (bs:List Nn):Vh (bs.map toB)=zi (KV bs):=by
 unfold Vh KV zi
 rw [Vp,Wz,List.filter_map,List.map_map,List.map_map]
 have e:((fun b:Bn=>b.2.1 == 0) ∘ toB)=fun b:Nn=>isI 0 b.2.1:=by
  funext b
  rw [Ml];rfl
 rw [e];rfl
theorem Y3:∀ (rs:List Nat) (bs:List Nn),UB (bs.map toB) (zi rs)=(UU bs rs).map toB
 | [],_=>rfl
 | n::rs,bs=>by
  show UB (Js (bs.map toB) n (-1)) (zi rs)=(UU (Dc bs n (Int.negSucc 0)) rs).map toB
  rw [KE];exact Y3 rs _
noncomputable def toS (st:List Nn×List Nat):List Bn×List Int:=(st.1.map toB,zi st.2)
theorem MW (st:List Nn×List Nat) (s:Nat):DM (toS st) s=toS (Ov st s):=by
 unfold DM Ov
 simp only [toS,BR,WH]
 cases st.1.find? (fun b=>Nat.beq b.1 s) with
 | none=>rfl
 | some b =>
  simp only [Option.map_some]
  show (Js (st.1.map toB) s (b.2.1 - 1),if b.2.1 - 1=0 then zi st.2++[(s:Int)] else zi st.2)=((Dc st.1 s (Hp b.2.1)).map toB,zi (Zz (isI 1 b.2.1) (Uc st.2 [s]) st.2))
  rw [KE,Mp,V3 zi,Vb,Ml,Vs,Y0]
  congr 1
  by_cases h:b.2.1=((1:Nat):Int)
  ·rw [if_pos (by omega),if_pos (decide_eq_true h)];rfl
  ·rw [if_neg (by omega),if_neg (by rw [decide_eq_false h];decide)]
theorem KZ:∀ (su:List Nat) (st:List Nn×List Nat),(zi su).foldl DM (toS st)=toS (JD Ov su st)
 | [],_=>rfl
 | s::su,st=>by
  rw [YE,List.foldl_cons,MW]
  exact KZ su _
theorem G7 (st:List Nn×List Nat) (n:Nat):Wt (toS st) n=toS (YG st n):=by
 unfold Wt YG
 simp only [toS,BR,WH]
 cases st.1.find? (fun b=>Nat.beq b.1 n) with
 | none=>rfl
 | some b =>
  simp only [Option.map_some]
  rw [show (-2:Int)=Int.negSucc 1 from rfl,KE]
  exact KZ b.2.2 (Dc st.1 n (Int.negSucc 1),st.2)
theorem Jb:∀ (rs:List Nat) (st:List Nn×List Nat),Uw (toS st) (zi rs)=toS (JF st rs)
 | [],_=>rfl
 | n::rs,st=>by
  show Uw (Wt (toS st) n) (zi rs)=_
  rw [G7];exact Jb rs _
noncomputable def J6 (rs:List Nat):List Nn×List Nat->Option (List Nn×List Nat) :=
 List.rec (fun st=>Zz (Nat.ble (QZ st.2) 1000) (some st) none)
  (fun n Z r st=>Zz (Wu (fun b=>Vi (Nat.beq b.1 n) (MT b.2.1)) st.1) (Zz (Nat.ble (QZ st.2) 1000) (r (YG st n)) none) none) rs
noncomputable def Hg (f:Nat):List Nn×List Nat->Option (List (List Nat)) :=
 Nat.rec (fun Z=>none) (fun Z r s=>List.rec (some [])
  (fun a tl Z=>Zz (QY (fun n=>Wu (fun b=>Nat.beq b.1 n) s.1) (a::tl)) (Option.rec none (fun st=>Option.rec none (fun rs=>some ((a::tl)::rs)) (r st)) (J6 (a::tl) (UU s.1 (a::tl),[]))) none) s.2) f
theorem QD {α:Type}{b:Bool}{x:Option α}{y:α} (h:Zz b x none=some y):b=true/\x=some y:=by
 cases b with
 | true=>exact ⟨rfl,h⟩
 | false=>exact noS h
theorem KN:∀ {rs:List Nat}{st st':List Nn×List Nat},J6 rs st=some st'->st'=JF st rs /\
  (∀ i,i < rs.length->(JF st (rs.take i)).1.any (fun b=>Nat.beq b.1 (rs.getD i 0) && MT b.2.1)=true)/\∀ i,i≤rs.length->(JF st (rs.take i)).2.length≤1000
 | [],st,st',h=>by
  refine xA (QD (show Zz (Nat.ble (QZ st.2) 1000) (some st) none=some st' from h)) fun a b=>?_
  obtain rfl:=Option.some.inj b
  refine ⟨rfl,fun i hi=>by simp at hi,fun i Z=>?_⟩
  rw [List.take_nil]
  rw [QB] at a
  exact Nat.le_of_ble_eq_true a
 | n::rs,st,st',h=>by
  refine xA (QD (show Zz (Wu (fun b=>Vi (Nat.beq b.1 n) (MT b.2.1)) st.1) (Zz (Nat.ble (QZ st.2) 1000) (J6 rs (YG st n)) none) none=some st' from h)) fun a h1=>?_
  refine xA (QD h1) fun b h2=>?_
  refine xAA (KN h2) fun c d e=>?_
  refine ⟨c,fun i hi=>?_,fun i hi=>?_⟩
  ·cases i with
   | zero =>
    replace a:=Eq.trans (Eq.symm (Uj _ _)) a
    simp only [VI] at a
    exact a
   | succ i=>exact d i (by simpa using hi)
  ·cases i with
   | zero =>
    rw [QB] at b
    exact Nat.le_of_ble_eq_true b
   | succ i=>exact e i (by simpa using hi)
theorem M5 (l:List Nat) (i:Nat):(zi l).take i=zi (l.take i):=by unfold zi;rw [List.map_take]
theorem Gz {l:List Nat}{i:Nat} (h:i < l.length):(zi l).getD i 0=((l.getD i 0:Nat):Int):=by
 unfold zi
 simp [List.getD_eq_getElem?_getD,h]
theorem Po {bs:List Nn}{rs:List Nat}{st:List Nn×List Nat} (h1:QY (fun n=>Wu (fun b=>Nat.beq b.1 n) bs) rs=true) (h2:J6 rs (UU bs rs,[])=some st):okB (bs.map toB) (zi rs)=true:=by
 refine xAA (KN h2) fun Z d e=>?_
 have hd:∀ i,Uw (UB (bs.map toB) (zi rs),[]) ((zi rs).take i)=toS (JF (UU bs rs,[]) (rs.take i)):=fun i=>by
  rw [M5,Y3]
  exact Jb (rs.take i) (UU bs rs,[])
 unfold okB
 simp only [hd]
 rw [Bool.and_eq_true,Bool.and_eq_true]
 refine ⟨⟨?_,?_⟩,?_⟩
 ·replace h1:=Eq.trans (Eq.symm (QR _ _)) h1
  unfold zi
  refine Eq.trans List.all_map ?_
  refine List.all_eq_true.mpr fun n hn=>?_
  have:=List.all_eq_true.mp h1 n hn
  replace this:=Eq.trans (Eq.symm (Uj _ _)) this
  simp only [Function.comp]
  exact Eq.trans (Kh _ _) this
 ·refine List.all_eq_true.mpr fun i hi=>?_
  rw [List.mem_range,Vj] at hi
  have:=d i hi
  rw [Gz hi]
  show ((JF (UU bs rs,[]) (rs.take i)).1.map toB).any _=true
  refine Eq.trans List.any_map ?_
  rw [← this]
  congr 1;funext b
  simp only [Function.comp,toB]
  rw [Jc,M1];rfl
 ·refine List.all_eq_true.mpr fun i hi=>?_
  rw [List.mem_range,Vj] at hi
  refine decide_eq_true ?_
  show (zi _).length≤1000
  rw [Vj];exact e i (by exact Nat.le_of_lt_succ ‹_›)
theorem Gk:∀ {f:Nat}{s:List Nn×List Nat}{rs:List (List Nat)},Hg f s=some rs->Kz f (toS s)=some (rs.map zi)
 | 0,_,_,h=>by exact noS h
 | f+1,(bs,[]),rs,h=>by obtain rfl:=Option.some.inj h;rfl
 | f+1,(bs,a::tl),rs,h=>by
  refine xA (QD (show Zz (QY (fun n=>Wu (fun b=>Nat.beq b.1 n) bs) (a::tl)) (Option.rec none (fun st=>Option.rec none (fun rs=>some ((a::tl)::rs)) (Hg f st)) (J6 (a::tl) (UU bs (a::tl),[])):Option (List (List Nat))) none=some rs from h)) fun h1 h2=>?_
  cases h3:J6 (a::tl) (UU bs (a::tl),[]) with
  | none=>rw [h3] at h2;exact noS h2
  | some st =>
   rw [h3] at h2
   have h2':(Option.rec none (fun rs=>some ((a::tl)::rs)) (Hg f st):Option (List (List Nat)))=some rs:=h2
   cases h4:Hg f st with
   | none=>rw [h4] at h2';exact noS h2'
   | some rr =>
    rw [h4] at h2'
    obtain rfl:=Option.some.inj h2'
    have ih:=Gk h4
    have hw:=(KN h3).1
    have ok:=Po h1 h3
    show (if (zi (a::tl)).isEmpty then some [] else if okB (bs.map toB) (zi (a::tl)) then (Kz f (Uw (UB (bs.map toB) (zi (a::tl)),[]) (zi (a::tl)))).map (zi (a::tl)::·) else none)=some (zi (a::tl)::rr.map zi)
    rw [if_neg (by simp [zi]),if_pos ok,Y3]
    have e:Uw ((UU bs (a::tl)).map toB,[]) (zi (a::tl))=toS st:=by rw [hw];exact Jb (a::tl) (UU bs (a::tl),[])
    rw [e,ih];rfl
noncomputable def suN (bs:List Nn) (n:Nat):List Nat:=Option.rec [] (fun b=>b.2.2) (JI (fun b=>Nat.beq b.1 n) bs)
noncomputable def B0 (su:Nat->List Nat) (st:List (Nat×Nat)):Option (Nat×List (Nat×Nat)) :=
 List.rec none (fun a tl r=>Option.rec r (fun m=>some (m,(a.1,a.2+1)::tl)) (Ky (su a.1) a.2)) st
noncomputable def Yd (su:Nat->List Nat) (f:Nat):Nat->List (Nat×Nat)->List Nat->Option (Option (List Nat)) :=
 Nat.rec (fun Z Z Z=>none) (fun Z r node st seen =>
  Zz (Nat.ble (QZ seen) 100) (Zz (Nat.ble (QZ st) 100)
   (Zz (inR node seen) (Zz (Wu (fun e=>Nat.beq e.1 node) st) (some none) (Option.rec (some (some seen)) (fun ms=>r ms.1 ms.2 seen) (B0 su st)))
    (Option.rec (some (some (Uc seen [node]))) (fun ms=>r ms.1 ms.2 (Uc seen [node])) (B0 su ((node,0)::st)))) none) none) f
noncomputable def BZ (su:Nat->List Nat) (F:Nat) (l:List Nat):List Nat->Option Bool :=
 List.rec (fun Z=>some false) (fun n Z r seen=>Zz (inR n seen) (r seen) (Option.rec none (fun x=>Option.rec (some true) (fun s'=>r s') x) (Yd su F n [] seen))) l
noncomputable def toE (e:Nat×Nat):Int×Nat:=((e.1:Int),e.2)
noncomputable def toM (m:Nat×List (Nat×Nat)):Int×List (Int×Nat):=((m.1:Int),m.2.map toE)
section
variable {su:Nat->List Nat}{sI:Int->List Int} (hs:∀ n:Nat,sI n=zi (su n))
include hs
theorem KB:∀ st:List (Nat×Nat),Jr sI (st.map toE)=(B0 su st).map toM
 | []=>rfl
 | (n,i)::st=>by
  have ih:=KB st
  show (match (sI (n:Int))[i]? with|some m=>some (m,((n:Int),i+1)::st.map toE)|none=>Jr sI (st.map toE))=(Option.rec (B0 su st) (fun m=>some (m,(n,i+1)::st)) (Ky (su n) i):Option (Nat×List (Nat×Nat))).map toM
  rw [hs,U5,ih]
  unfold zi
  rw [List.getElem?_map]
  cases (su n)[i]? with
  | none=>rfl
  | some m=>rfl
theorem W4:∀ (f n:Nat) (st:List (Nat×Nat)) (seen:List Nat) (x:Option (List Nat)),Yd su f n st seen=some x->QN sI f n (st.map toE) (zi seen)=some (x.map zi)
 | 0,_,_,_,_,h=>by exact noS h
 | f+1,n,st,seen,x,h=>by
  refine xA (QD (show Zz (Nat.ble (QZ seen) 100) (Zz (Nat.ble (QZ st) 100)       (Zz (inR n seen) (Zz (Wu (fun e=>Nat.beq e.1 n) st) (some none) (Option.rec (some (some seen)) (fun ms=>Yd su f ms.1 ms.2 seen) (B0 su st)))         (Option.rec (some (some (Uc seen [n]))) (fun ms=>Yd su f ms.1 ms.2 (Uc seen [n])) (B0 su ((n,0)::st)))) none) none=some x from h)) fun a h=>?_
  refine xA (QD h) fun b h=>?_
  rw [QB] at a b
  have a:=Nat.le_of_ble_eq_true a
  have b:=Nat.le_of_ble_eq_true b
  unfold QN
  rw [if_neg (by rw [Vj,List.length_map];omega)]
  have hin:((n:Int)∈(st.map toE).map (·.1)) ↔ Wu (fun e=>Nat.beq e.1 n) st=true:=by
   rw [Uj,List.any_eq_true,List.map_map,List.mem_map]
   constructor
   ·(intro Z0;refine xEA Z0 fun e he q=>?_;clear Z0)
    refine ⟨e,he,?_⟩
    rw [Ud,decide_eq_true_eq]
    have q:((e.1:Nat):Int)=(n:Int):=q
    exact Int.ofNat.inj ‹_›
   ·(intro Z0;refine xEA Z0 fun e he q=>?_;clear Z0)
    rw [Ud,decide_eq_true_eq] at q
    exact ⟨e,he,by show ((e.1:Nat):Int)=(n:Int);rw [q]⟩
  by_cases hm:n∈seen
  ·refine Eq.trans (if_pos (UV.mpr hm)) ?_
   rw [Uk,decide_eq_true hm] at h
   by_cases hn:Wu (fun e=>Nat.beq e.1 n) st=true
   ·refine Eq.trans (if_pos (hin.mpr hn)) ?_
    rw [hn] at h
    obtain rfl:=Option.some.inj h;rfl
   ·refine Eq.trans (if_neg fun z=>hn (hin.mp z)) ?_
    rw [Bool.not_eq_true] at hn
    rw [hn] at h
    rw [KB hs]
    cases hp:B0 su st with
    | none=>rw [hp] at h;obtain rfl:=Option.some.inj h;rfl
    | some ms =>
     rw [hp] at h
     exact W4 f ms.1 ms.2 seen x h
  ·refine Eq.trans (if_neg fun z=>hm (UV.mp z)) ?_
   rw [Uk,decide_eq_false hm] at h
   have e:=KB hs ((n,0)::st)
   rw [show ((n:Int),0)::st.map toE=((n,0)::st).map toE from rfl,e]
   have e2:zi seen++[(n:Int)]=zi (Uc seen [n]):=by rw [Vs,Y0];rfl
   cases hp:B0 su ((n,0)::st) with
   | none =>
    rw [hp] at h;obtain rfl:=Option.some.inj h
    show some (some (zi seen++[(n:Int)]))=some (some (zi (Uc seen [n])))
    rw [e2]
   | some ms =>
    rw [hp] at h
    show QN sI f ms.1 (ms.2.map toE) (zi seen++[(n:Int)])=_
    rw [e2]
    exact W4 f ms.1 ms.2 _ x h
theorem YZ (F:Nat):∀ (l seen:List Nat) (b:Bool),BZ su F l seen=some b->Wc sI F (zi l) (zi seen)=some b
 | [],_,_,h=>h
 | n::l,seen,b,h=>by
  have h:Zz (inR n seen) (BZ su F l seen) (Option.rec none (fun x=>Option.rec (some true) (fun s'=>BZ su F l s') x) (Yd su F n [] seen))=some b:=h
  rw [YE]
  unfold Wc
  by_cases hm:n∈seen
  ·refine Eq.trans (if_pos (UV.mpr hm)) ?_
   rw [Uk,decide_eq_true hm] at h
   exact YZ F l seen b h
  ·refine Eq.trans (if_neg fun z=>hm (UV.mp z)) ?_
   rw [Uk,decide_eq_false hm] at h
   cases hi:Yd su F n [] seen with
   | none=>rw [hi] at h;exact noS h
   | some x =>
    rw [hi] at h
    have:=W4 hs F n [] seen x hi
    have e:QN sI F (n:Int) [] (zi seen)=some (x.map zi):=this
    rw [e]
    cases x with
    | none=>exact h
    | some s'=>exact YZ F l s' b h
end
theorem OV (bs:List Nn) (n:Nat):suB (bs.map toB) (n:Int)=zi (suN bs n):=by
 unfold suB suN
 rw [WH,List.find?_map]
 have e:((fun b:Bn=>b.1 == (n:Int)) ∘ toB)=fun b=>Nat.beq b.1 n:=by funext b;exact Jc _ _
 rw [e]
 cases bs.find? (fun b=>Nat.beq b.1 n) with
 | none=>rfl
 | some b=>rfl
end Mine
namespace Mine
open PySem PySem.W PyProof.Rows
noncomputable def Jy (hs:List (List Nat)) (p:Nat):List Nat:=Option.rec [] (fun h=>h) (Ky hs p)
theorem YB (hs:List (List Nat)) (p:Nat):Jy hs p=hs.getD p []:=by
 delta Jy
 rw [U5,List.getD_eq_getElem?_getD]
 cases hs[p]? <;> rfl
theorem HO (hs:List (List Nat)) (p:Nat):(hs.map zi).getD p []=zi (hs.getD p []):=by
 rw [List.getD_eq_getElem?_getD,List.getD_eq_getElem?_getD,List.getElem?_map]
 cases hs[p]? <;> rfl
theorem Dw (hs:List (List Nat)) (p:Nat):(Zy (mkG (hs.map zi)) p).2.2=zi (Jy hs p):=by
 rw [YB,← HO]
 delta Zy mkG
 rw [List.getElem?_map,List.getD_eq_getElem?_getD]
 cases (hs.map zi)[p]? <;> rfl
noncomputable def Vq (hs:List (List Nat)) (i:Nat):List Nn:=Nat.rec [] (fun k r=>OA r k (Jy hs k)) i
theorem D7 (hs:List (List Nat)):∀ i,Zv (mkG (hs.map zi)) i=(Vq hs i).map toB
 | 0=>rfl
 | i+1=>by
  show Bu (Zv (mkG (hs.map zi)) i) (i:Nat) (Zy (mkG (hs.map zi)) i).2.2=(OA (Vq hs i) i (Jy hs i)).map toB
  rw [D7 hs i,Dw,M6]
noncomputable def Dt (n:Nat):List Nat:=Nat.rec [] (fun k r=>Uc r [k]) n
theorem J_:∀ n,Dt n=List.range n
 | 0=>rfl
 | n+1=>by
  show Uc (Dt n) [n]=_
  rw [Vs,J_ n,List.range_succ]
noncomputable def JL (hs:List (List Nat)) (keys:List Nat):List Nat:=U_ (fun i=>Zz (inR i keys) false (QY (fun o=>inR o keys) (Jy hs i))) (Dt (QZ hs))
theorem Mo (hs:List (List Nat)) (keys:List Nat):ZC (mkG (hs.map zi)) (zi keys)=zi (JL hs keys):=by
 delta ZC QT JL zi
 rw [Wz,J_,QB]
 have hl:(mkG (hs.map zi)).length=hs.length:=by delta mkG;simp
 have e0:(mkG (hs.map fun l=>l.map fun (n:Nat)=>(n:Int)))=mkG (hs.map zi):=rfl
 rw [e0,hl]
 congr 1
 refine List.filter_congr fun p Z=>?_
 delta Y1
 rw [Dw,Vb,Uk,QR]
 have e1:decide ((p:Int)∈keys.map fun (n:Nat)=>(n:Int))=decide (p∈keys):=decide_eq_decide.mpr UV
 rw [e1]
 by_cases hp:p∈keys
 ·rw [decide_eq_true hp];rfl
 ·rw [decide_eq_false hp]
  have e2:∀ l:List Nat,PyData.eqv (.list (((zi l).filter fun o=>!decide (o∈keys.map fun (n:Nat)=>(n:Int))).map .int)) (.list [])=l.all fun o=>inR o keys:=by
   intro l
   induction l with
   | nil=>rfl
   | cons o l ih =>
    rw [YE,List.filter_cons,List.all_cons,Uk]
    have e3:decide ((o:Int)∈keys.map fun (n:Nat)=>(n:Int))=decide (o∈keys):=decide_eq_decide.mpr UV
    rw [e3]
    by_cases ho:o∈keys
    ·rw [decide_eq_true ho];exact ih
    ·rw [decide_eq_false ho];rfl
  exact (e2 _)
noncomputable def Jh (hs:List (List Nat)) (f:Nat):List Nat×List (List Nat)->List Nat×List (List Nat) :=
 Nat.rec (fun s=>s) (fun Z r s=>List.rec s (fun a tl Z=>r (Uc s.1 (a::tl),Uc s.2 [a::tl])) (JL hs s.1)) f
noncomputable def toD (s:List Nat×List (List Nat)):List Int×List (List Int):=(zi s.1,s.2.map zi)
theorem KY {ms:List Msg}{i:Nat} (h:ZC ms (Zm ms i).1=[]):∀ f,Zm ms (i+f)=Zm ms i
 | 0=>rfl
 | f+1=>by
  have ih:=KY h f
  have e0:Zm ms (i+(f+1))=((Zm ms (i+f)).1++ZC ms (Zm ms (i+f)).1,(Zm ms (i+f)).2++if PyData.eqv (.list (Zc (ZC ms (Zm ms (i+f)).1))) (.list [])=true then [] else [ZC ms (Zm ms (i+f)).1]):=rfl
  rw [e0,ih,h]
  have e:(if PyData.eqv (.list (Zc [])) (.list [])=true then ([]:List (List Int)) else [[]])=[]:=rfl
  rw [e,List.append_nil,List.append_nil]
theorem D5 (hs:List (List Nat)):∀ (f i:Nat) (s:List Nat×List (List Nat)),Zm (mkG (hs.map zi)) i=toD s->Zm (mkG (hs.map zi)) (i+f)=toD (Jh hs f s)
 | 0,_,_,h=>h
 | f+1,i,s,h=>by
  have hf:ZC (mkG (hs.map zi)) (Zm (mkG (hs.map zi)) i).1=zi (JL hs s.1):=by rw [h];exact Mo hs s.1
  show _=toD (List.rec s (fun a tl Z=>Jh hs f (Uc s.1 (a::tl),Uc s.2 [a::tl])) (JL hs s.1))
  cases hq:JL hs s.1 with
  | nil =>
   rw [hq] at hf
   exact Eq.trans (KY hf (f+1)) h
  | cons a tl =>
   rw [hq] at hf
   rw [show i+(f+1)=(i+1)+f by lia]
   refine D5 hs f (i+1) _ ?_
   unfold Zm
   rw [hf,h,Vs,Vs]
   show (zi s.1++zi (a::tl),s.2.map zi++[zi (a::tl)])=(zi (s.1++a::tl),(s.2++[a::tl]).map zi)
   rw [Y0,List.map_append];rfl
noncomputable def UP (a b:Nat):Bool:=Nat.ble (Nat.succ a) b
theorem VG (a b:Nat):UP a b=decide ((a:Int) < (b:Int)):=by
 delta UP
 rw [Bool.eq_iff_iff,Nat.ble_eq,decide_eq_true_eq];lia
noncomputable def Od (x:Nat) (l:List Nat):List Nat:=List.rec [x] (fun y tl r=>Zz (UP y x) (y::r) (x::y::tl)) l
noncomputable def VV (l:List Nat):List Nat:=List.rec [] (fun x Z r=>Od x r) l
theorem Ga (x:Nat):∀ l:List Nat,ins iLt (x:Int) (zi l)=zi (Od x l)
 | []=>rfl
 | y::l=>by
  show (if iLt (y:Int) (x:Int) then (y:Int)::ins iLt (x:Int) (zi l) else (x:Int)::(y:Int)::zi l)=zi (Zz (UP y x) (y::Od x l) (x::y::l))
  rw [Ga x l,V3 zi,Vb,VG];rfl
theorem U4:∀ l:List Nat,Zl iLt (zi l)=zi (VV l)
 | []=>rfl
 | x::l=>by
  show ins iLt (x:Int) (Zl iLt (zi l))=zi (Od x (VV l))
  rw [U4 l,Ga]
noncomputable def cN (ks:List Nat) (i j:Nat):Option Bool:=Option.rec none (fun a=>Option.rec none (fun b=>Zz (Nat.beq a b) none (some (UP a b))) (Ky ks j)) (Ky ks i)
theorem Py (ks:List Nat):cOf (zi ks)=cN ks:=by
 funext i j
 delta cOf cN zi
 rw [U5,U5,List.getElem?_map,List.getElem?_map]
 cases ks[i]? with
 | none=>rfl
 | some a =>
  cases ks[j]? with
  | none=>rfl
  | some b =>
   show (if (a:Int)=(b:Int) then none else some (decide ((a:Int) < (b:Int))))=Zz (Nat.beq a b) none (some (UP a b))
   rw [WG,VG]
noncomputable def GJ (ks:List Nat):Option (List Nat) :=
 Zz (UP (QZ ks) 2) (some ks) (Option.rec none (fun p=>Zz (QY (fun i=>UP i (QZ ks)) p.toList) (some (WU (fun i=>Option.rec 0 (fun a=>a) (Ky ks i)) p.toList)) none) (DK (cN ks) (kas_sort (QZ ks))))
theorem Gw {ks r:List Nat} (h:GJ ks=some r):Vo (zi ks)=some (zi r):=by
 delta GJ at h
 delta Vo
 rw [Vj,Py]
 rw [Vb,VG,QB] at h
 by_cases h2:ks.length < 2
 ·rw [if_pos (by rw [decide_eq_true_eq];exact rc ‹_› rfl)] at h
  obtain rfl:=Option.some.inj h
  exact Eq.trans (if_pos h2) rfl
 ·rw [if_neg (by rw [decide_eq_true_eq];lia)] at h
  refine Eq.trans (if_neg h2) ?_
  cases hr:DK (cN ks) (kas_sort ks.length) with
  | none=>rw [hr] at h;exact noS h
  | some p =>
   rw [hr] at h
   obtain ⟨h3,h4⟩:=QD (show Zz (QY (fun i=>UP i ks.length) p.toList) (some (WU (fun i=>Option.rec 0 (fun a=>a) (Ky ks i)) p.toList)) none=some r from h)
   obtain rfl:=Option.some.inj h4
   replace h3:=Eq.trans (Eq.symm (QR _ _)) h3
   have h5:∀ i∈p.toList,i < ks.length:=fun i hi=>by
    have:=List.all_eq_true.mp h3 i hi
    rw [VG,decide_eq_true_eq] at this;exact Int.ofNat_lt.mp ‹_›
   show (if p.toList.all (fun i=>decide (i < ks.length)) then some (p.toList.map fun i=>(zi ks).getD i 0) else none)=some (zi (WU (fun i=>Option.rec 0 (fun a=>a) (Ky ks i)) p.toList))
   rw [if_pos (List.all_eq_true.mpr fun i hi=>decide_eq_true (h5 i hi)),Vp]
   show _=some ((p.toList.map _).map _)
   rw [List.map_map]
   congr 1
   refine List.map_congr_left fun i hi=>?_
   refine Eq.trans (Gz (h5 i hi)) ?_
   simp only [Function.comp]
   rw [U5,List.getD_eq_getElem?_getD]
   cases ks[i]? <;> rfl
noncomputable def eqR {α:Type} (f:α->α->Bool) (l:List α):List α->Bool :=
 List.rec (fun m=>List.rec true (fun Z Z Z=>false) m) (fun a Z r m=>List.rec false (fun b tl Z=>Vi (f a b) (r tl)) m) l
theorem Dl {α:Type}{f:α->α->Bool} (hf:∀ a b,f a b=true->a=b):∀ {l m:List α},eqR f l m=true->l=m
 | [],[],_=>rfl
 | [],_::_,h=>by exact fT h
 | _::_,[],h=>by exact fT h
 | a::l,b::m,h=>by
  have h:Vi (f a b) (eqR f l m)=true:=h
  rw [VI,Bool.and_eq_true] at h
  rw [hf a b h.1,Dl hf h.2]
noncomputable def eqN:List Nat->List Nat->Bool:=eqR Nat.beq
theorem DQ {l m:List Nat} (h:eqN l m=true):l=m:=Dl (fun Z Z e=>Nat.eq_of_beq_eq_true e) h
noncomputable def Vl (l:List Nat):Nat:=List.rec 1 (fun a Z r=>Nat.add (Nat.mul 10 r) a) l
noncomputable def unR (f:Nat):Nat->List Nat:=Nat.rec (fun Z=>[]) (fun Z r c=>Zz (Nat.ble c 1) [] (Nat.mod c 10::r (Nat.div c 10))) f
theorem J2:∀ l:List Nat,1≤Vl l
 | []=>Nat.le_refl _
 | a::l=>by
  have:=J2 l
  show 1≤10 * Vl l+a
  lia
theorem BV:∀ (f:Nat) (l:List Nat),l.length≤f->(∀ a∈l,a < 10)->unR f (Vl l)=l
 | 0,[],_,_=>rfl
 | 0,_::_,h,_=>by simp at h
 | f+1,[],_,_=>rfl
 | f+1,a::l,h,ha=>by
  have h0:=ha a List.mem_cons_self
  have hp:=J2 l
  have ih:=BV f l (by simpa using h) fun b hb=>ha b (List.mem_cons_of_mem _ hb)
  show Zz (Nat.ble (10 * Vl l+a) 1) [] ((10 * Vl l+a) % 10::unR f ((10 * Vl l+a) / 10))=a::l
  have e:Nat.ble (10 * Vl l+a) 1=false:=by
   cases q:Nat.ble (10 * Vl l+a) 1 with
   | false=>rfl
   | true=>have:=Nat.le_of_ble_eq_true q;lia
  rw [e,show (10 * Vl l+a) % 10=a by lia,show (10 * Vl l+a) / 10=Vl l by lia,ih];rfl
noncomputable def OK:List Nat:=[12,1312,12310,14132,15421,176530,1350421,1726503,1765023,1765320,14316520,14653012,14716503,16543012,17645103,17654013,124176503,127461503,127650413,127654103,141726503,141765023,141765320,142716530,147165032,147216503,172645103,172654013,174261503,174615203,174621530,176250431,176254310,176451032,176452103,176504123,176504321,176524031,176540213,176541032,176542310]
noncomputable def OG:List Nat:=[13,1321,12413,14213,16502,1276503,1534201,1726530,1765032,14176503,14365102,14653021,14716530,16543021,17645130,17654031,124176530,127461530,127650431,127654310,141726530,141765032,142176503,147162503,147165203,147216530,172645130,172654031,174261530,174615230,176245103,176254013,176425103,176451203,176452130,176504132,176520413,176524310,176540312,176542013,176543210]
noncomputable def OI:List Nat:=[123,1413,12431,14231,16520,1276530,1542310,1762503,1765203,14176530,14365120,14653102,16540312,17461503,17650413,17654103,124716503,127645103,127654013,141276503,141762503,141765203,142176530,147162530,147165230,172461503,172650413,172654103,174615023,174615320,176245130,176254031,176425130,176451230,176502413,176504213,176520431,176540123,176540321,176542031]
noncomputable def OJ:List Nat:=[132,1431,14123,14321,176503,1305421,1543210,1762530,1765230,14316502,14365210,14653210,16540321,17461530,17650431,17654310,124716530,127645130,127654031,141276530,141762530,141765230,142716503,147165023,147165320,172461530,172650431,172654310,174615032,174621503,176250413,176254103,176451023,176451320,176502431,176504231,176524013,176540132,176541023,176542103]
noncomputable def JR (c:Nat):Bool:=Option.rec false (eqN (VV (unR 9 c))) (GJ (unR 9 c))
noncomputable def inT (ord:List Nat):Bool:=Vi (Nat.ble (QZ ord) 9) (Vi (QY (fun a=>Nat.ble a 9) ord) (Zz (inR (Vl ord) OK) true (Zz (inR (Vl ord) OG) true (Zz (inR (Vl ord) OI) true (inR (Vl ord) OJ)))))
theorem Hi:QY JR OK=true:=by decide +kernel
theorem HY:QY JR OG=true:=by decide +kernel
theorem HX:QY JR OI=true:=by decide +kernel
theorem ME:QY JR OJ=true:=by decide +kernel
set_option tactic.hygienic true in
theorem Md {ord:List Nat} (h:inT ord=true):GJ ord=some (VV ord):=by
 delta inT at h
 rw [VI,Bool.and_eq_true,VI,Bool.and_eq_true,QB,QR,List.all_eq_true] at h
 obtain ⟨h1,h2,h3⟩:=h
 have key:∀ l:List Nat,QY JR l=true->Vl ord∈l->GJ ord=some (VV ord):=fun l hl hm=>by
  rw [QR,List.all_eq_true] at hl
  have:=hl _ hm
  unfold JR at this
  rw [BV 9 ord (Nat.le_of_ble_eq_true h1) fun a ha=>by have:=Nat.le_of_ble_eq_true (h2 a ha);exact oD ‹_› rfl] at this
  cases hk:GJ ord with
  | none=>rw [hk] at this;exact fT this
  | some r =>
   rw [hk] at this
   rw [DQ (show eqN (VV ord) r=true from this)]
 simp only [Vb,Uk] at h3
 split at h3
 ·rename_i q;exact key _ Hi (of_decide_eq_true q)
 ·split at h3
  ·rename_i q;exact key _ HY (of_decide_eq_true q)
  ·split at h3
   ·rename_i q;exact key _ HX (of_decide_eq_true q)
   ·exact key _ ME (of_decide_eq_true h3)
noncomputable def Oh (l:List Nat):Nat:=List.rec 0 (fun a Z r=>Nat.add a r) l
theorem D1:∀ l:List Nat,Oh l=l.sum
 | []=>rfl
 | a::l=>by
  show a+Oh l=_
  rw [D1 l,List.sum_cons]
noncomputable def M0 (hs:List (List Nat)) (f:Nat):Nat->Nat:=Nat.rec (fun Z=>0) (fun Z r p=>Nat.succ (Oh (WU r (Jy hs p)))) f
theorem Gm (hs:List (List Nat)):∀ f p,BU (hs.map zi) f p=M0 hs f p
 | 0,_=>rfl
 | f+1,p=>by
  show 1+(((hs.map zi).getD p []).map fun o=>BU (hs.map zi) f o.toNat).sum=Nat.succ (Oh (WU (M0 hs f) (Jy hs p)))
  rw [HO,D1,Vp,YB]
  delta zi
  rw [List.map_map]
  have e:(((hs.getD p []).map ((fun o:Int=>BU (hs.map fun l=>l.map fun (n:Nat)=>(n:Int)) f o.toNat) ∘ fun (n:Nat)=>(n:Int))))=(hs.getD p []).map (M0 hs f) :=
   List.map_congr_left fun o Z=>by simp only [Function.comp,Int.toNat_natCast];exact Gm hs f o
  rw [e];lia
noncomputable def Mq (hs:List (List Nat)) (ord:List Nat):List Nat->Bool :=
 List.rec (fun Z=>true) (fun p Z r pre=>Vi (UP p (QZ hs)) (Zz (inR p pre) false (Vi (QY (fun o=>inR o pre) (Jy hs p)) (r (p::pre))))) ord
theorem BL {hs:List (List Nat)}:∀ {ord pre0:List Nat},Mq hs ord pre0=true->∀ pre p post,ord=pre++p::post->p < hs.length/\(p∉pre/\p∉pre0)/\∀ o∈hs.getD p [],o∈pre∨o∈pre0
 | [],_,_,pre,p,post,e=>by cases pre <;> cases e
 | q::ord,pre0,h,pre,p,post,e=>by
  have h:Vi (UP q (QZ hs)) (Zz (inR q pre0) false (Vi (QY (fun o=>inR o pre0) (Jy hs q)) (Mq hs ord (q::pre0))))=true:=h
  rw [VI,Bool.and_eq_true,VG,QB,decide_eq_true_eq,Vb,Uk] at h
  obtain ⟨h1,h2⟩:=h
  by_cases hm:q∈pre0
  ·replace h2:=Eq.trans (Eq.symm (if_pos (decide_eq_true hm))) h2;exact fT h2
  rw [if_neg (by rw [decide_eq_false hm];decide),VI,Bool.and_eq_true,QR,List.all_eq_true,YB] at h2
  cases pre with
  | nil =>
   obtain ⟨rfl,rfl⟩:=List.cons.inj e
   refine ⟨by exact Int.ofNat_lt.mp ‹_›,⟨by exact nofun,hm⟩,fun o ho=>.inr ?_⟩
   have:=h2.1 o ho
   rw [Uk,decide_eq_true_eq] at this;exact this
  | cons q' pre =>
   obtain ⟨rfl,rfl⟩:=List.cons.inj e
   obtain ⟨a,⟨b,c⟩,d⟩:=BL h2.2 pre p post rfl
   rw [List.mem_cons,not_or] at c
   refine ⟨a,⟨fun z=>(List.mem_cons.mp z).elim c.1 b,c.2⟩,fun o ho=>?_⟩
   rcases d o ho with x|x
   ·exact .inl (List.mem_cons_of_mem _ x)
   ·rcases List.mem_cons.mp x with y|y
    ·exact .inl (y▸List.mem_cons_self)
    ·exact .inr y
noncomputable def OU (bs:List Nn):Bool:=QY (fun b=>Vi (Nat.ble (QZ b.2.2) 100) (QY (fun s=>Wu (fun c=>Nat.beq c.1 s) bs) b.2.2)) bs
theorem Oi {bs:List Nn} (h:OU bs=true):GY (bs.map toB)=true:=by
 delta OU at h
 rw [QR,List.all_eq_true] at h
 delta GY
 refine Eq.trans List.all_map ?_
 refine List.all_eq_true.mpr fun b hb=>?_
 have:=h b hb
 rw [VI,Bool.and_eq_true,QB,QR,List.all_eq_true] at this
 have h1:(zi b.2.2).length≤100:=by rw [Vj];exact Nat.le_of_ble_eq_true this.1
 have h2:(zi b.2.2).all (fun s=>(bs.map toB).any fun c=>c.1 == s)=true:=by
  refine List.all_eq_true.mpr fun s hs=>?_
  obtain ⟨n,hn,rfl⟩:=List.mem_map.mp hs
  have:=this.2 n hn
  replace this:=Eq.trans (Eq.symm (Uj _ _)) this
  exact Eq.trans (Kh _ _) this
 show (decide ((zi b.2.2).length≤100) && (zi b.2.2).all (fun s=>(bs.map toB).any fun c=>c.1 == s))=true
 rw [h2,decide_eq_true h1];rfl
noncomputable def Pi (hs:List (List Nat)) (bs:List Nn) (rs:List (List Nat)) (b:Bool) (due:List Nat×List (List Nat)) (ks:List Nat):Bool :=
 Vi (OU bs) (Vi (eqR eqN (WU VV rs) due.2) (Vi (Zz (UP (QZ due.1) (QZ hs)) b (Zz b false true)) (Vi (Vi (eqN ks (VV (Ym rs))) (inT (Ym rs))) (Vi (inT due.1)
  (Vi (UP (QZ due.1) 64) (Vi (Nat.ble (QZ rs) 64) (Vi (QY (fun r=>UP (QZ r) 64) rs) (Vi (UP (QZ (Ym rs)) 64) (Vi (Mq hs (Ym rs) []) (Vi (QY (fun p=>UP (M0 hs 9 p) 64) (Ym rs)) (Vi (Nat.ble (QZ hs) 8) (QY (fun h=>Nat.ble (QZ h) 2) hs))))))))))))
noncomputable def PG (hs:List (List Nat)) (bs:List Nn):Bool :=
 Option.rec false (fun rs=>Option.rec false (fun b=>(fun due=>Pi hs bs rs b due (VV due.1)) (Jh hs (QZ hs) ([],[]))) (BZ (suN bs) 200 (WU (fun b=>b.1) bs) [])) (Hg 12 (bs,KV bs))
noncomputable def DV (hs:List (List Nat)):Bool:=PG hs (Vq hs (QZ hs))
end Mine
namespace Mine
open PySem
structure Chk (hs:List (List Int)) (rs:List (List Int)) (b:Bool):Prop where
 run:Kz 12 (Zv (mkG hs) hs.length,Vh (Zv (mkG hs) hs.length))=some rs
 find:Wc (suB (Zv (mkG hs) hs.length)) 200 ((Zv (mkG hs) hs.length).map (·.1)) []=some b
 suc:GY (Zv (mkG hs) hs.length)=true
 rounds:rs.map (Zl iLt)=(Zm (mkG hs) hs.length).2
 ring:b=decide (((Zm (mkG hs) hs.length).1.length:Int) < (hs.length:Int))
 kas1:Vo rs.flatten=some (Zl iLt (Zm (mkG hs) hs.length).1)
 kas2:Vo (Zm (mkG hs) hs.length).1=some (Zl iLt (Zm (mkG hs) hs.length).1)
 l1:(Zm (mkG hs) hs.length).1.length < 64
 l2:rs.length≤64
 l3:∀ r∈rs,r.length < 64
 l4:rs.flatten.length < 64
 good:∀ pre p post,rs.flatten=pre++p::post->0≤p/\p < (hs.length:Int)/\p∉pre/\∀ o∈hs.getD p.toNat [],o∈pre
 cnt:∀ p∈rs.flatten,BU hs 9 p.toNat < 64
 pre:∀ i,i≤hs.length->(Zv (mkG hs) i).length≤500/\∀ c∈Zv (mkG hs) i,c.2.2.length≤90
theorem Hq {bs:List Bn}{n:Int}{c:Bn} (h:c∈V7 bs n):c∈bs∨c.2.2.length=0:=by
 unfold V7 at h
 split at h
 ·exact .inl h
 ·rcases List.mem_append.mp h with h|h
  ·exact .inl h
  ·rw [List.mem_singleton.mp h];exact .inr rfl
theorem Hz {n:Int}:∀ (ps:List Int) (bs:List Bn) (B:Nat),(∀ c∈bs,c.2.2.length≤B)->∀ c∈ps.foldl (fun bs p=>W9 (V7 bs p) p n) bs,c.2.2.length≤B+ps.length
 | [],_,_,h,c,hc=>h c hc
 | p::ps,bs,B,h,c,hc=>by
  have:=Hz ps (W9 (V7 bs p) p n) (B+1) (fun c hc=>by
   unfold W9 at hc
   (refine xEA (List.mem_map.mp hc) fun b hb Z0=>?_;subst Z0)
   have hb':b.2.2.length≤B:=(Hq hb).elim (h b) fun z=>by omega
   split
   ·show (b.2.2++[n]).length≤_
    rw [List.length_append];simp;exact hb'
   ·exact Nat.le_succ_of_le ‹_›) c hc
  rw [List.length_cons];omega
theorem JO {ms:List Msg} (h:∀ p,(Zy ms p).2.2.length≤2):∀ i,(Zv ms i).length≤3 * i/\∀ c∈Zv ms i,c.2.2.length≤2 * i
 | 0=>⟨Nat.le_refl _,fun c hc=>by exact absurd hc List.not_mem_nil⟩
 | i+1=>by
  refine xA (JO h i) fun a b=>?_
  have hi:=h i
  have e:Zv ms (i+1)=Bu (Zv ms i) (i:Nat) (Zy ms i).2.2:=rfl
  rw [e]
  unfold Bu
  constructor
  ·have h1:=UC (i:Nat) (Zy ms i).2.2 (Jx (V7 (Zv ms i) (i:Nat)) (i:Nat) (Zy ms i).2.2.length)
   rw [Yq] at h1
   have h2:=VJ (Zv ms i) (i:Nat)
   omega
  ·intro c hc
   have:=Hz (Zy ms i).2.2 _ (2 * i) (fun c hc=>by
    unfold Jx at hc
    (refine xEA (List.mem_map.mp hc) fun d hd Z0=>?_;subst Z0)
    have hd':d.2.2.length≤2 * i:=(Hq hd).elim (b d) fun z=>by omega
    split <;> exact hd') c hc
   omega
theorem OX {hs:List (List Nat)} (h:DV hs=true):∃ rs b,Chk (hs.map zi) rs b:=by
 have hl:(hs.map zi).length=hs.length:=List.length_map ..
 have hp:=D7 hs hs.length
 have hd:Zm (mkG (hs.map zi)) hs.length=toD (Jh hs hs.length ([],[])):=by
  have:=D5 hs hs.length 0 ([],[]) rfl
  rwa [Nat.zero_add] at this
 unfold DV PG at h
 rw [QB] at h
 cases h1:Hg 12 (Vq hs hs.length,KV (Vq hs hs.length)) with
 | none=>rw [h1] at h;exact fT h
 | some rs =>
  rw [h1] at h
  cases h2:BZ (suN (Vq hs hs.length)) 200 (WU (fun b=>b.1) (Vq hs hs.length)) [] with
  | none=>rw [h2] at h;exact fT h
  | some b =>
   rw [h2] at h
   have h:Pi hs (Vq hs hs.length) rs b (Jh hs hs.length ([],[])) (VV (Jh hs hs.length ([],[])).1)=true:=h
   generalize Jh hs hs.length ([],[])=due at h hd
   generalize Vq hs hs.length=bs at h h1 h2 hp
   unfold Pi at h
   simp only [VI,Bool.and_eq_true,Bs,QB,VG,decide_eq_true_eq,QR,List.all_eq_true] at h
   (refine ZR h fun a1 a2 a3 Z0 a5 Zr0=>?_;refine ZK Zr0 fun a6 a7 a8 a9 a10 a11 a12 a13=>?_;clear Zr0;clear h;refine xA Z0 fun a4 a4'=>?_;clear Z0)
   have e4:=DQ a4
   have hf:=Ge rs
   refine ⟨rs.map zi,b,?_,?_,?_,?_,?_,?_,?_,?_,?_,?_,?_,?_,?_,?_⟩
   ·rw [hl,hp,GO]
    exact Gk h1
   ·rw [hl,hp]
    have:=YZ (OV bs) 200 (WU (fun b=>b.1) bs) [] b h2
    rw [← this,Vp]
    congr 1
    unfold zi
    rw [List.map_map,List.map_map];rfl
   ·rw [hl,hp];exact Oi a1
   ·rw [hl,hd]
    have e:=Dl (fun Z Z=>DQ) a2
    replace e:=Eq.trans (Eq.symm (Vp _ _)) e
    show _=due.2.map zi
    rw [← e,List.map_map,List.map_map]
    exact List.map_congr_left fun r Z=>U4 r
   ·rw [hl,hd]
    show b=decide (((zi due.1).length:Int) < _)
    rw [Vj,← VG]
    revert a3
    rw [← VG]
    cases UP due.1.length hs.length <;> cases b <;> intro z <;> first|rfl|exact fT z
   ·rw [← hf,hl,hd,Gw (Md a4'),← e4,← U4];rfl
   ·rw [hl,hd]
    show Vo (zi due.1)=some (Zl iLt (zi due.1))
    rw [Gw (Md a5),U4]
   ·rw [hl,hd]
    show (zi due.1).length < 64
    rw [Vj];exact Int.ofNat_lt.mp ‹_›
   ·rw [List.length_map];exact Nat.le_of_ble_eq_true a7
   ·intro r hr
    (refine xEA (List.mem_map.mp hr) fun q hq Z0=>?_;subst Z0)
    rw [Vj]
    have:=a8 q hq
    exact Int.ofNat_lt.mp ‹_›
   ·rw [← hf,Vj];exact Int.ofNat_lt.mp ‹_›
   ·intro pre p post e
    replace e:=Eq.trans hf e
    unfold zi at e
    (refine Zn (List.map_eq_append_iff.mp e) fun l1 l2 e1 Z0 e3=>?_;subst Z0)
    (refine Zn (List.map_eq_cons_iff.mp e3) fun q l3 Z0 Z1 Z2=>?_;subst Z0;subst Z1;subst Z2)
    (refine QW fun ZG Zk=>?_;refine xAA (BL a10 l1 q l3 e1) fun b1 Z0 b3=>?_;refine xA Z0 fun b2 Z=>?_;clear Z0;refine Zk ?_;clear Zk ZG)
    refine ⟨by exact Int.natCast_nonneg _,by rw [hl];exact Int.ofNat_lt.mpr ‹_›,fun z=>b2 (UV.mp z),fun o ho=>?_⟩
    rw [Int.toNat_natCast,HO] at ho
    (refine xEA (List.mem_map.mp ho) fun m hm Z0=>?_;subst Z0)
    exact UV.mpr ((b3 m hm).elim id fun z=>by exact absurd z List.not_mem_nil)
   ·intro p hp
    rw [← hf] at hp
    (refine xEA (List.mem_map.mp hp) fun m hm Z0=>?_;subst Z0)
    rw [Int.toNat_natCast,Gm]
    have:=a11 m hm
    exact Int.ofNat_lt.mp ‹_›
   ·intro i hi
    rw [hl] at hi
    have h8:=Nat.le_of_ble_eq_true a12
    have:=JO (ms:=mkG (hs.map zi)) (fun p=>by
     rw [Dw,Vj,YB,List.getD_eq_getElem?_getD]
     cases hq:hs[p]? with
     | none=>exact Nat.zero_le _
     | some l=>exact Nat.le_of_ble_eq_true (a13 l (List.mem_of_getElem? hq))) i
    exact ⟨by omega,fun c hc=>by have:=this.2 c hc;omega⟩
noncomputable def o6:List (List Nat):=[[],[0],[1],[2],[3],[4],[5]]
noncomputable def o7:List (List Nat):=[[],[0],[1],[2],[3],[4],[5],[6]]
noncomputable def o8:List (List Nat):=[[],[0],[1],[2],[3],[4],[5],[6],[7]]
noncomputable def o82:List (List Nat):=[[],[0],[1],[2],[3],[4],[5],[6],[7],[0,0],[1,0],[2,0],[3,0],[4,0],[5,0],[6,0],[7,0]]
noncomputable def t5:List (List Nat):=[[],[0],[1,0],[0],[4]]
noncomputable def t6:List (List Nat):=[[],[1],[0,0],[1],[2]]
noncomputable def t7:List (List Nat):=[[],[1],[3,0],[0],[0]]
noncomputable def t8:List (List Nat):=[[],[1],[3,0],[5],[6]]
noncomputable def We (a:List Nat):Bool:=QY (fun b=>QY (fun c=>DV (a::b::c::t8)) o82) o8
theorem P_:DV t5=true:=by decide +kernel
theorem Rc:QY (fun a=>DV (a::t6)) o6=true:=by decide +kernel
theorem Rg:QY (fun a=>QY (fun b=>DV (a::b::t7)) o7) o7=true:=by decide +kernel
theorem PN:We []=true:=by decide +kernel
theorem P7:We [0]=true:=by decide +kernel
theorem PX:We [1]=true:=by decide +kernel
theorem PR:We [2]=true:=by decide +kernel
theorem PL:We [3]=true:=by decide +kernel
theorem PT:We [4]=true:=by decide +kernel
theorem PF:We [5]=true:=by decide +kernel
theorem PK:We [6]=true:=by decide +kernel
theorem PP:We [7]=true:=by decide +kernel
theorem WM {α:Type}{f:α->Bool}{l:List α} (h:QY f l=true) {a:α} (m:a∈l):f a=true:=by
 replace h:=Eq.trans (Eq.symm (QR _ _)) h;exact List.all_eq_true.mp h a m
theorem P9:∀ a∈o8,We a=true:=by
 intro a ha
 unfold o8 at ha
 simp only [List.mem_cons,List.not_mem_nil,or_false] at ha
 rcases ha with rfl|rfl|rfl|rfl|rfl|rfl|rfl|rfl|rfl
 ·exact PN
 ·exact P7
 ·exact PX
 ·exact PR
 ·exact PL
 ·exact PT
 ·exact PF
 ·exact PK
 ·exact PP
noncomputable def KW (n:Nat):List (List Int):=[]::(List.range n).map fun (o:Nat)=>[(o:Int)]
noncomputable def Gg (n:Nat):List (List Int):=KW n++(List.range n).map fun (o:Nat)=>[(o:Int),0]
theorem GC (x:Int) (n:Nat) (hn:0 < n):0≤Uv x (n:Nat)/\Uv x (n:Nat) < (n:Nat):=by
 unfold Uv
 exact ⟨Int.fmod_nonneg_of_pos _ (by exact Int.ofNat_lt.mpr ‹_›),Int.fmod_lt_of_pos _ (by exact Int.ofNat_lt.mpr ‹_›)⟩
theorem Gu {a b:Int} (ha:0≤a) (hb:0 < b):a.fmod b≤a:=by
 rw [Int.fmod_eq_emod_of_nonneg _ (Int.le_of_lt hb)]
 have h1:=Int.mul_ediv_add_emod a b
 have h2:=Int.mul_nonneg (Int.le_of_lt hb) (Int.ediv_nonneg ha (Int.le_of_lt hb))
 omega
theorem Kw (n:Nat):([]:List Int)∈KW n:=List.mem_cons_self
theorem Gp {n:Nat}{o:Int} (h:0≤o/\o < (n:Nat)):[o]∈KW n:=by
 refine List.mem_cons_of_mem _ (List.mem_map.mpr ⟨o.toNat,List.mem_range.mpr (by omega),?_⟩)
 congr 1;omega
theorem Gy {n:Nat}{h:List Int} (m:h∈KW n):h∈Gg n:=List.mem_append.mpr (.inl m)
theorem Hj {n:Nat}{o:Int} (h:0≤o/\o < (n:Nat)):[o,0]∈Gg n:=by
 refine List.mem_append.mpr (.inr (List.mem_map.mpr ⟨o.toNat,List.mem_range.mpr (by omega),?_⟩))
 congr 1;omega
theorem Bo (x:Int) (p n:Nat) (hn:0 < n):∃ h:List Int,VM x (p:Nat) (n:Nat)=h/\h∈KW n:=by
 refine ⟨_,rfl,?_⟩
 have m:=GC x n hn
 unfold VM
 split
 ·split
  ·exact Gp m
  ·have hp:=(WL ((p:Nat):Int)).1
   have h1:=Int.fmod_nonneg_of_pos (Uv x (n:Nat)) hp
   have h2:(Uv x (n:Nat)).fmod (Y7 1 ((p:Nat):Int))≤Uv x (n:Nat):=Gu m.1 hp
   exact Gp ⟨h1,by omega⟩
 ·exact Kw n
theorem WJ (x:Int) (p n:Nat) (hn:0 < n) (hp:p < 2):Z9 x (p:Nat) (n:Nat)∈KW n:=by
 have hm:V6 x (p:Nat)=[]:=by
  unfold V6
  rw [if_neg]
  have:decide ((1:Int) < (p:Nat))=false:=decide_eq_false (by omega)
  rw [this,Bool.and_false];decide
 unfold Z9
 rw [hm,List.append_nil]
 refine xEA (Bo x p n hn) fun h e m=>?_
 split
 ·rw [e];exact m
 ·exact Kw n
theorem OZ (x:Int) (n:Nat) (hn:0 < n):Z9 x ((2:Nat):Int) (n:Nat)∈Gg n:=by
 have ho:Uh x ((2:Nat):Int)=0:=by
  unfold Uh
  have:Y7 1 (((2:Nat):Int).fdiv 2)=1:=by decide
  rw [this]
  exact Int.fmod_one _
 unfold Z9 V6
 rw [ho]
 by_cases h3:x.fmod 4=3
 ·have e1:(x.fmod 4 == 3 && decide ((1:Int) < ((2:Nat):Int)))=true:=by rw [h3];decide
  have e2:decide (0 < x.fmod 4)=true:=by rw [h3];decide
  rw [if_pos e1,if_pos e2]
  have hh:∃ o:Int,VM x ((2:Nat):Int) (n:Nat)=[o]/\0≤o/\o < (n:Nat):=by
   have m:=GC x n hn
   unfold VM
   have e3:(decide ((0:Int) < ((2:Nat):Int)) || WP x)=true:=by rw [show decide ((0:Int) < ((2:Nat):Int))=true by decide];rfl
   rw [if_pos e3]
   refine ⟨_,rfl,?_⟩
   split
   ·exact m
   ·have hp:=(WL ((2:Nat):Int)).1
    have h1:=Int.fmod_nonneg_of_pos (Uv x (n:Nat)) hp
    have h2:(Uv x (n:Nat)).fmod (Y7 1 ((2:Nat):Int))≤Uv x (n:Nat):=Gu m.1 hp
    exact ⟨h1,by omega⟩
  (refine xEA hh fun o e ho1=>?_;clear hh)
  rw [e]
  exact Hj ho1
 ·have e1:(x.fmod 4 == 3 && decide ((1:Int) < ((2:Nat):Int)))=false:=by
   rw [beq_eq_false_iff_ne.mpr h3];rfl
  have e4:(if (x.fmod 4 == 3 && decide ((1:Int) < ((2:Nat):Int)))=true then [(0:Int)] else [])=[]:=if_neg (by rw [e1];decide)
  rw [e4,List.append_nil]
  refine xEA (Bo x 2 n hn) fun h e m=>?_
  split
  ·rw [e];exact Gy m
  ·exact Gy (Kw n)
noncomputable def Y9 (n:Nat):List (List Int):=[Z9 4 ((n - 5:Nat):Int) (n:Nat),Z9 33 ((n - 4:Nat):Int) (n:Nat),Z9 71 ((n - 3:Nat):Int) (n:Nat),Z9 102 ((n - 2:Nat):Int) (n:Nat),Z9 282 ((n - 1:Nat):Int) (n:Nat)]
theorem PD:Y9 5=t5.map zi:=by decide +kernel
theorem Pz:Y9 6=t6.map zi:=by decide +kernel
theorem P8:Y9 7=t7.map zi:=by decide +kernel
theorem PA:Y9 8=t8.map zi:=by decide +kernel
theorem HD {n:Nat}{l:List (List Nat)} (e:KW n=l.map zi) {h:List Int} (m:h∈KW n):∃ q∈l,zi q=h:=by
 rw [e] at m;exact List.mem_map.mp m
theorem HA (xs:List Int):∃ hs:List (List Nat),(W8 (Qk xs)).map (·.2.2)=hs.map zi/\DV hs=true:=by
 match xs with
 | [] =>
  refine ⟨t5,?_,P_⟩
  exact (Eq.symm PD)
 | [a] =>
  refine xEA (HD (l:=o6) rfl (WJ a 0 6 (by decide) (by decide))) fun q m e=>?_
  refine ⟨q::t6,?_,WM Rc m⟩
  show Z9 a ((0:Nat):Int) ((6:Nat):Int)::Y9 6=zi q::t6.map zi
  rw [e,Pz]
 | [a,b] =>
  refine xEA (HD (l:=o7) rfl (WJ a 0 7 (by decide) (by decide))) fun q m e=>?_
  refine xEA (HD (l:=o7) rfl (WJ b 1 7 (by decide) (by decide))) fun q' m' e'=>?_
  refine ⟨q::q'::t7,?_,WM (WM Rg m) m'⟩
  show Z9 a ((0:Nat):Int) ((7:Nat):Int)::Z9 b ((1:Nat):Int) ((7:Nat):Int)::Y9 7=zi q::zi q'::t7.map zi
  rw [e,e',P8]
 | a::b::c::r =>
  refine xEA (HD (l:=o8) rfl (WJ a 0 8 (by decide) (by decide))) fun q m e=>?_
  refine xEA (HD (l:=o8) rfl (WJ b 1 8 (by decide) (by decide))) fun q' m' e'=>?_
  have m2:=OZ c 8 (by decide)
  rw [show Gg 8=o82.map zi from rfl] at m2
  refine xEA (List.mem_map.mp m2) fun q2 m2 e2=>?_
  refine ⟨q::q'::q2::t8,?_,WM (WM (P9 q m) m') m2⟩
  have e0:Qk (a::b::c::r)=Qk [a,b,c]:=rfl
  rw [e0]
  show Z9 a ((0:Nat):Int) ((8:Nat):Int)::Z9 b ((1:Nat):Int) ((8:Nat):Int)::Z9 c ((2:Nat):Int) ((8:Nat):Int)::Y9 8=zi q::zi q'::zi q2::t8.map zi
  rw [e,e',e2,PA]
noncomputable def bump (c:Str->Nat) (x:Str):Str->Nat:=fun z=>if z=x then c z+1 else c z
noncomputable def QS (c:Str->Nat) (x:Str):Str->Nat:=fun z=>if z=x then c z - 1 else c z
noncomputable def V4 (c:Str->Nat):List Str->List Str
 | []=>[]
 | y::r=>if 0 < c y then V4 (QS c y) r else y::V4 c r
set_option tactic.hygienic true in
theorem UO {x:Str}:∀ (l:List Str) (c:Str->Nat),x∈V4 c l ↔ c x < l.count x
 | [],c=>by simp [V4]
 | y::r,c=>by
  unfold V4
  by_cases hxy:x=y
  ·subst hxy
   rw [List.count_cons_self]
   split
   ·rw [UO r];simp only [QS,if_true];omega
   ·rename_i h;simp;omega
  ·have hc:List.count x (y::r)=List.count x r:=by refine Eq.trans List.count_cons ?_;simp [Ne.symm hxy]
   rw [hc]
   split
   ·rw [UO r];simp only [QS,if_neg hxy]
   ·rw [List.mem_cons,UO r];simp [hxy]
theorem VC {c c':Str->Nat} (l:List Str) (h:∀ z,c z=c' z):V4 c l=V4 c' l:=by
 have:c=c':=funext h
 rw [this]
set_option tactic.hygienic true in
theorem Uo {x:Str}:∀ (l:List Str) (c:Str->Nat),c x < l.count x->(V4 c l).erase x=V4 (bump c x) l
 | [],c,h=>by simp at h
 | y::r,c,h=>by
  unfold V4
  by_cases hxy:x=y
  ·subst hxy
   rw [List.count_cons_self] at h
   have hb:0 < bump c x x:=by simp [bump]
   rw [if_pos hb]
   split
   ·rename_i h0
    rw [Uo r (QS c x) (by simp [QS];omega)]
    refine VC r fun z=>?_
    simp only [bump,QS]
    by_cases h1:z=x
    ·subst h1;simp;omega
    ·simp [h1]
   ·rename_i h0
    refine Eq.trans (List.erase_cons_head _ _) ?_
    refine VC r fun z=>?_
    simp only [bump,QS];split <;> simp_all
  ·have hc:List.count x (y::r)=List.count x r:=by refine Eq.trans List.count_cons ?_;simp [Ne.symm hxy]
   rw [hc] at h
   have hby:bump c x y=c y:=by simp [bump,Ne.symm hxy]
   rw [hby]
   split
   ·rw [Uo r (QS c y) (by simp [QS,hxy];exact h)]
    refine VC r fun z=>?_
    simp only [bump,QS]
    by_cases h1:z=x
    ·subst h1;simp [hxy]
    ·simp [h1]
   ·rw [List.erase_cons_tail (by simpa using Ne.symm hxy),Uo r c h]
theorem U7 {x:Str}:∀ (l:List Str) (c:Str->Nat),l.count x≤c x->V4 (bump c x) l=V4 c l
 | [],c,h=>rfl
 | y::r,c,h=>by
  unfold V4
  by_cases hxy:x=y
  ·subst hxy
   rw [List.count_cons_self] at h
   have hb:0 < bump c x x:=by simp [bump]
   rw [if_pos hb,if_pos (by omega)]
   have:=U7 (x:=x) r (QS c x) (by simp [QS];exact Nat.le_sub_one_of_lt ‹_›)
   rw [← this]
   refine VC r fun z=>?_
   simp only [bump,QS]
   by_cases h1:z=x
   ·subst h1;simp;exact rd ‹_›
   ·simp [h1]
  ·have hc:List.count x (y::r)=List.count x r:=by refine Eq.trans List.count_cons ?_;simp [Ne.symm hxy]
   rw [hc] at h
   have hby:bump c x y=c y:=by simp [bump,Ne.symm hxy]
   rw [hby]
   split
   ·have:=U7 (x:=x) r (QS c y) (by simp [QS,hxy];exact h)
    rw [← this]
    refine VC r fun z=>?_
    simp only [bump,QS]
    by_cases h1:z=x
    ·subst h1;simp [hxy]
    ·simp [h1]
   ·rw [U7 r c h]
noncomputable def Jl (c:Str->Nat) (l:List Str):List Str->List Str
 | []=>[]
 | x::r=>(if c x < l.count x then [] else [x])++Jl (bump c x) l r
theorem Jd (l:List Str):∀ (es:List Str) (c:Str->Nat) (mis:List Str),Qf es (V4 c l) mis=(mis++Jl c l es,V4 (fun z=>c z+es.count z) l)
 | [],c,mis=>by simp [Qf,Jl]
 | x::r,c,mis=>by
  have hcz:∀ z,bump c x z+r.count z=c z+(x::r).count z:=fun z=>by
   rw [List.count_cons];simp only [bump]
   by_cases h:z=x
   ·subst h;simp;omega
   ·simp [h,Ne.symm h]
  unfold Qf Jl
  by_cases h:c x < l.count x
  ·rw [if_pos ((UO l c).mpr h),if_pos h,Uo l c h,Jd l r (bump c x) mis]
   simp [hcz]
  ·rw [if_neg (fun m=>h ((UO l c).mp m)),if_neg h]
   have:=Jd l r (bump c x) (mis++[x])
   rw [U7 l c (by exact Nat.le_of_not_lt ‹_›)] at this
   refine Eq.trans this ?_
   simp [hcz]
theorem UN (x y:Str) (r:List Str):(x::r).count y=r.count y+if x=y then 1 else 0:=by
 refine Eq.trans List.count_cons ?_;simp
theorem Kd (l:List Str):∀ (es:List Str) (c:Str->Nat),Jl c l es=((List.range es.length).filter fun i=>decide (l.count (es[i]?.getD ("":Str)) < c (es[i]?.getD ("":Str))+(es.take (i+1)).count (es[i]?.getD ("":Str)))).map fun i=>es[i]?.getD ("":Str)
 | [],c=>rfl
 | x::r,c=>by
  unfold Jl
  rw [Kd l r (bump c x),List.length_cons,List.range_succ_eq_map,List.filter_cons]
  have e0:(decide (l.count (((x::r)[0]?).getD ("":Str)) < c (((x::r)[0]?).getD ("":Str))+((x::r).take (0+1)).count (((x::r)[0]?).getD ("":Str))))=!decide (c x < l.count x):=by
   have:((x::r)[0]?).getD ("":Str)=x:=rfl
   rw [this]
   have e:((x::r).take (0+1)).count x=1:=by simp
   rw [e]
   by_cases h:c x < l.count x
   ·simp [h];assumption
   ·simp [h];exact Nat.lt_of_not_le ‹_›
  rw [e0]
  have e1:((List.range r.length).map Nat.succ).filter (fun i=>decide (l.count (((x::r)[i]?).getD ("":Str)) < c (((x::r)[i]?).getD ("":Str))+((x::r).take (i+1)).count (((x::r)[i]?).getD ("":Str))))=((List.range r.length).filter fun i=>decide (l.count (r[i]?.getD ("":Str)) < bump c x (r[i]?.getD ("":Str))+(r.take (i+1)).count (r[i]?.getD ("":Str)))).map Nat.succ:=by
   refine Eq.trans List.filter_map ?_
   congr 1
   refine List.filter_congr fun i Z=>?_
   simp only [Function.comp,Nat.succ_eq_add_one,List.getElem?_cons_succ,List.take_succ_cons,UN,bump]
   generalize r[i]?.getD ("":Str)=z
   by_cases h:z=x
   ·subst h;simp;omega
   ·simp [h,Ne.symm h]
  rw [e1]
  by_cases h:c x < l.count x
  ·simp [h,List.map_map,Function.comp_def]
  ·simp [h,List.map_map,Function.comp_def]
theorem Ji:∀ (l:List Str) (c:Str->Nat),V4 c l=((List.range l.length).filter fun k=>decide (c (l[k]?.getD ("":Str)) < (l.take (k+1)).count (l[k]?.getD ("":Str)))).map fun k=>l[k]?.getD ("":Str)
 | [],c=>rfl
 | y::r,c=>by
  unfold V4
  rw [List.length_cons,List.range_succ_eq_map,List.filter_cons]
  have e0:(decide (c (((y::r)[0]?).getD ("":Str)) < ((y::r).take (0+1)).count (((y::r)[0]?).getD ("":Str))))=!decide (0 < c y):=by
   have:((y::r)[0]?).getD ("":Str)=y:=rfl
   rw [this]
   have e:((y::r).take (0+1)).count y=1:=by simp
   rw [e]
   by_cases h:0 < c y
   ·simp [h];exact Nat.ne_of_gt ‹_›
   ·simp [h];exact Nat.eq_zero_of_not_pos ‹_›
  rw [e0]
  have e1:∀ c':Str->Nat,(∀ k,k < r.length->(decide (c (r[k]?.getD ("":Str)) < (r.take (k+1)).count (r[k]?.getD ("":Str))+if y=(r[k]?.getD ("":Str)) then 1 else 0))=decide (c' (r[k]?.getD ("":Str)) < (r.take (k+1)).count (r[k]?.getD ("":Str)))) ->
    ((List.range r.length).map Nat.succ).filter (fun k=>decide (c (((y::r)[k]?).getD ("":Str)) < ((y::r).take (k+1)).count (((y::r)[k]?).getD ("":Str))))=((List.range r.length).filter fun k=>decide (c' (r[k]?.getD ("":Str)) < (r.take (k+1)).count (r[k]?.getD ("":Str)))).map Nat.succ:=fun c' hc=>by
   refine Eq.trans List.filter_map ?_
   congr 1
   refine List.filter_congr fun k hk=>?_
   simp only [Function.comp,Nat.succ_eq_add_one,List.getElem?_cons_succ,List.take_succ_cons,UN]
   exact hc k (List.mem_range.mp hk)
  by_cases h:0 < c y
  ·rw [if_pos h,e1 (QS c y) (fun k hk=>?_),Ji r (QS c y)]
   ·simp [h,List.map_map,Function.comp_def]
   ·generalize r[k]?.getD ("":Str)=z
    simp only [QS]
    by_cases hz:z=y
    ·subst hz;simp;omega
    ·simp [hz,Ne.symm hz]
  ·rw [if_neg h,e1 c (fun k hk=>?_),Ji r c]
   ·simp [h,List.map_map,Function.comp_def]
   ·have hm:r[k]?.getD ("":Str)∈r.take (k+1):=by
     rw [List.getElem?_eq_getElem hk]
     have hl:k < (r.take (k+1)).length:=by rw [List.length_take];omega
     have e:(r.take (k+1))[k]=r[k]:=List.getElem_take
     show r[k]∈_
     rw [← e];exact List.getElem_mem hl
    have hp:=List.count_pos_iff.mpr hm
    generalize r[k]?.getD ("":Str)=z at hp ⊢
    by_cases hz:z=y
    ·subst hz
     have:c z=0:=by exact Nat.eq_zero_of_not_pos ‹_›
     rw [this,decide_eq_true hp,decide_eq_true (by exact oP ‹_› rfl)]
    ·simp [Ne.symm hz]
theorem J1:∀ l:List Str,V4 (fun Z=>0) l=l
 | []=>rfl
 | y::r=>by unfold V4;rw [if_neg (by decide),J1 r]
theorem Hl (a b:Nat):gtB a b=decide (b < a):=by
 unfold gtB;by_cases h:b < a
 ·rw [decide_eq_true h,decide_eq_true (by exact Int.ofNat_lt.mpr ‹_›)]
 ·rw [decide_eq_false h,decide_eq_false (by omega)]
theorem MA (rows after:List Str):V4 (fun z=>0+rows.reverse.count z) after=UW rows after:=by
 refine Eq.trans (Ji _ _) ?_
 unfold UW
 congr 1
 refine List.filter_congr fun k Z=>?_
 rw [Hl,List.count_reverse,Nat.zero_add]
theorem Ma (rows after:List Str):Jl (fun Z=>0) after rows.reverse=UT rows after:=by
 refine Eq.trans (Kd _ _ _) ?_
 unfold UT
 rw [List.filter_map,List.map_map,List.length_reverse]
 have at_:∀ i,i < rows.length->(rows.reverse[i]?).getD ("":Str)=rows[rows.length - 1 - i]?.getD ("":Str):=fun i hi=>by rw [List.getElem?_reverse hi]
 have hf:(List.range rows.length).filter (fun i=>decide (after.count ((rows.reverse[i]?).getD ("":Str)) < 0+(rows.reverse.take (i+1)).count ((rows.reverse[i]?).getD ("":Str)))) =
   (List.range rows.length).filter ((fun k=>gtB ((rows.drop k).count (rows[k]?.getD ("":Str))) (after.count (rows[k]?.getD ("":Str)))) ∘ fun i=>rows.length - 1 - i):=by
  refine List.filter_congr fun i hi=>?_
  have hi:=List.mem_range.mp hi
  simp only [Function.comp]
  rw [at_ i hi,Hl,List.take_reverse,List.count_reverse,Nat.zero_add]
  have e:rows.length - (i+1)=rows.length - 1 - i:=by omega
  rw [e]
 rw [hf]
 refine List.map_congr_left fun i hi=>?_
 exact at_ i (List.mem_range.mp (List.mem_filter.mp hi).1)
theorem Oz (rows after:List Str):Qf rows.reverse after []=(UT rows after,UW rows after):=by
 have:=Jd after rows.reverse (fun Z=>0) []
 rw [J1] at this
 rw [this,MA,List.nil_append,Ma]
noncomputable def Qi (two:List Str):List Str->List Str->List Str
 | _,[]=>[]
 | seen,x::r=>(if (!inL two x && (!inL seen x || PyData.eqv (Zo (gtL two x)) (.list [])))=true then [x] else [])++Qi two (seen++[x]) r
theorem JB (two:List Str):∀ (r seen:List Str),Qi two seen r=((List.range r.length).filter fun k=>(!inL two (r[k]?.getD ("":Str)) && (!inL (seen++r.take k) (r[k]?.getD ("":Str)) || PyData.eqv (Zo (gtL two (r[k]?.getD ("":Str)))) (.list [])))).map fun k=>r[k]?.getD ("":Str)
 | [],seen=>rfl
 | x::r,seen=>by
  unfold Qi
  rw [JB two r (seen++[x]),List.length_cons,List.range_succ_eq_map,List.filter_cons]
  have hx:((x::r)[0]?).getD ("":Str)=x:=rfl
  have e1:((List.range r.length).map Nat.succ).filter (fun k=>(!inL two (((x::r)[k]?).getD ("":Str)) && (!inL (seen++(x::r).take k) (((x::r)[k]?).getD ("":Str)) || PyData.eqv (Zo (gtL two (((x::r)[k]?).getD ("":Str)))) (.list [])))) =
    ((List.range r.length).filter fun k=>(!inL two (r[k]?.getD ("":Str)) && (!inL (seen++[x]++r.take k) (r[k]?.getD ("":Str)) || PyData.eqv (Zo (gtL two (r[k]?.getD ("":Str)))) (.list [])))).map Nat.succ:=by
   refine Eq.trans List.filter_map ?_
   congr 1
   refine List.filter_congr fun k Z=>?_
   simp only [Function.comp,Nat.succ_eq_add_one,List.getElem?_cons_succ,List.take_succ_cons,List.append_assoc,List.singleton_append]
  rw [e1,hx]
  simp only [List.take_zero,List.append_nil]
  split <;> simp [List.map_map,Function.comp_def]
theorem Gc (one two:List Str):QU one two=Qi two [] (Zl sLt one):=by
 rw [JB];rfl
noncomputable def emB (two seen:List Str) (x:Str):Bool:=!inL two x && (!inL seen x || PyData.eqv (Zo (gtL two x)) (.list []))
theorem Qa (two seen:List Str) (x:Str) (r:List Str):Qi two seen (x::r)=(if emB two seen x=true then [x] else [])++Qi two (seen++[x]) r:=rfl
theorem W7 {a b:List Str}{x:Str} (h:x∈a ↔ x∈b):inL a x=inL b x:=by
 have:=(YA a x).trans (h.trans (YA b x).symm)
 cases h1:inL a x <;> cases h2:inL b x <;> simp_all
theorem Wn (two:List Str):∀ (r s s':List Str),(∀ y∈r,y∈s ↔ y∈s')->Qi two s r=Qi two s' r
 | [],_,_,_=>rfl
 | x::r,s,s',h=>by
  have hx:emB two s x=emB two s' x:=by unfold emB;rw [W7 (h x List.mem_cons_self)]
  rw [Qa,Qa,hx,Wn two r (s++[x]) (s'++[x]) fun y hy=>by
   rw [List.mem_append,List.mem_append,h y (List.mem_cons_of_mem _ hy)]]
theorem J3 {t t':List Str}:∀ (r s:List Str),(∀ z∈r,(z∈t ↔ z∈t')/\gtL t z=gtL t' z)->Qi t s r=Qi t' s r
 | [],_,_=>rfl
 | x::r,s,h=>by
  have hx:emB t s x=emB t' s x:=by unfold emB;rw [W7 (h x List.mem_cons_self).1,(h x List.mem_cons_self).2]
  rw [Qa,Qa,hx,J3 r (s++[x]) fun z hz=>h z (List.mem_cons_of_mem _ hz)]
theorem Wq {two:List Str}{x:Str}:∀ (es s:List Str),(∀ s',x∈s'->emB two s' x=false)->x∈s->Qi two s es=Qi two s (es.dropWhile (· == x))
 | [],_,_,_=>rfl
 | y::es,s,h,hs=>by
  rw [List.dropWhile_cons]
  by_cases e:y=x
  ·subst e
   simp only [beq_self_eq_true,if_true]
   rw [Qa,h s hs,if_neg (by decide),List.nil_append,← Wq es s h hs]
   refine Wn two es _ _ fun z Z=>?_
   rw [List.mem_append,List.mem_singleton]
   exact ⟨fun q=>q.elim id fun q=>q▸hs,.inl⟩
  ·rw [if_neg (by simpa using e)]
noncomputable abbrev Srt (l:List Str):Prop:=l.Pairwise fun a b=>sLt b a=false
theorem OH {x y z:Str} (h1:sLt x y=true) (h2:sLt z y=false):sLt x z=true:=by
 rcases Q7.tri y z with h|h|h
 ·exact Q7.tr x y z h1 h
 ·rw [← h];exact h1
 ·exact tF (Eq.trans (Eq.symm h) h2)
theorem YF {x:Str}:∀ {es:List Str},Srt es->(∀ z∈es,sLt z x=false)->∀ z∈es.dropWhile (· == x),sLt x z=true
 | [],_,_,z,hz=>by simp at hz
 | y::es,hs,hl,z,hz=>by
  rw [List.dropWhile_cons] at hz
  by_cases e:y=x
  ·subst e
   simp only [beq_self_eq_true,if_true] at hz
   exact YF (List.pairwise_cons.mp hs).2 (fun w hw=>hl w (List.mem_cons_of_mem _ hw)) z hz
  ·rw [if_neg (by simpa using e)] at hz
   have hxy:sLt x y=true:=by
    rcases Q7.tri x y with h|h|h
    ·exact h
    ·exact absurd h.symm e
    ·exact fT (Eq.trans (Eq.symm (hl y List.mem_cons_self)) h)
   rcases List.mem_cons.mp hz with rfl|hz
   ·exact hxy
   ·exact OH hxy ((List.pairwise_cons.mp hs).1 z hz)
theorem BJ {x z:Str} (h:z≠x):∀ {es:List Str},z∈es ↔ z∈es.dropWhile (· == x)
 | []=>by rfl
 | y::es=>by
  rw [List.dropWhile_cons]
  by_cases e:y=x
  ·subst e
   simp only [beq_self_eq_true,if_true,List.mem_cons,h,false_or]
   exact BJ h
  ·rw [if_neg (by simpa using e)]
theorem Go {x z:Str} (h:sLt z x=false):∀ (es:List Str),gtL es z=gtL (es.dropWhile (· == x)) z
 | []=>rfl
 | y::es=>by
  rw [List.dropWhile_cons]
  by_cases e:y=x
  ·subst e
   simp only [beq_self_eq_true,if_true]
   rw [← Go h es]
   unfold gtL
   rw [List.filter_cons,if_neg]
   have:sLt z y=decide (z.cps.toList < y.cps.toList):=rfl
   rw [← this,h];decide
  ·rw [if_neg (by simpa using e)]
theorem M_ {x z:Str} (h:sLt z x=false) (es:List Str):gtL (x::es) z=gtL (es.dropWhile (· == x)) z:=by
 rw [← Go h es]
 unfold gtL
 rw [List.filter_cons,if_neg]
 have:sLt z x=decide (z.cps.toList < x.cps.toList):=rfl
 rw [← this,h];decide
theorem Yc {p:Str->Bool}:∀ {es:List Str},Srt es->Srt (es.dropWhile p)
 | [],h=>h
 | y::es,h=>by
  rw [List.dropWhile_cons]
  split
  ·exact Yc (List.pairwise_cons.mp h).2
  ·exact h
theorem Yj:∀ (a s:List Str),Qi [] s a=a
 | [],_=>rfl
 | x::a,s=>by
  rw [Qa,Yj a]
  have:emB [] s x=true:=by unfold emB inL gtL;simp [PyData.eqv,PyData.eqvAll,Zo]
  rw [if_pos this];rfl
theorem YQ {x:Str}{es r:List Str} (h:∀ z∈r,sLt x z=true) (s:List Str):Qi (x::es) s r=Qi (es.dropWhile (· == x)) s r:=by
 refine J3 r s fun z hz=>?_
 have hz:=h z hz
 have ne:z≠x:=fun q=>by rw [q,Q7.irr] at hz;exact fT hz
 refine ⟨?_,M_ (Q7.asy hz) es⟩
 rw [List.mem_cons,← BJ ne]
 simp [ne]
theorem Bj {xs:List Str}{x:Str} (h:x∈xs):inL xs x=true:=(YA xs x).mpr h
theorem Hf {xs:List Str}{x:Str} (h:x∉xs):inL xs x=false:=by
 cases q:inL xs x with
 | false=>rfl
 | true=>exact absurd ((YA xs x).mp q) h
theorem Da {two:List Str}{x:Str}{r:List Str} (h:∀ z∈r,sLt x z=true):Qi two [x] r=Qi two [] r:=by
 refine Wn two r _ _ fun z hz=>?_
 have hz:=h z hz
 have ne:z≠x:=fun q=>by rw [q,Q7.irr] at hz;exact fT hz
 simp [ne]
theorem above {x y:Str}{as:List Str} (h:sLt x y=true) (ha:Srt (y::as)):∀ z∈y::as,sLt x z=true:=fun z hz=>by
 rcases List.mem_cons.mp hz with rfl|hz
 ·exact h
 ·exact OH h ((List.pairwise_cons.mp ha).1 z hz)
theorem BO {x y:Str}{es as:List Str} (he:Srt (x::es)) (ha:Srt (y::as)) (h:sLt x y=true):Qi (y::as) [] (x::es)=x::Qi (y::as) [] (es.dropWhile (· == x)):=by
 have nin:x∉y::as:=fun m=>by have:=above h ha x m;exact fT (Eq.trans (Eq.symm (Q7.irr _)) this)
 have e1:emB (y::as) [] x=true:=by unfold emB;rw [Hf nin];rfl
 have e2:∀ s',x∈s'->emB (y::as) s' x=false:=fun s' hs=>by
  unfold emB
  rw [Bj hs]
  have:gtL (y::as) x=y::gtL as x:=by
   unfold gtL
   rw [List.filter_cons,if_pos]
   exact h
  rw [this]
  simp [PyData.eqv,PyData.eqvAll,Zo]
 rw [Qa,if_pos e1,List.nil_append,Wq es [x] e2 (by exact List.mem_cons_self),Da (YF (List.pairwise_cons.mp he).2 (List.pairwise_cons.mp he).1)]
 rfl
theorem B5 {x:Str}{es as:List Str} (he:Srt (x::es)):Qi (x::as) [] (x::es)=Qi (as.dropWhile (· == x)) [] (es.dropWhile (· == x)):=by
 have e2:∀ s',emB (x::as) s' x=false:=fun s'=>by unfold emB;rw [Bj List.mem_cons_self];rfl
 have hd:=YF (List.pairwise_cons.mp he).2 (List.pairwise_cons.mp he).1
 rw [Qa,e2,if_neg (by decide),List.nil_append,List.nil_append,Wq es [x] (fun s' Z=>e2 s') (by exact List.mem_cons_self),Da hd,YQ hd]
theorem YD:∀ (n:Nat) (e a m u:List Str),Srt e->Srt a->e.length+a.length < n->sld n e a m u=(m++Qi a [] e,u++Qi e [] a)
 | 0,_,_,_,_,_,_,h=>by exact absurd ‹_› (Nat.not_lt_zero _)
 | n+1,[],a,m,u,_,_,_=>by unfold sld;rw [Yj];simp [Qi]
 | n+1,x::es,[],m,u,_,_,_=>by unfold sld;rw [Yj];simp [Qi]
 | n+1,x::es,y::as,m,u,he,ha,h=>by
  have l1:=Qd (· == x) es
  have l2:=Qd (· == y) as
  simp only [List.length_cons] at h
  have se:=Yc (p:=(· == x)) (List.pairwise_cons.mp he).2
  have sa:=Yc (p:=(· == y)) (List.pairwise_cons.mp ha).2
  unfold sld
  by_cases h1:sLt x y=true
  ·rw [if_pos h1,YD n _ _ _ _ se ha (by simp only [List.length_cons];omega),BO he ha h1,YQ (above h1 ha)]
   simp
  ·refine Eq.trans (if_neg h1) ?_
   by_cases h2:sLt y x=true
   ·rw [if_pos h2,YD n _ _ _ _ he sa (by simp only [List.length_cons];omega),BO ha he h2,YQ (above h2 he)]
    simp
   ·refine Eq.trans (if_neg h2) ?_
    have e:x=y:=by
     rcases Q7.tri x y with q|q|q
     ·exact absurd q h1
     ·exact q
     ·exact absurd q h2
    subst e
    rw [YD n _ _ _ _ se sa (by omega),B5 he,B5 ha]
theorem Mw {a b:List Str} (h:a.Perm b):PyData.eqv (Zo a) (.list [])=PyData.eqv (Zo b) (.list []):=by
 cases a with
 | nil=>rw [h.nil_eq]
 | cons x a =>
  cases b with
  | nil=>exact absurd h.symm.nil_eq (by simp)
  | cons y b=>rfl
theorem Wl {t t':List Str} (p:t.Perm t'):∀ (r s:List Str),Qi t s r=Qi t' s r
 | [],_=>rfl
 | x::r,s=>by
  have hx:emB t s x=emB t' s x:=by
   have hg:(gtL t x).Perm (gtL t' x):=p.filter _
   unfold emB
   rw [W7 (p.mem_iff),Mw hg]
  rw [Qa,Qa,hx,Wl p r (s++[x])]
theorem GH (rows after:List Str):VH rows after=VP (QU rows after) (QU after rows) (UT rows after) (UW rows after):=by
 unfold VH
 rw [YD _ _ _ _ _ (Ve Q7 rows) (Ve Q7 after) (by exact Nat.le_refl _),Oz,Gc,Gc,Wl (ZT after),Wl (ZT rows)]
 simp
theorem Ol (rowsOf:Int->List Str):DW rowsOf=UA rowsOf:=by
 funext p
 unfold DW UA
 rw [GH]
end Mine
namespace Mine
open PySem PySem.Builtin PySem.Builtin.Str
noncomputable abbrev tl (x:Str):List Nat:=x.cps.toList
noncomputable def ofL (l:List Nat):Str:=⟨l.toArray⟩
theorem Y4 {x y:Str} (h:tl x=tl y):x=y:=Str.ext' (Array.toList_inj.mp h)
theorem Uq (x y:Str):tl (x++y)=tl x++tl y:=by simp [tl,Str.cps_append]
theorem QH (x:Str):(tl x).length=x.length:=by simp [tl,Str.length]
theorem Vn (l:List Nat):tl (ofL l)=l:=by simp [tl,ofL]
theorem PM (x:Str):ofL (tl x)=x:=Y4 (Vn _)
theorem Dz {x y:Str}{k:Nat}:tl y≠[]->(StrLaws.At x y x.length k ↔ tl y <+: (tl x).drop k):=by
 intro hy
 have hl:=QH y
 have hx:=QH x
 unfold StrLaws.At
 rw [StrLaws.subAt_eq,beq_iff_eq,List.prefix_iff_eq_take,hl]
 constructor
 ·(intro Z0;refine xA Z0 fun Z h=>?_;clear Z0);exact h.symm
 ·intro h
  refine ⟨?_,h.symm⟩
  have:=congrArg List.length h
  rw [hl,List.length_take,List.length_drop,hx] at this
  have hy':y.length≠0:=fun q=>hy (List.eq_nil_of_length_eq_zero (by assumption))
  omega
theorem GE {c:Nat}{y' s t:List Nat} (h:c∉s) {k:Nat} (hk:k < s.length):¬ (c::y') <+: (s++t).drop k:=by
 intro ⟨u,hu⟩
 rw [List.drop_append_of_le_length (by exact Nat.le_of_lt ‹_›),List.drop_eq_getElem_cons hk] at hu
 have:c=s[k]:=by simpa using (List.cons.inj hu).1
 exact h (this▸List.getElem_mem hk)
theorem ML {x y:Str}{c:Nat}{y':List Nat} (hy:tl y=c::y'):∀ (segs:List (List Nat)) (fin:List Nat) (a:Nat) (cuts:List Nat) (f:Nat),StrLaws.ChainG x y x.length a cuts f->(∀ k,f≤k->¬ StrLaws.At x y x.length k) ->
  (tl x).drop a=(segs.flatMap fun s=>s++tl y)++fin->(∀ s∈segs,c∉s)->c∉fin->StrLaws.partsFrom x y.length a cuts=segs.map ofL++[ofL fin]:=by
 have hy0:tl y≠[]:=by rw [hy];exact nofun
 have hyl:y.length=(c::y').length:=by rw [← QH,hy]
 intro segs
 induction segs with
 | nil =>
  intro fin a cuts f hc hn hx _ hf
  rw [List.flatMap_nil,List.nil_append] at hx
  cases cuts with
  | nil =>
   show [strSub x a x.length]=_
   congr 1
   refine Y4 ?_
   show (strSub x a x.length).cps.toList=_
   rw [StrLaws.strSub_toList,Vn,← hx]
   exact List.take_of_length_le (by rw [List.length_drop,QH];exact Nat.le_refl _)
  | cons d r =>
   exfalso
   (refine VA hc fun h1 h2 h3 h4=>?_;clear hc)
   have h5:=(Dz hy0).mp h2
   have e:(tl x).drop d=fin.drop (d - a):=by rw [← hx,List.drop_drop];congr 1;exact (Nat.add_sub_of_le ‹_›).symm
   rw [e,hy] at h5
   by_cases hk:d - a < fin.length
   ·have:=GE (y':=y') (t:=[]) hf hk
    rw [List.append_nil] at this
    exact this h5
   ·rw [List.drop_of_length_le (by exact Nat.le_of_not_lt ‹_›)] at h5
    simp at h5
 | cons s segs ih =>
  intro fin a cuts f hc hn hx hs hf
  rw [List.flatMap_cons,List.append_assoc,List.append_assoc] at hx
  have hcs:=hs s List.mem_cons_self
  have hat:StrLaws.At x y x.length (a+s.length):=by
   refine (Dz hy0).mpr ?_
   rw [← List.drop_drop,hx,List.drop_left]
   exact List.prefix_append _ _
  cases cuts with
  | nil =>
   have e:f=a:=hc
   exact absurd hat (hn _ (by omega))
  | cons d r =>
   (refine VA hc fun h1 h2 h3 h4=>?_;clear hc)
   have hd:d≤a+s.length:=Nat.le_of_not_lt fun q=>h3 _ (by exact Nat.le_add_right _ _) q hat
   have hd2:a+s.length≤d:=Nat.le_of_not_lt fun q=>by
    have h5:=(Dz hy0).mp h2
    have e:(tl x).drop d=(s++(tl y++((segs.flatMap fun s=>s++tl y)++fin))).drop (d - a):=by rw [← hx,List.drop_drop];congr 1;exact (Nat.add_sub_of_le ‹_›).symm
    rw [e,hy] at h5
    exact GE (y':=y') hcs (by omega) h5
   have hde:d=a+s.length:=by exact Nat.le_antisymm ‹_› ‹_›
   show strSub x a d::StrLaws.partsFrom x y.length (d+y.length) r=_
   rw [ih fin (d+y.length) r f h4 hn ?_ (fun s hs'=>hs s (List.mem_cons_of_mem _ hs')) hf]
   ·show _=ofL s::(segs.map ofL++[ofL fin])
    congr 1
    refine Y4 ?_
    show (strSub x a d).cps.toList=_
    rw [StrLaws.strSub_toList,Vn,hx,show d - a=s.length by omega,List.take_left']
    rfl
   ·rw [hde,← List.drop_drop,← List.drop_drop,hx,List.drop_left,← QH y,List.drop_left]
theorem YN {x y:Str}{c:Nat}{y':List Nat} (hy:tl y=c::y') {segs:List (List Nat)}{fin:List Nat} (hx:tl x=(segs.flatMap fun s=>s++tl y)++fin) (hs:∀ s∈segs,c∉s) (hf:c∉fin) :
  partsBetween x (occurrences x y 0 x.length (x.length+1)) y.length=segs.map ofL++[ofL fin]:=by
 have hyl:1≤y.length:=by rw [← QH,hy];simp
 refine xEA (StrLaws.occ_tight x y hyl) fun f hG hn=>?_
 refine Eq.trans (StrLaws.partsBetween_eq _ _ _) ?_
 exact ML hy segs fin 0 _ f hG hn (by exact Eq.trans List.drop_zero (Eq.trans hx rfl)) hs hf
theorem Bk {x y:Str}{w:Nat} (h:(occurrences x y 0 x.length (x.length+1)).isEmpty=true):partsBetween x (occurrences x y 0 x.length (x.length+1)) w=[x]:=by
 rw [List.isEmpty_iff.mp h,StrLaws.partsBetween_eq]
 show [strSub x 0 x.length]=[x]
 rw [StrLaws.sub_whole]
set_option tactic.hygienic true in
theorem DN {x y:Str}{c:Nat}{y':List Nat} (hy:tl y=c::y') (hk:strKind y=1) {segs:List (List Nat)} (hne:segs≠[]) (hx:tl x=segs.flatMap fun s=>s++tl y) (hs:∀ s∈segs,c∉s) :
  Txt.split x y=segs.map ofL++[ofL []]/\partsBetween x (occurrences x y 0 x.length (x.length+1)) y.length=segs.map ofL++[ofL []]:=by
 have hp:=YN hy (fin:=[]) (by rw [List.append_nil];exact hx) hs (by exact nofun)
 refine ⟨?_,hp⟩
 have hl:y.length≤x.length:=by
  rw [← QH,← QH,hx]
  cases segs with
  | nil=>exact absurd rfl hne
  | cons s r=>simp only [List.flatMap_cons,List.length_append];omega
 have hk2:1≤strKind x:=by
  unfold Builtin.Str.strKind;split
  ·exact Nat.le_refl _
  ·split <;> exact Nat.le_add_left _ _
 unfold Txt.split
 rw [if_neg (by simp only [Bool.or_eq_true,decide_eq_true_eq,not_or];omega)]
 split
 ·rename_i h
  rw [Bk h] at hp
  exact hp
 ·exact hp
theorem UZ:∀ xs:List Str,tl (Txt.join "" xs)=xs.flatMap tl:=by
 intro xs
 show tl (glued "" xs)=_
 rw [StrLaws.glued_eq_join]
 induction xs with
 | nil=>rfl
 | cons x r ih =>
  cases r with
  | nil=>show tl x=tl x++[];simp
  | cons y r =>
   show tl (x++""++Str.join "" (y::r))=_
   rw [Uq,ih,Uq,show tl ""=[] from rfl,List.append_nil];rfl
theorem M9 {z:Str} (xs:List Str) (l:Str):tl (Str.join z (xs++[l]))=(xs.flatMap fun x=>tl x++tl z)++tl l:=by
 induction xs with
 | nil=>rfl
 | cons x r ih =>
  have e:∃ p q,r++[l]=p::q:=by cases r <;> exact ⟨_,_,rfl⟩
  refine xEE e fun p q e=>?_
  rw [e] at ih
  rw [List.cons_append,e]
  show tl (x++z++Str.join z (p::q))=_
  rw [Uq,ih,Uq]
  simp
theorem Kl {xs:List Str} (h:(xs.flatMap tl).length≤16777216):JoinOk "" xs=true:=by
 unfold JoinOk
 rw [StrLaws.joinTotal]
 have e:(xs.map (·.length)).sum=(xs.flatMap tl).length:=by
  rw [List.length_flatMap]
  simp only [QH]
 rw [e,show Str.length ""=0 from rfl,Nat.mul_zero,Nat.add_zero]
 unfold tooLong
 rw [sizeLine_eq]
 simpa using h
theorem Vd {x:Str} (h1:(tl x).length≤16777216) (h2:∀ c∈tl x,c < 0x110000):ZO x=true:=by
 unfold ZO PyData.strOk
 rw [Bool.and_eq_true,decide_eq_true_eq,← QH]
 refine ⟨h1,?_⟩
 rw [← Array.all_toList,List.all_eq_true]
 exact fun c hc=>decide_eq_true (h2 c hc)
noncomputable def Wo (b:Bool):List Nat:=if b then [13,10] else [10]
noncomputable def lns (pr:List (List Nat×Bool)):List Nat:=pr.flatMap fun q=>q.1++Wo q.2
theorem Bp:∀ pr:List (List Nat×Bool),(∀ q∈pr,13∉q.1)->∃ (segs:List (List Nat)) (fin:List Nat),lns pr=(segs.flatMap fun s=>s++[13,10])++fin/\(pr.flatMap fun q=>q.1++[10])=(segs.flatMap fun s=>s++[10])++fin/\(∀ s∈segs,13∉s)/\13∉fin
 | [],_=>⟨[],[],rfl,rfl,fun Z h=>(by exact absurd h List.not_mem_nil),(by decide)⟩
 | (r,b)::pr,h=>by
  refine Vk (Bp pr fun q hq=>h q (List.mem_cons_of_mem _ hq)) fun segs fin e1 e2 h1 h2=>?_
  have hr:13∉r:=h (r,b) List.mem_cons_self
  have l1:lns ((r,b)::pr)=r++Wo b++lns pr:=by simp [lns]
  rw [l1,List.flatMap_cons,e1,e2]
  cases b with
  | true =>
   refine ⟨r::segs,fin,?_,?_,?_,h2⟩
   ·simp [Wo]
   ·simp
   ·intro s hs
    rcases List.mem_cons.mp hs with rfl|hs
    ·exact hr
    ·exact h1 s hs
  | false =>
   cases segs with
   | nil =>
    refine ⟨[],r++[10]++fin,?_,?_,?_,?_⟩
    ·simp [Wo]
    ·rfl
    ·intro s hs;exact absurd hs List.not_mem_nil
    ·simp [hr,h2]
   | cons s segs =>
    refine ⟨(r++[10]++s)::segs,fin,?_,?_,?_,h2⟩
    ·simp [Wo]
    ·simp
    ·intro t ht
     rcases List.mem_cons.mp ht with rfl|ht
     ·have:=h1 s List.mem_cons_self
      simp [hr,this]
     ·exact h1 t (List.mem_cons_of_mem _ ht)
set_option tactic.hygienic true in
theorem Bz {x:Str}{pr:List (List Nat×Bool)} (hx:tl x=lns pr) (h:∀ q∈pr,13∉q.1):tl (Txt.replace x "\r\n" "\n")=pr.flatMap fun q=>q.1++[10]:=by
 refine Vk (Bp pr h) fun segs fin e1 e2 h1 h2=>?_
 have hp:=YN (x:=x) (y:="\r\n") (c:=13) (y':=[10]) rfl (segs:=segs) (fin:=fin) (by exact Eq.trans hx (Eq.trans e1 rfl)) h1 h2
 have key:Txt.replace x "\r\n" "\n"=glued "\n" (partsBetween x (occurrences x "\r\n" 0 x.length (x.length+1)) (Str.length "\r\n")):=by
  unfold Txt.replace
  split
  ·rename_i hc
   have hc:(occurrences x "\r\n" 0 x.length (x.length+1)).isEmpty=true:=by
    rw [Bool.or_eq_true] at hc
    rcases hc with hc|hc
    ·exact hc
    ·exact absurd hc (by decide)
   rw [Bk hc];rfl
  ·rfl
 rw [key,hp,StrLaws.glued_eq_join,M9,e2,Vn,List.flatMap_map]
 simp only [Vn]
 rfl
theorem YW {find:Nat->Option (Nat×Nat)}{x r:Str}{spec:Nat->List Nat}
  (hs:∀ d a b,d≤x.cps.size->find d=some (a,b)->d≤a/\a < b/\b≤x.cps.size/\spec d=((tl x).drop d).take (a - d)++tl r++spec b) (hn:∀ d,d≤x.cps.size->find d=none->spec d=(tl x).drop d) :
  ∀ k d,d≤x.cps.size->x.cps.size - d < k->(VO find x r k d).flatMap tl=spec d
 | 0,d,_,h=>by exact absurd ‹_› (Nat.not_lt_zero _)
 | k+1,d,hd,hk=>by
  unfold VO
  cases hf:find d with
  | none =>
   rw [hn d hd hf]
   simp only
   split
   ·rw [List.flatMap_cons,List.flatMap_nil,List.append_nil]
    show (x.cps.extract d x.cps.size).toList=_
    refine Eq.trans Array.toList_extract (Eq.trans List.extract_eq_drop_take' ?_)
    rw [List.take_of_length_le (by exact Nat.le_refl _)]
   ·rw [List.drop_of_length_le (by simp;exact Nat.le_of_not_lt ‹_›)];rfl
  | some q =>
   obtain ⟨a,b⟩:=q
   refine VA (hs d a b hd hf) fun h1 h2 h3 h4=>?_
   simp only
   rw [h4,List.flatMap_append,List.flatMap_cons,YW hs hn k b h3 (by lia),List.append_assoc]
   congr 1
   split
   ·rw [List.flatMap_cons,List.flatMap_nil,List.append_nil]
    show (x.cps.extract d a).toList=_
    refine Eq.trans Array.toList_extract (Eq.trans List.extract_eq_drop_take' ?_)
    exact Eq.trans List.drop_take rfl
   ·rw [show a - d=0 by exact Nat.sub_eq_zero_of_le (Nat.le_of_not_lt ‹_›)];rfl
set_option tactic.hygienic true in
theorem D_ {find:Nat->Option (Nat×Nat)}{x r:Str}:∀ k d,(VO find x r k d).length≤2 * k
 | 0,_=>Nat.zero_le _
 | k+1,d=>by
  unfold VO
  split
  ·rename_i a b _
   have:=D_ (find:=find) (x:=x) (r:=r) k b
   split <;> simp <;> lia
  ·split <;> simp <;> exact Nat.le_add_left _ _
noncomputable def Ja:Bool->List Nat->List Nat
 | _,[]=>[]
 | true,_::l=>Ja false l
 | false,c::l=>if c=10 then 13::10::Ja false l else if c=13 then 13::10::Ja true l else c::Ja false l
noncomputable def Vc (l:List Nat):List Nat:=Ja false l
theorem QG:∀ (c:Nat) (l:List Nat),Vc (c::l)=if c=10 then 13::10::Vc l else if c=13 then 13::10::Vc (l.drop 1) else c::Vc l
 | _,[]=>rfl
 | _,_::_=>rfl
theorem U8 {t:Array Nat}{s:Nat} (h:s < t.size):t.toList.drop s=t.getD s 0::t.toList.drop (s+1):=by
 rw [List.drop_eq_getElem_cons (by exact h)]
 congr 1
 simp [Array.getD,h]
theorem J7 {l:List Nat}{c:Nat}{m:List Nat}{d a:Nat} (e:l=c::m) (h:d+1≤a):l.take (a - d)=c::m.take (a - (d+1)):=by
 rw [e,show a - d=(a - (d+1))+1 by lia,List.take_succ_cons]
theorem Ue {t:Array Nat} (hk:Hm t):∀ k d,d+k=t.size->match V_ t k d with
  | some (a,b)=>d≤a/\a < b/\b≤t.size/\Vc (t.toList.drop d)=(t.toList.drop d).take (a - d)++[13,10]++Vc (t.toList.drop b)
  | none=>Vc (t.toList.drop d)=t.toList.drop d
 | 0,d,e=>by
  show Vc _=_
  rw [List.drop_of_length_le (by simp;exact Nat.le_of_eq (Eq.symm ‹_›))]
  rfl
 | k+1,d,e=>by
  have hd:d < t.size:=by exact oq5 ‹_›
  have g:=U8 hd
  unfold V_
  by_cases h1:t.getD d 0=10
  ·rw [if_pos (by exact decide_eq_true h1)]
   refine ⟨Nat.le_refl _,by exact Nat.le_refl _,by assumption,?_⟩
   rw [g,h1,QG,if_pos rfl,Nat.sub_self];rfl
  ·rw [if_neg (by simpa using h1)]
   by_cases h2:t.getD d 0=13
   ·rw [if_pos (by exact decide_eq_true h2)]
    have:=hk d hd h2
    refine ⟨Nat.le_refl _,by lia,by lia,?_⟩
    rw [g,h2,QG,if_neg (by decide),if_pos rfl,Nat.sub_self,List.drop_drop];rfl
   ·rw [if_neg (by simpa using h2)]
    have ih:=Ue hk k (d+1) (by exact oV ‹_›)
    cases hf:V_ t k (d+1) with
    | none =>
     rw [hf] at ih
     show Vc _=_
     have ih:Vc (t.toList.drop (d+1))=t.toList.drop (d+1):=ih
     rw [g,QG,if_neg h1,if_neg h2,ih]
    | some q =>
     obtain ⟨a,b⟩:=q
     rw [hf] at ih
     (refine VA ih fun i1 i2 i3 i4=>?_;clear ih)
     refine ⟨by exact Nat.le_of_lt ‹_›,i2,i3,?_⟩
     rw [J7 g i1]
     rw [g,QG,if_neg h1,if_neg h2,i4]
     dsimp
noncomputable def Qz:Bool->List Nat->List Nat
 | _,[]=>[]
 | b,c::l=>if (b && c == 46)=true then 46::46::Qz false l else c::Qz (c == 10) l
noncomputable def atS (t:Array Nat) (d:Nat):Bool:=d == 0 || t.getD (d - 1) 0 == 10
theorem Ut {t:Array Nat}:∀ k d,d+k=t.size->match VW t k d with
  | some (a,b)=>d≤a/\a < b/\b≤t.size/\Qz (atS t d) (t.toList.drop d)=(t.toList.drop d).take (a - d)++[46,46]++Qz (atS t b) (t.toList.drop b)
  | none=>Qz (atS t d) (t.toList.drop d)=t.toList.drop d
 | 0,d,e=>by
  have h:Wp t d=false:=by delta Wp;simp;lia
  unfold VW
  rw [h,if_neg (by decide)]
  show Qz _ _=_
  rw [List.drop_of_length_le (by simp;exact Nat.le_of_eq (Eq.symm ‹_›))]
  rfl
 | k+1,d,e=>by
  have hd:d < t.size:=by exact oq5 ‹_›
  have g:=U8 hd
  have hh:Wp t d=(atS t d && t.getD d 0 == 46):=by delta Wp atS;simp [hd]
  unfold VW
  cases h:Wp t d with
  | true =>
   rw [if_pos rfl]
   refine ⟨Nat.le_refl _,by exact Nat.le_refl _,by assumption,?_⟩
   have h46:t.getD d 0=46:=by
    replace hh:=Eq.trans (Eq.symm h) hh
    exact beq_iff_eq.mp ((Bool.and_eq_true _ _).mp hh.symm).2
   have ha:atS t (d+1)=false:=by
    unfold atS
    rw [Nat.add_sub_cancel,h46];rfl
   rw [ha,g,Qz,← hh,h,if_pos rfl,Nat.sub_self];rfl
  | false =>
   rw [if_neg (by decide)]
   have ih:=Ut (t:=t) k (d+1) (by exact oV ‹_›)
   have ha:atS t (d+1)=(t.getD d 0 == 10):=by
    delta atS
    rw [Nat.add_sub_cancel];rfl
   rw [ha] at ih
   cases hf:VW t k (d+1) with
   | none =>
    rw [hf] at ih
    show Qz _ _=_
    have ih:Qz (t.getD d 0 == 10) (t.toList.drop (d+1))=t.toList.drop (d+1):=ih
    rw [g,Qz,← hh,h,if_neg (by decide),ih]
   | some q =>
    obtain ⟨a,b⟩:=q
    rw [hf] at ih
    (refine VA ih fun i1 i2 i3 i4=>?_;clear ih)
    refine ⟨by exact Nat.le_of_lt ‹_›,i2,i3,?_⟩
    rw [J7 g i1]
    rw [g,Qz,← hh,h,if_neg (by decide),i4]
    dsimp
noncomputable def MX (r:List Nat):Prop:=10∉r/\13∉r
theorem JC:∀ (r l:List Nat),MX r->Vc (r++l)=r++Vc l
 | [],_,_=>rfl
 | c::r,l,h=>by
  have h1:¬ c=10:=fun e=>h.1 (e▸List.mem_cons_self)
  have h2:¬ c=13:=fun e=>h.2 (e▸List.mem_cons_self)
  rw [List.cons_append,QG,if_neg h1,if_neg h2,JC r l ⟨fun m=>h.1 (List.mem_cons_of_mem _ m),fun m=>h.2 (List.mem_cons_of_mem _ m)⟩];rfl
noncomputable def crs (rows:List (List Nat)):List Nat:=rows.flatMap fun r=>r++[13,10]
theorem JM:∀ pr:List (List Nat×Bool),(∀ q∈pr,MX q.1)->Vc (lns pr)=crs (pr.map (·.1))
 | [],_=>rfl
 | (r,b)::pr,h=>by
  have ih:=JM pr fun q hq=>h q (List.mem_cons_of_mem _ hq)
  have l1:lns ((r,b)::pr)=r++(Wo b++lns pr):=by simp [lns]
  have l2:crs (((r,b)::pr).map (·.1))=r++([13,10]++crs (pr.map (·.1))):=by simp [crs]
  rw [l1,l2,JC _ _ (h _ List.mem_cons_self),← ih]
  congr 1
  cases b with
  | true=>show Vc (13::10::lns pr)=_;rw [QG,if_neg (by decide),if_pos rfl];rfl
  | false=>show Vc (10::lns pr)=_;exact Eq.trans (QG _ _) (Eq.trans (if_pos rfl) rfl)
noncomputable def Yw:List Nat->List Nat
 | 46::r=>46::46::r
 | r=>r
theorem YT:∀ (r l:List Nat),10∉r->Qz false (r++13::10::l)=r++13::10::Qz true l
 | [],_,_=>rfl
 | c::r,l,h=>by
  have h1:(c == 10)=false:=by
   cases e:c == 10 with
   | false=>rfl
   | true=>exact absurd (beq_iff_eq.mp e▸List.mem_cons_self) h
  show c::Qz (c == 10) (r++13::10::l)=_
  rw [h1,YT r l fun m=>h (List.mem_cons_of_mem _ m)];rfl
set_option tactic.hygienic true in
theorem GL (r l:List Nat) (h:10∉r):Qz true (r++13::10::l)=Yw r++13::10::Qz true l:=by
 cases r with
 | nil=>rfl
 | cons c r =>
  have hr:10∉r:=fun m=>h (List.mem_cons_of_mem _ m)
  by_cases hc:c=46
  ·subst hc
   show 46::46::Qz false (r++13::10::l)=_
   rw [YT r l hr];rfl
  ·have e1:Yw (c::r)=c::r:=by
    unfold Yw
    split
    ·rename_i e;exact absurd (List.cons.inj e).1 hc
    ·rfl
   have e2:(true && c == 46)=false:=by exact beq_eq_false_iff_ne.mpr hc
   have h1:(c == 10)=false:=by
    cases e:c == 10 with
    | false=>rfl
    | true=>exact absurd (beq_iff_eq.mp e▸List.mem_cons_self) h
   rw [e1,List.cons_append,Qz,e2,if_neg (by decide),h1,YT r l hr];rfl
theorem JU:∀ rows:List (List Nat),(∀ r∈rows,10∉r)->Qz true (crs rows)=crs (rows.map Yw)
 | [],_=>rfl
 | r::rows,h=>by
  have l1:∀ (r:List Nat) (rs:List (List Nat)),crs (r::rs)=r++13::10::crs rs:=fun r rs=>by simp [crs]
  rw [l1,GL r _ (h r List.mem_cons_self),JU rows fun q hq=>h q (List.mem_cons_of_mem _ hq),List.map_cons,l1]
noncomputable def Cr (l:List Nat):Prop:=∀ s v,l.drop s=13::v->∃ v',v=10::v'
theorem Cr.cons {a:Nat}{l:List Nat} (ha:a≠13) (h:Cr l):Cr (a::l)
 | 0,v,e=>absurd (List.cons.inj e).1 ha
 | s+1,v,e=>h s v e
theorem Cr.crlf {l:List Nat} (h:Cr l):Cr (13::10::l)
 | 0,v,e=>⟨l,((List.cons.inj e).2).symm⟩
 | s+1,v,e=>(Cr.cons (by decide) h) s v e
theorem Cr.app {l:List Nat} (h:Cr l):∀ r:List Nat,13∉r->Cr (r++l)
 | [],_=>h
 | c::r,hr=>Cr.cons (fun e=>hr (e▸List.mem_cons_self)) (Cr.app h r fun m=>hr (List.mem_cons_of_mem _ m))
theorem Cr.lns:∀ pr:List (List Nat×Bool),(∀ q∈pr,13∉q.1)->Cr (lns pr)
 | [],_=>fun s v e=>by simp [Mine.lns] at e
 | (r,b)::pr,h=>by
  have ih:=Cr.lns pr fun q hq=>h q (List.mem_cons_of_mem _ hq)
  have l1:Mine.lns ((r,b)::pr)=r++(Wo b++Mine.lns pr):=by simp [Mine.lns]
  rw [l1]
  refine Cr.app ?_ r (h _ List.mem_cons_self)
  cases b with
  | true=>exact Cr.crlf ih
  | false=>exact Cr.cons (by decide) ih
theorem M8 {t:Array Nat} (h:Cr t.toList):Hm t:=by
 intro s hs e
 have g:=U8 hs
 rw [e] at g
 refine xE (h s _ g) fun v' hv=>?_
 have hl:s+1 < t.size:=by
  have:=congrArg List.length hv
  rw [List.length_drop,List.length_cons,Array.length_toList] at this
  omega
 refine ⟨hl,?_⟩
 replace hv:=Eq.trans (Eq.symm (U8 hl)) hv
 exact (List.cons.inj hv).1
theorem H6 (r:Str):Txt.slice r none (some 1)=ofL ((tl r).take 1):=by
 by_cases h:1≤r.length
 ·have:=PyProof.Rows.slice_closes_toL (x:=r) (j:=1) (by decide) (by exact Int.ofNat_lt.mpr ‹_›)
  rw [beq_iff_eq] at this
  refine Eq.trans this ?_
  rfl
 ·have h0:r.length=0:=by exact Nat.eq_zero_of_not_pos ‹_›
  have e:r=ofL []:=Y4 (by exact Eq.trans (Vn _) (List.eq_nil_of_length_eq_zero (by rw [QH];exact h0)))
  subst e
  rfl
set_option tactic.hygienic true in
theorem V1 (r:Str):tl (Ze r)=Yw (tl r):=by
 unfold Ze Pe
 rw [H6]
 have e:PyData.eqv (.str (ofL ((tl r).take 1))) (.str ".")=decide ((tl r).take 1=[46]):=by
  simp only [PyData.eqv]
  rw [Bool.eq_iff_iff,beq_iff_eq,decide_eq_true_eq]
  constructor
  ·intro h
   have:=congrArg tl h
   replace this:=Eq.trans (Eq.symm (Vn _)) this
   exact this
  ·intro h;rw [h];rfl
 rw [e]
 cases h:tl r with
 | nil=>rw [if_neg (by decide),h];rfl
 | cons c l =>
  by_cases hc:c=46
  ·subst hc
   rw [if_pos (by rfl),Uq,h];rfl
  ·rw [if_neg (by simpa using hc),h]
   unfold Yw
   split
   ·rename_i e;exact absurd (List.cons.inj e).1 hc
   ·rfl
structure QM (n:Nat) (r:Str):Prop where
 len:(tl r).length≤n
 cp:∀ c∈tl r,c=46∨c=97∨c=98∨c=99
theorem QM.free {n:Nat}{r:Str} (h:QM n r):MX (tl r) :=
 ⟨fun m=>by have:=h.cp _ m;omega,fun m=>by have:=h.cp _ m;omega⟩
theorem QM.lt {n:Nat}{r:Str} (h:QM n r):∀ c∈tl r,c < 0x110000:=fun c m=>by have:=h.cp c m;omega
theorem QM.mono {n k:Nat}{r:Str} (h:QM n r) (hk:n≤k):QM k r:=⟨Nat.le_trans h.len hk,h.cp⟩
theorem MU {l:List Nat} (h:∀ c∈l,c=46∨c=97∨c=98∨c=99):∀ c∈Yw l,c=46∨c=97∨c=98∨c=99:=by
 unfold Yw
 split
 ·intro c hc
  rcases List.mem_cons.mp hc with rfl|hc
  ·exact .inl rfl
  ·exact h c hc
 ·exact h
theorem HI (l:List Nat):(Yw l).length≤l.length+1:=by
 unfold Yw
 split
 ·exact Nat.le_refl _
 ·exact Nat.le_add_right _ _
theorem QM.dot {n:Nat}{r:Str} (h:QM n r):QM (n+1) (Ze r):=by
 refine ⟨?_,?_⟩
 ·rw [V1];have:=HI (tl r);have:=h.len;omega
 ·rw [V1];exact MU h.cp
theorem KK {B:Nat}:∀ {rows:List (List Nat)},(∀ r∈rows,r.length≤B)->(crs rows).length≤rows.length * (B+2)
 | [],_=>by simp [crs]
 | r::rows,h=>by
  have ih:=KK (B:=B) (rows:=rows) fun q hq=>h q (List.mem_cons_of_mem _ hq)
  have:=h r List.mem_cons_self
  have l1:crs (r::rows)=r++13::10::crs rows:=by simp [crs]
  rw [l1]
  simp only [List.length_append,List.length_cons,Nat.add_mul,Nat.one_mul] at *
  omega
theorem HB {rows:List (List Nat)} (h:∀ r∈rows,∀ c∈r,c < 0x110000):∀ c∈crs rows,c < 0x110000:=by
 intro c hc
 refine xEA (List.mem_flatMap.mp hc) fun r hr m=>?_
 rcases List.mem_append.mp m with m|m
 ·exact h r hr c m
 ·simp only [List.mem_cons,List.not_mem_nil,or_false] at m;omega
theorem KQ {B:Nat}:∀ {pr:List (List Nat×Bool)},(∀ q∈pr,q.1.length≤B)->(lns pr).length≤pr.length * (B+2)
 | [],_=>by simp [lns]
 | (r,b)::pr,h=>by
  have ih:=KQ (B:=B) (pr:=pr) fun q hq=>h q (List.mem_cons_of_mem _ hq)
  have:r.length≤B:=h (r,b) List.mem_cons_self
  have hb:(Wo b).length≤2:=by cases b <;> simp [Wo]
  have l1:lns ((r,b)::pr)=r++(Wo b++lns pr):=by simp [lns]
  rw [l1]
  simp only [List.length_append,List.length_cons,Nat.add_mul,Nat.one_mul] at *
  omega
theorem O6 {pr:List (List Nat×Bool)} (h:∀ q∈pr,∀ c∈q.1,c < 0x110000):∀ c∈lns pr,c < 0x110000:=by
 intro c hc
 refine xEA (List.mem_flatMap.mp hc) fun q hq m=>?_
 rcases List.mem_append.mp m with m|m
 ·exact h q hq c m
 ·cases e:q.2 <;> (rw [e] at m;simp [Wo] at m;omega)
theorem De {x:Str} (h:Hm x.cps):UJ ZX x fun d=>V_ x.cps (x.cps.size - d) d:=by
 refine ⟨fun d hd=>⟨9,by decide,Ox hd h⟩,fun d a b hf=>?_⟩
 by_cases hd:d≤x.cps.size
 ·have:=Ue h (x.cps.size - d) d (by exact Nat.add_sub_of_le ‹_›)
  rw [hf] at this
  exact ⟨this.1,this.2.1,this.2.2.1⟩
 ·rw [show x.cps.size - d=0 by omega] at hf;exact noS hf
theorem Di {x:Str} (hl:x.cps.size≤16777216):UJ Qn x fun d=>VW x.cps (x.cps.size - d) d:=by
 refine ⟨fun d hd=>⟨5 * x.cps.size+5,?_,Ow hd⟩,fun d a b hf=>?_⟩
 ·have:(10:Nat) ^ 19=10000000000000000000:=by decide
  omega
 by_cases hd:d≤x.cps.size
 ·have:=Ut (t:=x.cps) (x.cps.size - d) d (by exact Nat.add_sub_of_le ‹_›)
  rw [hf] at this
  exact ⟨this.1,this.2.1,this.2.2.1⟩
 ·rw [show x.cps.size - d=0 by omega] at hf
  unfold VW Wp at hf
  have:decide (d < x.cps.size)=false:=decide_eq_false (by omega)
  rw [this] at hf
  simp at hf
theorem H8 {C:Cx}{μ:Mu}{p:Addr}{code:Array Nat}{x r y:Str}{find:Nat->Option (Nat×Nat)} (hP:WW C.h₁ p code) (S:UJ code x find) (hr:r.cps.contains 92=false)
  (hx:x.cps.size≤100000) (hy:ZO y=true) (hf:(VO find x r (x.cps.size+1) 0).flatMap tl=tl y):Fn C μ (.builtin "re.Pattern.sub") [.cal (.ref p),.dat (.str r),.dat (.str x)] (.dat (.str y)):=by
 have e:Txt.join ⟨#[]⟩ (VO find x r (x.cps.size+1) 0)=y:=Y4 (by rw [← hf];exact UZ _)
 have hyl:=Q8 hy
 rw [sizeLine_eq,← QH] at hyl
 have hal:=D_ (find:=find) (x:=x) (r:=r) (x.cps.size+1) 0
 have:=OL (μ:=μ) hP S hr (Kl (by rw [hf];exact hyl)) (by rw [e];exact hy) (by rw [sizeLine_eq];omega)
 rwa [e] at this
theorem KD (rows:List Str):tl (ZM rows)=crs ((rows.map tl).map Yw):=by
 unfold ZM
 rw [UZ,List.map_map,List.flatMap_map,crs,List.map_map,List.flatMap_map]
 congr 1
 funext r
 show tl (Ze r++"\r\n")=_
 rw [Uq,V1];rfl
theorem Bb {rows:List Str}{B:Nat} (h:∀ r∈rows,QM B r):∀ r∈rows.map tl,r.length≤B:=fun r hr=>by
 (refine xEA (List.mem_map.mp hr) fun q hq Z0=>?_;subst Z0)
 exact (h q hq).len
theorem DX {rows:List Str}{B:Nat} (h:∀ r∈rows,QM B r):∀ r∈rows.map tl,∀ c∈r,c < 0x110000:=fun r hr=>by
 (refine xEA (List.mem_map.mp hr) fun q hq Z0=>?_;subst Z0)
 exact (h q hq).lt
theorem Je {rows:List Str} (h:∀ r∈rows,QM 12 r) (hl:rows.length < 64):ZO (ZM rows)=true/\(tl (ZM rows)).length≤64 * 15:=by
 have h':∀ r∈rows.map Ze,QM 13 r:=fun r hr=>by
  (refine xEA (List.mem_map.mp hr) fun q hq Z0=>?_;subst Z0)
  exact (h q hq).dot
 have e:tl (ZM rows)=crs ((rows.map Ze).map tl):=by
  rw [KD,List.map_map,List.map_map]
  congr 1
  refine List.map_congr_left fun r Z=>(V1 r).symm
 have hlen:(tl (ZM rows)).length≤64 * 15:=by
  rw [e]
  refine Nat.le_trans (KK (Bb h')) ?_
  rw [List.length_map,List.length_map]
  omega
 refine ⟨Vd (by exact oA ‹_› rfl) ?_,hlen⟩
 rw [e]
 exact HB (DX h')
theorem Hw {text:Str}{rows:List Str}{pr:List (List Nat×Bool)} (hx:tl text=lns pr) (hp:pr.map (·.1)=rows.map tl) (hr:∀ r∈rows,QM 12 r) (hl:rows.length < 64)
  {w:World}{h₁:Heap} (K:K1 w h₁) (k:Nat) (μ:Mu):Zt w h₁ (k+1) μ 55 [.dat (.str text)] (.dat (.str (ZM rows))):=by
 have hpr:∀ q∈pr,∃ r∈rows,tl r=q.1:=fun q hq=>by
  have:q.1∈pr.map (·.1):=List.mem_map.mpr ⟨q,hq,rfl⟩
  rw [hp] at this
  exact List.mem_map.mp this
 have hfree:∀ q∈pr,MX q.1:=fun q hq=>by
  refine xEA (hpr q hq) fun r h1 h2=>?_
  rw [← h2];exact (hr r h1).free
 have hpl:pr.length=rows.length:=by have:=congrArg List.length hp;simpa using this
 have hxl:text.cps.size≤100000:=by
  have:(tl text).length≤pr.length * (12+2):=by
   rw [hx]
   refine KQ fun q hq=>?_
   refine xEA (hpr q hq) fun r h1 h2=>?_
   rw [← h2];exact (hr r h1).len
  rw [Array.length_toList] at this
  omega
 have hcr:Hm text.cps:=M8 (by show Cr (tl text);rw [hx];exact Cr.lns pr fun q hq=>(hfree q hq).2)
 have hyl:(crs (rows.map tl)).length≤64 * 14:=by
  refine Nat.le_trans (KK (Bb hr)) ?_
  rw [List.length_map];omega
 have hy:ZO (ofL (crs (rows.map tl)))=true:=Vd (by rw [Vn];exact oA ‹_› rfl) (by rw [Vn];exact HB (DX hr))
 have hys:(ofL (crs (rows.map tl))).cps.size≤64 * 14:=by
  have:=QH (ofL (crs (rows.map tl)))
  rw [Vn] at this
  show (ofL (crs (rows.map tl))).length≤_
  assumption
 refine Kj K (y:=ofL (crs (rows.map tl))) (fun C e=>?_) fun C e=>?_
 ·refine H8 (e▸PZ K) (De hcr) (by decide +kernel) hxl hy ?_
  rw [YW (spec:=fun d=>Vc ((tl text).drop d)) ?_ ?_ (text.cps.size+1) 0 (Nat.zero_le _) (by exact Nat.le_refl _)]
  ·show Vc (tl text)=_
   rw [hx,JM pr hfree,hp,Vn]
  ·intro d a b hd hf
   have:=Ue hcr (text.cps.size - d) d (by exact Nat.add_sub_of_le ‹_›)
   rw [hf] at this
   exact this
  ·intro d hd hf
   have:=Ue hcr (text.cps.size - d) d (by exact Nat.add_sub_of_le ‹_›)
   rw [hf] at this
   exact this
 ·generalize hY:ofL (crs (rows.map tl))=Y at *
  have hT:tl Y=crs (rows.map tl):=by rw [← hY,Vn]
  refine H8 (e▸PH K) (Di (by exact oA ‹_› rfl)) (by decide +kernel) (by exact oA ‹_› rfl) (Je hr hl).1 ?_
  rw [YW (spec:=fun d=>Qz (atS Y.cps d) ((tl Y).drop d)) ?_ ?_ (Y.cps.size+1) 0 (Nat.zero_le _) (by exact Nat.le_refl _)]
  ·show Qz true (tl Y)=_
   rw [hT,JU _ ?_,KD]
   intro r h
   (refine xEA (List.mem_map.mp h) fun q hq Z0=>?_;subst Z0)
   exact (hr q hq).free.1
  ·intro d a b hd hf
   have:=Ut (t:=Y.cps) (Y.cps.size - d) d (by exact Nat.add_sub_of_le ‹_›)
   rw [hf] at this
   exact this
  ·intro d hd hf
   have:=Ut (t:=Y.cps) (Y.cps.size - d) d (by exact Nat.add_sub_of_le ‹_›)
   rw [hf] at this
   exact this
noncomputable def Vz (ms:List Msg):Nat->Nat->List Str
 | 0,_=>[]
 | f+1,p=>(QL (Zy ms p).2.1 ([(Zy ms p).1]::(Zy ms p).2.2.map fun o=>(Vz ms f o.toNat).map Ze)).flatMap id
noncomputable def ZS (ms:List Msg) (p:Int):List Str:=Vz ms 9 p.toNat
theorem Yx {α β:Type} (k:Int) (f:α->β) (xs:List α):QL k (xs.map f)=(QL k xs).map f:=by
 unfold QL;split
 ·rw [List.map_reverse]
 ·rfl
theorem M3 {α:Type}{k:Int}{xs:List α}{x:α}:x∈QL k xs ↔ x∈xs:=by
 unfold QL;split
 ·rw [List.mem_reverse]
 ·exact Iff.rfl
theorem MS {α:Type} (k:Int) (xs:List (List α)):((QL k xs).flatMap id).length=(xs.map List.length).sum:=by
 unfold QL;split
 ·refine Eq.trans List.length_flatMap ?_
  show ((xs.reverse).map List.length).sum=_
  rw [List.map_reverse,List.sum_reverse]
 ·exact List.length_flatMap
theorem JS (ms:List Msg):∀ (n j:Nat),j < n->∀ p∈QT ms (Zm ms j).1,∀ f g,j < f->j < g->Vz ms f p=Vz ms g p
 | 0,_,h=>by exact absurd ‹_› (Nat.not_lt_zero _)
 | n+1,j,hj=>by
  intro p hp f g hf hg
  obtain ⟨f,rfl⟩:∃ f',f=f'+1:=⟨f - 1,by exact rd ‹_›⟩
  obtain ⟨g,rfl⟩:∃ g',g=g'+1:=⟨g - 1,by exact rd ‹_›⟩
  unfold Vz
  have e:((Zy ms p).2.2.map fun o=>(Vz ms f o.toNat).map Ze)=(Zy ms p).2.2.map fun o=>(Vz ms g o.toNat).map Ze:=by
   refine List.map_congr_left fun o ho=>?_
   (refine Zn ((V0 ms j).2 o ((WO hp).2.2 o ho)) fun j' p' h1 h2 Z0=>?_;subst Z0)
   rw [Int.toNat_natCast,JS ms n j' (by exact re ‹_› ‹_›) p' h2 f g (by exact re ‹_› ‹_›) (by exact re ‹_› ‹_›)]
  rw [e]
theorem GA {ms:List Msg}{j p:Nat} (hj:j < 8) (hp:p∈QT ms (Zm ms j).1):(QL (Zy ms p).2.1 (Qs (Zy ms p) (ZS ms))).flatMap id=ZS ms p:=by
 unfold ZS
 rw [Int.toNat_natCast]
 conv=>rhs;unfold Vz
 unfold Qs
 have e:((Zy ms p).2.2.map fun o=>(Vz ms 9 o.toNat).map Ze)=(Zy ms p).2.2.map fun o=>(Vz ms 8 o.toNat).map Ze:=by
  refine List.map_congr_left fun o ho=>?_
  (refine Zn ((V0 ms j).2 o ((WO hp).2.2 o ho)) fun j' p' h1 h2 Z0=>?_;subst Z0)
  rw [Int.toNat_natCast,JS ms (j'+1) j' (by exact Nat.le_refl _) p' h2 9 8 (by exact oq1 ‹_› ‹_› rfl) (by exact oq1 ‹_› ‹_› rfl)]
 rw [e]
theorem JN (ms:List Msg) (p:Nat):(ms.map (·.2.2)).getD p []=(Zy ms p).2.2:=by
 unfold Zy
 rw [List.getD_eq_getElem?_getD,List.getElem?_map]
 cases ms[p]? <;> rfl
theorem WA (ms:List Msg):∀ (f p:Nat),(Vz ms f p).length=BU (ms.map (·.2.2)) f p
 | 0,_=>rfl
 | f+1,p=>by
  unfold Vz BU
  rw [MS,List.map_cons,List.sum_cons,JN,List.map_map]
  show 1+_=_
  congr 2
  refine List.map_congr_left fun o Z=>?_
  show ((Vz ms f o.toNat).map Ze).length=_
  exact Eq.trans (List.length_map _) (Eq.trans (WA ms f _) rfl)
theorem YI {ms:List Msg} (hl:∀ p,QM 3 (Zy ms p).1):∀ (f p:Nat),∀ r∈Vz ms f p,QM (3+f) r
 | 0,_,_,h=>by exact absurd h List.not_mem_nil
 | f+1,p,r,h=>by
  unfold Vz at h
  refine xEA (List.mem_flatMap.mp h) fun l h1 h2=>?_
  rw [M3] at h1
  rcases List.mem_cons.mp h1 with rfl|h1
  ·rw [List.mem_singleton.mp h2];exact (hl p).mono (by exact Nat.le_add_right _ _)
  ·(refine xEA (List.mem_map.mp h1) fun o Z Z0=>?_;subst Z0)
   (refine xEA (List.mem_map.mp h2) fun q hq Z0=>?_;subst Z0)
   exact (YI hl f o.toNat q hq).dot
theorem M2 (ms:List Msg) (p:Int):ZS ms p≠[]:=by
 intro h
 have e:(ZS ms p).length=0:=by rw [h];rfl
 unfold ZS at e
 replace e:=Eq.trans (Eq.symm (WA _ _ _)) e
 unfold BU at e
 omega
theorem HF {n:Nat}{r:Str} (h:QM n r) (hn:n≤100):ZO r=true:=Vd (by have:=h.len;exact oX ‹_› ‹_› rfl) h.lt
theorem D9 {x y:Str} (hx:(tl x).length≤1000) (hx':∀ c∈tl x,c < 0x110000) (hy:(tl y).length≤1000) (hy':∀ c∈tl y,c < 0x110000):ZO (x++y)=true:=by
 refine Vd (by rw [Uq,List.length_append];exact oS ‹_› ‹_› rfl) fun c hc=>?_
 rw [Uq] at hc
 exact (List.mem_append.mp hc).elim (hx' c) (hy' c)
theorem D8:∀ c∈tl "\r\n",c < 0x110000:=by
 intro c hc
 have hc:c∈[13,10]:=hc
 simp only [List.mem_cons,List.not_mem_nil,or_false] at hc;omega
theorem P5:∀ c∈tl "\n",c < 0x110000:=by
 intro c hc
 have hc:c∈[10]:=hc
 simp only [List.mem_cons,List.not_mem_nil,or_false] at hc;exact rh ‹_› rfl
theorem Pg:∀ c∈tl ".",c < 0x110000:=by
 intro c hc
 have hc:c∈[46]:=hc
 simp only [List.mem_cons,List.not_mem_nil,or_false] at hc;exact rh ‹_› rfl
theorem Hk {n:Nat}{r:Str} (h:QM n r) (hn:n≤100):B9 r=true:=by
 have hl:=h.len
 unfold B9
 rw [Bool.and_eq_true,Bool.and_eq_true]
 refine ⟨⟨HF h hn,D9 (by decide) Pg (by exact oX ‹_› ‹_› rfl) h.lt⟩,?_⟩
 rw [H6]
 refine Vd (by rw [Vn,List.length_take];exact oA (Nat.min_le_left _ _) rfl) fun c hc=>?_
 rw [Vn] at hc
 exact h.lt c (List.mem_of_mem_take hc)
theorem YV {x y:Str}{c:Nat}{y':List Nat}{rows:List Str} (hy:tl y=c::y') (hk:Builtin.Str.strKind y=1) (hne:rows≠[]) (hx:tl x=(rows.map tl).flatMap fun s=>s++tl y)
  (hf:∀ r∈rows,c∉tl r) (hok:∀ r∈rows,ZO r=true) (hl:rows.length < 64):WE x y rows:=by
 obtain ⟨h1,h2⟩:=DN hy hk (segs:=rows.map tl) (by simpa using hne) hx (fun s hs=>by (refine xEA (List.mem_map.mp hs) fun r hr Z0=>?_;subst Z0);exact hf r hr)
 have e:(rows.map tl).map ofL=rows:=by
  refine Eq.trans List.map_map ?_
  exact List.map_id'' (fun r=>PM r) rows
 rw [e] at h1 h2
 refine ⟨?_,?_,?_,?_,?_⟩
 ·rw [← QH,hy];rfl
 ·rw [h2,List.length_append,sizeLine_eq];simp;exact oB ‹_› rfl
 ·rw [h1]
  intro z hz
  rcases List.mem_append.mp hz with hz|hz
  ·exact hok z hz
  ·rw [List.mem_singleton.mp hz];exact Vd (by rw [Vn];decide) (by rw [Vn];intro c hc;exact absurd hc List.not_mem_nil)
 ·rw [h1,List.length_append,sizeLine_eq];simp;exact oB ‹_› rfl
 ·rw [h1,List.length_append,List.length_singleton,Nat.add_sub_cancel,List.take_left]
theorem Jg {rows:List Str}{n:Nat} (h:∀ r∈rows,QM n r):∀ r∈rows.map Ze,QM (n+1) r:=fun r hr=>by
 (refine xEA (List.mem_map.mp hr) fun q hq Z0=>?_;subst Z0)
 exact (h q hq).dot
theorem Bl (rows:List Str):tl (ZM rows)=((rows.map Ze).map tl).flatMap fun s=>s++tl "\r\n":=by
 rw [KD,List.map_map,List.map_map]
 have e:(Yw ∘ tl:Str->List Nat)=tl ∘ Ze:=funext fun r=>(V1 r).symm
 rw [e];rfl
theorem Hb {ms:List Msg}{j p:Nat} (hl:∀ p,QM 3 (Zy ms p).1) (hj:j < 8) (hp:p∈QT ms (Zm ms j).1) (hc:(ZS ms p).length < 64):DL ms (ZS ms) p:=by
 have hr:∀ r∈ZS ms p,QM 12 r:=YI hl 9 p
 have hd:=Jg hr
 refine ⟨GA hj hp,hc,fun r h=>Hk (hr r h) (by decide),fun r h=>?_,?_,(Je hr hc).1⟩
 ·have:=(hd r h).len
  exact D9 (by exact oA ‹_› rfl) (hd r h).lt (by decide) D8
 ·refine Kl ?_
  rw [← UZ]
  show (tl (ZM (ZS ms p))).length≤_
  have:=(Je hr hc).2
  exact oA ‹_› rfl
noncomputable def Bw (ms:List Msg) (p:Nat):List (List (List Nat×Bool)) :=
 [(tl (Zy ms p).1,(p:Int).fmod 2 == 1)]::(Zy ms p).2.2.map fun o=>((ZS ms o).map Ze).map fun r=>(tl r,true)
noncomputable def Dp (ms:List Msg) (p:Nat):Str:=Txt.join "" (QL (Zy ms p).2.1 (Q5 p (Zy ms p).1 (Zy ms p).2.2 fun o=>ZM (ZS ms o)))
theorem Mm (L:List (List (List Nat×Bool))):lns (L.flatMap id)=(L.map lns).flatten:=by
 unfold lns
 exact Eq.trans List.flatMap_assoc (Eq.trans List.flatMap_def rfl)
theorem HM (rows:List (List Nat)):lns (rows.map fun r=>(r,true))=rows.flatMap fun s=>s++[13,10]:=by
 unfold lns
 exact (List.flatMap_map _ _ _)
theorem G6 (ms:List Msg) (p:Nat):(Q5 p (Zy ms p).1 (Zy ms p).2.2 fun o=>ZM (ZS ms o)).map tl=(Bw ms p).map lns:=by
 unfold Q5 Bw
 rw [List.map_cons,List.map_cons,List.map_map,List.map_map]
 congr 1
 ·refine Eq.trans (Uq _ _) ?_
  unfold lns
  rw [List.flatMap_cons,List.flatMap_nil,List.append_nil]
  congr 1
  unfold Y6 Wo
  cases ((p:Int).fmod 2 == 1) <;> rfl
 ·refine List.map_congr_left fun o Z=>?_
  show tl (ZM (ZS ms o))=lns (((ZS ms o).map Ze).map fun r=>(tl r,true))
  have e:(((ZS ms o).map Ze).map fun r=>(tl r,true))=(((ZS ms o).map Ze).map tl).map fun r=>(r,true):=by simp [List.map_map,Function.comp_def]
  rw [Bl,e,HM];rfl
theorem HL (ms:List Msg) (p:Nat):tl (Dp ms p)=lns ((QL (Zy ms p).2.1 (Bw ms p)).flatMap id):=by
 unfold Dp
 rw [UZ,Mm,← Yx,← G6,Yx,List.flatMap_def]
theorem Oc {ms:List Msg}{j p:Nat} (hj:j < 8) (hp:p∈QT ms (Zm ms j).1):((QL (Zy ms p).2.1 (Bw ms p)).flatMap id).map (·.1)=(ZS ms p).map tl:=by
 rw [← GA hj hp]
 have e:(Bw ms p).map (List.map (·.1))=(Qs (Zy ms p) (ZS ms)).map (List.map tl):=by
  unfold Bw Qs
  simp [List.map_map,Function.comp_def]
 rw [List.map_flatMap,List.map_flatMap,List.flatMap_def,List.flatMap_def]
 show ((QL (Zy ms p).2.1 (Bw ms p)).map (List.map (·.1))).flatten=((QL (Zy ms p).2.1 (Qs (Zy ms p) (ZS ms))).map (List.map tl)).flatten
 rw [← Yx,← Yx,e]
theorem GP {ms:List Msg}{j p:Nat} (hl:∀ p,QM 3 (Zy ms p).1) (hj:j < 8) (hp:p∈QT ms (Zm ms j).1) (hc:(ZS ms p).length < 64):MI ms (ZS ms) p (Dp ms p):=by
 have hr:∀ r∈ZS ms p,QM 12 r:=YI hl 9 p
 have hd:=Jg hr
 have hne:=M2 ms p
 have et:=HL ms p
 have er:=Oc hj hp
 generalize hpr:(QL (Zy ms p).2.1 (Bw ms p)).flatMap id=pr at et er
 have hin:∀ q∈pr,∃ r∈ZS ms p,tl r=q.1:=fun q hq=>by
  have:q.1∈pr.map (·.1):=List.mem_map.mpr ⟨q,hq,rfl⟩
  rw [er] at this
  exact List.mem_map.mp this
 have hpl:pr.length=(ZS ms p).length:=by have:=congrArg List.length er;simpa using this
 have h13:∀ q∈pr,13∉q.1:=fun q hq=>by
  refine xEA (hin q hq) fun r h1 h2=>?_
  rw [← h2];exact (hr r h1).free.2
 have hcp:∀ q∈pr,∀ c∈q.1,c < 0x110000:=fun q hq=>by
  refine xEA (hin q hq) fun r h1 h2=>?_
  rw [← h2];exact (hr r h1).lt
 have hlen:(tl (Dp ms p)).length≤1000:=by
  have:(lns pr).length≤pr.length * (12+2):=by
   refine KQ fun q hq=>?_
   refine xEA (hin q hq) fun r h1 h2=>?_
   rw [← h2];exact (hr r h1).len
  rw [et];omega
 have erep:=Bz et h13
 have erep':tl (Txt.replace (Dp ms p) "\r\n" "\n")=((ZS ms p).map tl).flatMap fun s=>s++tl "\n":=by
  rw [erep,← er,List.flatMap_map];rfl
 have hll:=(hl p).len
 refine ⟨?_,rfl,?_,?_,?_,?_,?_,fun w h₁ K k μ=>?_,?_,hc⟩
 ·unfold Y6
  split
  ·exact D9 (by exact oA ‹_› rfl) (hl p).lt (by decide) D8
  ·exact D9 (by exact oA ‹_› rfl) (hl p).lt (by decide) P5
 ·refine Kl ?_
  rw [← UZ]
  show (tl (Dp ms p)).length≤_
  exact oA ‹_› rfl
 ·exact Vd (by exact oA ‹_› rfl) (by rw [et];exact O6 hcp)
 ·rw [← QH];omega
 ·refine Vd ?_ ?_
  ·rw [erep]
   have:∀ pr:List (List Nat×Bool),(pr.flatMap fun q=>q.1++[10]).length≤(lns pr).length:=by
    intro pr
    induction pr with
    | nil=>exact Nat.le_refl _
    | cons q pr ih =>
     have l1:lns (q::pr)=q.1++(Wo q.2++lns pr):=by simp [lns]
     have hb:1≤(Wo q.2).length:=by cases q.2 <;> simp [Wo]
     rw [l1]
     simp only [List.flatMap_cons,List.length_append,List.length_cons,List.length_nil]
     omega
   have:=this pr
   rw [← et] at this
   exact oX ‹_› ‹_› rfl
  ·rw [erep]
   intro c hc
   refine xEA (List.mem_flatMap.mp hc) fun q hq m=>?_
   rcases List.mem_append.mp m with m|m
   ·exact hcp q hq c m
   ·rw [List.mem_singleton.mp m];decide
 ·exact YV (c:=10) (y':=[]) rfl (by decide +kernel) hne erep' (fun r h=>(hr r h).free.1) (fun r h=>HF (hr r h) (by decide)) hc
 ·exact Hw et er hr hc K k μ
 ·exact YV (c:=13) (y':=[10]) rfl (by decide +kernel) (by simpa using hne) (Bl _) (fun r h=>(hd r h).free.2) (fun r h=>HF (hd r h) (by decide)) (by rw [List.length_map];exact hc)
theorem O5 (ns:List Int):(W8 ns).length=ns.length:=by simp [W8]
theorem HR (xs:List Int):(Qk xs).length≤8:=by
 unfold Qk;rw [List.length_append,List.length_take];simp;exact Nat.min_le_left _ _
theorem OQ:QM 3 "":=⟨Nat.zero_le _,fun c hc=>by cases (show c∈([]:List Nat) from hc)⟩
theorem Mc (x:Int):QM 3 (Yr x):=by
 unfold Yr
 have key:∀ l∈UQ,QM 3 l:=by
  intro l hl
  unfold UQ at hl
  simp only [List.mem_cons,List.not_mem_nil,or_false] at hl
  rcases hl with rfl|rfl|rfl|rfl|rfl
  ·exact ⟨by decide,(by decide:∀ c∈([97]:List Nat),c=46∨c=97∨c=98∨c=99)⟩
  ·exact ⟨by decide,(by decide:∀ c∈([46]:List Nat),c=46∨c=97∨c=98∨c=99)⟩
  ·exact ⟨by decide,(by decide:∀ c∈([46,46,98]:List Nat),c=46∨c=97∨c=98∨c=99)⟩
  ·exact OQ
  ·exact ⟨by decide,(by decide:∀ c∈([46,99]:List Nat),c=46∨c=97∨c=98∨c=99)⟩
 cases h:UQ[((x.fdiv 4).fmod 5).toNat]? with
 | none=>exact OQ
 | some l=>exact key l (List.mem_of_getElem? h)
theorem Pn (ns:List Int) (p:Nat):QM 3 (Zy (W8 ns) p).1:=by
 unfold Zy W8
 rw [List.getElem?_map]
 cases h:(List.range ns.length)[p]? with
 | none=>exact OQ
 | some i=>exact Mc _
theorem Oe (ns:List Int) (p:Nat):(Zy (W8 ns) p).2.2.length≤10:=by
 unfold Zy W8
 rw [List.getElem?_map]
 cases h:(List.range ns.length)[p]? with
 | none=>exact Nat.zero_le _
 | some i =>
  show (Z9 _ _ _).length≤10
  unfold Z9 VM V6
  rw [List.length_append]
  have a:∀ (b:Bool) (x:Int),(if b=true then [x] else []).length≤1:=fun b x=>by cases b <;> simp
  split
  ·have:=a (decide (0 < ((i:Nat):Int)) || WP (ns[i]?.getD 0)) (if WP (ns[i]?.getD 0)=true then Uv (ns[i]?.getD 0) (ns.length:Nat) else (Uv (ns[i]?.getD 0) (ns.length:Nat)).fmod (Y7 1 ((i:Nat):Int)))
   have:=a ((ns[i]?.getD 0).fmod 4 == 3 && decide (1 < ((i:Nat):Int))) (Uh (ns[i]?.getD 0) ((i:Nat):Int))
   exact oS ‹_› ‹_› rfl
  ·have:=a ((ns[i]?.getD 0).fmod 4 == 3 && decide (1 < ((i:Nat):Int))) (Uh (ns[i]?.getD 0) ((i:Nat):Int))
   simp only [List.length_nil]
   omega
set_option tactic.hygienic true in
theorem K8 (ms:List Msg):∀ i,(Zm ms i).2.flatten=(Zm ms i).1
 | 0=>rfl
 | i+1=>by
  have ih:=K8 ms i
  unfold Zm
  simp only
  rw [List.flatten_append,ih]
  congr 1
  split
  ·rename_i h
   cases e:ZC ms (Zm ms i).1 with
   | nil=>rfl
   | cons a r=>rw [e] at h;simp [Zc,PyData.eqv,PyData.eqvAll] at h
  ·simp
theorem BE (ms:List Msg):∀ {i j:Nat},i≤j->∀ k∈(Zm ms i).1,k∈(Zm ms j).1
 | i,0,h,k,hk=>by rw [show i=0 by exact Nat.eq_zero_of_le_zero ‹_›] at hk;exact hk
 | i,j+1,h,k,hk=>by
  by_cases e:i=j+1
  ·rw [← e];exact hk
  ·exact List.mem_append.mpr (.inl (BE ms (by exact oI ‹_› ‹_›) k hk))
theorem Va {α:Type}{g:α->PyData} (h:∀ a,noDict (g a)=true):∀ l:List α,QC (l.map g)=true
 | []=>rfl
 | a::l=>by
  rw [List.map_cons]
  unfold QC
  rw [h a,Va h l];rfl
theorem QQ {α:Type}{g:α->PyData}{n:Nat} (h:∀ a,(g a).depth≤n):∀ l:List α,PyData.depthAll (l.map g)≤n
 | []=>by unfold PyData.depthAll;exact Nat.zero_le _
 | a::l=>by
  rw [List.map_cons]
  unfold PyData.depthAll
  exact Nat.max_le.mpr ⟨h a,QQ h l⟩
theorem O9 (xs:List Int):QC (Zc xs)=true:=by
 unfold Zc;exact Va (fun Z=>by simp [noDict]) xs
theorem O8 (xs:List Int):PyData.depthAll (Zc xs)≤0:=by
 unfold Zc
 exact QQ (g:=PyData.int) (n:=0) (fun Z=>by simp [PyData.depth]) xs
theorem Mb (a b c d:List Str):noDict (VP a b c d)=true:=by
 unfold VP
 have h:∀ a:List Str,QC (a.map PyData.str)=true:=Va fun Z=>by simp [noDict]
 simp [noDict,QC,h]
theorem MQ (a b c d:List Str):(VP a b c d).depth≤3:=by
 unfold VP
 have h:∀ a:List Str,PyData.depthAll (a.map PyData.str)≤0:=QQ fun Z=>by simp [PyData.depth]
 have dl:∀ a:List Str,(Zo a).depth≤1:=fun a=>Nat.succ_le_succ (h a)
 have pr:∀ a b:List Str,(PyData.list [Zo a,Zo b]).depth≤2:=fun a b=>Nat.succ_le_succ (Nat.max_le.mpr ⟨dl a,Nat.max_le.mpr ⟨dl b,Nat.zero_le _⟩⟩)
 exact Nat.succ_le_succ (Nat.max_le.mpr ⟨pr a b,Nat.max_le.mpr ⟨pr c d,Nat.zero_le _⟩⟩)
theorem O4 (rowsOf:Int->List Str) (p:Int):noDict (UA rowsOf p)=true:=by
 unfold UA
 simp [noDict,QC,Mb]
theorem O0 (rowsOf:Int->List Str) (p:Int):(UA rowsOf p).depth≤4:=by
 unfold UA
 have:=MQ (QU (rowsOf p) ((rowsOf p).map Ze)) (QU ((rowsOf p).map Ze) (rowsOf p)) (UT (rowsOf p) ((rowsOf p).map Ze)) (UW (rowsOf p) ((rowsOf p).map Ze))
 simp only [PyData.depth,PyData.depthAll]
 exact oD ‹_› rfl
theorem HP {w:World}{h₁:Heap} (K:K1 w h₁) {k:Nat}{μ:Mu}{xs:List Int} (hx:xs.length≤63):Zt w h₁ (k+7) μ 226 [.dat (.list (Zc xs))] (.dat (.bool true)):=by
 refine xEA (HA xs) fun hsN eN cN'=>?_
 refine xEE (OX cN') fun rs b G=>?_
 rw [← eN] at G
 clear eN cN'
 have hn:(W8 (Qk xs)).length≤8:=by rw [O5];exact HR xs
 have hrow:=Pn (Qk xs)
 have hh:=Oe (Qk xs)
 generalize hms:W8 (Qk xs)=ms at *
 have hH:(mkG (ms.map (·.2.2))).map (·.2.2)=ms.map (·.2.2):=My _
 have hl:(ms.map (·.2.2)).length=ms.length:=List.length_map _
 have ea:∀ i,Zv (mkG (ms.map (·.2.2))) i=Zv ms i:=BB hH
 have ed:∀ i,Zm (mkG (ms.map (·.2.2))) i=Zm ms i:=Bi hH
 obtain ⟨g1,g2,g3,g4,g5,g6,g7,g8,g9,g10,g11,g12,g13,g14⟩:=G
 simp only [hl,ea,ed] at g1 g2 g3 g4 g5 g6 g7 g8 g14
 have memI:∀ p,p∈rs.flatten ↔ p∈(Zm ms ms.length).1:=fun p=>by
  rw [← K8 ms ms.length,← g4,List.mem_flatten,List.mem_flatten]
  constructor
  ·(intro Z0;refine xEA Z0 fun r h1 h2=>?_;clear Z0)
   exact ⟨Zl iLt r,List.mem_map.mpr ⟨r,h1,rfl⟩,(ZT r).mem_iff.mpr h2⟩
  ·(intro Z0;refine xEA Z0 fun r h1 h2=>?_;clear Z0)
   (refine xEA (List.mem_map.mp h1) fun q h3 Z0=>?_;subst Z0)
   exact ⟨q,h3,(ZT q).mem_iff.mp h2⟩
 have cnt:∀ j p,j < ms.length->p∈QT ms (Zm ms j).1->(ZS ms (p:Nat)).length < 64:=fun j p hj hp=>by
  have h1:((p:Nat):Int)∈(Zm ms (j+1)).1:=List.mem_append.mpr (.inr (List.mem_map.mpr ⟨p,hp,rfl⟩))
  have h2:=g13 _ ((memI _).mpr (BE ms hj _ h1))
  unfold ZS
  rw [WA]
  exact h2
 have hdue:=fun μ=>Pj K (k:=k+3) (μ:=μ) (rowsOf:=ZS ms) hn hh (fun i hi p hp=>Hb hrow (by exact Nat.le_trans ‹_› ‹_›) hp (cnt i p hi hp)) g8 g7
 have hrun:=fun μ=>Pq K (k:=k) (μ:=μ) (rowsOf:=ZS ms) (texts:=Dp ms) hn hh g14 g3 g2 g1 g10 (fun pre p post e=>by
  refine VA (g12 _ _ _ e) fun a1 a2 a3 a4=>?_
  have hm:p∈(Zm ms ms.length).1:=(memI p).mp (by rw [e];simp)
  (refine Zn ((V0 ms ms.length).2 p hm) fun j q h1 h2 Z0=>?_;subst Z0)
  rw [Int.toNat_natCast,JN] at a4
  exact ⟨q,rfl,(WO h2).2.1,a3,a4,GP hrow (by exact Nat.le_trans ‹_› ‹_›) h2 (cnt j q h1 h2)⟩) g11 g9 g6
 have eR:(PyData.list [.bool b,.list (rs.map fun r=>.list (Zc (Zl iLt r))),.list ((Zl iLt (Zm ms ms.length).1).map (DW (ZS ms)))]) =
   .list [.bool (decide (((Zm ms ms.length).1.length:Int) < ms.length)),.list ((Zm ms ms.length).2.map fun r=>.list (Zc r)),.list ((Zl iLt (Zm ms ms.length).1).map (UA (ZS ms)))]:=by
  rw [g5,Ol,← g4,List.map_map];rfl
 rw [eR] at hrun
 have hdp:(PyData.list [.bool (decide (((Zm ms ms.length).1.length:Int) < ms.length)),.list ((Zm ms ms.length).2.map fun r=>.list (Zc r)),.list ((Zl iLt (Zm ms ms.length).1).map (UA (ZS ms)))]).depth≤64:=by
  have h1:=QQ (g:=UA (ZS ms)) (n:=4) (O0 _) (Zl iLt (Zm ms ms.length).1)
  have h2:=QQ (g:=fun r=>PyData.list (Zc r)) (n:=1) (fun r=>by have:=O8 r;simp only [PyData.depth];exact oD ‹_› rfl) (Zm ms ms.length).2
  simp only [PyData.depth,PyData.depthAll]
  omega
 have hnd:noDict (PyData.list [.bool (decide (((Zm ms ms.length).1.length:Int) < ms.length)),.list ((Zm ms ms.length).2.map fun r=>.list (Zc r)),.list ((Zl iLt (Zm ms ms.length).1).map (UA (ZS ms)))])=true:=by
  have h1:=Va (g:=UA (ZS ms)) (O4 _) (Zl iLt (Zm ms ms.length).1)
  have h2:=Va (g:=fun r=>PyData.list (Zc r)) (fun r=>by have:=O9 r;simp only [noDict];exact this) (Zm ms ms.length).2
  simp [noDict,QC,h1,h2]
 have:=Pa K (k:=k) (μ:=μ) hx (by rw [hms];exact hrun) (by rw [hms];exact hdue) (.inl hdp)
 rwa [Dd _ hnd] at this
end Mine
namespace Mine
open PySem PySem.W PyProof.Rows PySem.Calls
set_option maxHeartbeats 2000000
theorem Wm {β:Type}{x:Str}{v:β}:∀ {l:List (Str×β)},l.lookup x=some v->(x,v)∈l
 | [],h=>by exact noS h
 | (y,u)::r,h=>by
  replace h:=Eq.trans (Eq.symm List.lookup_cons) h
  cases q:x == y with
  | true=>rw [q] at h;obtain rfl:=Option.some.inj h;rw [beq_iff_eq.mp q];exact List.mem_cons_self
  | false=>rw [q] at h;exact List.mem_cons_of_mem _ (Wm h)
theorem HG {N:Addr->Prop}{h:Heap}{F:Str->Option Value}{x:Str}{d:AV}:∀ {l:List (Str×AV)}{vs:List Value},l.map (fun q=>F q.1)=vs.map some->Zr N h vs (l.map (·.2))->(x,d)∈l->∃ v,F x=some v/\RdA N h v d
 | q::l,v::vs,e,.cons a r,m=>by
  have e:=List.cons.inj e
  rcases List.mem_cons.mp m with rfl|m
  ·exact ⟨v,e.1,a⟩
  ·exact HG e.2 r m
noncomputable def Rf:Data->Array DictEntry
 | .dict es _=>es
 | _=>#[]
noncomputable def PW (P:Params):Obj:=((WF P).lookup 3).getD { cls:=.none }
noncomputable def esK (P:Params):Array DictEntry:=Rf (PW P).data
theorem Ob {w:World}{h₁:Heap}{mg:Str->Option Value} (K:(WF w.params).In h₁) (N:h₁.Ns mainGlobals mg) (x:Str):nsFind (esK w.params) x=mg x:=by
 (refine VL N fun o es ep h1 h2 Z h4=>?_;clear N)
 have e:=Option.some.inj ((show h₁.get? 3=some o from h1).symm.trans (K 3 (PW w.params) rfl))
 have h5:esK w.params=es:=by unfold esK;rw [← e,h2];rfl
 rw [h5]
 exact h4 x
theorem nms_of {p:Program}{loose:List Str}{mean:ExcName->Option Value}{w:World}{h₁:Heap}{mg mb:Str->Option Value} (K:(WF w.params).In h₁) (T:Top p loose mean mg mb h₁):Nms h₁:=by
 have h4:=Ob K T.g
 refine ⟨⟨mg,mb,T.g,T.b,fun x d hx=>?_,fun x v hx=>?_⟩,T.nolimit⟩
 ·rw [← h4 x]
  refine HG (F:=fun x=>nsFind (esK w.params) x) (vs:=[.ref 43,.ref 48,.str "\r\n" 349,.ref 55,.int (-1) 361,.int (-2) 364,.ref 74,.ref 89,.ref 171,.ref 182,.ref 189,.ref 196,.ref 201,.ref 206,.ref 211,.ref 216,.ref 221,.ref 226]) (by kernel_rfl) ?_ (Wm hx)
  exact .cons rfl (.cons rfl (.cons (Rd.str _ (by decide +kernel)) (.cons rfl (.cons (Rd.int _ _) (.cons (Rd.int _ _) (.cons rfl (.cons rfl (.cons rfl (.cons rfl (.cons rfl (.cons rfl (.cons rfl (.cons rfl (.cons rfl (.cons rfl (.cons rfl (.cons rfl .nil)))))))))))))))))
 ·have c1:BK.map (fun q=>nsFind (esK w.params) q.1)=BK.map (fun Z=>none):=by kernel_rfl
  have c2:BK.map (fun q=>bootBuiltins q.1)=BK.map (fun q=>some q.2):=by kernel_rfl
  have c3:BK.all (fun q=>!(q.1 == "__name__"))=true:=by decide +kernel
  have m:=Wm hx
  refine ⟨(h4 x).symm.trans (List.map_inj_left.mp c1 _ m),(T.builtins x fun e=>?_).trans (List.map_inj_left.mp c2 _ m)⟩
  have:=List.all_eq_true.mp c3 _ m
  rw [e] at this
  exact fT this
theorem law_at {w:World}{h₁:Heap}{mg:Str->Option Value} (K:(WF w.params).In h₁) (N:h₁.Ns mainGlobals mg):mg "law"=some (.ref 226):=by
 (refine VL N fun o es ep h1 h2 Z h4=>?_;clear N)
 have h3:h₁.get? 3=_:=K 3 _ rfl
 have h1':h₁.get? 3=some o:=h1
 rw [h3] at h1'
 have ho:=(Option.some.inj h1').symm
 subst ho
 have h5:es=_:=((Data.dict.inj h2).1).symm
 subst h5
 rw [← h4];rfl
theorem BF {P:Params}{h:Heap}:∀ {vs:List Value}{xs:List Int},WellAll P h vs (ofPys (xs.map PyData.int))->Rds (fun Z=>False) h vs (Zc xs)
 | _,[],W=>by
  rw [List.map_nil,ofPys] at W
  cases W;exact .nil
 | _,x::xs,W=>by
  rw [List.map_cons,ofPys,ofPy] at W
  cases W with
  | cons a b =>
   cases a with
   | int i t=>exact .cons (.int _ _) (BF b)
theorem G9 {P:Params}{h:Heap}{a:Addr}{xs:List Int} (hx:xs.length≤63) (W:Well P h (.ref a) (ofPy (.list (xs.map PyData.int)))):Rd (fun Z=>False) h (.ref a) (.list (Zc xs)):=by
 rw [ofPy] at W
 cases W with
 | list e r=>exact .list e (fun z=>z) rfl rfl (by simpa using BF r) (by rw [Zc,List.length_map,sizeLine_eq];exact oA ‹_› rfl) rfl
theorem run_law {w:World}{s₁:Shared} (K:K1 w s₁.heap) {a:Addr}{xs:List Int} (hx:xs.length≤63) (W:Well w.params s₁.heap (.ref a) (ofPy (.list (xs.map PyData.int)))) {R:Result->Shared->Prop}
  (q:∀ h' tk,(∀ b o,s₁.heap.get? b=some o->h'.get? b=some o)->R (.ok (.ret (.bool true))) { s₁ with heap:=h',toks:=tk }):codeAny (model pg w) callerA (.call (.ref 226) ⟨[.ref a],[]⟩) R s₁:=by
 refine HP K (k:=0) (μ:=fun Z=>none) hx callerA [] (fun Z=>False) s₁ [.ref a] ⟨rfl,fun e he=>(by exact absurd he List.not_mem_nil),by decide +kernel,by decide +kernel,rfl⟩ ⟨fun b o e=>e,fun a z=>z.elim,fun a z=>z.elim,fun a z=>(by exact absurd z List.not_mem_nil),fun a z=>(by exact absurd z List.not_mem_nil),fun a m e=>(by exact noS e),fun a m e=>(by exact noS e)⟩ (.cons (G9 hx W) .nil) R fun v h' tk P r=>?_
 obtain rfl:=Rd.invB r
 exact q h' tk fun b o e=>P.keep b o (by simp) e
end Mine
open PySem PySem.W PyProof.Rows
set_option tactic.hygienic true in
set_option maxRecDepth 100000 in
set_option maxHeartbeats 8000000 in
theorem PySem.Challenge.cw_of0071_01_holds : PySem.Challenge.rw_of0071_01.Holds := by
  refine holds_law Mine.wsK fun said => ?_
  refine holds_open (q := Mine.viewK) (loose := Mine.looseK) (Xt := fun s => xlAt Mine.viewK [] s && recOk (RowW.records PySem.Challenge.rw_of0071_01.row.toRowW) s) (XP := XL Mine.viewK []) (Yf := Mine.hookK.obs) (Ya := Mine.hookK.val) (YP := Mine.hookK.says) (N := 3146) Mine.leftK Mine.hookK.of Mine.hookK.keeps
    (fun s e => xl_of s (Bool.and_eq_true_iff.mp e).1) XL.keeps (by rfl) (by rfl) (by rfl) (fun s e => recFacts_of (Bool.and_eq_true_iff.mp e).2) (by rfl) said (by decide +kernel) ⟨rfl, rfl, rfl, rfl, rfl, by decide +kernel⟩ (by w_witness2) ?_
  intro w s₀ s₁ mg mb G Y fa o pm cd doc dV kV ho hd hcd hD hmg hg args vals as hpre hlay hrd hwl hlo
  have KX := kIn_of Y
  refine Ground.open G ?_
  intro T B D TE TW
  have hfa : fa = 226 := by
    have h1 := Mine.law_at KX T.g
    have h2 : mg "law" = some (.ref fa) := hmg
    rw [h1] at h2
    exact (Value.ref.inj (Option.some.inj h2)).symm
  subst hfa
  clear hd hcd hD hmg ho
  wrow_args hpre hlay hrd hwl hlo
  refine enter_call ?_
  rename_i xs _ _ _ _ _ _ _ a _ _ _ _ hw _ _ _ hc _
  refine Mine.run_law (xs := xs) ⟨Mine.nms_of KX T, KX⟩ (by omega) hw fun h' tk keep => ?_
  refine ⟨.inl ⟨.bool true, .bool true, [], rfl, fun cls => ?_, .bool true, ?_, fun _ => ⟨.nil, fun a h => by cases h⟩⟩, .of_keep keep, rfl, .of_eq hg⟩
  · rfl
  · wrow_post
