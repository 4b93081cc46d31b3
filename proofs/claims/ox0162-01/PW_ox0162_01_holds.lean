import PyProof.Rows.All
import Wide.All
import OpenK.AllK
import Wide.FinOn
import KE.KxPercentT
import KE.KRevSl
import Lean
import PySem.Challenge.RW_ox0162_01
set_option Elab.async false
set_option linter.all false
set_option bootstrap.genMatcherCode false
set_option genInjectivity false
set_option genSizeOf false
set_option maxHeartbeats 0
set_option maxRecDepth 100000
set_option tactic.hygienic false
noncomputable section
namespace Mine
abbrev LN:=List Nat
theorem E02 {A0 A1:Prop}{P:Prop}(h:A0 /\ A1)(f:A0->A1->P):P:=f h.1 h.2
theorem E11 {α0:Sort _}{A0:α0->Prop}{P:Prop}(h:∃ x0,A0 x0)(f:∀ x0,A0 x0->P):P:=h.elim fun x0 h=>f x0 h
theorem E03 {A0 A1 A2:Prop}{P:Prop}(h:A0 /\ A1 /\ A2)(f:A0->A1->A2->P):P:=f h.1 h.2.1 h.2.2
theorem E12 {α0:Sort _}{A0 A1:α0->Prop}{P:Prop}(h:∃ x0,A0 x0 /\ A1 x0)(f:∀ x0,A0 x0->A1 x0->P):P:=h.elim fun x0 h=>f x0 h.1 h.2
theorem E21 {α0:Sort _}{α1:Sort _}{A0:α0->α1->Prop}{P:Prop}(h:∃ x0 x1,A0 x0 x1)(f:∀ x0 x1,A0 x0 x1->P):P:=h.elim fun x0 h=>h.elim fun x1 h=>f x0 x1 h
theorem E04 {A0 A1 A2 A3:Prop}{P:Prop}(h:A0 /\ A1 /\ A2 /\ A3)(f:A0->A1->A2->A3->P):P:=f h.1 h.2.1 h.2.2.1 h.2.2.2
theorem E13 {α0:Sort _}{A0 A1 A2:α0->Prop}{P:Prop}(h:∃ x0,A0 x0 /\ A1 x0 /\ A2 x0)(f:∀ x0,A0 x0->A1 x0->A2 x0->P):P:=h.elim fun x0 h=>f x0 h.1 h.2.1 h.2.2
theorem E22 {α0:Sort _}{α1:Sort _}{A0 A1:α0->α1->Prop}{P:Prop}(h:∃ x0 x1,A0 x0 x1 /\ A1 x0 x1)(f:∀ x0 x1,A0 x0 x1->A1 x0 x1->P):P:=h.elim fun x0 h=>h.elim fun x1 h=>f x0 x1 h.1 h.2
theorem E31 {α0:Sort _}{α1:Sort _}{α2:Sort _}{A0:α0->α1->α2->Prop}{P:Prop}(h:∃ x0 x1 x2,A0 x0 x1 x2)(f:∀ x0 x1 x2,A0 x0 x1 x2->P):P:=h.elim fun x0 h=>h.elim fun x1 h=>h.elim fun x2 h=>f x0 x1 x2 h
theorem E14 {α0:Sort _}{A0 A1 A2 A3:α0->Prop}{P:Prop}(h:∃ x0,A0 x0 /\ A1 x0 /\ A2 x0 /\ A3 x0)(f:∀ x0,A0 x0->A1 x0->A2 x0->A3 x0->P):P:=h.elim fun x0 h=>f x0 h.1 h.2.1 h.2.2.1 h.2.2.2
theorem E23 {α0:Sort _}{α1:Sort _}{A0 A1 A2:α0->α1->Prop}{P:Prop}(h:∃ x0 x1,A0 x0 x1 /\ A1 x0 x1 /\ A2 x0 x1)(f:∀ x0 x1,A0 x0 x1->A1 x0 x1->A2 x0 x1->P):P:=h.elim fun x0 h=>h.elim fun x1 h=>f x0 x1 h.1 h.2.1 h.2.2
theorem E32 {α0:Sort _}{α1:Sort _}{α2:Sort _}{A0 A1:α0->α1->α2->Prop}{P:Prop}(h:∃ x0 x1 x2,A0 x0 x1 x2 /\ A1 x0 x1 x2)(f:∀ x0 x1 x2,A0 x0 x1 x2->A1 x0 x1 x2->P):P:=h.elim fun x0 h=>h.elim fun x1 h=>h.elim fun x2 h=>f x0 x1 x2 h.1 h.2
theorem E06 {A0 A1 A2 A3 A4 A5:Prop}{P:Prop}(h:A0 /\ A1 /\ A2 /\ A3 /\ A4 /\ A5)(f:A0->A1->A2->A3->A4->A5->P):P:=f h.1 h.2.1 h.2.2.1 h.2.2.2.1 h.2.2.2.2.1 h.2.2.2.2.2
theorem E24 {α0:Sort _}{α1:Sort _}{A0 A1 A2 A3:α0->α1->Prop}{P:Prop}(h:∃ x0 x1,A0 x0 x1 /\ A1 x0 x1 /\ A2 x0 x1 /\ A3 x0 x1)(f:∀ x0 x1,A0 x0 x1->A1 x0 x1->A2 x0 x1->A3 x0 x1->P):P:=h.elim fun x0 h=>h.elim fun x1 h=>f x0 x1 h.1 h.2.1 h.2.2.1 h.2.2.2
theorem E33 {α0:Sort _}{α1:Sort _}{α2:Sort _}{A0 A1 A2:α0->α1->α2->Prop}{P:Prop}(h:∃ x0 x1 x2,A0 x0 x1 x2 /\ A1 x0 x1 x2 /\ A2 x0 x1 x2)(f:∀ x0 x1 x2,A0 x0 x1 x2->A1 x0 x1 x2->A2 x0 x1 x2->P):P:=h.elim fun x0 h=>h.elim fun x1 h=>h.elim fun x2 h=>f x0 x1 x2 h.1 h.2.1 h.2.2
theorem E42 {α0:Sort _}{α1:Sort _}{α2:Sort _}{α3:Sort _}{A0 A1:α0->α1->α2->α3->Prop}{P:Prop}(h:∃ x0 x1 x2 x3,A0 x0 x1 x2 x3 /\ A1 x0 x1 x2 x3)(f:∀ x0 x1 x2 x3,A0 x0 x1 x2 x3->A1 x0 x1 x2 x3->P):P:=h.elim fun x0 h=>h.elim fun x1 h=>h.elim fun x2 h=>h.elim fun x3 h=>f x0 x1 x2 x3 h.1 h.2
theorem E07 {A0 A1 A2 A3 A4 A5 A6:Prop}{P:Prop}(h:A0 /\ A1 /\ A2 /\ A3 /\ A4 /\ A5 /\ A6)(f:A0->A1->A2->A3->A4->A5->A6->P):P:=f h.1 h.2.1 h.2.2.1 h.2.2.2.1 h.2.2.2.2.1 h.2.2.2.2.2.1 h.2.2.2.2.2.2
theorem E25 {α0:Sort _}{α1:Sort _}{A0 A1 A2 A3 A4:α0->α1->Prop}{P:Prop}(h:∃ x0 x1,A0 x0 x1 /\ A1 x0 x1 /\ A2 x0 x1 /\ A3 x0 x1 /\ A4 x0 x1)(f:∀ x0 x1,A0 x0 x1->A1 x0 x1->A2 x0 x1->A3 x0 x1->A4 x0 x1->P):P:=h.elim fun x0 h=>h.elim fun x1 h=>f x0 x1 h.1 h.2.1 h.2.2.1 h.2.2.2.1 h.2.2.2.2
theorem E34 {α0:Sort _}{α1:Sort _}{α2:Sort _}{A0 A1 A2 A3:α0->α1->α2->Prop}{P:Prop}(h:∃ x0 x1 x2,A0 x0 x1 x2 /\ A1 x0 x1 x2 /\ A2 x0 x1 x2 /\ A3 x0 x1 x2)(f:∀ x0 x1 x2,A0 x0 x1 x2->A1 x0 x1 x2->A2 x0 x1 x2->A3 x0 x1 x2->P):P:=h.elim fun x0 h=>h.elim fun x1 h=>h.elim fun x2 h=>f x0 x1 x2 h.1 h.2.1 h.2.2.1 h.2.2.2
theorem E43 {α0:Sort _}{α1:Sort _}{α2:Sort _}{α3:Sort _}{A0 A1 A2:α0->α1->α2->α3->Prop}{P:Prop}(h:∃ x0 x1 x2 x3,A0 x0 x1 x2 x3 /\ A1 x0 x1 x2 x3 /\ A2 x0 x1 x2 x3)(f:∀ x0 x1 x2 x3,A0 x0 x1 x2 x3->A1 x0 x1 x2 x3->A2 x0 x1 x2 x3->P):P:=h.elim fun x0 h=>h.elim fun x1 h=>h.elim fun x2 h=>h.elim fun x3 h=>f x0 x1 x2 x3 h.1 h.2.1 h.2.2
theorem E35 {α0:Sort _}{α1:Sort _}{α2:Sort _}{A0 A1 A2 A3 A4:α0->α1->α2->Prop}{P:Prop}(h:∃ x0 x1 x2,A0 x0 x1 x2 /\ A1 x0 x1 x2 /\ A2 x0 x1 x2 /\ A3 x0 x1 x2 /\ A4 x0 x1 x2)(f:∀ x0 x1 x2,A0 x0 x1 x2->A1 x0 x1 x2->A2 x0 x1 x2->A3 x0 x1 x2->A4 x0 x1 x2->P):P:=h.elim fun x0 h=>h.elim fun x1 h=>h.elim fun x2 h=>f x0 x1 x2 h.1 h.2.1 h.2.2.1 h.2.2.2.1 h.2.2.2.2
theorem E44 {α0:Sort _}{α1:Sort _}{α2:Sort _}{α3:Sort _}{A0 A1 A2 A3:α0->α1->α2->α3->Prop}{P:Prop}(h:∃ x0 x1 x2 x3,A0 x0 x1 x2 x3 /\ A1 x0 x1 x2 x3 /\ A2 x0 x1 x2 x3 /\ A3 x0 x1 x2 x3)(f:∀ x0 x1 x2 x3,A0 x0 x1 x2 x3->A1 x0 x1 x2 x3->A2 x0 x1 x2 x3->A3 x0 x1 x2 x3->P):P:=h.elim fun x0 h=>h.elim fun x1 h=>h.elim fun x2 h=>h.elim fun x3 h=>f x0 x1 x2 x3 h.1 h.2.1 h.2.2.1 h.2.2.2
theorem E53 {α0:Sort _}{α1:Sort _}{α2:Sort _}{α3:Sort _}{α4:Sort _}{A0 A1 A2:α0->α1->α2->α3->α4->Prop}{P:Prop}(h:∃ x0 x1 x2 x3 x4,A0 x0 x1 x2 x3 x4 /\ A1 x0 x1 x2 x3 x4 /\ A2 x0 x1 x2 x3 x4)(f:∀ x0 x1 x2 x3 x4,A0 x0 x1 x2 x3 x4->A1 x0 x1 x2 x3 x4->A2 x0 x1 x2 x3 x4->P):P:=h.elim fun x0 h=>h.elim fun x1 h=>h.elim fun x2 h=>h.elim fun x3 h=>h.elim fun x4 h=>f x0 x1 x2 x3 x4 h.1 h.2.1 h.2.2
theorem E45 {α0:Sort _}{α1:Sort _}{α2:Sort _}{α3:Sort _}{A0 A1 A2 A3 A4:α0->α1->α2->α3->Prop}{P:Prop}(h:∃ x0 x1 x2 x3,A0 x0 x1 x2 x3 /\ A1 x0 x1 x2 x3 /\ A2 x0 x1 x2 x3 /\ A3 x0 x1 x2 x3 /\ A4 x0 x1 x2 x3)(f:∀ x0 x1 x2 x3,A0 x0 x1 x2 x3->A1 x0 x1 x2 x3->A2 x0 x1 x2 x3->A3 x0 x1 x2 x3->A4 x0 x1 x2 x3->P):P:=h.elim fun x0 h=>h.elim fun x1 h=>h.elim fun x2 h=>h.elim fun x3 h=>f x0 x1 x2 x3 h.1 h.2.1 h.2.2.1 h.2.2.2.1 h.2.2.2.2
theorem E63 {α0:Sort _}{α1:Sort _}{α2:Sort _}{α3:Sort _}{α4:Sort _}{α5:Sort _}{A0 A1 A2:α0->α1->α2->α3->α4->α5->Prop}{P:Prop}(h:∃ x0 x1 x2 x3 x4 x5,A0 x0 x1 x2 x3 x4 x5 /\ A1 x0 x1 x2 x3 x4 x5 /\ A2 x0 x1 x2 x3 x4 x5)(f:∀ x0 x1 x2 x3 x4 x5,A0 x0 x1 x2 x3 x4 x5->A1 x0 x1 x2 x3 x4 x5->A2 x0 x1 x2 x3 x4 x5->P):P:=h.elim fun x0 h=>h.elim fun x1 h=>h.elim fun x2 h=>h.elim fun x3 h=>h.elim fun x4 h=>h.elim fun x5 h=>f x0 x1 x2 x3 x4 x5 h.1 h.2.1 h.2.2
theorem E46 {α0:Sort _}{α1:Sort _}{α2:Sort _}{α3:Sort _}{A0 A1 A2 A3 A4 A5:α0->α1->α2->α3->Prop}{P:Prop}(h:∃ x0 x1 x2 x3,A0 x0 x1 x2 x3 /\ A1 x0 x1 x2 x3 /\ A2 x0 x1 x2 x3 /\ A3 x0 x1 x2 x3 /\ A4 x0 x1 x2 x3 /\ A5 x0 x1 x2 x3)(f:∀ x0 x1 x2 x3,A0 x0 x1 x2 x3->A1 x0 x1 x2 x3->A2 x0 x1 x2 x3->A3 x0 x1 x2 x3->A4 x0 x1 x2 x3->A5 x0 x1 x2 x3->P):P:=h.elim fun x0 h=>h.elim fun x1 h=>h.elim fun x2 h=>h.elim fun x3 h=>f x0 x1 x2 x3 h.1 h.2.1 h.2.2.1 h.2.2.2.1 h.2.2.2.2.1 h.2.2.2.2.2
theorem E56 {α0:Sort _}{α1:Sort _}{α2:Sort _}{α3:Sort _}{α4:Sort _}{A0 A1 A2 A3 A4 A5:α0->α1->α2->α3->α4->Prop}{P:Prop}(h:∃ x0 x1 x2 x3 x4,A0 x0 x1 x2 x3 x4 /\ A1 x0 x1 x2 x3 x4 /\ A2 x0 x1 x2 x3 x4 /\ A3 x0 x1 x2 x3 x4 /\ A4 x0 x1 x2 x3 x4 /\ A5 x0 x1 x2 x3 x4)(f:∀ x0 x1 x2 x3 x4,A0 x0 x1 x2 x3 x4->A1 x0 x1 x2 x3 x4->A2 x0 x1 x2 x3 x4->A3 x0 x1 x2 x3 x4->A4 x0 x1 x2 x3 x4->A5 x0 x1 x2 x3 x4->P):P:=h.elim fun x0 h=>h.elim fun x1 h=>h.elim fun x2 h=>h.elim fun x3 h=>h.elim fun x4 h=>f x0 x1 x2 x3 x4 h.1 h.2.1 h.2.2.1 h.2.2.2.1 h.2.2.2.2.1 h.2.2.2.2.2
theorem gel {α:Type _}{l:List α}{i:Nat}{a:α}(h:l[i]?=some a):i < l.length:=(List.getElem?_eq_some_iff.mp h).1
end Mine
end
noncomputable section
open PySem PySem.W PyProof.Rows PySem.Calls
namespace Mine
abbrev nm (l:LN):Str:=⟨⟨l⟩⟩
inductive Kd where
 | lex | sio
noncomputable def Kd.addr:Kd->Addr
 | .lex=>722
 | .sio=>587
noncomputable def Kd.names:Kd->List Str
 | .lex=>[nm [115,116,97,116,101],nm [116,111,107,101,110],nm [100,101,98,117,103],nm [112,111,115,105,120],nm [119,104,105,116,101,115,112,97,99,101],nm [99,111,109,109,101,110,116,101,114,115],nm [119,111,114,100,99,104,97,114,115],nm [113,117,111,116,101,115],nm [101,115,99,97,112,101],nm [101,115,99,97,112,101,100,113,117,111,116,101,115],nm [119,104,105,116,101,115,112,97,99,101,95,115,112,108,105,116],nm [105,110,115,116,114,101,97,109],nm [108,105,110,101,110,111],nm [95,112,117,110,99,116,117,97,116,105,111,110,95,99,104,97,114,115],nm [95,112,117,115,104,98,97,99,107,95,99,104,97,114,115],nm [112,117,115,104,98,97,99,107],nm [102,105,108,101,115,116,97,99,107],nm [101,111,102],nm [115,111,117,114,99,101],nm [105,110,102,105,108,101]]
 | .sio=>[nm [95,83,116,114,105,110,103,73,79,95,95,98,117,102],nm [95,83,116,114,105,110,103,73,79,95,95,112,111,115],nm [95,83,116,114,105,110,103,73,79,95,95,110,101,119,108,105,110,101]]
noncomputable def Kd.meths:Kd->List (Str × Nat)
 | .lex=>[(nm [112,117,115,104,95,116,111,107,101,110],661),(nm [101,114,114,111,114,95,108,101,97,100,101,114],705),(nm [112,117,115,104,95,115,111,117,114,99,101],669),(nm [112,111,112,95,115,111,117,114,99,101],676),(nm [103,101,116,95,116,111,107,101,110],683),(nm [114,101,97,100,95,116,111,107,101,110],690),(nm [95,95,105,116,101,114,95,95],712),(nm [95,95,110,101,120,116,95,95],719)]
 | .sio=>[(nm [95,83,116,114,105,110,103,73,79,95,95,116,114,97,110,115,108,97,116,101,100],364),(nm [95,83,116,114,105,110,103,73,79,95,95,99,104,101,99,107],371),(nm [95,83,116,114,105,110,103,73,79,95,95,108,105,110,101],385),(nm [99,108,111,115,101],432),(nm [114,101,97,100],533),(nm [114,101,97,100,108,105,110,101],541)]
noncomputable def Kd.props:Kd->List (Str × (Nat × Nat))
 | .lex=>[(nm [112,117,110,99,116,117,97,116,105,111,110,95,99,104,97,114,115],(654,653))]
 | .sio=>[]
noncomputable def clsAs:LN:=[340,587]
end Mine
end
noncomputable section
open PySem PySem.W PyProof.Rows PySem.Calls
set_option backward.match.sparseCases false
namespace Mine
inductive Bi where
 | len | chr | ord | sum | isinstance | type | int | str | bool | list | deque | enumerate | dict | object | ValueError | StopIteration
noncomputable def Bi.val:Bi->Value
 | .len=>.builtin "len"
 | .chr=>.builtin "chr"
 | .ord=>.builtin "ord"
 | .sum=>.builtin "sum"
 | .isinstance=>.builtin "isinstance"
 | .type=>.type "type"
 | .int=>.type "int"
 | .str=>.type "str"
 | .bool=>.type "bool"
 | .list=>.type "list"
 | .deque=>.type "collections.deque"
 | .enumerate=>.type "enumerate"
 | .dict=>.type "dict"
 | .object=>.type "object"
 | .ValueError=>.type "ValueError"
 | .StopIteration=>.type "StopIteration"
inductive D where
 | none
 | bool (b:Bool)
 | int (i:Int)
 | str (s:LN)
 | ref (i:Nat)
 | val (a:Addr)
 | bi (b:Bi)
 | any (v:Value)
 | tup (xs:List D)
abbrev LD:=List D
structure Zs where
 m:Addr->Option Obj
 ad:List Addr
noncomputable def Zle (Z Z':Zs):Prop:=(∀ a o,Z.m a=some o->Z'.m a=some o) /\ ∃ l,Z'.ad=Z.ad++l
theorem Zle.rfl {Z:Zs}:Zle Z Z:=⟨fun _ _ h=>h,[],(List.append_nil _).symm⟩
theorem Zle.trans {Z Z' Z'':Zs}(h:Zle Z Z')(h':Zle Z' Z''):Zle Z Z'':=
 ⟨fun a o x=>h'.1 a o (h.1 a o x),let ⟨l,e⟩:=h.2;let ⟨l',e'⟩:=h'.2;⟨l++l',by rw [e',e,List.append_assoc]⟩⟩
theorem Zle.ad {Z Z':Zs}(h:Zle Z Z'){i:Nat}{a:Addr}(e:Z.ad[i]?=some a):Z'.ad[i]?=some a:=by
 refine E11 (h.2) fun l q=>?_;rw [q,List.getElem?_append_left (gel e)];exact e
mutual
inductive Is (Z:Zs):D->Value->Prop
 | none:Is Z .none .none
 | bool (b:Bool):Is Z (.bool b) (.bool b)
 | int (i:Int) (t:Tok):Is Z (.int i) (.int i t)
 | str (s:LN) (t:Tok) (h:s.length <= 16777216):Is Z (.str s) (.str ⟨s.toArray⟩ t)
 | ref {i:Nat} {a:Addr} (h:Z.ad[i]?=some a):Is Z (.ref i) (.ref a)
 | val (a:Addr):Is Z (.val a) (.ref a)
 | bi (b:Bi):Is Z (.bi b) b.val
 | any (v:Value):Is Z (.any v) v
 | tup {a:Addr} {items:List Value} {n:Nat} {xs:LD} (h:Z.m a=some { cls:=.type "tuple",data:=.seq items.toArray n }) (hi:IsL Z xs items):Is Z (.tup xs) (.ref a)
inductive IsL (Z:Zs):LD->List Value->Prop
 | nil:IsL Z [] []
 | cons {d:D} {v:Value} {ds:LD} {vs:List Value} (h:Is Z d v) (hr:IsL Z ds vs):IsL Z (d :: ds) (v :: vs)
end
theorem Is.mono {Z Z':Zs}(z:Zle Z Z'){d:D}{v:Value}(h:Is Z d v):Is Z' d v:=
 Is.rec (motive_1:=fun d v _=>Is Z' d v) (motive_2:=fun ds vs _=>IsL Z' ds vs) .none .bool .int .str (fun h=>.ref (z.ad h)) .val .bi .any (fun h _ ih=>.tup (z.1 _ _ h) ih) .nil (fun _ _ a b=>.cons a b) h
theorem IsL.ind {Z:Zs}{P:LD->List Value->Prop}(nil:P [] [])(cons:∀ {d:D} {v:Value} {ds:LD} {vs:List Value},Is Z d v->IsL Z ds vs->P ds vs->P (d :: ds) (v :: vs)){ds:LD}{vs:List Value}(h:IsL Z ds vs):P ds vs:=
 IsL.rec (motive_1:=fun _ _ _=>True) (motive_2:=fun ds vs _=>P ds vs) .intro (fun _=>.intro) (fun _ _=>.intro) (fun _ _ _=>.intro) (fun _=>.intro) (fun _=>.intro) (fun _=>.intro) (fun _=>.intro) (fun _ _ _=>.intro) nil (fun a b _ c=>cons a b c) h
theorem IsL.mono {Z Z':Zs}(z:Zle Z Z'){ds:LD}{vs:List Value}(h:IsL Z ds vs):IsL Z' ds vs:=h.ind (P:=IsL Z') .nil fun a _ c=>.cons (a.mono z) c
theorem IsL.length {Z:Zs}{ds:LD}{vs:List Value}(h:IsL Z ds vs):ds.length=vs.length:=h.ind (P:=fun ds vs=>ds.length=vs.length) rfl fun _ _ c=>congrArg Nat.succ c
theorem IsL.append {Z:Zs}{ds ds':LD}{vs vs':List Value}(h:IsL Z ds vs)(h':IsL Z ds' vs'):IsL Z (ds++ds') (vs++vs'):=h.ind (P:=fun ds vs=>IsL Z (ds++ds') (vs++vs')) h' fun a _ c=>.cons a c
theorem IsL.get {Z:Zs}:∀ {ds:LD} {vs:List Value} {i:Nat} {d:D},IsL Z ds vs->ds[i]?=some d->∃ v,vs[i]?=some v /\ Is Z d v
 | _,_,0,_,.cons h _,e=>by obtain rfl:=Option.some.inj e;exact ⟨_,rfl,h⟩
 | _,_,i + 1,_,.cons _ hr,e=>hr.get (i:=i) e
theorem IsL.drop {Z:Zs}:∀ {ds:LD} {vs:List Value} (i:Nat),IsL Z ds vs->IsL Z (ds.drop i) (vs.drop i)
 | _,_,0,h=>h
 | _,_,_ + 1,.nil=>.nil
 | _,_,i + 1,.cons _ hr=>hr.drop i
theorem IsL.take {Z:Zs}:∀ {ds:LD} {vs:List Value} (i:Nat),IsL Z ds vs->IsL Z (ds.take i) (vs.take i)
 | _,_,0,_=>.nil
 | _,_,_ + 1,.nil=>.nil
 | _,_,i + 1,.cons h hr=>.cons h (hr.take i)
noncomputable def IsV (Z:Zs)(d:D)(v:Value):Prop:=match d with
 | .none=>v=.none
 | .bool b=>v=.bool b
 | .int i=>∃ t,v=.int i t
 | .str s=>∃ t,v=.str ⟨s.toArray⟩ t /\ s.length <= 16777216
 | .ref i=>∃ a,v=.ref a /\ Z.ad[i]?=some a
 | .val a=>v=.ref a
 | .bi b=>v=b.val
 | .any w=>v=w
 | .tup xs=>∃ a items n,v=.ref a /\ Z.m a=some { cls:=.type "tuple",data:=.seq items.toArray n } /\ IsL Z xs items
theorem Is.inv {Z:Zs}{d:D}{v:Value}(h:Is Z d v):IsV Z d v:=by
 cases h with
 | int i t=>exact ⟨t,rfl⟩
 | str s t h=>exact ⟨t,rfl,h⟩
 | ref h=>exact ⟨_,rfl,h⟩
 | tup h hi=>exact ⟨_,_,_,rfl,h,hi⟩
 | _=>rfl
noncomputable def IsLV (Z:Zs)(ds:LD)(vs:List Value):Prop:=match ds with
 | []=>vs=[]
 | d :: ds=>∃ v r,vs=v :: r /\ Is Z d v /\ IsL Z ds r
theorem IsL.inv {Z:Zs}{ds:LD}{vs:List Value}(h:IsL Z ds vs):IsLV Z ds vs:=by
 cases h with
 | nil=>rfl
 | cons h hr=>exact ⟨_,_,rfl,h,hr⟩
inductive Jy (Z:Zs):Option D->Option Value->Prop
 | none:Jy Z .none .none
 | some {d:D} {v:Value} (h:Is Z d v):Jy Z (.some d) (.some v)
theorem Jy.mono {Z Z':Zs}(z:Zle Z Z'){d:Option D}{v:Option Value}:Jy Z d v->Jy Z' d v
 | .none=>.none
 | .some h=>.some (h.mono z)
noncomputable def look:List Str->List (Option D)->Str->Option D
 | n :: ns,o :: os,x=>if x=n then o else look ns os x
 | _,_,_=>none
noncomputable def NsIs (Z:Zs)(names:List Str)(vals:List (Option D))(es:Array DictEntry):Prop:=StrKeys es /\ ∀ x,Jy Z (look names vals x) (nsFind es x)
theorem NsIs.mono {Z Z':Zs}(z:Zle Z Z'){names:List Str}{vals:List (Option D)}{es:Array DictEntry}(h:NsIs Z names vals es):NsIs Z' names vals es:=⟨h.1,fun x=>(h.2 x).mono z⟩
inductive OD where
 | list (xs:LD)
 | deque (xs:LD)
 | inst (k:Kd) (d:Nat)
 | ns (k:Kd) (vals:List (Option D))
 | cell (v:Option D)
noncomputable def cnt:List (Option D)->Nat
 | []=>0
 | some _ :: r=>cnt r + 1
 | none :: r=>cnt r
theorem RY:∀ l:List (Option D),cnt l <= l.length
 | []=>Nat.le_refl _
 | some _ :: r=>Nat.succ_le_succ (RY r)
 | none :: r=>Nat.le_succ_of_le (RY r)
noncomputable def IsO (Z:Zs):OD->Obj->Prop
 | .list xs,o=>∃ items n,o={ cls:=.type "list",data:=.seq items n } /\ IsL Z xs items.toList
 | .deque xs,o=>∃ (items:List Value) (n:Int),o={ cls:=.type "collections.deque",data:=.fields (#[.none,rawInt n]++items.toArray) } /\ IsL Z xs items
 | .inst k i,o=>o.cls=.ref k.addr /\ (∃ d,Z.ad[i]?=some d /\ o.dict=some d) /\ o.data=.plain
 | .ns k vals,o=>o.dict=none /\ o.cls=.type "dict" /\ ∃ es ep,o.data=.dict es ep /\ NsIs Z k.names vals es /\ es.size <= cnt vals /\ vals.length <= 1000
 | .cell v,o=>∃ x,o.data=.cell x /\ Jy Z v x
theorem IsO.mono {Z Z':Zs}(z:Zle Z Z'){d:OD}{o:Obj}(h:IsO Z d o):IsO Z' d o:=by
 cases d with
 | inst=>exact h.imp id fun h=>h.imp (fun hz0=>by refine E11 hz0 fun d h=>?_;exact ⟨d,h.imp z.ad id⟩) id
 | ns=>exact h.imp id fun h=>h.imp id fun ⟨es,ep,h⟩=>⟨es,ep,h.imp id fun h=>h.imp (NsIs.mono z) id⟩
 | cell=>exact Exists.imp (fun _ h=>h.imp id (Jy.mono z)) h
 | _=>exact Exists.imp (fun _ h=>Exists.imp (fun _ h=>h.imp id (IsL.mono z)) h) h
structure St where
 loc:List (Option D)
 led:List OD
 Z:Zs
abbrev St.pl (σ:St):List (Addr × OD):=σ.Z.ad.zip σ.led
structure Cx where
 prog:Program
 w:World
 K:Frag
 mg:Str->Option Value
 mb:Str->Option Value
 base:Heap
 gens:Array GenState
 os:OsState
 A:Around
 env:Env
 names:List Str
 frames:List Env
 room:Nat
abbrev Cx.M (Γ:Cx):Model:=model Γ.prog Γ.w
abbrev Mw (Γ:Cx):Prop:=Γ.A.handled=none
structure Ok (Γ:Cx):Prop where
 kind:Γ.env.scope.kind=.function
 nd:Γ.names.Nodup
 locs:∀ x ∈ Γ.names,Γ.env.kindOf x=some .local
 dbg:∀ x ∈ Γ.names,(x == ("__debug__" : Str))=false
 glo:Γ.env.globals=mainGlobals
 blt:Γ.env.builtins=builtinsNs
 frames:Γ.A.frames=some Γ.frames
 depth:Γ.A.depth + Γ.room < recursionLimit
 units:Γ.A.units + 40 * Γ.room + 40 < cLine
 g:Γ.base.Ns mainGlobals Γ.mg
 b:Γ.base.Ns builtinsNs Γ.mb
 nl:Γ.base.NoLimit
 bt:∀ x:Str,x ≠ "__name__"->Γ.mb x=bootBuiltins x
 K:Γ.K.In Γ.base
 top:∃ fe o F,Γ.frames=fe :: o /\ fe.frame=some F /\ Γ.env.frame=some F
structure Rel (Γ:Cx)(σ:St)(s:Shared):Prop where
 ok:Ok Γ
 base:Γ.base.StaysIn s.heap
 zs:∀ a o,σ.Z.m a=some o->(∃ sl,s.heap.get? a=some { o with slots:=sl } /\ ((∀ es ep,o.data ≠ .dict es ep)->sl=o.slots)) /\ Γ.base.get? a=none
 loc:∃ o es ep,s.heap.get? Γ.env.locals=some o /\ o.data=.dict es ep /\ NsIs σ.Z Γ.names σ.loc es
 locNew:Γ.base.get? Γ.env.locals=none /\ σ.Z.m Γ.env.locals=none
 led:∀ p ∈ σ.pl,(∃ o,s.heap.get? p.1=some o /\ IsO σ.Z p.2 o) /\ Γ.base.get? p.1=none /\ σ.Z.m p.1=none /\ p.1 ≠ Γ.env.locals
 adl:σ.Z.ad.length=σ.led.length
 nodup:σ.Z.ad.Nodup
 fr:∀ e ∈ Γ.frames,e.scope.kind ≠ .module /\ ∃ F,e.frame=some F /\ (F=Γ.env.locals \/ ∃ o,σ.Z.m F=some o /\ ∃ es ep,o.data=.dict es ep)
 gens:s.gens=Γ.gens
 os:s.os=Γ.os
section
variable {Γ:Cx}{σ:St}{s:Shared}
theorem NJ {i:Nat}{a:Addr}{od:OD}(h1:σ.Z.ad[i]?=some a)(h2:σ.led[i]?=some od):(a,od) ∈ σ.pl:=by
 refine List.mem_iff_getElem?.mpr ⟨i,?_⟩;show (σ.Z.ad.zip σ.led)[i]?=_;rw [List.getElem?_zip_eq_some];exact ⟨h1,h2⟩
theorem Rel.at (r:Rel Γ σ s){i:Nat}{od:OD}(h:σ.led[i]?=some od):∃ a o,σ.Z.ad[i]?=some a /\ s.heap.get? a=some o /\ IsO σ.Z od o:=by
 have hl:i < σ.Z.ad.length:=by rw [r.adl];exact (gel h)
 have e:=List.getElem?_eq_getElem hl;refine E02 (r.led _ (NJ e h)) fun hq10=>?_;refine E12 hq10 fun o h1 h2=>?_;intro _;exact ⟨_,o,e,h1,h2⟩
theorem Rel.mem (r:Rel Γ σ s){a:Addr}(h:a ∈ σ.Z.ad):∃ (i:Nat) (od:OD),σ.Z.ad[i]?=some a /\ σ.led[i]?=some od:=by
 refine E11 (List.mem_iff_getElem?.mp h) fun i hi=>?_;have:i < σ.led.length:=by rw [<-r.adl];exact (gel hi)
 exact ⟨i,_,hi,List.getElem?_eq_getElem this⟩
theorem Rel.off (r:Rel Γ σ s){a:Addr}(h:a ∈ σ.Z.ad):(∃ o,s.heap.get? a=some o) /\ Γ.base.get? a=none /\ σ.Z.m a=none /\ a ≠ Γ.env.locals:=by
 refine E22 (r.mem h) fun i od h1 h2=>?_;refine E02 (r.led _ (NJ h1 h2)) fun hq9=>?_;refine E12 hq9 fun o g _=>?_;intro q;exact ⟨⟨o,g⟩,q⟩
theorem Rel.same (r:Rel Γ σ s){h':Heap}(t:Nat)(kb:∀ b o,Γ.base.get? b=some o->h'.get? b=s.heap.get? b)(kz:∀ b o,σ.Z.m b=some o->∀ x,s.heap.get? b=some x->h'.get? b=some x)
 (kl:∀ o,s.heap.get? Γ.env.locals=some o->h'.get? Γ.env.locals=some o) (kd:∀ a ∈ σ.Z.ad,∀ o,s.heap.get? a=some o->h'.get? a=some o):Rel Γ σ { s with heap:=h',toks:=t }:=by
 refine ⟨r.ok,fun b o e=>(kb b o e).trans (r.base b o e),fun a o e=>?_,?_,r.locNew,fun p hp=>?_,r.adl,r.nodup,r.fr,r.gens,r.os⟩
 · refine E02 (r.zs a o e) fun hq8=>?_;refine E12 hq8 fun sl h hsl=>?_;intro b;exact ⟨⟨sl,kz _ _ e _ h,hsl⟩,b⟩
 · refine E32 (r.loc) fun o es ep h rest=>?_;exact ⟨o,es,ep,kl _ h,rest⟩
 · refine E02 (r.led p hp) fun hq7=>?_;refine E12 hq7 fun o h i=>?_;intro rest;exact ⟨⟨o,kd _ (List.of_mem_zip hp).1 _ h,i⟩,rest⟩
theorem Rel.keeps (r:Rel Γ σ s){h':Heap}{t:Nat}(k:∀ b o,s.heap.get? b=some o->h'.get? b=some o):Rel Γ σ { s with heap:=h',toks:=t }:=
 r.same t (fun b o e=>by rw [k _ _ (r.base b o e),r.base b o e]) (fun b _ _ x e=>k b x e) (fun o e=>k _ o e) fun a _ o e=>k a o e
theorem Rel.toks (r:Rel Γ σ s)(t:Nat):Rel Γ σ { s with toks:=t }:=r.keeps fun _ _ e=>e
theorem Rel.push (r:Rel Γ σ s)(o:Obj)(t:Nat):Rel Γ σ { s with heap:=s.heap.push o,toks:=t }:=r.keeps fun _ _ e=>Heap.get?_push_of_some o e
structure Off (Γ:Cx)(σ:St)(a:Addr):Prop where
 base:Γ.base.get? a=none
 z:σ.Z.m a=none
 loc:a ≠ Γ.env.locals
 led:a ∉ σ.Z.ad
theorem Off.of_none {e:Addr}(r:Rel Γ σ s)(h:s.heap.get? e=none):Off Γ σ e:=by
 refine ⟨?_,?_,?_,fun hp=>?_⟩
 · cases h':Γ.base.get? e with
   | none=>rfl
   | some o=>have:=r.base _ _ h';rw [h] at this;injection this
 · cases h':σ.Z.m e with
   | none=>rfl
   | some o=>refine E02 (r.zs _ _ h') fun hq6=>?_;refine E12 hq6 fun sl h1 _=>?_;intro _;rw [h] at h1;injection h1
 · intro q;refine E32 (r.loc) fun o _ _ h1 _=>?_;rw [<-q,h] at h1;injection h1
 · refine E02 (r.off hp) fun hq5=>?_;refine E11 hq5 fun o h1=>?_;intro _;rw [h] at h1;injection h1
theorem Off.fresh (r:Rel Γ σ s):Off Γ σ s.heap.objs.size:=.of_none r (Heap.get?_none_of_le (Nat.le_refl _))
theorem Rel.extBut (r:Rel Γ σ s){a:Addr}(off:Off Γ σ a){h':Heap}(k:Heap.ExtBut a s.heap h')(t:Nat):Rel Γ σ { s with heap:=h',toks:=t }:=
 r.same t (fun b o e=>by
  have ne:b ≠ a:=fun q=>by rw [q,off.base] at e;injection e
  rw [k _ _ ne (r.base b o e),r.base b o e])
  (fun b _ e x h=>k b x (fun q=>by rw [q,off.z] at e;injection e) h) (fun o e=>k _ o (Ne.symm off.loc) e) fun b hb o e=>k b o (fun q=>off.led (q ▸ hb)) e
theorem Rel.temp (r:Rel Γ σ s){a:Addr}(off:Off Γ σ a){h':Heap}(hs:Heap.SameBut a s.heap h')(t:Nat):Rel Γ σ { s with heap:=h',toks:=t }:=r.extBut off hs.extBut t
theorem Rel.alloc (r:Rel Γ σ s){o:Obj}{d:OD}(hf:o.isFreed=false)(hi:IsO σ.Z d o)(t:Nat) :
 Zle σ.Z ⟨σ.Z.m,σ.Z.ad++[s.heap.objs.size]⟩ /\ Rel Γ ⟨σ.loc,σ.led++[d],⟨σ.Z.m,σ.Z.ad++[s.heap.objs.size]⟩⟩ { s with heap:=s.heap.push o,toks:=t } /\
  (σ.Z.ad++[s.heap.objs.size])[σ.led.length]?=some s.heap.objs.size:=by
 have f:=Off.fresh r;have q:=r.push o t;have z:Zle σ.Z ⟨σ.Z.m,σ.Z.ad++[s.heap.objs.size]⟩:=⟨fun _ _ h=>h,_,rfl⟩;refine ⟨z,⟨q.ok,q.base,q.zs,?_,q.locNew,fun p hp=>?_,?_,?_,q.fr,q.gens,q.os⟩,?_⟩
 · refine E33 (q.loc) fun o es ep h hd hn=>?_;exact ⟨o,es,ep,h,hd,hn.mono z⟩
 · have hp:p ∈ (σ.Z.ad++[s.heap.objs.size]).zip (σ.led++[d]):=hp;rw [List.zip_append r.adl] at hp;rcases List.mem_append.mp hp with hp | hp
   · refine E02 (q.led p hp) fun hq4=>?_;refine E12 hq4 fun x h i=>?_;intro rest;exact ⟨⟨x,h,i.mono z⟩,rest⟩
   · cases List.mem_singleton.mp hp;exact ⟨⟨o,Heap.get?_push_size _ hf,hi.mono z⟩,f.base,f.z,f.loc⟩
 · show (σ.Z.ad++[_]).length=(σ.led++[d]).length;rw [List.length_append,List.length_append,r.adl];rfl
 · refine List.nodup_append.mpr ⟨r.nodup,by simp,fun a ha b hb e=>?_⟩
   cases List.mem_singleton.mp hb;subst e;exact f.led ha
 · rw [<-r.adl,List.getElem?_append_right (Nat.le_refl _),Nat.sub_self];rfl
theorem Rel.allocZ (r:Rel Γ σ s){o:Obj}(hf:o.isFreed=false)(t:Nat) :
 ∃ Z',Zle σ.Z Z' /\ Z'.m s.heap.objs.size=some o /\ Rel Γ { σ with Z:=Z' } { s with heap:=s.heap.push o,toks:=t }:=by
 have f:=Off.fresh r;have q:=r.push o t
 let m':Addr->Option Obj:=fun a=>if a=s.heap.objs.size then some o else σ.Z.m a
 have ne:∀ a,a ≠ s.heap.objs.size->m' a=σ.Z.m a:=fun a e=>if_neg e;have z:Zle σ.Z ⟨m',σ.Z.ad⟩:=⟨fun a x h=>(ne a fun e=>by rw [e,f.z] at h;injection h).trans h,[],(List.append_nil _).symm⟩
 refine ⟨⟨m',σ.Z.ad⟩,z,if_pos rfl,q.ok,q.base,fun a x h=>?_,?_,⟨q.locNew.1,(ne _ (Ne.symm f.loc)).trans q.locNew.2⟩,fun p hp=>?_,q.adl,q.nodup,fun e he=>?_,q.gens,q.os⟩
 · have h:m' a=some x:=h
   by_cases e:a=s.heap.objs.size
   · have:some o=some x:=by rw [<-h];show _=(if a=s.heap.objs.size then some o else σ.Z.m a);rw [if_pos e]
     obtain rfl:=Option.some.inj this;subst e;exact ⟨⟨o.slots,Heap.get?_push_size _ hf,fun _=>rfl⟩,f.base⟩
   · exact q.zs a x (by rw [<-h,ne a e])
 · refine E33 (q.loc) fun x es ep h hd hn=>?_;exact ⟨x,es,ep,h,hd,hn.mono z⟩
 · refine E04 (q.led p hp) fun hq3=>?_;refine E12 hq3 fun x h i=>?_;intro b c d;exact ⟨⟨x,h,i.mono z⟩,b,(ne _ fun e=>f.led (e ▸ (List.of_mem_zip hp).1)).trans c,d⟩
 · refine E02 (q.fr e he) fun a hq2=>?_;refine E12 hq2 fun F b c=>?_;exact ⟨a,F,b,c.imp id fun hz1=>by refine E12 hz1 fun x h hv=>?_;exact ⟨x,z.1 _ _ h,hv⟩⟩
theorem Rel.put (r:Rel Γ σ s){i:Nat}{a:Addr}{od':OD}(h1:σ.Z.ad[i]?=some a){h':Heap}{o':Obj}(ho:h'.get? a=some o')(hi:IsO σ.Z od' o')(hs:Heap.SameBut a s.heap h')(t:Nat) :
 Rel Γ { σ with led:=σ.led.set i od' } { s with heap:=h',toks:=t }:=by
 refine E04 (r.off (List.mem_of_getElem? h1)) fun _ b0 c0 d0=>?_;refine ⟨r.ok,fun b o e=>(hs.2 b (fun q=>by rw [q,b0] at e;injection e)).trans (r.base b o e),fun x o e=>?_,?_,r.locNew,fun p hp=>?_,?_,r.nodup,r.fr,r.gens,r.os⟩
 · refine E02 (r.zs x o e) fun hq1=>?_;refine E12 hq1 fun sl h hsl=>?_;intro b;exact ⟨⟨sl,(hs.2 x (fun q=>by rw [q,show ({ σ with led:=σ.led.set i od' }:St).Z.m a=none from c0] at e;injection e)).trans h,hsl⟩,b⟩
 · refine E32 (r.loc) fun o es ep h rest=>?_;exact ⟨o,es,ep,(hs.2 _ (Ne.symm d0)).trans h,rest⟩
 · obtain ⟨p1,p2⟩:=p;refine E11 (List.mem_iff_getElem?.mp hp) fun j hj=>?_;have hj:(σ.Z.ad.zip (σ.led.set i od'))[j]?=some (p1,p2):=hj;rw [List.getElem?_zip_eq_some] at hj;refine E02 hj fun hj1 hj2=>?_;rw [List.getElem?_set] at hj2
   by_cases e:i=j
   · subst e;rw [h1] at hj1;obtain rfl:=Option.some.inj hj1;rw [if_pos rfl] at hj2
     split at hj2
     · obtain rfl:=Option.some.inj hj2;exact ⟨⟨o',ho,hi⟩,b0,c0,d0⟩
     · injection hj2
   · rw [if_neg e] at hj2;refine E02 (r.led _ (NJ hj1 hj2)) fun hq0=>?_;refine E12 hq0 fun o g io=>?_;intro rest;refine ⟨⟨o,(hs.2 _ fun q=>?_).trans g,io⟩,rest⟩;have q:p1=a:=q;subst q;refine E11 (List.getElem?_eq_some_iff.mp h1) fun l1 e1=>?_;refine E11 (List.getElem?_eq_some_iff.mp hj1) fun l2 e2=>?_;exact e ((List.getElem_inj (h₀:=l1) (h₁:=l2) r.nodup).mp (e1.trans e2.symm))
 · show σ.Z.ad.length=(σ.led.set i od').length;rw [List.length_set];exact r.adl
end
noncomputable def lEqB:LN->LN->Bool
 | [],[]=>true
 | a :: x,b :: y=>match Nat.beq a b with
  | true=>lEqB x y
  | false=>false
 | _,_=>false
theorem Jn:∀ {x y:LN},lEqB x y=true ↔ x=y
 | [],[]=>⟨fun _=>rfl,fun _=>rfl⟩
 | [],_ :: _=>⟨fun h=>(nomatch h),fun h=>(nomatch h)⟩
 | _ :: _,[]=>⟨fun h=>(nomatch h),fun h=>(nomatch h)⟩
 | a :: x,b :: y=>by
  unfold lEqB
  cases h:Nat.beq a b with
  | true=>rw [Nat.eq_of_beq_eq_true h];exact Jn.trans ⟨fun e=>by rw [e],fun e=>(List.cons.inj e).2⟩
  | false=>exact ⟨fun q=>(nomatch q),fun e=>by rw [(List.cons.inj e).1,Nat.beq_refl] at h;injection h⟩
noncomputable def nameEq (a b:Str):Bool:=lEqB a.cps.toList b.cps.toList
theorem Jl {a b:Str}:nameEq a b=true ↔ a=b:=by
 unfold nameEq;rw [Jn];refine ⟨fun h=>?_,fun h=>by rw [h]⟩
 cases a;cases b;exact congrArg Str.mk (Array.toList_inj.mp h)
theorem JG {a b:Str}(h:nameEq a b=false):a ≠ b:=fun e=>by rw [Jl.mpr e] at h;injection h
noncomputable def get:List Str->List (Option D)->Str->Option D
 | n :: ns,o :: os,x=>match nameEq x n with
  | true=>o
  | false=>get ns os x
 | _,_,_=>none
theorem Kj:∀ (ns:List Str) (os:List (Option D)) (x:Str),get ns os x=look ns os x
 | [],_,_=>rfl
 | _ :: _,[],_=>rfl
 | n :: ns,o :: os,x=>by
  unfold get look
  cases h:nameEq x n with
  | true=>rw [if_pos (Jl.mp h)]
  | false=>rw [if_neg (JG h)];exact Kj ns os x
noncomputable def put:List Str->List (Option D)->Str->D->Option (List (Option D))
 | n :: ns,o :: os,x,d=>match nameEq x n with
  | true=>some (some d :: os)
  | false=>match put ns os x d with
   | some os'=>some (o :: os')
   | none=>none
 | _,_,_,_=>none
theorem KF:∀ {ns:List Str} {os:List (Option D)} {x:Str} {d:D},look ns os x=some d->x ∈ ns
 | n :: ns,o :: os,x,d,h=>by
  unfold look at h
  split at h
  · rename_i e;rw [e];exact .head _
  · exact .tail _ (KF h)
structure N2 (ns:List Str)(os:List (Option D))(x:Str)(d:D)(os':List (Option D)):Prop where
 mem:x ∈ ns
 look:∀ y,look ns os' y=if y=x then some d else Mine.look ns os y
 len:os'.length=os.length
 cnt:cnt os'=if (Mine.look ns os x).isSome then Mine.cnt os else Mine.cnt os + 1
theorem Ni:∀ {ns:List Str} {os os':List (Option D)} {x:Str} {d:D},put ns os x d=some os'->N2 ns os x d os'
 | n :: ns,o :: os,os',x,d,h=>by
  unfold put at h
  split at h
  · rename_i e
    have e:=Jl.mp e;subst e;obtain rfl:=Option.some.inj h;refine ⟨.head _,fun y=>?_,rfl,?_⟩
    · simp only [Mine.look];split <;> rfl
    · cases o <;> simp [Mine.cnt,Mine.look]
  · rename_i e
    have e:=JG e
    split at h
    · rename_i r hr
      obtain rfl:=Option.some.inj h;obtain ⟨a,b,c,f⟩:=Ni hr;refine ⟨.tail _ a,fun y=>?_,congrArg Nat.succ c,?_⟩
      · simp only [Mine.look,b]
        by_cases h1:y=n
        · rw [if_pos h1,if_pos h1,if_neg (fun q=>e (q.symm.trans h1))]
        · rw [if_neg h1,if_neg h1]
      · simp only [Mine.look,if_neg e];cases o <;> simp only [Mine.cnt,f] <;> split <;> rfl
    · injection h
theorem Rel.store {Γ:Cx}{σ:St}{s:Shared}(r:Rel Γ σ s){x:Str}{d:D}{v:Value}{loc':List (Option D)}(U:N2 Γ.names σ.loc x d loc')(hv:Is σ.Z d v)
 {m:Str->Option Value} (hm:s.heap.Ns Γ.env.locals m) {h':Heap} (hn:h'.Ns Γ.env.locals (fun y=>if y=x then some v else m y)) (hs:Heap.SameBut Γ.env.locals s.heap h') (t:Nat) :
 Rel Γ { σ with loc:=loc' } { s with heap:=h',toks:=t }:=by
 refine E33 (r.loc) fun o es ep hL hd hN=>?_;refine E34 hm fun o1 es1 ep1 hL1 hd1 hk1 hf1=>?_;rw [hL] at hL1;obtain rfl:=Option.some.inj hL1;rw [hd] at hd1;cases hd1;refine E34 hn fun o2 es2 ep2 hL2 hd2 hk2 hf2=>?_;refine ⟨r.ok,fun b o e=>(hs.2 b (fun q=>by rw [q,r.locNew.1] at e;injection e)).trans (r.base b o e),fun a o e=>?_,⟨o2,es2,ep2,hL2,hd2,hk2,fun y=>?_⟩,r.locNew,fun p hp=>?_,r.adl,r.nodup,r.fr,r.gens,r.os⟩
 · refine E02 (r.zs a o e) fun hq1=>?_;refine E12 hq1 fun sl h hsl=>?_;intro b;exact ⟨⟨sl,(hs.2 a (fun q=>by rw [q,show ({ σ with loc:=loc' }:St).Z.m Γ.env.locals=none from r.locNew.2] at e;injection e)).trans h,hsl⟩,b⟩
 · rw [hf2 y,U.look y];dsimp only
   by_cases e:y=x
   · rw [if_pos e,if_pos e];exact .some hv
   · rw [if_neg e,if_neg e,<-hf1 y];exact hN.2 y
 · refine E04 (r.led p hp) fun hq0=>?_;refine E12 hq0 fun o h i=>?_;intro b c d;exact ⟨⟨o,(hs.2 _ d).trans h,i⟩,b,c,d⟩
inductive J5 {α β:Type}(Γ:Cx)(R:Zs->β->α->Prop)(σ:St)(Q:β->St->Prop)(v:α)(s':Shared):Prop
 | mk (b:β) (σ':St) (z:Zle σ.Z σ'.Z) (r:Rel Γ σ' s') (i:R σ'.Z b v) (q:Q b σ')
structure Ub (Γ:Cx)(σ:St)(h:Heap)(e:Addr)(cls:String):Prop where
 off:Off Γ σ e
 there:∃ oe vs,h.get? e=some oe /\ oe.cls=.type cls /\ oe.data=.fields vs /\ 2 <= vs.size /\
  (vs[1]?=some .none \/ ∃ T oT ts,vs[1]?=some (.ref T) /\ T ≠ e /\ h.get? T=some oT /\ oT.data=.fields ts /\ 4 <= ts.size /\ Off Γ σ T)
inductive JK (Γ:Cx)(σ:St)(X:String->St->Prop)(v:Value)(s':Shared):Prop
 | mk (a:Addr) (cls:String) (σ':St) (e:v=.ref a) (z:Zle σ.Z σ'.Z) (r:Rel Γ σ' s') (x:Ub Γ σ' s'.heap a cls) (q:X cls σ')
theorem upE {Γ:Cx}{σ σ₁:St}{X:String->St->Prop}(z:Zle σ.Z σ₁.Z)(v:Value)(s':Shared)(h:JK Γ σ₁ X v s'):JK Γ σ X v s':=
 let ⟨a,cls,σ',e,z',r,x,q⟩:=h;⟨a,cls,σ',e,z.trans z',r,x,q⟩
noncomputable def Wp {α β:Type}(Γ:Cx)(E:String->St->Prop)(t:Sem α)(R:Zs->β->α->Prop)(σ:St)(Q:β->St->Prop):Prop:=
 ∀ s,Rel Γ σ s->wpAny Γ.M Γ.A t (J5 Γ R σ Q) (JK Γ σ E) s
section
variable {α β γ δ:Type}{Γ:Cx}{E:String->St->Prop}{σ:St}
theorem J5.up {R:Zs->β->α->Prop}{σ σ₁:St}{Q:β->St->Prop}{v:α}{s':Shared}(z:Zle σ.Z σ₁.Z)(h:J5 Γ R σ₁ Q v s'):J5 Γ R σ Q v s':=
 let ⟨b,σ',z',r,i,q⟩:=h;⟨b,σ',z.trans z',r,i,q⟩
theorem Wp.mono {t:Sem α}{R:Zs->β->α->Prop}{Q Q':β->St->Prop}(h:Wp Γ E t R σ Q)(hq:∀ b σ',Zle σ.Z σ'.Z->Q b σ'->Q' b σ'):Wp Γ E t R σ Q':=
 fun s r=>wpAny_mono (h s r) (fun _ _ hz0=>by obtain ⟨b,σ',z,r',i,q⟩:=hz0;exact ⟨b,σ',z,r',i,hq b σ' z q⟩) fun _ _ x=>x
theorem Wp.bind {t:Sem α}{f:α->Sem γ}{R:Zs->β->α->Prop}{R':Zs->δ->γ->Prop}{Q:δ->St->Prop}
 (h:Wp Γ E t R σ fun b σ₁=>∀ v,R σ₁.Z b v->Wp Γ E (f v) R' σ₁ Q):Wp Γ E (t >>= f) R' σ Q:=
 fun s r=>wpAny_bind (wpAny_mono (h s r) (fun v s₁ hz1=>by obtain ⟨_,_,z,r₁,i,q⟩:=hz1;exact wpAny_mono (q v i s₁ r₁) (fun _ _ p=>p.up z) (upE z)) fun _ _ x=>x)
theorem Wp.pure {R:Zs->β->α->Prop}{Q:β->St->Prop}{b:β}{v:α}(hr:R σ.Z b v)(h:Q b σ):Wp Γ E (pure v) R σ Q:=
 fun _ r=>wpAny_pure ⟨b,σ,Zle.rfl,r,hr,h⟩
theorem Wp.holding {t:Sem α}{R:Zs->β->α->Prop}{Q:β->St->Prop}{vs:List Value}(h:Wp Γ E t R σ Q):Wp Γ E (holding vs t) R σ Q:=fun s r=>wpAny_holding (h s r)
theorem Wp.eq {t t':Sem α}{R:Zs->β->α->Prop}{Q:β->St->Prop}(e:t=t')(h:Wp Γ E t' R σ Q):Wp Γ E t R σ Q:=e ▸ h
theorem Wp.skip {t:Sem Unit}{f:Unit->Sem α}{R:Zs->β->α->Prop}{Q:β->St->Prop}(ht:∀ M A E s (Q:Unit->Shared->Prop),Q () s->wpAny M A t Q E s)(h:Wp Γ E (f ()) R σ Q):Wp Γ E (t >>= f) R σ Q:=
 fun s r=>wpAny_bind (ht _ _ _ _ _ (h s r))
end
inductive Fl where
 | next | brk | cont
 | ret (d:D)
inductive IsF (Z:Zs):Fl->Flow->Prop
 | next:IsF Z .next .next
 | brk:IsF Z .brk .brk
 | cont:IsF Z .cont .cont
 | ret {d:D} {v:Value} (h:Is Z d v):IsF Z (.ret d) (.ret v)
noncomputable def Br (b:Bool)(P R:Prop):Prop:=(b=true->P) /\ (b=false->R)
theorem WO {P R:Prop}(h:P):Br true P R:=⟨fun _=>h,fun e=>(nomatch e)⟩
theorem Sg {P R:Prop}(h:R):Br false P R:=⟨fun e=>(nomatch e),fun _=>h⟩
noncomputable def EqR {α:Type}(_:Zs)(a b:α):Prop:=a=b
noncomputable def EV (Γ:Cx)(E:String->St->Prop)(e:Expr)(σ:St)(Q:D->St->Prop):Prop:=Wp Γ E (eval e Γ.env) Is σ Q
noncomputable def TS (Γ:Cx)(E:String->St->Prop)(e:Expr)(σ:St)(Q:Bool->St->Prop):Prop:=Wp Γ E (isTrue e Γ.env (eval e Γ.env)) EqR σ Q
noncomputable def EX (Γ:Cx)(E:String->St->Prop)(st:Stmt)(σ:St)(Q:Fl->St->Prop):Prop:=Wp Γ E (exec st Γ.env) IsF σ Q
noncomputable def XS (Γ:Cx)(E:String->St->Prop)(sts:List Stmt)(σ:St)(Q:Fl->St->Prop):Prop:=Wp Γ E (execs sts Γ.env) IsF σ Q
noncomputable def Bin (Γ:Cx)(E:String->St->Prop)(op:Operator)(a b:D)(σ:St)(Q:D->St->Prop):Prop:=∀ va vb,Is σ.Z a va->Is σ.Z b vb->Wp Γ E (binaryOp op va vb) Is σ Q
noncomputable def Inp (Γ:Cx)(E:String->St->Prop)(op:Operator)(a b:D)(σ:St)(Q:D->St->Prop):Prop:=∀ va vb,Is σ.Z a va->Is σ.Z b vb->Wp Γ E (inplaceOp op va vb) Is σ Q
noncomputable def Cmp (Γ:Cx)(E:String->St->Prop)(op:CmpOp)(a b:D)(σ:St)(Q:D->St->Prop):Prop:=∀ va vb,Is σ.Z a va->Is σ.Z b vb->Wp Γ E (compareOp op va vb) Is σ Q
noncomputable def Tru (Γ:Cx)(E:String->St->Prop)(a:D)(σ:St)(Q:Bool->St->Prop):Prop:=∀ v,Is σ.Z a v->Wp Γ E (truthy v) EqR σ Q
noncomputable def Una (Γ:Cx)(E:String->St->Prop)(op:UnaryOp)(a:D)(σ:St)(Q:D->St->Prop):Prop:=∀ v,Is σ.Z a v->Wp Γ E (unaryOp op v) Is σ Q
noncomputable def Att (Γ:Cx)(E:String->St->Prop)(a:D)(x:Str)(σ:St)(Q:D->St->Prop):Prop:=∀ v,Is σ.Z a v->Wp Γ E (getAttr v x true) Is σ Q
noncomputable def SetA (Γ:Cx)(E:String->St->Prop)(a:D)(x:Str)(b:D)(σ:St)(Q:Unit->St->Prop):Prop:=∀ va vb,Is σ.Z a va->Is σ.Z b vb->Wp Γ E (setAttr va x vb) EqR σ Q
noncomputable def Cal (Γ:Cx)(E:String->St->Prop)(f:D)(args:LD)(kws:List (Str × D))(σ:St)(Q:D->St->Prop):Prop:=
 ∀ vf vs ks,Is σ.Z f vf->IsL σ.Z args vs->IsL σ.Z (kws.map (·.2)) (ks.map (·.2))->ks.map (·.1)=kws.map (·.1)->Wp Γ E (call vf vs ks) Is σ Q
noncomputable def CPost (Γ:Cx)(E:String->St->Prop)(σ:St)(Q:D->St->Prop)(r:Result)(s':Shared):Prop:=match r with
 | .ok (.ret v)=>J5 Γ Is σ Q v s'
 | .ok _=>False
 | .error e=>JK Γ σ E e s'
noncomputable def CalC (Γ:Cx)(E:String->St->Prop)(f:D)(args:LD)(kws:List (Str × D))(σ:St)(Q:D->St->Prop):Prop:=
 ∀ vf vs ks s,Is σ.Z f vf->IsL σ.Z args vs->IsL σ.Z (kws.map (·.2)) (ks.map (·.2))->ks.map (·.1)=kws.map (·.1)->Rel Γ σ s->codeAny Γ.M Γ.A (.call vf ⟨vs,ks⟩) (CPost Γ E σ Q) s
theorem Rz {Γ:Cx}{E:String->St->Prop}{f:D}{args:LD}{kws:List (Str × D)}{σ:St}{Q:D->St->Prop}(h:CalC Γ E f args kws σ Q):Cal Γ E f args kws σ Q:=
 fun vf vs ks hf hv hk hn s r=>wpAny_call (codeAny_mono (h vf vs ks s hf hv hk hn r) fun r s' x=>by
  cases r with
  | error e=>exact x
  | ok f=>cases f <;> first | exact x | exact x.elim)
section
variable {Γ:Cx}{E:String->St->Prop}{σ:St}
theorem Jak {Q:Fl->St->Prop}(h:Q .next σ):XS Γ E [] σ Q:=Wp.pure .next h
noncomputable def SeqK (Γ:Cx)(E:String->St->Prop)(rest:List Stmt)(Q:Fl->St->Prop)(f:Fl)(σ:St):Prop:=match f with
 | .next=>XS Γ E rest σ Q
 | f=>Q f σ
theorem Ms {rest:List Stmt}{Q:Fl->St->Prop}(h:XS Γ E rest σ Q):SeqK Γ E rest Q .next σ:=h
theorem Ot {st:Stmt}{rest:List Stmt}{Q:Fl->St->Prop}
 (h:EX Γ E st σ (SeqK Γ E rest Q)):XS Γ E (st :: rest) σ Q:=by
 refine Wp.bind (Wp.mono h fun f σ₁ _ q v i=>?_)
 cases i with
 | next=>exact q
 | brk=>exact Wp.pure .brk q
 | cont=>exact Wp.pure .cont q
 | ret i=>exact Wp.pure (.ret i) q
theorem Xy {k:Nat}{pos:Pos}{Q:D->St->Prop}(h:Q .none σ):EV Γ E (.Constant .none k pos) σ Q:=Wp.pure .none h
theorem XN {b:Bool}{k:Nat}{pos:Pos}{Q:D->St->Prop}(h:Q (.bool b) σ):EV Γ E (.Constant (.bool b) k pos) σ Q:=Wp.pure (.bool b) h
theorem Zm {i:Int}{k:Nat}{pos:Pos}{Q:D->St->Prop}(h:Q (.int i) σ):EV Γ E (.Constant (.int i) k pos) σ Q:=
 fun _ r=>wpAny_Constant_int ⟨_,σ,Zle.rfl,r.toks _,.int i _,h⟩
theorem YG {x:Str}{l:LN}{k:Nat}{pos:Pos}{Q:D->St->Prop}(hx:x=⟨l.toArray⟩)(h:Q (.str l) σ)(hl:l.length <= 16777216:=by decide):EV Γ E (.Constant (.str x) k pos) σ Q:=by
 subst hx;exact fun _ r=>wpAny_Constant_str ⟨_,σ,Zle.rfl,r.toks _,.str l _ hl,h⟩
theorem UG {s:Shared}(r:Rel Γ σ s):∃ m,s.heap.Ns Γ.env.locals m /\ ∀ x,Jy σ.Z (look Γ.names σ.loc x) (m x):=by
 refine E33 (r.loc) fun o es ep h hd hn=>?_;exact ⟨nsFind es,⟨o,es,ep,h,hd,hn.1,fun _=>rfl⟩,hn.2⟩
theorem Mb {x:Str}{d:D}{Q:D->St->Prop}(hi:look Γ.names σ.loc x=some d)(h:Q d σ):Wp Γ E (loadName Γ.env x) Is σ Q:=fun s r=>by
 refine E12 (UG r) fun m hm hf=>?_;have q:=hf x;rw [hi] at q;generalize hv:m x=ov at q
 cases q with
 | some i=>exact wpAny_loadName_local r.ok.kind (r.ok.locs x (KF hi)) hm hv ⟨d,σ,Zle.rfl,r,i,h⟩
theorem P7 {x:Str}{pos:Pos}{d:D}{Q:D->St->Prop}(hi:look Γ.names σ.loc x=some d)(h:Q d σ):EV Γ E (.Name x pos) σ Q:=
 fun s r=>wpAny_Name (Mb hi h s r) (r.ok.dbg x (KF hi))
theorem LR {x:Str}{d:D}{v:Value}{loc':List (Option D)}{Q:Unit->St->Prop}(U:N2 Γ.names σ.loc x d loc')(hv:Is σ.Z d v)(h:Q () { σ with loc:=loc' }):Wp Γ E (storeName Γ.env x v) EqR σ Q:=fun s r=>by
 refine E12 (UG r) fun m hm hf=>?_;refine wpAny_storeName_local (r.ok.locs x U.mem) hm (fun h' hn hs=>⟨(),{ σ with loc:=loc' },Zle.rfl,r.store U hv hm hn hs _,rfl,h⟩) ?_
 rw [r.ok.kind];rfl
theorem Wv {K:Frag}{h:Heap}{mg:Str->Option Value}{n:Str}(X:K.In h)(G:h.Ns mainGlobals mg)(e:nsIn K mainGlobals n=some none):mg n=none:=by
 refine E34 G fun o es ep ho hd _ hf=>?_;unfold nsIn at e
 cases q:K.lookup mainGlobals with
 | none=>rw [q] at e;injection e
 | some o'=>
  have:=X _ _ q;rw [ho] at this;obtain rfl:=Option.some.inj this;rw [q] at e;obtain ⟨c,d,da,sl⟩:=o;subst hd;dsimp only at e
  cases he:es.toList.find? (·.key.isStr n) with
  | some x=>rw [he] at e;cases e
  | none=>
   rw [<-hf];unfold nsFind findBy;rw [<-Array.find?_toList,he];rfl
inductive Top (K:Frag)(x:Str):D->Prop
 | glb {a:Addr} (g:nsIn K mainGlobals x=some (some (.ref a))) (d:(x == ("__debug__" : Str))=false):Top K x (.val a)
 | imp {b:Bi} (g:nsIn K mainGlobals x=some (some b.val)) (d:(x == ("__debug__" : Str))=false):Top K x (.bi b)
 | blt {b:Bi} (g:nsIn K mainGlobals x=some none) (e:bootBuiltins x=some b.val) (n:x ≠ "__name__") (d:(x == ("__debug__" : Str))=false):Top K x (.bi b)
theorem MW {M:Model}{A:Around}{X:Value->Shared->Prop}{s:Shared}{x:Str}{d:D}{Q:Value->Shared->Prop}(r:Rel Γ σ s)(hk:Γ.env.kindOf x=some .globalImplicit)(t:Top Γ.K x d)(hv:∀ v,Is σ.Z d v->Q v s):wpAny M A (loadName Γ.env x) Q X s:=by
 have hn:=r.ok.g.keeps r.base;rw [<-r.ok.glo] at hn;have e:loadName Γ.env x=loadGlobal Γ.env x:=by
  unfold loadName Env.blockKind;rw [r.ok.kind,hk];rfl
 rw [e];unfold loadGlobal;refine wpAny_bind (wpAny_nsGet hn ?_)
 cases t with
 | glb g _=>rw [mg_of r.ok.K r.ok.g g];exact wpAny_pure (hv _ (.val _))
 | imp g _=>rw [mg_of r.ok.K r.ok.g g];exact wpAny_pure (hv _ (.bi _))
 | blt g e' n _=>
  have hn2:=r.ok.b.keeps r.base;rw [<-r.ok.blt] at hn2;rw [Wv r.ok.K r.ok.g g];refine wpAny_bind (wpAny_nsGet hn2 ?_);rw [r.ok.bt x n,e'];exact wpAny_pure (hv _ (.bi _))
theorem Top.dbg {K:Frag}{x:Str}{d:D}:Top K x d->(x == ("__debug__" : Str))=false
 | .glb _ d=>d
 | .imp _ d=>d
 | .blt _ _ _ d=>d
theorem Yu {x:Str}{pos:Pos}{d:D}{Q:D->St->Prop}(hk:Γ.env.kindOf x=some .globalImplicit)(t:Top Γ.K x d)(h:Q d σ):EV Γ E (.Name x pos) σ Q:=
 fun s r=>wpAny_Name (MW r hk t fun v i=>⟨_,σ,Zle.rfl,r,i,h⟩) t.dbg
theorem Ys {l r:Expr}{op:Operator}{pos:Pos}{Q:D->St->Prop}(h:EV Γ E l σ fun a σ₁=>EV Γ E r σ₁ fun b σ₂=>Bin Γ E op a b σ₂ Q):EV Γ E (.BinOp l op r pos) σ Q:=
 fun s r=>wpAny_BinOp (wpAny_mono (h s r) (fun va s₁ ⟨_,_,z₁,r₁,ia,q₁⟩=>wpAny_mono (q₁ s₁ r₁) (fun vb s₂ ⟨_,_,z₂,r₂,ib,q₂⟩=>
  wpAny_mono (q₂ va vb (ia.mono z₂) ib s₂ r₂) (fun _ _ p=>p.up (z₁.trans z₂)) (upE (z₁.trans z₂))) (upE z₁)) fun _ _ x=>x)
theorem ZD {l r:Expr}{op:CmpOp}{pos:Pos}{Q:D->St->Prop}(h:EV Γ E l σ fun a σ₁=>EV Γ E r σ₁ fun b σ₂=>Cmp Γ E op a b σ₂ Q)(hm:behindInMarks op r=false):EV Γ E (.Compare l [op] [r] pos) σ Q:=
 fun s r=>wpAny_Compare1 (wpAny_mono (h s r) (fun va s₁ ⟨_,_,z₁,r₁,ia,q₁⟩=>wpAny_mono (q₁ s₁ r₁) (fun vb s₂ ⟨_,_,z₂,r₂,ib,q₂⟩=>
  wpAny_mono (q₂ va vb (ia.mono z₂) ib s₂ r₂) (fun _ _ p=>p.up (z₁.trans z₂)) (upE (z₁.trans z₂))) (upE z₁)) fun _ _ x=>x) hm
theorem ZB {l r:Expr}{op:CmpOp}{pos:Pos}{Q:Bool->St->Prop}(h:EV Γ E l σ fun a σ₁=>EV Γ E r σ₁ fun b σ₂=>Cmp Γ E op a b σ₂ fun c σ₃=>Tru Γ E c σ₃ Q)(hm:behindInMarks op r=false):TS Γ E (.Compare l [op] [r] pos) σ Q:=
 fun s r=>wpAny_isTrue_Compare1 (wpAny_mono (h s r) (fun va s₁ ⟨_,_,z₁,r₁,ia,q₁⟩=>wpAny_mono (q₁ s₁ r₁) (fun vb s₂ ⟨_,_,z₂,r₂,ib,q₂⟩=>
  wpAny_mono (q₂ va vb (ia.mono z₂) ib s₂ r₂) (fun vc s₃ hz2=>by obtain ⟨_,_,z₃,r₃,ic,q₃⟩:=hz2;exact wpAny_mono (q₃ vc ic s₃ r₃) (fun _ _ p=>p.up ((z₁.trans z₂).trans z₃)) (upE ((z₁.trans z₂).trans z₃))) (upE (z₁.trans z₂))) (upE z₁)) fun _ _ x=>x) hm
theorem YD {e:Expr}{pos:Pos}{Q:Bool->St->Prop}(h:TS Γ E e σ fun b σ₁=>Q (!b) σ₁):TS Γ E (.UnaryOp .Not e pos) σ Q:=
 fun s r=>wpAny_isTrue_Not (wpAny_mono (h s r) (fun b _ hz3=>by obtain ⟨_,σ',z,r',i,q⟩:=hz3;exact ⟨!b,σ',z,r',rfl,by rw [<-show _=b from i];exact q⟩) fun _ _ x=>x)
theorem P1 {pos:Pos}{Q:Bool->St->Prop}(h:Q true σ):TS Γ E (.BoolOp .And [] pos) σ Q:=fun _ r=>wpAny_isTrue_BoolOp (wpAny_allTrue_And_nil ⟨_,σ,Zle.rfl,r,rfl,h⟩)
theorem Rx {pos:Pos}{Q:Bool->St->Prop}(h:Q false σ):TS Γ E (.BoolOp .Or [] pos) σ Q:=fun _ r=>wpAny_isTrue_BoolOp (wpAny_allTrue_Or_nil ⟨_,σ,Zle.rfl,r,rfl,h⟩)
theorem UD {x:Expr}{rest:List Expr}{pos:Pos}{Q:Bool->St->Prop}(h:TS Γ E x σ fun b σ₁=>Br b (TS Γ E (.BoolOp .And rest pos) σ₁ Q) (Q false σ₁)):TS Γ E (.BoolOp .And (x :: rest) pos) σ Q:=
 fun s r=>wpAny_isTrue_BoolOp (wpAny_allTrue_And_cons (wpAny_mono (h s r) (fun b s₁ ⟨b',σ',z,r',i,q⟩=>by
  have i:b'=b:=i;subst i
  cases b' with
  | true=>exact wpAny_mono (q.1 rfl s₁ r') (fun _ _ p=>p.up z) (upE z)
  | false=>exact ⟨_,σ',z,r',rfl,q.2 rfl⟩) fun _ _ x=>x))
theorem Jaa {x:Expr}{rest:List Expr}{pos:Pos}{Q:Bool->St->Prop}(h:TS Γ E x σ fun b σ₁=>Br b (Q true σ₁) (TS Γ E (.BoolOp .Or rest pos) σ₁ Q)):TS Γ E (.BoolOp .Or (x :: rest) pos) σ Q:=
 fun s r=>wpAny_isTrue_BoolOp (wpAny_allTrue_Or_cons (wpAny_mono (h s r) (fun b s₁ ⟨b',σ',z,r',i,q⟩=>by
  have i:b'=b:=i;subst i
  cases b' with
  | true=>exact ⟨_,σ',z,r',rfl,q.1 rfl⟩
  | false=>exact wpAny_mono (q.2 rfl s₁ r') (fun _ _ p=>p.up z) (upE z)) fun _ _ x=>x))
theorem PW {x:Expr}{pos:Pos}{Q:Bool->St->Prop}(h:TS Γ E x σ Q):TS Γ E (.BoolOp .And [x] pos) σ Q:=
 UD (Wp.mono h fun b σ₁ _ q=>⟨fun e=>P1 (e ▸ q),fun e=>e ▸ q⟩)
theorem QV {x:Expr}{pos:Pos}{Q:Bool->St->Prop}(h:TS Γ E x σ Q):TS Γ E (.BoolOp .Or [x] pos) σ Q:=
 Jaa (Wp.mono h fun b σ₁ _ q=>⟨fun e=>e ▸ q,fun e=>Rx (e ▸ q)⟩)
theorem Zt {e:Expr}{Q:Bool->St->Prop}(h:EV Γ E e σ fun a σ₁=>Tru Γ E a σ₁ Q)
 (he:isTrue e Γ.env (eval e Γ.env)=(do let v <-eval e Γ.env;standAt e.pos;holding [v] (truthy v))):TS Γ E e σ Q:=
 fun s r=>wpAny_isTrue_value (wpAny_mono (h s r) (fun va s₁ hz4=>by obtain ⟨_,_,z₁,r₁,ia,q₁⟩:=hz4;exact wpAny_mono (q₁ va ia s₁ r₁) (fun _ _ p=>p.up z₁) (upE z₁)) fun _ _ x=>x) he
theorem Jem {test:Expr}{body orelse:List Stmt}{pos:Pos}{Q:Fl->St->Prop}(h:TS Γ E test σ fun b σ₁=>Br b (XS Γ E body σ₁ Q) (XS Γ E orelse σ₁ Q)):EX Γ E (.If test body orelse pos) σ Q:=
 fun s r=>wpAny_If (wpAny_mono (h s r) (fun b s₁ ⟨b',σ',z,r',i,q⟩=>by
  have i:b'=b:=i;subst i
  cases b' with
  | true=>exact wpAny_mono (q.1 rfl s₁ r') (fun _ _ p=>p.up z) (upE z)
  | false=>exact wpAny_mono (q.2 rfl s₁ r') (fun _ _ p=>p.up z) (upE z)) fun _ _ x=>x)
theorem TW {test body orelse:Expr}{pos:Pos}{Q:D->St->Prop}(h:TS Γ E test σ fun b σ₁=>Br b (EV Γ E body σ₁ Q) (EV Γ E orelse σ₁ Q)):EV Γ E (.IfExp test body orelse pos) σ Q:=
 fun s r=>wpAny_IfExp (wpAny_mono (h s r) (fun b s₁ ⟨b',σ',z,r',i,q⟩=>by
  have i:b'=b:=i;subst i
  cases b' with
  | true=>exact wpAny_mono (q.1 rfl s₁ r') (fun _ _ p=>p.up z) (upE z)
  | false=>exact wpAny_mono (q.2 rfl s₁ r') (fun _ _ p=>p.up z) (upE z)) fun _ _ x=>x)
theorem Xj {pos:Pos}{Q:Fl->St->Prop}(h:Q .next σ):EX Γ E (.Pass pos) σ Q:=fun _ r=>wpAny_Pass ⟨_,σ,Zle.rfl,r,.next,h⟩
theorem Ts {pos:Pos}{Q:Fl->St->Prop}(h:Q .brk σ):EX Γ E (.Break pos) σ Q:=fun _ r=>wpAny_Break ⟨_,σ,Zle.rfl,r,.brk,h⟩
theorem Og {pos:Pos}{Q:Fl->St->Prop}(h:Q .cont σ):EX Γ E (.Continue pos) σ Q:=fun _ r=>wpAny_Continue ⟨_,σ,Zle.rfl,r,.cont,h⟩
theorem Re {e:Expr}{pos:Pos}{Q:Fl->St->Prop}(h:EV Γ E e σ fun d σ₁=>Q (.ret d) σ₁):EX Γ E (.Return (some e) pos) σ Q:=
 fun s r=>wpAny_Return_some (wpAny_mono (h s r) (fun _ _ hz5=>by obtain ⟨_,σ',z,r',i,q⟩:=hz5;exact ⟨_,σ',z,r',.ret i,q⟩) fun _ _ x=>x)
theorem PP {pos:Pos}{Q:Fl->St->Prop}(h:Q (.ret .none) σ):EX Γ E (.Return none pos) σ Q:=fun _ r=>wpAny_Return_none ⟨_,σ,Zle.rfl,r,.ret .none,h⟩
theorem Y7 {x:Str}{pos' pos:Pos}{op:Operator}{value:Expr}{a:D}{Q:Fl->St->Prop}(hi:look Γ.names σ.loc x=some a)
 (h:EV Γ E value σ fun b σ₁=>Inp Γ E op a b σ₁ fun d σ₂=>∃ loc',N2 Γ.names σ₂.loc x d loc' /\ Q .next { σ₂ with loc:=loc' }):EX Γ E (.AugAssign (.Name x pos') op value pos) σ Q:=
 fun s r=>wpAny_AugAssign_Name (wpAny_mono (Mb (Q:=fun d σ'=>d=a /\ σ'=σ) hi ⟨rfl,rfl⟩ s r) (fun va s₀ ⟨_,_,_,r₀,ia,e1,e2⟩=>by
  subst e1 e2;exact wpAny_mono (h s₀ r₀) (fun vb s₁ ⟨_,σ₁,z₁,r₁,ib,q₁⟩=>wpAny_mono (q₁ va vb (ia.mono z₁) ib s₁ r₁) (fun vd s₂ ⟨_,σ₂,z₂,r₂,id',_,U,q⟩=>
   wpAny_mono (LR (Q:=fun _ σ'=>Q .next σ') U id' q s₂ r₂) (fun _ _ hz7=>by obtain ⟨_,σ',z',r',_,q'⟩:=hz7;exact ⟨_,σ',(z₁.trans z₂).trans z',r',.next,q'⟩) (upE (z₁.trans z₂))) (upE z₁)) fun _ _ x=>x) fun _ _ x=>x)
end
end Mine
end
noncomputable section
open PySem PySem.W PyProof.Rows PySem.Calls
namespace Mine
noncomputable def Zdel (Z:Zs)(L:Addr):Zs:=⟨fun a=>if a=L then none else Z.m a,Z.ad⟩
noncomputable def Zadd (Z:Zs)(L:Addr)(o:Obj)(l:List Addr):Zs:=⟨fun a=>if a=L then some o else Z.m a,Z.ad++l⟩
theorem J9 {Z:Zs}{L a:Addr}(h:a ≠ L):(Zdel Z L).m a=Z.m a:=if_neg h
theorem JV {Z:Zs}{L a:Addr}{o:Obj}{l:List Addr}(h:a ≠ L):(Zadd Z L o l).m a=Z.m a:=if_neg h
theorem JX {Z:Zs}{L:Addr}{o:Obj}{l:List Addr}:(Zadd Z L o l).m L=some o:=if_pos rfl
theorem KR {Z:Zs}{L:Addr}:(Zdel Z L).m L=none:=if_pos rfl
noncomputable def NoSeq (Z:Zs)(L:Addr):Prop:=∀ o items n,Z.m L=some o->o.data ≠ .seq items n
noncomputable def Zsq (Z Z':Zs):Prop:=∀ a o,Z.m a=Option.some o->Z'.m a=Option.some o \/ ∀ items n,o.data ≠ Data.seq items n
theorem Is.del {Z Z':Zs}(n:Zsq Z Z')(e:Z'.ad=Z.ad){d:D}{v:Value}(h:Is Z d v):Is Z' d v:=
 Is.rec (motive_1:=fun d v _=>Is Z' d v) (motive_2:=fun ds vs _=>IsL Z' ds vs) .none .bool .int .str (fun h=>.ref (e ▸ h)) .val .bi .any (fun h _ ih=>.tup ((n _ _ h).resolve_right fun q=>q _ _ rfl) ih) .nil (fun _ _ a b=>.cons a b) h
theorem IsL.del {Z Z':Zs}(n:Zsq Z Z')(e:Z'.ad=Z.ad){ds:LD}{vs:List Value}(h:IsL Z ds vs):IsL Z' ds vs:=h.ind (P:=IsL Z') .nil fun a _ c=>.cons (a.del n e) c
theorem Jy.del {Z Z':Zs}(n:Zsq Z Z')(e:Z'.ad=Z.ad){d:Option D}{v:Option Value}:Jy Z d v->Jy Z' d v
 | .none=>.none
 | .some h=>.some (h.del n e)
theorem IsO.del {Z Z':Zs}(n:Zsq Z Z')(e:Z'.ad=Z.ad){d:OD}{o:Obj}(h:IsO Z d o):IsO Z' d o:=by
 cases d with
 | inst=>exact h.imp id fun h=>h.imp (fun h=>h.imp fun _ h=>h.imp (fun x=>e ▸ x) id) id
 | ns=>exact h.imp id fun h=>h.imp id fun h=>h.imp fun _ h=>h.imp fun _ h=>h.imp id fun h=>h.imp (fun h=>⟨h.1,fun x=>(h.2 x).del n e⟩) id
 | cell=>exact Exists.imp (fun _ h=>h.imp id (Jy.del n e)) h
 | _=>exact Exists.imp (fun _ h=>Exists.imp (fun _ h=>h.imp id (IsL.del n e)) h) h
theorem NoSeq.del {Z:Zs}{L:Addr}(n:NoSeq Z L):Zsq Z (Zdel Z L):=fun a o h=>by
 by_cases e:a=L
 · subst e;exact .inr fun items k=>n o items k h
 · exact .inl ((J9 e).trans h)
section
variable {Γ:Cx}{σ:St}{s:Shared}
theorem Rel.funFrames (r:Rel Γ σ s):s.heap.FunFrames Γ.base Γ.frames:=by
 have:∀ l:List Env,(∀ e ∈ l,e ∈ Γ.frames)->s.heap.FunFrames Γ.base l:=by
  intro l
  induction l with
  | nil=>intro _;trivial
  | cons e l ih=>
   intro h;refine E02 (r.fr e (h e (.head _))) fun h1 hq13=>?_;refine E12 hq13 fun F h2 h3=>?_;refine ⟨h1,?_,ih fun x hx=>h x (.tail _ hx)⟩;rcases h3 with rfl | ⟨o,h3,h4⟩
   · refine E33 (r.loc) fun o es ep ho hd _=>?_;exact ⟨_,o,h2,r.locNew.1,ho,fun vs q=>by rw [hd] at q;injection q⟩
   · refine E02 (r.zs _ _ h3) fun hq12=>?_;refine E12 hq12 fun sl h5 _=>?_;intro h6;exact ⟨_,_,h2,h6,h5,fun vs q=>by refine E21 h4 fun es ep hd=>?_;rw [show _=_ from q] at hd;injection hd⟩
 exact this _ fun _ h=>h
theorem Rel.frameAddr (r:Rel Γ σ s){b:Addr}(hb:b ∈ Γ.frames.filterMap (·.frame)):b=Γ.env.locals \/ ∃ o,σ.Z.m b=some o:=by
 refine E12 (List.mem_filterMap.mp hb) fun e he hf=>?_;refine E02 (r.fr e he) fun _ hq11=>?_;refine E12 hq11 fun F h2 h3=>?_;rw [h2] at hf;obtain rfl:=Option.some.inj hf;exact h3.imp id fun ⟨o,h,_⟩=>⟨o,h⟩
theorem Off.noFrame {a:Addr}(r:Rel Γ σ s)(x:Off Γ σ a):a ∉ Γ.frames.filterMap (·.frame):=fun h=>by
 rcases r.frameAddr h with q | ⟨o,q⟩
 · exact x.loc q
 · rw [x.z] at q;injection q
theorem Rel.slots (r:Rel Γ σ s){h':Heap}(hs:Heap.SlotsOnly (Γ.frames.filterMap (·.frame)) s.heap h'):Rel Γ σ { s with heap:=h' }:=by
 have nf:∀ b,(∃ o,Γ.base.get? b=some o)->b ∉ Γ.frames.filterMap (·.frame):=fun b ⟨o,e⟩ h=>by
  rcases r.frameAddr h with q | ⟨o',q⟩
  · rw [q,r.locNew.1] at e;injection e
  · rw [(r.zs _ _ q).2] at e;injection e
 refine ⟨r.ok,fun b o e=>(hs.2.1 b (nf b ⟨o,e⟩)).trans (r.base b o e),fun a o e=>?_,?_,r.locNew,fun p hp=>?_,r.adl,r.nodup,r.fr,r.gens,r.os⟩
 · refine E02 (r.zs a o e) fun hq10=>?_;refine E12 hq10 fun sl h hsl=>?_;intro b
   by_cases hf:a ∈ Γ.frames.filterMap (·.frame)
   · refine E11 (hs.2.2 _ _ h) fun sl' h'=>?_;refine ⟨⟨sl',h',fun hv=>?_⟩,b⟩;refine E12 (List.mem_filterMap.mp hf) fun e' he' hf'=>?_;refine E02 (r.fr e' he') fun _ hq9=>?_;refine E12 hq9 fun F h2 h3=>?_;rw [h2] at hf';obtain rfl:=Option.some.inj hf';rcases h3 with rfl | ⟨o',h3,es,ep,h4⟩
     · rw [r.locNew.2] at e;injection e
     · rw [e] at h3;obtain rfl:=Option.some.inj h3;exact absurd h4 (hv es ep)
   · exact ⟨⟨sl,(hs.2.1 a hf).trans h,hsl⟩,b⟩
 · refine E33 (r.loc) fun o es ep h hd hn=>?_;refine E11 (hs.2.2 _ _ h) fun sl' h'=>?_;exact ⟨_,es,ep,h',hd,hn⟩
 · refine E04 (r.led p hp) fun hq8=>?_;refine E12 hq8 fun o h i=>?_;intro b c d;refine ⟨⟨o,(hs.2.1 _ fun q=>?_).trans h,i⟩,b,c,d⟩;rcases r.frameAddr q with q | ⟨o',q⟩
   · exact d q
   · rw [c] at q;injection q
theorem Off.temp {a:Addr}(x:Off Γ σ a)(r:Rel Γ σ s){h':Heap}(hs:Heap.SameBut a s.heap h'):Rel Γ σ { s with heap:=h' }:=r.temp x hs _
structure T8 (Γ:Cx)(σ:St)(h:Heap)(e:Addr)(cls:String):Prop where
 off:Off Γ σ e
 there:∃ oe vs,h.get? e=some oe /\ oe.cls=.type cls /\ oe.data=.fields vs /\ 2 <= vs.size /\
  ∃ T oT ts,vs[1]?=some (.ref T) /\ T ≠ e /\ h.get? T=some oT /\ oT.data=.fields ts /\ 4 <= ts.size /\ Off Γ σ T
theorem T8.at {h:Heap}{e:Addr}{cls:String}(x:T8 Γ σ h e cls):Ub Γ σ h e cls:=⟨x.off,let ⟨oe,vs,a,b,c,d,y⟩:=x.there;⟨oe,vs,a,b,c,d,.inr y⟩⟩
theorem Om {M:Model}{A:Around}{E:Value->Shared->Prop}{s:Shared}{base:Heap}{env fe:Env}{outer:List Env}{F:Addr}{Q:Value->Shared->Prop}(hfr:A.frames=some (fe :: outer))(hl:s.heap.FunFrames base (fe :: outer))
 (hf:fe.frame=some F) (he:env.frame=some F) (h:∀ h',Heap.SlotsOnly ((fe :: outer).filterMap (·.frame)) s.heap h'->Q (.ref F) { s with heap:=h' }):wpAny M A (PySem.frameOf env) Q E s:=by
 unfold PySem.frameOf;refine wpAny_bind (wpAny_frameEnvs hfr ?_);have hdw:((fe :: outer).dropWhile fun x=>x.frame != env.frame)=fe :: outer:=by simp [List.dropWhile,hf,he]
 rw [hdw];unfold frameObject;refine wpAny_bind (wpAny_bind (wpAny_readyFrames_fun hl fun h₁ hs₁=>wpAny_pure ?_));rw [hf];exact wpAny_pure (h h₁ hs₁)
theorem NI {M:Model}{A:Around}{E:Value->Shared->Prop}{a:Addr}{cls:String}{oe:Obj}{vs:Array Value}{head:Value}{hadNext:Bool}{F:Addr}{Q:Unit->Shared->Prop}(hA:A.frames=some Γ.frames)(r:Rel Γ σ s)(hF:Γ.env.frame=some F)
 (off:Off Γ σ a) (he:s.heap.get? a=some oe) (hc:oe.cls=.type cls) (hd:oe.data=.fields vs) (hsz:2 <= vs.size)
 (h:∀ h',Rel Γ σ { s with heap:=h' }->T8 Γ σ h' a cls->Q () { s with heap:=h' }) :
 wpAny M A (do let f <-PySem.frameOf Γ.env;let pl <-entryPlaceOf F hadNext;let b <-EntryCells.newEntry head f .none (rawInt F) .none pl;setField (.ref a) 1 b) Q E s:=by
 refine E33 (r.ok.top) fun fe outer F' hfr hf1 hf2=>?_;rw [hF] at hf2;obtain rfl:=Option.some.inj hf2;have hl:=r.funFrames;rw [hfr] at hl hA;refine wpAny_bind (Om hA hl hf1 hF fun h₁ hs₁=>?_);rw [<-hfr] at hs₁;have r₁:=r.slots hs₁;refine wpAny_bind (wpAny_entryPlaceOf fun pl hpl=>?_);unfold EntryCells.newEntry newFields;refine wpAny_bind (wpAny_newObj_type ?_ (hpl.sizeOk5 _ _ _ _ _));have he₁:h₁.get? a=some oe:=(hs₁.2.1 a (off.noFrame r)).trans he;have oT:=Off.fresh r₁;have r₂:=r₁.push { cls:=.type "traceback",dict:=none,data:=.fields ([head,.ref F,.none,rawInt F,.none]++(if pl.isEmpty then List.replicate 6 Value.none else pl)).toArray } s.toks
 have he₂:=Heap.get?_push_of_some (h:=h₁) { cls:=.type "traceback",dict:=none,data:=.fields ([head,.ref F,.none,rawInt F,.none]++(if pl.isEmpty then List.replicate 6 Value.none else pl)).toArray } he₁
 refine wpAny_setField he₂ hd (by lia) ?_
 have hTe:h₁.objs.size ≠ a:=Nat.ne_of_gt (Heap.lt_size he₁);have hd₃:=Obj.data_mapFields hd (·.setIfInBounds 1 (Value.ref h₁.objs.size));refine h _ (off.temp r₂ (Heap.SameBut.update ..)) ⟨off,_,_,Heap.get?_update_self _ he₂ (Obj.isFreed_of_fields hd₃),(Obj.cls_mapFields _ _).trans hc,hd₃,by simp [hsz],h₁.objs.size,_,_,by rw [Array.getElem?_setIfInBounds_self_of_lt (by lia)],hTe,(Heap.get?_update_other _ _ (Ne.symm hTe)).trans (Heap.get?_push_size _ rfl),rfl,by simp,oT⟩
theorem K1 {M:Model}{A:Around}{E:Value->Shared->Prop}{a:Addr}{cls:String}{Q:Unit->Shared->Prop}(hA:A.frames=some Γ.frames)(r:Rel Γ σ s)(x:Ub Γ σ s.heap a cls)
 (h:∀ h',Rel Γ σ { s with heap:=h' }->T8 Γ σ h' a cls->Q () { s with heap:=h' }):wpAny M A (noteFrame (.ref a) Γ.env) Q E s:=by
 obtain ⟨off,oe,vs,he,hc,hd,hsz,hT⟩:=x;refine E33 (r.ok.top) fun fe outer F hfr hf1 hF=>?_;unfold noteFrame;simp only [hF];rcases hT with h1 | ⟨T,oT,ts,h1,hTe,hT,hdT,h4,offT⟩
 · refine wpAny_bind (wpAny_field he hd h1 ?_);rw [if_neg (by decide)]
   exact NI hA r hF off he hc hd hsz h
 · refine wpAny_bind (wpAny_field he hd h1 ?_);rw [if_pos (show (Value.ref T != Value.none)=true from by simp)]
   obtain ⟨x3,h3⟩:∃ x3,ts[3]?=some x3:=⟨_,Array.getElem?_eq_getElem (by lia)⟩
   refine wpAny_bind (wpAny_field hT hdT h3 ?_)
   split
   · exact wpAny_pure (h _ r ⟨off,oe,vs,he,hc,hd,hsz,T,oT,ts,h1,hTe,hT,hdT,h4,offT⟩)
   · refine wpAny_bind (wpAny_setField hT hdT (by lia) ?_)
     have r₁:=offT.temp r (Heap.SameBut.update (a:=T) (f:=Obj.mapFields (·.setIfInBounds 3 Value.none)) ..);exact NI hA r₁ hF off ((Heap.get?_update_other _ _ hTe).trans he) hc hd hsz fun h'=>h h'
theorem Kg {M:Model}{A:Around}{E:Value->Shared->Prop}{a:Addr}{cls:String}{f:Option Addr}{Q:Unit->Shared->Prop}(r:Rel Γ σ s)(x:T8 Γ σ s.heap a cls)
 (h:∀ h',Rel Γ σ { s with heap:=h' }->T8 Γ σ h' a cls->Q () { s with heap:=h' }):wpAny M A (setFlight (.ref a) f) Q E s:=by
 obtain ⟨off,oe,vs,he,hc,hd,hsz,T,oT,ts,h1,hTe,hT,hdT,h4,offT⟩:=x;unfold setFlight;refine wpAny_bind (wpAny_field he hd h1 ?_);rw [if_pos (show (Value.ref T != Value.none)=true from by simp)]
 refine wpAny_setField hT hdT (by lia) (h _ (offT.temp r (Heap.SameBut.update ..)) ?_)
 exact ⟨off,oe,vs,(Heap.get?_update_other _ _ hTe).trans he,hc,hd,hsz,T,_,_,h1,hTe,Heap.get?_update_self _ hT (Obj.isFreed_of_fields (Obj.data_mapFields hdT _)),Obj.data_mapFields hdT _,by simp [h4],offT⟩
theorem PN {M:Model}{A:Around}{E:Value->Shared->Prop}{a:Addr}{cls:String}{Q:Unit->Shared->Prop}(hA:A.frames=some Γ.frames)(r:Rel Γ σ s)(x:Ub Γ σ s.heap a cls)
 (h:∀ h',Rel Γ σ { s with heap:=h' }->T8 Γ σ h' a cls->Q () { s with heap:=h' }):wpAny M A (leaving Γ.env (.ref a)) Q E s:=by
 unfold leaving;exact wpAny_bind (K1 hA r x fun h₁ r₁ x₁=>Kg r₁ x₁ fun h₂ r₂ x₂=>h h₂ r₂ x₂)
theorem Qu {M:Model}{A:Around}{E:Value->Shared->Prop}{a:Addr}{cls:String}(r:Rel Γ σ s)(x:T8 Γ σ s.heap a cls)
 (h:∀ h',Rel Γ σ { s with heap:=h' }->T8 Γ σ h' a cls->E (.ref a) { s with heap:=h' }):cameBackBy M A Γ.env E (.ref a) s:=by
 have x':=x;obtain ⟨off,oe,vs,he,hc,hd,hsz,T,oT,ts,h1,hTe,hT,hdT,h4,offT⟩:=x;unfold cameBackBy;refine wpAny_bind (wpAny_field he hd h1 ?_);rw [if_neg (show ¬ (Value.ref T == Value.none)=true from by simp)]
 exact Kg r x' h
end
structure O8 (K:Frag)(f:Addr)(fd:FuncData)(body:List Stmt)(names:List Str):Prop where
 look:∃ o,K.lookup f=some o /\ o.data=.func fd
 body:fd.body=.stmts body
 code:codeIn K fd.code fd.qualname=true
 locs:(names.all fun x=>fd.scope.names.lookup x == some .local && !(x == ("__debug__" : Str)))=true
 cell:(fd.scope.names.all fun x=>x.2 != .cell)=true
 nd:names.Nodup
 kind:fd.scope.kind=.function
 nco:fd.scope.isCoroutine=false
 ngen:fd.scope.isGenerator=false
 glo:fd.globals=mainGlobals
 blt:fd.builtins=builtinsNs
theorem O8.loc {K:Frag}{f:Addr}{fd:FuncData}{body:List Stmt}{names:List Str}(F:O8 K f fd body names){x:Str}(h:x ∈ names):fd.scope.names.lookup x=some .local:=beq_iff_eq.mp (Bool.and_eq_true_iff.mp (List.all_eq_true.mp F.locs x h)).1
theorem O8.dbg {K:Frag}{f:Addr}{fd:FuncData}{body:List Stmt}{names:List Str}(F:O8 K f fd body names){x:Str}(h:x ∈ names):(x == ("__debug__" : Str))=false:=by
 have:=(Bool.and_eq_true_iff.mp (List.all_eq_true.mp F.locs x h)).2
 simpa using this
theorem O8.noCell {K:Frag}{f:Addr}{fd:FuncData}{body:List Stmt}{names:List Str}(F:O8 K f fd body names)(x:Str × NameKind)(h:x ∈ fd.scope.names):x.2 ≠ .cell:=bne_iff_ne.mp (List.all_eq_true.mp F.cell x h)
noncomputable def Binds (K:Frag)(fd:FuncData)(args:LD)(kws:List (Str × D))(ps:List Str)(ds:LD):Prop:=
 ∀ Z s vs ks,K.In s.heap->IsL Z args vs->IsL Z (kws.map (·.2)) (ks.map (·.2))->ks.map (·.1)=kws.map (·.1) ->
  ∃ bs:List Value,BindsTo s fd ⟨vs,ks⟩ (ps.zip bs) /\ ps.length=bs.length /\ IsL Z ds bs
noncomputable def Fl.val:Fl->D
 | .ret d=>d
 | _=>.none
theorem K3:∀ {ps:List Str} {bs:List Value},ps.Nodup->∀ x,(ps.zip bs).reverse.lookup x=(ps.zip bs).lookup x:=by
 intro ps
 induction ps with
 | nil=>intro bs _ x;simp
 | cons p ps ih=>
  intro bs hn x
  cases bs with
  | nil=>simp
  | cons b bs=>
   have hn':=List.nodup_cons.mp hn;simp only [List.zip_cons_cons,List.reverse_cons,List.lookup_append,ih hn'.2]
   by_cases e:x=p
   · subst e;have:(ps.zip bs).lookup x=none:=by
      rw [List.lookup_eq_none_iff];intro q hq;have:=(List.of_mem_zip hq).1;simp only [bne_iff_ne,ne_eq];intro h;exact hn'.1 (h ▸ this)
     simp [this,List.lookup]
   · have:(x == p)=false:=by simpa using e
     simp only [List.lookup,this];cases (ps.zip bs).lookup x <;> rfl
theorem MM {Z:Zs}:∀ {ps:List Str} {ds:LD} {bs:List Value} {rest:List Str} (x:Str),ps.length=bs.length->IsL Z ds bs->Jy Z (look (ps++rest) (ds.map some++rest.map fun _=>none) x) ((ps.zip bs).lookup x):=by
 intro ps
 induction ps with
 | nil=>
  intro ds bs rest x hl hi
  cases bs with
  | cons=>simp at hl
  | nil=>
   cases hi;simp only [List.nil_append,List.map_nil,List.zip_nil_left,List.lookup]
   induction rest with
   | nil=>exact .none
   | cons r rest ih=>simp only [List.map_cons,Mine.look];split;exact .none;exact ih
 | cons p ps ih=>
  intro ds bs rest x hl hi
  cases hi with
  | nil=>simp at hl
  | cons h hr=>
   simp only [List.cons_append,List.map_cons,List.zip_cons_cons,Mine.look,List.lookup]
   by_cases e:x=p
   · have:(x == p)=true:=by simpa using e
     rw [if_pos e,this];exact .some h
   · have:(x == p)=false:=by simpa using e
     rw [if_neg e,this];exact ih x (by simpa using hl) hr
abbrev Cx.enter (Γ:Cx)(env:Env)(names:List Str):Cx:=
 { Γ with A:=Γ.A.deeper env,env:=env,names:=names,frames:=env :: Γ.frames,room:=Γ.room - 1 }
structure Qy (env:Env)(names:List Str):Prop where
 kind:env.scope.kind=.function
 nd:names.Nodup
 locs:∀ x ∈ names,env.kindOf x=some .local
 dbg:∀ x ∈ names,(x == ("__debug__" : Str))=false
 glo:env.globals=mainGlobals
 blt:env.builtins=builtinsNs
theorem Mp {α β:Type}:∀ l:List (α × β),(l.map (·.1)).zip (l.map (·.2))=l
 | []=>rfl
 | p :: l=>by simp only [List.map_cons,List.zip_cons_cons,Mp l]
theorem NQ {Γ:Cx}{E:String->St->Prop}{σ:St}{env:Env}{names:List Str}{nl:List (Addr × OD)}{loc:List (Option D)}{body:List Stmt}{s s₁:Shared}{m:Str->Option Value}{Q:D->St->Prop}
 (r:Rel Γ σ s) (hroom:0 < Γ.room) (hE:Qy env names) (hframe:env.frame=some env.locals) (keep:∀ b o,s.heap.get? b=some o->s₁.heap.get? b=some o)
 (hL:s.heap.get? env.locals=none) (hns:s₁.heap.Ns env.locals m) (hm:∀ x,Jy σ.Z (look names loc x) (m x))
 (hnl:∀ p ∈ nl,s.heap.get? p.1=none /\ p.1 ≠ env.locals /\ ∃ o,s₁.heap.get? p.1=some o /\ IsO σ.Z p.2 o) (nd2:(nl.map (·.1)).Nodup) (hg:s₁.gens=s.gens) (ho:s₁.os=s.os)
 (h:∀ Z,Z.ad=σ.Z.ad++nl.map (·.1)->XS (Γ.enter env names) (fun cls σ'=>∀ Z',E cls ⟨σ.loc,σ'.led,Z'⟩) body ⟨loc,σ.led++nl.map (·.2),Z⟩ fun fl σ'=>∀ Z',Q fl.val ⟨σ.loc,σ'.led,Z'⟩) :
 wpAny Γ.M (Γ.A.deeper env) (execs body env) (fun f s'=>CPost Γ E σ Q (.ok (.ret (match f with | .ret v=>v | _=>.none))) s')
  (fun e s'=>wpAny Γ.M (Γ.A.deeper env) (leaving env e) (fun _ s''=>CPost Γ E σ Q (.error e) s'') (fun e' s''=>CPost Γ E σ Q (.error e') s'') s') s₁:=by
 refine E33 (r.loc) fun oL esL epL hLL hdL hNL=>?_;have fr:=Off.of_none r hL;have hZ:Zle σ.Z (Zadd σ.Z Γ.env.locals oL (nl.map (·.1))):=⟨fun a o e=>(JV fun q=>by rw [q,r.locNew.2] at e;injection e).trans e,_,rfl⟩
 have R:Rel (Γ.enter env names) ⟨loc,σ.led++nl.map (·.2),Zadd σ.Z Γ.env.locals oL (nl.map (·.1))⟩ s₁:=by
  refine ⟨⟨hE.kind,hE.nd,hE.locs,hE.dbg,hE.glo,hE.blt,?_,?_,?_,r.ok.g,r.ok.b,r.ok.nl,r.ok.bt,r.ok.K,⟨_,_,_,rfl,hframe,hframe⟩⟩,fun b o e=>keep b o (r.base b o e),fun a o e=>?_,?_,⟨fr.base,?_⟩,fun p hp=>?_,?_,?_,fun e he=>?_,hg.trans r.gens,ho.trans r.os⟩
  · show Γ.A.frames.map _=_;rw [r.ok.frames];rfl
  · show Γ.A.depth + 1 + (Γ.room - 1) < recursionLimit;have:=r.ok.depth;lia
  · show Γ.A.units + 3 + 40 * (Γ.room - 1) + 40 < cLine;have:=r.ok.units;lia
  · dsimp only at e
    by_cases q:a=Γ.env.locals
    · subst q;rw [JX] at e;obtain rfl:=Option.some.inj e;exact ⟨⟨oL.slots,keep _ _ hLL,fun _=>rfl⟩,r.locNew.1⟩
    · rw [JV q] at e;refine E02 (r.zs a o e) fun hq7=>?_;refine E12 hq7 fun sl h1 hsl=>?_;intro h2;exact ⟨⟨sl,keep _ _ h1,hsl⟩,h2⟩
  · refine E34 hns fun o es ep h1 h2 h3 h4=>?_;refine ⟨o,es,ep,h1,h2,h3,fun x=>?_⟩;rw [h4 x];exact (hm x).mono hZ
  · show (Zadd σ.Z Γ.env.locals oL _).m env.locals=none;rw [JV fr.loc];exact fr.z
  · have hp:p ∈ (σ.Z.ad++nl.map (·.1)).zip (σ.led++nl.map (·.2)):=hp;rw [List.zip_append r.adl] at hp;rcases List.mem_append.mp hp with hp | hp
    · refine E04 (r.led p hp) fun hq6=>?_;refine E12 hq6 fun o h1 h2=>?_;intro h3 h4 h5;refine ⟨⟨o,keep _ _ h1,h2.mono hZ⟩,h3,(JV h5).trans h4,fun e=>fr.led (e ▸ (List.of_mem_zip hp).1)⟩
    · have hp:p ∈ nl:=by
       have e:=Mp nl;rw [e] at hp;exact hp
      refine E03 (hnl p hp) fun h1 h2 hq5=>?_;refine E12 hq5 fun o h3 h4=>?_;have off:=Off.of_none r h1;exact ⟨⟨o,h3,h4.mono hZ⟩,off.base,(JV off.loc).trans off.z,h2⟩
  · show (σ.Z.ad++_).length=_;simp only [List.length_append,List.length_map,r.adl]
  · show (σ.Z.ad++nl.map (·.1)).Nodup;refine List.nodup_append.mpr ⟨r.nodup,nd2,fun a ha b hb q=>?_⟩;refine E12 (List.mem_map.mp hb) fun p' hp' hq4=>?_;obtain rfl:=hq4;exact (Off.of_none r (hnl p' hp').1).led (q ▸ ha)
  · rcases List.mem_cons.mp he with rfl | he
    · exact ⟨by rw [hE.kind];decide,_,hframe,.inl rfl⟩
    · refine E02 (r.fr e he) fun h1 hq3=>?_;refine E12 hq3 fun F' h2 h3=>?_;refine ⟨h1,F',h2,.inr ?_⟩;rcases h3 with rfl | ⟨o,h3,h4⟩
      · exact ⟨oL,JX,_,_,hdL⟩
      · exact ⟨o,hZ.1 _ _ h3,h4⟩
 have back:∀ (σ':St) (s':Shared),Zle (Zadd σ.Z Γ.env.locals oL (nl.map (·.1))) σ'.Z->Rel (Γ.enter env names) σ' s' ->
  NoSeq σ'.Z Γ.env.locals /\ Zle σ.Z (Zdel σ'.Z Γ.env.locals) /\ Rel Γ ⟨σ.loc,σ'.led,Zdel σ'.Z Γ.env.locals⟩ s' /\ ∀ a,Off (Γ.enter env names) σ' a->Off Γ ⟨σ.loc,σ'.led,Zdel σ'.Z Γ.env.locals⟩ a:=by
  intro σ' s' z r';have hLz:σ'.Z.m Γ.env.locals=some oL:=z.1 _ _ JX;have nsq:NoSeq σ'.Z Γ.env.locals:=fun o items n e=>by rw [hLz] at e;obtain rfl:=Option.some.inj e;rw [hdL];exact fun q=>by injection q
  have z':Zle σ.Z (Zdel σ'.Z Γ.env.locals):=⟨fun a o e=>by
   have ne:a ≠ Γ.env.locals:=fun q=>by rw [q,r.locNew.2] at e;injection e
   rw [J9 ne];exact z.1 _ _ (hZ.1 _ _ e),(hZ.trans z).2⟩
  refine ⟨nsq,z',?_,fun a x=>?_⟩
  · refine E02 (r'.zs _ _ hLz) fun hq2=>?_;refine E12 hq2 fun sl hsl _=>?_;intro _;refine ⟨r.ok,r'.base,fun a o e=>?_,⟨_,esL,epL,hsl,hdL,hNL.mono z'⟩,⟨r.locNew.1,KR⟩,fun p hp=>?_,r'.adl,r'.nodup,fun e he=>?_,r'.gens,r'.os⟩
    · dsimp only at e;have ne:a ≠ Γ.env.locals:=fun q=>by rw [q,KR] at e;injection e
      rw [J9 ne] at e;exact r'.zs a o e
    · refine E04 (r'.led p hp) fun hq1=>?_;refine E12 hq1 fun o h1 h2=>?_;intro h3 h4 h5;have ne:p.1 ≠ Γ.env.locals:=fun q=>by rw [q,hLz] at h4;injection h4
      exact ⟨⟨o,h1,h2.del nsq.del rfl⟩,h3,(J9 ne).trans h4,ne⟩
    · refine E02 (r.fr e he) fun h1 hq0=>?_;refine E12 hq0 fun F' h2 h3=>?_;exact ⟨h1,F',h2,h3.imp id fun hz0=>by refine E12 hz0 fun o h4 h5=>?_;exact ⟨o,z'.1 _ _ h4,h5⟩⟩
  · have ne:a ≠ Γ.env.locals:=fun q=>by have:=x.z;rw [q,hLz] at this;injection this
    exact ⟨x.base,(J9 ne).trans x.z,ne,x.led⟩
 refine wpAny_mono (h _ rfl _ R) (fun fl s' hq0=>?_) fun e s' hq1=>?_
 · obtain ⟨b,σ',z,r',i,q⟩:=hq0;refine E04 (back σ' s' z r') fun nsq z' R' _=>?_
   cases i with
   | next=>exact ⟨_,_,z',R',.none,q _⟩
   | brk=>exact ⟨_,_,z',R',.none,q _⟩
   | cont=>exact ⟨_,_,z',R',.none,q _⟩
   | ret i=>exact ⟨_,_,z',R',i.del nsq.del rfl,q _⟩
 · obtain ⟨a,cls,σ',he,z,r',x,q⟩:=hq1;subst he;refine PN (Γ:=Γ.enter env names) R.ok.frames r' x fun h' r₁ x₁=>?_;refine E04 (back σ' _ z r₁) fun nsq z' R' offs=>?_;obtain ⟨off,oe,vs,he,hc,hd,hsz,T,oT,ts,h1,hTe,hT,hdT,h4,offT⟩:=x₁;exact ⟨a,cls,_,rfl,z',R',⟨offs _ off,oe,vs,he,hc,hd,hsz,.inr ⟨T,oT,ts,h1,hTe,hT,hdT,h4,offs _ offT⟩⟩,q _⟩
theorem O8.env {K:Frag}{f:Addr}{fd:FuncData}{body:List Stmt}{names:List Str}(F:O8 K f fd body names)(L:Addr):Qy (callEnv fd L f) names:=
 ⟨F.kind,F.nd,fun x hx=>F.loc hx,fun x hx=>F.dbg hx,F.glo,F.blt⟩
structure RA (Γ Γ':Cx)(scope:Scope)(cells:List (Str × Addr))(names:List Str):Prop where
 K:Γ'.K=Γ.K
 names:Γ'.names=names
 room:Γ'.room=Γ.room - 1
 scope:Γ'.env.scope=scope
 handled:Γ'.A.handled=Γ.A.handled
 cells:Γ'.env.cells=cells
theorem YZ {Γ:Cx}{E:String->St->Prop}{σ:St}{f:Addr}{fd:FuncData}{body:List Stmt}{names ps rest:List Str}{args ds:LD}{kws:List (Str × D)}{Q:D->St->Prop}
 (F:O8 Γ.K f fd body names) (hb:Binds Γ.K fd args kws ps ds) (hn:names=ps++rest) (hroom:0 < Γ.room)
 (h:∀ Γ' Z,RA Γ Γ' fd.scope (callEnv fd 0 f).cells names->XS Γ' (fun cls σ'=>∀ Z',E cls ⟨σ.loc,σ'.led,Z'⟩) body ⟨ds.map some++rest.map (fun _=>none),σ.led,Z⟩ fun fl σ'=>∀ Z',Q fl.val ⟨σ.loc,σ'.led,Z'⟩) :
 CalC Γ E (.val f) args kws σ Q:=by
 intro vf vs ks s hf hvs hks hkn r;obtain rfl:=hf.inv;refine E12 (F.look) fun of hl hof=>?_;have X:=r.ok.K.keeps r.base;refine E13 (hb σ.Z s vs ks X hvs hks hkn) fun bs hB hlen hds=>?_;have nps:ps.Nodup:=by have:=F.nd;rw [hn] at this;exact (List.nodup_append.mp this).1
 have hloc:∀ x ∈ ps.zip bs,fd.scope.names.lookup x.1=some .local:=fun x hx=>F.loc (by rw [hn];exact List.mem_append_left _ (List.of_mem_zip hx).1)
 refine codeAny_call_def (body:=body) (by have:=r.ok.depth;lia) (X _ _ hl) hof (r.ok.nl.keeps r.base) (codeRec_of X F.code) F.body hB F.noCell hloc (fun h₀ hns hk=>?_) F.nco F.ngen F.kind
 refine NQ (nl:=[]) r hroom (F.env _) rfl hk (Heap.get?_none_of_le (Nat.le_refl _)) hns (fun x=>by rw [K3 nps,hn];exact MM x hlen hds) (fun _ h=>nomatch h) List.nodup_nil rfl rfl fun Z _=>?_
 rw [show σ.led++([]:List (Addr × OD)).map (·.2)=σ.led from List.append_nil _]
 exact h _ Z ⟨rfl,rfl,rfl,rfl,rfl,rfl⟩
end Mine
end
noncomputable section
open PySem PySem.W PyProof.Rows PySem.Calls
set_option backward.match.sparseCases false
namespace Mine
structure N7 (K:Frag)(C:Addr)(names:List Str):Prop where
 ga:findIn K (.ref C) "__getattribute__" = some (some (.builtin "object.__getattribute__"))
 gattr:findIn K (.ref C) "__getattr__" = some none
 sa:findIn K (.ref C) "__setattr__" = some (some (.builtin "object.__setattr__"))
 over:plainOver K C=true
 hasD:hasDictIn K C=true
 own:(names.all fun x=>(match findIn K (.ref C) x with | some attr=>noGet K attr | none=>false) && (match takerIn K C x with | some none=>true | _=>false))=true
 nd:names.Nodup
theorem N7.attr {K:Frag}{C:Addr}{names:List Str}(c:N7 K C names){x:Str}(h:x ∈ names):(∃ attr,findIn K (.ref C) x=some attr /\ noGet K attr=true) /\ takerIn K C x=some none:=by
 have:=List.all_eq_true.mp c.own x h;rw [Bool.and_eq_true] at this;refine E02 this fun a b=>?_
 constructor
 · split at a
   · exact ⟨_,by assumption,a⟩
   · injection a
 · split at b
   · assumption
   · injection b
theorem NG {Z:Zs}{names:List Str}{vals:List (Option D)}{o:Obj}{es:Array DictEntry}{ep:Nat}(hd:o.data=.dict es ep)(hn:NsIs Z names vals es)(x:Str):∃ r,lookIn x o=some r /\ Jy Z (look names vals x) r:=by
 refine ⟨nsFind es x,?_,hn.2 x⟩;unfold lookIn nsFind findBy;rw [hd];dsimp only;rw [Array.find?_toList]
 cases h:es.find? (fun e=>e.key.isStr x) with
 | some e=>rfl
 | none=>
  have:es.toList.any (·.refKey)=false:=by
   rw [List.any_eq_false];intro e he;refine E21 (hn.1 e (by simpa using he)) fun n t hk=>?_
   simp [DictEntry.refKey,hk]
  simp [this]
noncomputable def plainD:D->Bool
 | .bi _ | .any _=>false
 | _=>true
theorem UP {Z:Zs}{d:D}{v:Value}(h:Is Z d v)(hd:plainD d=true):handedIn v=true:=by
 cases h <;> first | rfl | cases hd
section
variable {Γ:Cx}{E:String->St->Prop}{σ:St}
theorem Kx {s:Shared}(r:Rel Γ σ s){x dx:Nat}{k:Kd}{vals:List (Option D)}(h1:σ.led[x]?=some (.inst k dx))(h2:σ.led[dx]?=some (.ns k vals)){v:Value}(hv:Is σ.Z (.ref x) v) :
 ∃ ax ox ad od,v=.ref ax /\ σ.Z.ad[dx]?=some ad /\ InstAt s.heap ax ox k.addr (some od) /\ ox.dict=some ad /\ s.heap.get? ad=some od /\ IsO σ.Z (.ns k vals) od:=by
 refine E25 (r.at h1) fun ax ox e1 g1 c1 hq5=>?_;refine E12 hq5 fun d e3 d1=>?_;intro p1;refine E23 (r.at h2) fun ad od e2 g2 i2=>?_;have e4:ad=d:=Option.some.inj (e2.symm.trans e3);subst e4;refine E12 (hv.inv) fun _ hq4=>?_;obtain rfl:=hq4;intro e
 ·
  rw [e1] at e;obtain rfl:=Option.some.inj e;refine ⟨ax,ox,ad,od,rfl,e2,⟨g1,c1,?_,?_⟩,d1,g2,i2⟩
  · unfold notCls;rw [p1]
  · rw [d1];exact g2
theorem Xz {x dx:Nat}{k:Kd}{vals:List (Option D)}{name:Str}{d:D}{Q:D->St->Prop}(h1:σ.led[x]?=some (.inst k dx))(h2:σ.led[dx]?=some (.ns k vals))
 (hc:N7 Γ.K k.addr k.names) (hi:look k.names vals name=some d) (hd:plainD d=true) (h:Q d σ):Att Γ E (.ref x) name σ Q:=by
 intro v hv s r;obtain ⟨ax,ox,ad,od,rfl,_,I,_,hg,_,_,es,ep,hda,hn,_,_⟩:=Kx r h1 h2 hv;refine E02 (hc.attr (KF hi)) fun hq2=>?_;refine E12 hq2 fun attr ha hno=>?_;intro hq3;obtain -:=hq3;refine E12 (NG hda hn name) fun rr hl ho=>?_;rw [hi] at ho
 cases ho with
 | some i=>exact get_value (r.ok.K.keeps r.base) I hc.ga (findObj_own hc.hasD ha hno hl) (UP i hd) ⟨d,σ,Zle.rfl,r.toks _,i,h⟩
theorem TM {o:Obj}{es:Array DictEntry}{ep:Nat}(hd:o.data=.dict es ep)(hk:StrKeys es)(name:Str)(hash:Int)(t:Tok)(v:Value) :
 ∃ es' ep',(Obj.putName name hash (.str name t) v o)={ o with data:=.dict es' ep' } /\ StrKeys es' /\ (∀ x,nsFind es' x=if x=name then some v else nsFind es x) /\
  es'.size=if (nsFind es name).isSome then es.size else es.size + 1:=by
 obtain ⟨c,dd,dt,sl⟩:=o;subst hd;have hf:(nsFind es name).isSome=(es.findIdx? (·.key.isStr name)).isSome:=by
  unfold nsFind findBy;rw [Option.isSome_map,Array.findIdx?_isSome,Bool.eq_iff_iff,Array.find?_isSome,Array.any_eq_true];simp only [Array.mem_iff_getElem];exact ⟨fun hz0=>by refine E12 hz0 fun x hq1=>?_;clear hz0;refine E11 hq1 fun i hq6=>?_;refine E11 hq6 fun h e=>?_;intro q;exact ⟨i,h,by rw [e];exact q⟩,fun hz1=>by refine E11 hz1 fun i hq0=>?_;refine E11 hq0 fun h q=>?_;exact ⟨_,⟨i,h,rfl⟩,q⟩⟩
 cases hi:es.findIdx? (·.key.isStr name) with
 | some i=>
  refine ⟨es.modify i fun e=>{ e with val:=v },ep,by simp only [Obj.putName_eq,Obj.putNameByArray,hi],hk.modify _ _,fun x=>findBy_modify (fun n v=>v.isStr n) Value.isStr_inj es name x v i hi,?_⟩
  rw [hf,hi];simp
 | none=>
  refine ⟨es.push ⟨hash,.str name t,v⟩,ep + 1,by simp only [Obj.putName_eq,Obj.putNameByArray,hi],hk.push _ _ _ _,fun x=>findBy_push (fun n v=>v.isStr n) es name x _ _ v (fun y=>?_) hi,?_⟩
  · show (name == y)=decide (y=name)
    by_cases h:y=name
    · subst h;simp
    · have:¬ name=y:=fun e=>h e.symm;simp [h,this]
  · rw [hf,hi];simp
theorem Ul {x dx:Nat}{k:Kd}{vals vals':List (Option D)}{name:Str}{d:D}{Q:Unit->St->Prop}(h1:σ.led[x]?=some (.inst k dx))(h2:σ.led[dx]?=some (.ns k vals))(hc:N7 Γ.K k.addr k.names)(hu:N2 k.names vals name d vals')
 (h:Q () { σ with led:=σ.led.set dx (.ns k vals') }):SetA Γ E (.ref x) name d σ Q:=by
 intro va vb hva hvb s r;obtain ⟨ax,ox,ad,od,rfl,hdx',I,hdx,hg,hnd,hcd,es,ep,hda,hn,hsz,hlen⟩:=Kx r h1 h2 hva;have X:=r.ok.K.keeps r.base;refine set_plain X I hc.sa (osa_open (s:={ s with toks:=s.toks + 1 }) X I hc.over (hc.attr hu.mem).2 fun b=>?_)
 refine E12 (any_some hc.hasD) fun cd hcl hhd=>?_;refine E24 (TM hda hn.1 name (PyData.keyHash Γ.w.params name) (s.toks + 1) vb) fun es' ep' hput hk' hf' hsz'=>?_;obtain ⟨hx,hcls,hno,-⟩:=I;obtain ⟨c0,d0,dt0,sl0⟩:=ox;dsimp only at hcls hdx;subst hcls hdx;have hfree:(Obj.putName name (PyData.keyHash Γ.w.params name) (.str name (s.toks + 1)) vb od).isFreed=false:=by rw [hput];exact Obj.isFreed_of_dict rfl
 have hget:(s.heap.update ad (Obj.putName name (PyData.keyHash Γ.w.params name) (.str name (s.toks + 1)) vb)).get? ad=some { od with data:=.dict es' ep' }:=by
  rw [<-hput];exact Heap.get?_update_self _ hg hfree
 have hlook:(look k.names vals name).isSome=(nsFind es name).isSome:=by
  have q:=hn.2 name;generalize look k.names vals name=a at q ⊢;generalize nsFind es name=b at q ⊢;cases q <;> rfl
 have hbound:es'.size <= cnt vals':=by
  rw [hsz',hu.cnt,hlook]
  split <;> lia
 have hl2:=hu.len;refine wpAny_bind (wpAny_pure (wpAny_bind (wpAny_bind (wpAny_loadPart hx (wpAny_bind (looks_clsIn X hcl _ _ _ _ (fun _ _ e=>e) ?_))))));rw [hhd];refine wpAny_pure (a:=some ad) (wpAny_bind (wpAny_pure (wpAny_bind ?_)));unfold nsSet;refine wpAny_bind (wpAny_bind (wpAny_askSetting (wpAny_pure (wpAny_bind (wpAny_mkText (wpAny_bind (wpAny_loadPart hg ?_)))))));rw [hda];dsimp only;have hany:es.any (·.refKey)=false:=by
  rw [Array.any_eq_false'];intro e he;refine E21 (hn.1 e he) fun n t h=>?_;simp [DictEntry.refKey,h]
 rw [aRefKeyMayBeTheName_at,hany,Bool.and_false];refine wpAny_updatePart hg ?_;refine wpAny_bind (wpAny_lookBehind hget ?_ ?_)
 · refine pastItsLine_dict ?_;have:=RY vals';rw [sizeLine_eq];lia
 · have hns:IsO σ.Z (.ns k vals') { od with data:=.dict es' ep' }:=⟨hnd,hcd,es',ep',rfl,⟨hk',fun y=>?_⟩,hbound,by lia⟩
   · exact wpAny_pure ⟨(),{ σ with led:=σ.led.set dx (.ns k vals') },Zle.rfl,r.put hdx' hget hns (Heap.SameBut.update ..) _,rfl,h⟩
   rw [hf' y,hu.look y]
   by_cases e:y=name
   · rw [if_pos e,if_pos e];exact .some hvb
   · rw [if_neg e,if_neg e];exact hn.2 y
end
end Mine
end
noncomputable section
open PySem PySem.W PyProof.Rows PySem.Calls
namespace Mine
noncomputable def EVs (Γ:Cx)(E:String->St->Prop):List Expr->St->(LD->St->Prop)->Prop
 | [],σ,Q=>Q [] σ
 | e :: es,σ,Q=>EV Γ E e σ fun d σ₁=>EVs Γ E es σ₁ fun ds σ₂=>Q (d :: ds) σ₂
noncomputable def noStar:List Expr->Bool
 | []=>true
 | .Starred .. :: _=>false
 | _ :: r=>noStar r
theorem LT {env:Env}:∀ {l:List Expr},noStar l=true->starEach l env=l.map fun e=>(false,eval e env)
 | [],_=>rfl
 | e :: r,h=>by
  cases e <;> first | (cases h;done) | exact congrArg (_ :: ·) (LT (l:=r) h)
theorem JN {env:Env}{pos:Pos}{l:List Expr}(h:noStar l=true):backTo pos (starEach l env)=l.map fun e=>(false,eval e env):=by
 rw [LT h];unfold backTo;simp
section
variable {Γ:Cx}{E:String->St->Prop}{σ:St}
theorem MJ {e:Expr}{es:List Expr}{Q:LD->St->Prop}(h:EV Γ E e σ fun d σ₁=>EVs Γ E es σ₁ fun ds σ₂=>Q (d :: ds) σ₂):EVs Γ E (e :: es) σ Q:=h
theorem EVs.mono:∀ {l:List Expr} {σ:St} {Q Q':LD->St->Prop},EVs Γ E l σ Q->(∀ ds σ',Q ds σ'->Q' ds σ')->EVs Γ E l σ Q'
 | [],_,_,_,h,hq=>hq _ _ h
 | _ :: _,_,_,_,h,hq=>Wp.mono h fun _ _ _ q=>EVs.mono q fun _ _ q=>hq _ _ q
theorem JF:∀ {l:List Expr} {σ:St} {Q:LD->St->Prop},EVs Γ E l σ Q->Wp Γ E (spliced (l.map fun e=>(false,eval e Γ.env))) IsL σ Q
 | [],_,_,h=>Wp.pure .nil h
 | e :: es,σ,Q,h=>by
  refine Wp.bind (Wp.mono h fun d σ₁ _ q v i=>?_);refine fun s r=>wpAny_bind (wpAny_pure (wpAny_bind (wpAny_holding (wpAny_mono (JF q s r) (fun vs s' hq0=>?_) fun _ _ x=>x))));obtain ⟨ds,σ',z,r',i',q'⟩:=hq0;exact wpAny_pure ⟨d :: ds,σ',z,r',.cons (i.mono z) i',q'⟩
noncomputable def KeepOk (K:Frag)(v:Value):Prop:=∀ (M:Model) (h:Heap),K.In h->∃ k,Looks M h (keeperOf v) k
theorem JQ {K:Frag}{id:String}:KeepOk K (.builtin id):=fun _ _ _=>⟨.machine,Looks.of_pure rfl⟩
theorem Rs {K:Frag}{id:String}:KeepOk K (.type id):=fun _ _ _=>⟨.machine,Looks.of_pure rfl⟩
theorem OP {K:Frag}{a:Addr}(h:keepIn K (.ref a)=true):KeepOk K (.ref a):=fun _ _ X=>let ⟨k,_,l⟩:=looks_keep h X;⟨k,l⟩
theorem Lz {M:Model}{A:Around}{E:Value->Shared->Prop}{s:Shared}{f:Value}{vs:List Value}{ks:List (Str × Value)}{n:Nat}{first:List Value}{Q:Value->Shared->Prop}{k:Keeper}(hk:Looks M s.heap (keeperOf f) k)
 (h:wpAny M A (call f (first++vs) ks) Q E s) (ops:List Value) :
 wpAny M A (do
  let r <-match <-keeperOf f,false with
   | .frame,true=>callMarked starredCall f (first++vs) ks
   | .frame,false=>if n > 30 then call f (first++vs) ks else callMarked plainCall f (first++vs) ks
   | .boundFrame,false=>if n > 30 then call f (first++vs) ks else callMarked callOfAMethodObject f (first++vs) ks
   | .machine,false=>call f (first++vs) ks
   | _,_=>operate ops (call f (first++vs) ks)
  holding [r] point
  pure r) Q E s:=by
 refine wpAny_bind (hk.here ?_);have fin:∀ {t:Sem Value},wpAny M A t Q E s->wpAny M A (do let r <-t;holding [r] point;pure r) Q E s:=fun h=>wpAny_bind (wpAny_mono h (fun v s' q=>wpAny_bind (wpAny_holding (wpAny_point (wpAny_pure q)))) fun _ _ x=>x)
 cases k with
 | frame=>
  show wpAny M A (if n > 30 then (do let r <-call f (first++vs) ks;holding [r] point;pure r) else (do let r <-callMarked plainCall f (first++vs) ks;holding [r] point;pure r)) Q E s
  split
  · exact fin h
  · exact fin (wpAny_keep h)
 | boundFrame=>
  show wpAny M A (if n > 30 then (do let r <-call f (first++vs) ks;holding [r] point;pure r) else (do let r <-callMarked callOfAMethodObject f (first++vs) ks;holding [r] point;pure r)) Q E s
  split
  · exact fin h
  · exact fin (wpAny_keep h)
 | machine=>exact fin h
 | caller=>exact fin (wpAny_operating h)
theorem Ko {M:Model}{A:Around}{E:Value->Shared->Prop}{s:Shared}{env:Env}{f:Value}{l:List Expr}{kw:List (Option Str × Sem Value)}{Q:Args->Shared->Prop}(hall:kw.all (·.1.isSome)=true)
 (h:wpAny M A (spliced (l.map fun e=>(false,eval e env))) (fun vs s₁=>wpAny M A (evalAll (kw.map (·.2))) (fun ks s₂=>Q ⟨vs,(kw.filterMap (·.1)).zip ks⟩ s₂) E s₁) E s) :
 wpAny M A (evalArgs f true (l.map fun e=>(false,eval e env)) kw) Q E s:=by
 cases l with
 | nil=>exact evalArgs_kw_nil hall (by
  have h:wpAny M A (pure []) (fun vs s₁=>wpAny M A (evalAll (kw.map (·.2))) (fun ks s₂=>Q ⟨vs,(kw.filterMap (·.1)).zip ks⟩ s₂) E s₁) E s:=h;exact fun Γ p hΓ=>h Γ p hΓ Γ p hΓ)
 | cons e r=>exact evalArgs_kw hall h
theorem LU {pos:Pos}{vf:Value}{vfirst:List Value}{f:D}{first:LD}{args:List Expr}{Q:D->St->Prop}(hf:Is σ.Z f vf)(hfi:IsL σ.Z first vfirst)(hk:KeepOk Γ.K vf)
 (h:EVs Γ E args σ fun ds σ₁=>Cal Γ E f (first++ds) [] σ₁ Q):Wp Γ E (callWith pos vf vfirst (args.map fun e=>(false,eval e Γ.env)) []) Is σ Q:=by
 intro s r;unfold callWith;refine wpAny_bind (wpAny_holding (Ko rfl (wpAny_mono (JF h s r) (fun vs s₁ hq1=>?_) fun _ _ x=>x)));obtain ⟨ds,σ₁,z,r₁,i,q⟩:=hq1;refine wpAny_evalAll_nil ?_;refine wpAny_bind (wpAny_standAt ?_);have hst:((args.map fun e=>(false,eval e Γ.env)).any (·.1) || ([]:List (Option Str × Sem Value)).any (·.1.isNone))=false:=by simp
 rw [hst];refine E11 (hk Γ.M s₁.heap (r₁.ok.K.keeps r₁.base)) fun k lk=>?_;exact Lz lk (wpAny_mono (q vf (vfirst++vs) [] (hf.mono z) ((hfi.mono z).append i) .nil rfl s₁ r₁) (fun _ _ p=>p.up z) (upE z)) _
theorem N1 {pos:Pos}{vf:Value}{vfirst:List Value}{f:D}{first:LD}{args:List Expr}{n:Str}{e:Expr}{kp:Pos}{Q:D->St->Prop}(hf:Is σ.Z f vf)(hfi:IsL σ.Z first vfirst)(hk:KeepOk Γ.K vf)
 (h:EVs Γ E args σ fun ds σ₁=>EV Γ E e σ₁ fun d σ₂=>Cal Γ E f (first++ds) [(n,d)] σ₂ Q):Wp Γ E (callWith pos vf vfirst (args.map fun e=>(false,eval e Γ.env)) [(some n,do let v <-eval e Γ.env;standAt kp;pure v)]) Is σ Q:=by
 intro s r;unfold callWith;refine wpAny_bind (wpAny_holding (Ko rfl (wpAny_mono (JF h s r) (fun vs s₁ hq2=>?_) fun _ _ x=>x)));obtain ⟨ds,σ₁,z,r₁,i,q⟩:=hq2;refine wpAny_evalAll_cons (wpAny_bind (wpAny_mono (q s₁ r₁) (fun vd s₂ hq3=>wpAny_bind (wpAny_standAt (wpAny_pure ?_))) (upE z)));obtain ⟨d,σ₂,z₂,r₂,i₂,q₂⟩:=hq3;refine wpAny_evalAll_nil ?_;refine wpAny_bind (wpAny_standAt ?_);have hst:((args.map fun e=>(false,eval e Γ.env)).any (·.1) || ([(some n,do let v <-eval e Γ.env;standAt kp;pure v)]:List (Option Str × Sem Value)).any (·.1.isNone))=false:=by simp
 rw [hst];refine E11 (hk Γ.M s₂.heap (r₂.ok.K.keeps r₂.base)) fun k lk=>?_;exact Lz lk (wpAny_mono (q₂ vf (vfirst++vs) [(n,vd)] (hf.mono (z.trans z₂)) ((hfi.mono (z.trans z₂)).append (i.mono z₂)) (.cons i₂ .nil) rfl s₂ r₂) (fun _ _ p=>p.up (z.trans z₂)) (upE (z.trans z₂))) _
theorem Vy {func:Expr}{args:List Expr}{pos:Pos}{Q:D->St->Prop}(hn:noStar args=true)
 (h:EV Γ E func σ fun f σ₁=>(∀ v,Is σ₁.Z f v->KeepOk Γ.K v) /\ EVs Γ E args σ₁ fun ds σ₂=>Cal Γ E f ds [] σ₂ Q)
 (he:eval (.Call func args [] pos) Γ.env=(do callWith pos (<-eval func Γ.env) [] (backTo pos (starEach args Γ.env)) (backToKw pos (keywordEach [] Γ.env)))):EV Γ E (.Call func args [] pos) σ Q:=by
 refine Wp.eq he (Wp.bind (Wp.mono h fun f σ₁ _ q v i=>?_));rw [JN hn];exact LU i .nil (q.1 v i) q.2
theorem Pv {func:Expr}{args:List Expr}{n:Str}{e:Expr}{kp pos:Pos}{Q:D->St->Prop}(hn:noStar args=true)
 (h:EV Γ E func σ fun f σ₁=>(∀ v,Is σ₁.Z f v->KeepOk Γ.K v) /\ EVs Γ E args σ₁ fun ds σ₂=>EV Γ E e σ₂ fun d σ₃=>Cal Γ E f ds [(n,d)] σ₃ Q)
 (he:eval (.Call func args [⟨some n,e,kp⟩] pos) Γ.env=(do callWith pos (<-eval func Γ.env) [] (backTo pos (starEach args Γ.env)) (backToKw pos (keywordEach [⟨some n,e,kp⟩] Γ.env)))):EV Γ E (.Call func args [⟨some n,e,kp⟩] pos) σ Q:=by
 refine Wp.eq he (Wp.bind (Wp.mono h fun f σ₁ _ q v i=>?_));rw [JN hn];exact N1 i .nil (q.1 v i) q.2
theorem M4 {args:List Expr}{pos:Pos}{env:Env}(h:args.length < 29):methodCallForm (args.length + ([]:List Keyword).length) (args.map fun e=>(false,eval e env)) (backToKw pos (keywordEach [] env))=true:=by
 show ((args.map fun e=>(false,eval e env)).all (!·.1) && true && decide (args.length + 0 + 0 < 30))=true;rw [List.all_map,decide_eq_true (by lia)]
 exact Bool.and_eq_true_iff.mpr ⟨Bool.and_eq_true_iff.mpr ⟨List.all_eq_true.mpr fun _ _=>rfl,rfl⟩,rfl⟩
noncomputable def MIs (Z:Zs)(m:D × LD)(v:Value × List Value):Prop:=Is Z m.1 v.1 /\ IsL Z m.2 v.2
noncomputable def Met (Γ:Cx)(E:String->St->Prop)(a:D)(x:Str)(σ:St)(Q:D × LD->St->Prop):Prop:=∀ v pl,Is σ.Z a v->Wp Γ E (getMethod v x pl) MIs σ Q
theorem N4 {o:Expr}{name:Str}{apos pos:Pos}{args:List Expr}{Q:D->St->Prop}(hn:noStar args=true)
 (h:EV Γ E o σ fun a σ₁=>Met Γ E a name σ₁ fun m σ₂=>(∀ v,Is σ₂.Z m.1 v->KeepOk Γ.K v) /\ EVs Γ E args σ₂ fun ds σ₃=>Cal Γ E m.1 (m.2++ds) [] σ₃ Q)
 (hline:(apos.endLine == pos.line)=true) (hlen:args.length < 29)
 (hbase:attributeBase o name Γ.env (eval o Γ.env)=eval o Γ.env):EV Γ E (.Call (.Attribute o name apos) args [] pos) σ Q:=by
 refine Wp.eq (arm_eval_Call ..) ?_;rw [hbase];refine Wp.bind (Wp.mono h fun a σ₁ _ q v i=>?_);refine Wp.skip (fun _ _ _ _ _ h=>wpAny_standAt h) ?_;rw [JN hn];have hform:methodCallForm (args.length + ([]:List Keyword).length) (args.map fun e=>(false,eval e Γ.env)) (backToKw pos (keywordEach [] Γ.env))=true:=M4 (by lia)
 have hpos:methodCallPos true o Γ.env apos pos=pure pos:=by unfold methodCallPos;simp [hline]
 unfold methodCall;rw [hform];refine Wp.bind (Wp.holding (Wp.mono (q v _ i) fun m σ₂ z q₂ vm im=>?_));obtain ⟨vf,vfirst⟩:=vm;dsimp only;rw [hpos];exact fun s r=>wpAny_bind (wpAny_pure (LU im.1 im.2 (q₂.1 _ im.1) q₂.2 s r))
theorem SF {x dx:Nat}{k:Kd}{f:Addr}{vals:List (Option D)}{name:Str}{Q:D × LD->St->Prop}(h1:σ.led[x]?=some (.inst k dx))(h2:σ.led[dx]?=some (.ns k vals))
 (hc:N7 Γ.K k.addr k.names) (hf:findIn Γ.K (.ref k.addr) name=some (some (.ref f))) (ht:typeIn Γ.K (.ref f)=some (.type "function")) (hno:look k.names vals name=none) (h:Q (.val f,[.ref x]) σ):Met Γ E (.ref x) name σ Q:=by
 intro v pl hv s r;obtain ⟨ax,ox,ad,od,rfl,_,I,_,hg,_,_,es,ep,hda,hn,_,_⟩:=Kx r h1 h2 hv;refine E12 (NG hda hn name) fun rr hl ho=>?_;rw [hno] at ho;cases ho;exact method_fn (r.ok.K.keeps r.base) I hc.ga hc.gattr hf ht (by show (lookIn name od).map _=_;rw [hl];rfl) ⟨_,σ,Zle.rfl,r,⟨.val _,.cons hv .nil⟩,h⟩
theorem Ll {l:LN}{name:Str}{id:String}{Q:D × LD->St->Prop}(slot:Slot "str" name id)(hty:typeOf (.builtin id)=pure (.type "method_descriptor"))(h:Q (.any (.builtin id),[.str l]) σ):Met Γ E (.str l) name σ Q:=by
 intro v pl hv s r;refine E12 (hv.inv) fun t hq0=>?_;obtain rfl:=hq0;intro hl
 · exact getMethod_builtin (typeIs_str _ _ _) PySem.F.plainAttrs_str slot hty (fun _ e=>nomatch e) ⟨_,σ,Zle.rfl,r,⟨.any _,.cons (.str l t hl) .nil⟩,h⟩
end
end Mine
end
noncomputable section
open PySem PySem.W PyProof.Rows PySem.Calls
set_option backward.match.sparseCases false
namespace Mine
section
variable {Γ:Cx}{E:String->St->Prop}{σ:St}
theorem Os {a b:Int}{Q:D->St->Prop}(h:Q (.int (a + b)) σ):Bin Γ E .Add (.int a) (.int b) σ Q:=by
 intro va vb ha hb s r;obtain ⟨_,rfl⟩:=ha.inv;obtain ⟨_,rfl⟩:=hb.inv;exact P.add_int ⟨_,σ,Zle.rfl,r.toks _,.int _ _,h⟩
theorem Oq {a b:Int}{Q:D->St->Prop}(h:Q (.int (a - b)) σ):Bin Γ E .Sub (.int a) (.int b) σ Q:=by
 intro va vb ha hb s r;obtain ⟨_,rfl⟩:=ha.inv;obtain ⟨_,rfl⟩:=hb.inv;exact P.sub_int ⟨_,σ,Zle.rfl,r.toks _,.int _ _,h⟩
theorem Op {a b:Int}{Q:D->St->Prop}(h:Q (.int (a + b)) σ):Inp Γ E .Add (.int a) (.int b) σ Q:=by
 intro va vb ha hb s r;obtain ⟨_,rfl⟩:=ha.inv;obtain ⟨_,rfl⟩:=hb.inv;exact P.iadd_int ⟨_,σ,Zle.rfl,r.toks _,.int _ _,h⟩
theorem V1 {a:Int}{Q:D->St->Prop}(h:Q (.int (-a)) σ):Una Γ E .USub (.int a) σ Q:=by
 intro va ha s r;obtain ⟨_,rfl⟩:=ha.inv;exact P.neg_int ⟨_,σ,Zle.rfl,r.toks _,.int _ _,h⟩
theorem PE {a b:Int}{Q:D->St->Prop}(h:Q (.bool (decide (a < b))) σ):Cmp Γ E .Lt (.int a) (.int b) σ Q:=by
 intro va vb ha hb s r;obtain ⟨_,rfl⟩:=ha.inv;obtain ⟨_,rfl⟩:=hb.inv;exact P.lt_int ⟨_,σ,Zle.rfl,r,.bool _,h⟩
theorem Pn {a b:Int}{Q:D->St->Prop}(h:Q (.bool (decide (a <= b))) σ):Cmp Γ E .LtE (.int a) (.int b) σ Q:=by
 intro va vb ha hb s r;obtain ⟨_,rfl⟩:=ha.inv;obtain ⟨_,rfl⟩:=hb.inv;exact P.le_int ⟨_,σ,Zle.rfl,r,.bool _,h⟩
theorem Ps {a b:Int}{Q:D->St->Prop}(h:Q (.bool (decide (a > b))) σ):Cmp Γ E .Gt (.int a) (.int b) σ Q:=by
 intro va vb ha hb s r;obtain ⟨_,rfl⟩:=ha.inv;obtain ⟨_,rfl⟩:=hb.inv;exact P.gt_int ⟨_,σ,Zle.rfl,r,.bool _,h⟩
theorem Pk {a b:Int}{Q:D->St->Prop}(h:Q (.bool (decide (a ≥ b))) σ):Cmp Γ E .GtE (.int a) (.int b) σ Q:=by
 intro va vb ha hb s r;obtain ⟨_,rfl⟩:=ha.inv;obtain ⟨_,rfl⟩:=hb.inv;exact P.ge_int ⟨_,σ,Zle.rfl,r,.bool _,h⟩
theorem PX {a b:Int}{Q:D->St->Prop}(h:Q (.bool (a == b)) σ):Cmp Γ E .Eq (.int a) (.int b) σ Q:=by
 intro va vb ha hb s r;obtain ⟨_,rfl⟩:=ha.inv;obtain ⟨_,rfl⟩:=hb.inv;exact P.eq_int ⟨_,σ,Zle.rfl,r,.bool _,h⟩
theorem P0 {a b:Int}{Q:D->St->Prop}(h:Q (.bool (a != b)) σ):Cmp Γ E .NotEq (.int a) (.int b) σ Q:=by
 intro va vb ha hb s r;obtain ⟨_,rfl⟩:=ha.inv;obtain ⟨_,rfl⟩:=hb.inv;exact P.ne_int ⟨_,σ,Zle.rfl,r,.bool _,h⟩
theorem Lh {b:Bool}{Q:Bool->St->Prop}(h:Q b σ):Tru Γ E (.bool b) σ Q:=by
 intro v hv s r;obtain rfl:=hv.inv;exact wpAny_truthy_bool ⟨_,σ,Zle.rfl,r,rfl,h⟩
theorem Ui {Q:Bool->St->Prop}(h:Q false σ):Tru Γ E .none σ Q:=by
 intro v hv s r;obtain rfl:=hv.inv;exact wpAny_pure ⟨_,σ,Zle.rfl,r,rfl,h⟩
theorem Xv {a:Int}{Q:Bool->St->Prop}(h:Q (a != 0) σ):Tru Γ E (.int a) σ Q:=by
 intro v hv s r;obtain ⟨_,rfl⟩:=hv.inv;exact P.truthy_int ⟨_,σ,Zle.rfl,r,rfl,h⟩
theorem Jw (l:LN):(⟨l.toArray⟩:Str).length=l.length:=by simp [Str.length]
theorem Qb {l:LN}{Q:Bool->St->Prop}(h:Q (!l.isEmpty) σ):Tru Γ E (.str l) σ Q:=by
 intro v hv s r;obtain ⟨t,rfl,hl⟩:=hv.inv
 ·
  refine P.truthy_str (by rw [Jw];lia) ⟨!l.isEmpty,σ,Zle.rfl,r.toks _,?_,h⟩
  show (!l.isEmpty)=_;rw [Jw];cases l <;> simp
  lia
theorem Pu {a b:LN}{Q:D->St->Prop}(h:Q (.bool (a == b)) σ):Cmp Γ E .Eq (.str a) (.str b) σ Q:=by
 intro va vb ha hb s r;obtain ⟨_,rfl,_⟩:=ha.inv;obtain ⟨_,rfl,_⟩:=hb.inv;exact P.eq_str ⟨_,σ,Zle.rfl,r,.bool _,by simpa using h⟩
theorem Pz {a b:LN}{Q:D->St->Prop}(h:Q (.bool (a != b)) σ):Cmp Γ E .NotEq (.str a) (.str b) σ Q:=by
 intro va vb ha hb s r;obtain ⟨_,rfl,_⟩:=ha.inv;obtain ⟨_,rfl,_⟩:=hb.inv;exact P.ne_str ⟨_,σ,Zle.rfl,r,.bool _,by simpa using h⟩
theorem P2 {a b:LN}{Q:D->St->Prop}(h:Q (.bool (!decide (b < a))) σ):Cmp Γ E .LtE (.str a) (.str b) σ Q:=by
 intro va vb ha hb s r;obtain ⟨_,rfl,_⟩:=ha.inv;obtain ⟨_,rfl,_⟩:=hb.inv;exact P.le_str ⟨_,σ,Zle.rfl,r,.bool _,by simpa using h⟩
theorem Lr {b:LN}{Q:D->St->Prop}(h:Q (.bool false) σ):Cmp Γ E .Eq .none (.str b) σ Q:=by
 intro va vb ha hb s r;obtain rfl:=ha.inv;obtain ⟨_,rfl,_⟩:=hb.inv;exact EqNone.eq_none_str ⟨_,σ,Zle.rfl,r,.bool _,h⟩
theorem Lm {b:LN}{Q:D->St->Prop}(h:Q (.bool false) σ):Cmp Γ E .Eq (.str b) .none σ Q:=by
 intro va vb ha hb s r;obtain ⟨_,rfl,_⟩:=ha.inv;obtain rfl:=hb.inv;exact EqNone.eq_str_none ⟨_,σ,Zle.rfl,r,.bool _,h⟩
theorem La {Q:D->St->Prop}(h:Q (.bool true) σ):Cmp Γ E .Eq .none .none σ Q:=by
 intro va vb ha hb s r;obtain rfl:=ha.inv;obtain rfl:=hb.inv;exact EqNone.eq_none_none ⟨_,σ,Zle.rfl,r,.bool _,h⟩
theorem Pc {s:Shared}(r:Rel Γ σ s){a b:LN}{t u:Tok}{Q:D->St->Prop}(ha:a.length <= 16777216)(hb:b.length <= 16777216)(hl:a.length + b.length <= 16777216)(h:Q (.str (a++b)) σ) :
 (if (⟨a.toArray⟩:Str).length == 0 then Made.val (.str ⟨b.toArray⟩ u) else if (⟨b.toArray⟩:Str).length == 0 then Made.val (.str ⟨a.toArray⟩ t) else Made.str ((⟨a.toArray⟩:Str)++⟨b.toArray⟩)).post (J5 Γ Is σ Q) s:=by
 rw [Jw,Jw]
 cases a with
 | nil=>exact ⟨.str b,σ,Zle.rfl,r,.str b _ hb,h⟩
 | cons x a=>
  cases b with
  | nil=>exact ⟨.str (x :: a),σ,Zle.rfl,r,.str _ _ ha,by simpa using h⟩
  | cons y b=>
   have e:((⟨(x :: a).toArray⟩:Str)++⟨(y :: b).toArray⟩)=⟨((x :: a)++(y :: b)).toArray⟩:=by
    show Str.mk _=Str.mk _;simp
   rw [e];refine ⟨?_,.str ((x :: a)++(y :: b)),σ,Zle.rfl,r.toks _,.str _ _ (by rw [List.length_append];exact hl),h⟩
   rw [Jw,sizeLine_eq,List.length_append];exact hl
theorem Oi {a b:LN}{Q:D->St->Prop}(hl:a.length + b.length <= 16777216)(h:Q (.str (a++b)) σ):Bin Γ E .Add (.str a) (.str b) σ Q:=by
 intro va vb ha hb s r;obtain ⟨t,rfl,la⟩:=ha.inv
 · obtain ⟨u,rfl,lb⟩:=hb.inv
   · exact P.add_str (Pc r la lb hl h)
theorem Oa {a b:LN}{Q:D->St->Prop}(hl:a.length + b.length <= 16777216)(h:Q (.str (a++b)) σ):Inp Γ E .Add (.str a) (.str b) σ Q:=by
 intro va vb ha hb s r;obtain ⟨t,rfl,la⟩:=ha.inv
 · obtain ⟨u,rfl,lb⟩:=hb.inv
   · exact P.iadd_str (Pc r la lb hl h)
theorem Rb (l:LN)(c:Nat):(!(Builtin.Str.occurrences ⟨l.toArray⟩ ⟨[c].toArray⟩ 0 (⟨l.toArray⟩:Str).length 1).isEmpty)=l.contains c:=by
 rw [show (⟨[c].toArray⟩:Str)=⟨#[c]⟩ from rfl,StrLaws.found_one,List.contains_eq_mem]
theorem PQ {c:Nat}{l:LN}{Q:D->St->Prop}(h:Q (.bool (l.contains c)) σ):Cmp Γ E .In (.str [c]) (.str l) σ Q:=by
 intro va vb ha hb s r;obtain ⟨_,rfl,_⟩:=ha.inv;obtain ⟨_,rfl,_⟩:=hb.inv;exact P.in_str ⟨_,σ,Zle.rfl,r,.bool _,by rw [Rb];exact h⟩
theorem MZ {c:Nat}{l:LN}{Q:D->St->Prop}(h:Q (.bool (!l.contains c)) σ):Cmp Γ E .NotIn (.str [c]) (.str l) σ Q:=by
 intro va vb ha hb s r;obtain ⟨_,rfl,_⟩:=ha.inv;obtain ⟨_,rfl,_⟩:=hb.inv;exact P.notIn_str ⟨_,σ,Zle.rfl,r,.bool _,by rw [Rb];exact h⟩
theorem Od {l:LN}{Q:D->St->Prop}(h:Q (.int l.length) σ):Cal Γ E (.bi .len) [.str l] [] σ Q:=by
 intro vf vs ks hf hv hk hn s r;obtain rfl:=hf.inv
 cases hv with
 | cons h1 h2=>
  cases h2
  cases h1 with
  | str _ t hl=>
   have:ks=[]:=by simpa using hn
   subst this;refine P.len_str (by rw [Jw];lia) ⟨_,σ,Zle.rfl,r.toks _,.int _ _,by rw [Jw];exact h⟩
end
noncomputable def cut {α:Type}(l:List α)(lo hi:Nat):List α:=(l.take hi).drop lo
theorem PS {α:Type}(l:List α)(a:Nat):∀ n,((List.range n).map fun k=>a + k).filterMap (fun i=>l[i]?)=(l.drop a).take n:=by
 intro n
 induction n with
 | zero=>rfl
 | succ n ih=>
  rw [List.range_succ,List.map_append,List.filterMap_append,ih,List.take_add_one];show _++List.filterMap _ [a + n]=_;rw [List.filterMap_cons,List.getElem?_drop];cases l[a + n]? <;> rfl
theorem Q6 (n k:Nat):max 0 (min (if (k:Int) < 0 then (k:Int) + n else k) (n:Int))=((min k n:Nat):Int):=by
 rw [if_neg (Int.not_lt.mpr (Int.natCast_nonneg k))];lia
theorem VD (n:Nat):∀ o:Option Int,(∀ i,o=some i->0 <= i)->(match o with | none=>(0:Int) | some i=>max 0 (min (if i < 0 then i + n else i) n))=((min ((o.getD 0).toNat) n:Nat):Int)
 | none,_=>by rw [Option.getD_none];show (0:Int)=((min 0 n:Nat):Int);rw [Nat.zero_min];rfl
 | some i,h=>by
  refine E11 (Int.eq_ofNat_of_zero_le (h i rfl)) fun k hq5=>?_;obtain rfl:=hq5;exact Q6 n k
theorem V9 (n:Nat):∀ o:Option Int,(∀ i,o=some i->0 <= i)->(match o with | none=>(n:Int) | some i=>max 0 (min (if i < 0 then i + n else i) n))=((min ((o.getD n).toNat) n:Nat):Int)
 | none,_=>by rw [Option.getD_none,Int.toNat_natCast,Nat.min_self]
 | some i,h=>by
  refine E11 (Int.eq_ofNat_of_zero_le (h i rfl)) fun k hq4=>?_;obtain rfl:=hq4;exact Q6 n k
theorem QC {α:Type}(l:List α)(a b:Nat):(l.drop (min a l.length)).take (min b l.length - min a l.length)=cut l a b:=by
 unfold cut;rw [List.drop_take];rcases Nat.le_total a l.length with h | h
 · rw [Nat.min_eq_left h];rcases Nat.le_total b l.length with h' | h'
   · rw [Nat.min_eq_left h']
   · rw [Nat.min_eq_right h',<-List.length_drop,List.take_length,List.take_of_length_le (by rw [List.length_drop];exact Nat.sub_le_sub_right h' a)]
 · rw [Nat.min_eq_right h,List.drop_length,List.drop_eq_nil_of_le h,List.take_nil,List.take_nil]
theorem MY {α:Type}(l:List α)(lo hi:Option Int)(h1:∀ i,lo=some i->0 <= i)(h2:∀ i,hi=some i->0 <= i) :
 (Builtin.Str.strSliceIndices lo hi 1 l.length).filterMap (fun i=>l[i]?)=cut l ((lo.getD 0).toNat) ((hi.getD l.length).toNat) /\
 (Builtin.Str.strSliceIndices lo hi 1 l.length).length=(cut l ((lo.getD 0).toNat) ((hi.getD l.length).toNat)).length:=by
 have e:Builtin.Str.strSliceIndices lo hi 1 l.length=(List.range (min ((hi.getD l.length).toNat) l.length - min ((lo.getD 0).toNat) l.length)).map (min ((lo.getD 0).toNat) l.length + ·):=by
  rw [<-sliceRange_one,<-VD l.length lo h1,<-V9 l.length hi h2];cases lo <;> cases hi <;> rfl
 rw [e];refine ⟨(PS l _ _).trans (QC l _ _),?_⟩;rw [List.length_map,List.length_range,<-QC,List.length_take,List.length_drop,Nat.min_eq_left (Nat.sub_le_sub_right (Nat.min_le_right _ _) _)]
section
variable {Γ:Cx}{E:String->St->Prop}{σ:St}
theorem VX {e:Expr}{x:Str}{pos:Pos}{Q:D->St->Prop}(h:EV Γ E e σ fun a σ₁=>Att Γ E a x σ₁ Q)
 (hbase:attributeBase e x Γ.env (eval e Γ.env)=eval e Γ.env):EV Γ E (.Attribute e x pos) σ Q:=by
 refine Wp.eq (arm_eval_Attribute ..) ?_;rw [hbase];refine Wp.bind (Wp.mono h fun a σ₁ _ q v i=>?_);refine Wp.skip (fun _ _ _ _ _ h=>wpAny_standAt h) ?_;refine Wp.bind (Wp.holding (Wp.mono (q v i) fun d σ₂ _ q₂ vd id=>?_));exact fun s r=>wpAny_bind (wpAny_letTemporaryGo (wpAny_pure ⟨d,σ₂,Zle.rfl,r,id,q₂⟩))
theorem Mc {o:Expr}{x:Str}{tpos pos:Pos}{value:Expr}{Q:Fl->St->Prop}
 (h:EV Γ E value σ fun d σ₁=>EV Γ E o σ₁ fun a σ₂=>SetA Γ E a x d σ₂ fun _ σ₃=>Q .next σ₃)
 (hs:swapsWith value (some (.Attribute o x tpos)) pos.line Γ.env=pure false):EX Γ E (.Assign [.Attribute o x tpos] value pos) σ Q:=
 fun s r=>plainObj_wpAny_Assign_Attribute (wpAny_mono (h s r) (fun vd s₁ ⟨_,_,z₁,r₁,id',q₁⟩=>wpAny_mono (q₁ s₁ r₁) (fun va s₂ ⟨_,_,z₂,r₂,ia,q₂⟩=>
  wpAny_mono (q₂ va vd ia (id'.mono z₂) s₂ r₂) (fun _ _ hz0=>by obtain ⟨_,σ',z',r',_,q'⟩:=hz0;exact ⟨_,σ',(z₁.trans z₂).trans z',r',.next,q'⟩) (upE (z₁.trans z₂))) (upE z₁)) fun _ _ x=>x) hs
theorem NS {o value:Expr}{x:Str}{tpos pos:Pos}{op:Operator}{Q:Fl->St->Prop}
 (h:EV Γ E o σ fun a σ₁=>Att Γ E a x σ₁ fun old σ₂=>EV Γ E value σ₂ fun b σ₃=>Inp Γ E op old b σ₃ fun d σ₄=>SetA Γ E a x d σ₄ fun _ σ₅=>Q .next σ₅) :
 EX Γ E (.AugAssign (.Attribute o x tpos) op value pos) σ Q:=
 fun s r=>wpAny_AugAssign_AttributeAny (wpAny_mono (h s r) (fun va s₁ ⟨_,_,z₁,r₁,ia,q₁⟩=>wpAny_mono (q₁ va ia s₁ r₁) (fun vo s₂ ⟨_,_,z₂,r₂,io,q₂⟩=>
  wpAny_mono (q₂ s₂ r₂) (fun vb s₃ ⟨_,_,z₃,r₃,ib,q₃⟩=>wpAny_mono (q₃ vo vb (io.mono z₃) ib s₃ r₃) (fun vd s₄ ⟨_,_,z₄,r₄,id',q₄⟩=>
   wpAny_mono (q₄ va vd (ia.mono ((z₂.trans z₃).trans z₄)) id' s₄ r₄) (fun _ _ hz1=>by obtain ⟨_,σ',z',r',_,q'⟩:=hz1;exact ⟨_,σ',((((z₁.trans z₂).trans z₃).trans z₄).trans z'),r',.next,q'⟩) (upE (((z₁.trans z₂).trans z₃).trans z₄))) (upE ((z₁.trans z₂).trans z₃))) (upE (z₁.trans z₂))) (upE z₁)) fun _ _ x=>x)
theorem Vu {e:Expr}{pos:Pos}{Q:Fl->St->Prop}(h:EV Γ E e σ fun _ σ₁=>Q .next σ₁)
 (hs:swapsWith e none pos.line Γ.env=pure false):EX Γ E (.Expr e pos) σ Q:=
 fun s r=>wpAny_Expr_any (wpAny_mono (h s r) (fun _ _ hz2=>by obtain ⟨_,σ',z',r',_,q'⟩:=hz2;exact ⟨_,σ',z',r',.next,q'⟩) fun _ _ x=>x) (by unfold interactive;rw [r.ok.kind];rfl) hs
theorem Jbj {op:UnaryOp}{e:Expr}{pos:Pos}{Q:D->St->Prop}(h:EV Γ E e σ fun a σ₁=>Una Γ E op a σ₁ Q):EV Γ E (.UnaryOp op e pos) σ Q:=
 Wp.eq (arm_eval_UnaryOp ..) (Wp.bind (Wp.mono h fun a σ₁ _ q v i=>Wp.skip (fun _ _ _ _ _ h=>wpAny_standAt h) (Wp.holding (q v i))))
noncomputable def NoPyItem (Γ:Cx)(a:D)(σ:St):Prop:=∀ v s,Is σ.Z a v->Rel Γ σ s->∃ T id,s.TypeIs v T /\ typeLookup (.type T) "__getitem__" = pure (some (.builtin id))
noncomputable def Itm (Γ:Cx)(E:String->St->Prop)(a b:D)(σ:St)(Q:D->St->Prop):Prop:=NoPyItem Γ a σ /\ ∀ va vb,Is σ.Z a va->Is σ.Z b vb->Wp Γ E (getItem va vb) Is σ Q
noncomputable def Slc (Γ:Cx)(E:String->St->Prop)(a lo hi:D)(σ:St)(Q:D->St->Prop):Prop:=NoPyItem Γ a σ /\
 ∀ va vl vh s,Is σ.Z a va->Is σ.Z lo vl->Is σ.Z hi vh->Rel Γ σ s ->
  wpAny Γ.M Γ.A (getItem va (.ref s.heap.objs.size)) (J5 Γ Is σ Q) (JK Γ σ E) { s with heap:=s.heap.push { cls:=.type "slice",data:=.fields #[vl,vh,.none] } }
theorem ON {l:LN}:NoPyItem Γ (.str l) σ:=by
 intro v s hv _;(first | obtain rfl:=hv.inv | obtain ⟨_,rfl⟩:=hv.inv | refine E12 (hv.inv) fun _ hq3=>?_;obtain rfl:=hq3;intro _ | cases hv);exact ⟨"str",_,typeIs_str _ _ _,PySem.F.slot_str_getitem.lookup⟩
theorem Kz {M:Model}{A:Around}{E:Value->Shared->Prop}{s:Shared}{v:Value}{T id:String}(hT:s.TypeIs v T)(hl:typeLookup (.type T) "__getitem__" = pure (some (.builtin id))){Q:Bool->Shared->Prop}(h:Q false s):wpAny M A (getitemInPython v) Q E s:=by
 unfold getitemInPython;refine wpAny_bind (wpAny_specialOf hT hl ?_);exact wpAny_pure h
theorem JS (slice:Expr)(o i:Value):∃ l,subscripted slice false o i=operate l (getItem o i):=by
 cases slice with
 | Slice lo hi st p=>cases st <;> exact ⟨_,rfl⟩
 | _=>exact ⟨_,rfl⟩
theorem Vs {e i:Expr}{pos:Pos}{Q:D->St->Prop}(h:EV Γ E e σ fun a σ₁=>EV Γ E i σ₁ fun b σ₂=>Itm Γ E a b σ₂ Q):EV Γ E (.Subscript e i pos) σ Q:=by
 refine Wp.eq (arm_eval_Subscript ..) (Wp.bind (Wp.mono h fun a σ₁ _ q va ia=>Wp.bind (Wp.holding (Wp.mono q fun b σ₂ z q₂ vb ib=>?_))));refine Wp.skip (fun _ _ _ _ _ h=>wpAny_standAt h) fun s r=>?_;refine E22 (q₂.1 va s (ia.mono z) r) fun T id hT hl=>?_;refine wpAny_bind (Kz hT hl ?_);refine E11 (JS i va vb) fun l e=>?_;rw [e];refine wpAny_bind (wpAny_operating (wpAny_mono (q₂.2 va vb (ia.mono z) ib s r) (fun vd s' p=>?_) fun _ _ x=>x));exact wpAny_bind (wpAny_letTemporaryGo (wpAny_pure p))
noncomputable def EVo (Γ:Cx)(E:String->St->Prop)(e:Option Expr)(σ:St)(Q:D->St->Prop):Prop:=match e with
 | none=>Q .none σ
 | some e=>EV Γ E e σ Q
theorem Uc {Q:D->St->Prop}(h:Q .none σ):EVo Γ E none σ Q:=h
theorem R9 {e:Expr}{Q:D->St->Prop}(h:EV Γ E e σ Q):EVo Γ E (some e) σ Q:=h
theorem UY {e:Option Expr}{Q:D->St->Prop}(h:EVo Γ E e σ Q):Wp Γ E (valueOrNone (evalOpt e Γ.env)) Is σ Q:=by
 cases e with
 | none=>exact Wp.pure .none h
 | some e=>exact h
theorem TR {e:Expr}{lo hi:Option Expr}{p pos:Pos}{Q:D->St->Prop}(h:EV Γ E e σ fun a σ₁=>EVo Γ E lo σ₁ fun l σ₂=>EVo Γ E hi σ₂ fun u σ₃=>Slc Γ E a l u σ₃ Q):EV Γ E (.Subscript e (.Slice lo hi none p) pos) σ Q:=by
 refine Wp.eq (arm_eval_Subscript ..) (Wp.bind (Wp.mono h fun a σ₁ _ q va ia=>?_));intro s r;refine wpAny_bind (wpAny_holding ?_);rw [arm_eval_Slice];refine wpAny_bind (wpAny_mono (UY q s r) (fun vl s₂ hq0=>?_) fun _ _ x=>x);obtain ⟨l,σ₂,z₂,r₂,il,q₂⟩:=hq0;refine wpAny_bind (wpAny_holding (wpAny_mono (UY q₂ s₂ r₂) (fun vu s₃ hq1=>?_) (upE z₂)));obtain ⟨u,σ₃,z₃,r₃,iu,q₃⟩:=hq1;refine wpAny_bind (wpAny_holding (wpAny_pure ?_));unfold newFields;refine wpAny_newObj_type ?_ (by show _ <= _;simp;decide)
 refine wpAny_bind (wpAny_standAt ?_);refine E22 (q₃.1 va { s₃ with heap:=s₃.heap.push { cls:=.type "slice",dict:=none,data:=.fields [vl,vu,.none].toArray } } ((ia.mono z₂).mono z₃) (r₃.push _ _)) fun T id hT hl=>?_
 refine wpAny_bind (Kz hT hl ?_);refine E11 (JS (.Slice lo hi none p) va (.ref s₃.heap.objs.size)) fun l' e=>?_;rw [e];refine wpAny_bind (wpAny_operating (wpAny_mono (q₃.2 va vl vu s₃ ((ia.mono z₂).mono z₃) (il.mono z₃) iu r₃) (fun vd s' p=>?_) (upE (z₂.trans z₃))));exact wpAny_bind (wpAny_letTemporaryGo (wpAny_pure (p.up (z₂.trans z₃))))
noncomputable def ends:D->Option (Option Int)
 | .none=>some none
 | .int i=>some (some i)
 | _=>none
set_option tactic.hygienic true in
theorem V6 {l:LN}{lo hi:D}{a b:Option Int}{Q:D->St->Prop}(h1:ends lo=some a)(h2:ends hi=some b)(p1:∀ i,a=some i->0 <= i)(p2:∀ i,b=some i->0 <= i)
 (h:Q (.str (cut l ((a.getD 0).toNat) ((b.getD l.length).toNat))) σ):Slc Γ E (.str l) lo hi σ Q:=by
 refine ⟨ON,fun va vl vh s ha hl hh r=>?_⟩;have part:∀ {d:D} {v:Value} {o:Option Int},ends d=some o->Is σ.Z d v->∃ p:Option (Int × Tok),v=partValue p /\ p.map (·.1)=o:=by
  intro d v o e i;cases i <;> cases e
  · exact ⟨none,rfl,rfl⟩
  · rename_i i t;exact ⟨some (i,t),rfl,rfl⟩
 refine E12 (part h1 hl) fun pl hq2=>?_;obtain rfl:=hq2;intro el;refine E12 (part h2 hh) fun pu hq1=>?_;obtain rfl:=hq1;intro eu;refine E12 (ha.inv) fun t hq0=>?_;obtain rfl:=hq0;intro hlen
 ·
  refine wpAny_getItem_str_slice (l:=pl) (u:=pu) (st:=none) ⟨_,Heap.get?_push_size _ rfl,rfl,rfl⟩ rfl ?_;refine E02 (MY l a b p1 p2) fun c1 c2=>?_;have hcl:(cut l ((a.getD 0).toNat) ((b.getD l.length).toNat)).length <= l.length:=by unfold cut;simp;lia
  unfold sliceMade slicePicked;rw [el,eu,Jw];simp only [Option.map_none,Option.getD_none,beq_self_eq_true,Bool.true_and];have c1':List.filterMap (fun i=>(⟨l.toArray⟩:Str).cps[i]?) (Builtin.Str.strSliceIndices a b 1 l.length)=cut l ((a.getD 0).toNat) ((b.getD l.length).toNat):=by
   rw [<-c1];simp
  split
  · rename_i he
    have he':(cut l ((a.getD 0).toNat) ((b.getD l.length).toNat)).length=l.length:=by rw [<-c2];exact beq_iff_eq.mp he
    have:cut l ((a.getD 0).toNat) ((b.getD l.length).toNat)=l:=by
     unfold cut at he' ⊢;have hs:((l.take ((b.getD l.length).toNat)).drop ((a.getD 0).toNat)).Sublist l:=(List.drop_sublist _ _).trans (List.take_sublist _ _);exact hs.eq_of_length he'
    exact ⟨_,σ,Zle.rfl,r.push _ _,.str l t hlen,this ▸ h⟩
  · rw [c1'];exact ⟨by rw [Jw,sizeLine_eq];lia,_,σ,Zle.rfl,r.push _ _,.str _ _ (by lia),h⟩
end
section
variable {Γ:Cx}{E:String->St->Prop}{σ:St}
noncomputable def isNone:D->Option Bool
 | .none=>some true
 | .bi _ | .any _=>none
 | _=>some false
theorem N3 {a:D}{b:Bool}{Q:D->St->Prop}(ha:isNone a=some b)(h:Q (.bool b) σ):Cmp Γ E .Is a .none σ Q:=by
 intro va vb ia ib s r;obtain rfl:=ib.inv;cases ia <;> cases ha <;> exact wpAny_is_plain rfl ⟨_,σ,Zle.rfl,r,.bool _,h⟩
theorem L7 {a:D}{b:Bool}{Q:D->St->Prop}(ha:isNone a=some b)(h:Q (.bool (!b)) σ):Cmp Γ E .IsNot a .none σ Q:=by
 intro va vb ia ib s r;obtain rfl:=ib.inv;cases ia <;> cases ha <;> exact wpAny_isNot_plain rfl ⟨_,σ,Zle.rfl,r,.bool _,h⟩
noncomputable def Bi.sameI:Bi->Option Bool
 | .int=>some true
 | .bool=>some false
 | .str=>some false
 | _=>none
noncomputable def Bi.sameS:Bi->Option Bool
 | .str=>some true
 | .int=>some false
 | _=>none
noncomputable def Bi.same (x y:Bi):Option Bool:=match x with
 | .int=>y.sameI
 | .str=>y.sameS
 | _=>none
theorem NL {x y:Bi}{b:Bool}{Q:D->St->Prop}(e:x.same y=some b)(h:Q (.bool (!b)) σ):Cmp Γ E .IsNot (.bi x) (.bi y) σ Q:=by
 intro va vb ia ib s r;obtain rfl:=ia.inv;obtain rfl:=ib.inv
 cases x with
 | int=>cases y with
  | int=>obtain rfl:=Option.some.inj e;exact wpAny_isNot_self rfl ⟨_,σ,Zle.rfl,r,.bool _,h⟩
  | bool=>obtain rfl:=Option.some.inj e;exact wpAny_isNot_other rfl (by decide) ⟨_,σ,Zle.rfl,r,.bool _,h⟩
  | str=>obtain rfl:=Option.some.inj e;exact wpAny_isNot_other rfl (by decide) ⟨_,σ,Zle.rfl,r,.bool _,h⟩
  | _=>injection e
 | str=>cases y with
  | str=>obtain rfl:=Option.some.inj e;exact wpAny_isNot_self rfl ⟨_,σ,Zle.rfl,r,.bool _,h⟩
  | int=>obtain rfl:=Option.some.inj e;exact wpAny_isNot_other rfl (by decide) ⟨_,σ,Zle.rfl,r,.bool _,h⟩
  | _=>injection e
 | _=>injection e
theorem NV {x y:Bool}{Q:D->St->Prop}(h:Q (.bool (x == y)) σ):Cmp Γ E .Is (.bool x) (.bool y) σ Q:=by
 intro va vb ia ib s r;obtain rfl:=ia.inv;obtain rfl:=ib.inv;cases x <;> cases y <;> exact wpAny_is_plain rfl ⟨_,σ,Zle.rfl,r,.bool _,h⟩
theorem Lu {x:LN}{y:Bool}{Q:D->St->Prop}(h:Q (.bool false) σ):Cmp Γ E .Is (.str x) (.bool y) σ Q:=by
 intro va vb ia ib s r;obtain ⟨_,rfl,_⟩:=ia.inv;obtain rfl:=ib.inv;cases y <;> exact wpAny_is_plain rfl ⟨_,σ,Zle.rfl,r,.bool _,h⟩
theorem JB {Z:Zs}{d:D}{vs:List Value}{ks:List (Str × Value)}{P:List Value->List (Str × Value)->Prop}(hv:IsL Z [d] vs)(hk:ks.map (·.1)=([]:List (Str × D)).map (·.1))(h:∀ v,Is Z d v->P [v] []):P vs ks:=by
 have:ks=[]:=by simpa using hk
 subst this
 cases hv with
 | cons h1 h2=>cases h2;exact h _ h1
theorem JP {Z:Zs}{d d':D}{vs:List Value}{ks:List (Str × Value)}{P:List Value->List (Str × Value)->Prop}(hv:IsL Z [d,d'] vs)(hk:ks.map (·.1)=([]:List (Str × D)).map (·.1))(h:∀ v v',Is Z d v->Is Z d' v'->P [v,v'] []):P vs ks:=by
 have:ks=[]:=by simpa using hk
 subst this
 cases hv with
 | cons h1 h2=>cases h2 with | cons h2 h3=>cases h3;exact h _ _ h1 h2
theorem Na {i:Int}{Q:D->St->Prop}(h:Q (.bi .int) σ):Cal Γ E (.bi .type) [.int i] [] σ Q:=by
 intro vf vs ks hf hv hk hn;obtain rfl:=hf.inv;refine JB (P:=fun vs ks=>Wp Γ E (call (.type "type") vs ks) Is σ Q) hv hn fun v i=>?_;obtain ⟨_,rfl⟩:=i.inv;exact fun s r=>call_type_of (typeIs_int s _ _) (by decide) ⟨_,σ,Zle.rfl,r,.bi _,h⟩
theorem Nd {l:LN}{Q:D->St->Prop}(h:Q (.bi .str) σ):Cal Γ E (.bi .type) [.str l] [] σ Q:=by
 intro vf vs ks hf hv hk hn;obtain rfl:=hf.inv;refine JB (P:=fun vs ks=>Wp Γ E (call (.type "type") vs ks) Is σ Q) hv hn fun v i=>?_;obtain ⟨_,rfl,_⟩:=i.inv;exact fun s r=>call_type_of (typeIs_str s _ _) (by decide) ⟨_,σ,Zle.rfl,r,.bi _,h⟩
theorem NP {i:Int}{Q:D->St->Prop}(h:Q (.int i) σ):Cal Γ E (.bi .int) [.int i] [] σ Q:=by
 intro vf vs ks hf hv hk hn;obtain rfl:=hf.inv;refine JB (P:=fun vs ks=>Wp Γ E (call (.type "int") vs ks) Is σ Q) hv hn fun v i=>?_;obtain ⟨_,rfl⟩:=i.inv;exact fun s r=>call_int_int ⟨_,σ,Zle.rfl,r,.int _ _,h⟩
end
end Mine
end
noncomputable section
open PySem PySem.W PyProof.Rows PySem.Calls
namespace Mine
section
variable {Γ:Cx}{E:String->St->Prop}{σ:St}
theorem JL {M:Model}{X:String->St->Prop}{v:Value}{s:Shared}(h:JK Γ σ X v s):notedBy M Γ.A Γ.env (cameBackBy M Γ.A Γ.env (JK Γ σ X)) v s:=by
 obtain ⟨a,cls,σ',rfl,z,r,x,q⟩:=h;refine K1 r.ok.frames r x fun h' r' x'=>?_;exact Qu r' x' fun h'' r'' x''=>⟨a,cls,σ',rfl,z,r'',x''.at,q⟩
noncomputable def LoopK (I:St->Prop)(Q:Fl->St->Prop)(fl:Fl)(σ:St):Prop:=match fl with
 | .next=>I σ
 | .cont=>I σ
 | .brk=>Q .next σ
 | .ret d=>Q (.ret d) σ
noncomputable def ZaddL (Z:Zs)(ps:List (Addr × Obj)):Zs:=⟨fun a=>match ps.lookup a with
 | some o=>some o
 | none=>Z.m a,Z.ad⟩
noncomputable def ZdelL (Z:Zs)(l:List Addr):Zs:=⟨fun a=>if a ∈ l then none else Z.m a,Z.ad⟩
structure Lv (Γ:Cx)(σ:St)(h:Heap)(ps:List (Addr × Obj)):Prop where
 nd:(ps.map (·.1)).Nodup
 each:∀ p ∈ ps,Off Γ σ p.1 /\ h.get? p.1=some p.2 /\ ∃ vs,p.2.data=.fields vs
theorem Mj {ps:List (Addr × Obj)}{a:Addr}{o:Obj}(h:ps.lookup a=some o):(a,o) ∈ ps:=by
 induction ps with
 | nil=>injection h
 | cons p ps ih=>
  obtain ⟨b,x⟩:=p;simp only [List.lookup] at h
  split at h
  · rename_i e;obtain rfl:=Option.some.inj h;rw [beq_iff_eq.mp e];exact .head _
  · exact .tail _ (ih h)
theorem P3 {ps:List (Addr × Obj)}(nd:(ps.map (·.1)).Nodup){a:Addr}{o:Obj}(h:(a,o) ∈ ps):ps.lookup a=some o:=by
 induction ps with
 | nil=>cases h
 | cons p ps ih=>
  obtain ⟨b,x⟩:=p;have:=List.nodup_cons.mp nd;rcases List.mem_cons.mp h with e | h
  · cases e;simp [List.lookup]
  · have ne:a ≠ b:=fun e=>this.1 (List.mem_map.mpr ⟨(a,o),h,e⟩);have:(a == b)=false:=by simpa using ne
    simp only [List.lookup,this];exact ih (List.nodup_cons.mp nd).2 h
theorem MB {Z:Zs}{ps:List (Addr × Obj)}{a:Addr}(h:∀ p ∈ ps,p.1 ≠ a):(ZaddL Z ps).m a=Z.m a:=by
 show (match ps.lookup a with | some o=>some o | none=>Z.m a)=_
 cases hl:ps.lookup a with
 | none=>rfl
 | some o'=>exact absurd rfl (h _ (Mj hl))
theorem OH {Z:Zs}{ps:List (Addr × Obj)}{a:Addr}{o:Obj}(h:ps.lookup a=some o):(ZaddL Z ps).m a=some o:=by
 show (match ps.lookup a with | some o=>some o | none=>Z.m a)=_
 rw [h]
theorem Rel.hold {s:Shared}(r:Rel Γ σ s){ps:List (Addr × Obj)}(H:Lv Γ σ s.heap ps):Zle σ.Z (ZaddL σ.Z ps) /\ Rel Γ { σ with Z:=ZaddL σ.Z ps } s /\ ∀ p ∈ ps,(ZaddL σ.Z ps).m p.1=some p.2:=by
 have z:Zle σ.Z (ZaddL σ.Z ps):=⟨fun a o e=>(MB fun p hp q=>by have:=(H.each p hp).1.z;rw [q,e] at this;injection this).trans e,[],(List.append_nil _).symm⟩
 refine ⟨z,⟨r.ok,r.base,fun a o e=>?_,?_,⟨r.locNew.1,(MB fun p hp=>(H.each p hp).1.loc).trans r.locNew.2⟩,fun p hp=>?_,r.adl,r.nodup,fun e he=>?_,r.gens,r.os⟩,fun p hp=>OH (P3 H.nd hp)⟩
 · have e:(ZaddL σ.Z ps).m a=some o:=e
   cases hl:ps.lookup a with
   | none=>
    refine r.zs a o ?_;rw [<-e];show _=(match ps.lookup a with | some o=>some o | none=>σ.Z.m a);rw [hl]
   | some o'=>
    rw [OH hl] at e;obtain rfl:=(Option.some.inj e).symm;refine E03 (H.each _ (Mj hl)) fun h1 h2 h3=>?_;exact ⟨⟨o.slots,h2,fun _=>rfl⟩,h1.base⟩
 · refine E33 (r.loc) fun o es ep h hd hn=>?_;exact ⟨o,es,ep,h,hd,hn.mono z⟩
 · refine E04 (r.led p hp) fun hq24=>?_;refine E12 hq24 fun o h i=>?_;intro b c d;exact ⟨⟨o,h,i.mono z⟩,b,(MB fun q hq e=>(H.each q hq).1.led (e ▸ (List.of_mem_zip hp).1)).trans c,d⟩
 · refine E02 (r.fr e he) fun a hq23=>?_;refine E12 hq23 fun F b c=>?_;exact ⟨a,F,b,c.imp id fun hz0=>by refine E12 hz0 fun x h hv=>?_;exact ⟨x,z.1 _ _ h,hv⟩⟩
theorem Rel.unhold {s:Shared}(r:Rel Γ σ s){ps:List (Addr × Obj)}(nd:(ps.map (·.1)).Nodup)(H:∀ p ∈ ps,σ.Z.m p.1=some p.2 /\ ∃ vs,p.2.data=.fields vs) :
 Zsq σ.Z (ZdelL σ.Z (ps.map (·.1))) /\ Rel Γ { σ with Z:=ZdelL σ.Z (ps.map (·.1)) } s /\ Lv Γ { σ with Z:=ZdelL σ.Z (ps.map (·.1)) } s.heap ps:=by
 have keep:∀ a,a ∉ ps.map (·.1)->(ZdelL σ.Z (ps.map (·.1))).m a=σ.Z.m a:=fun a h=>if_neg h;have ns:Zsq σ.Z (ZdelL σ.Z (ps.map (·.1))):=fun a o e=>by
  by_cases ha:a ∈ ps.map (·.1)
  · refine E12 (List.mem_map.mp ha) fun p hp hq22=>?_;obtain rfl:=hq22;refine E02 (H p hp) fun h1 hq21=>?_;refine E11 hq21 fun vs h2=>?_;rw [h1] at e;obtain rfl:=Option.some.inj e;exact .inr fun items n q=>by rw [h2] at q;injection q
  · exact .inl ((keep a ha).trans e)
 refine ⟨ns,⟨r.ok,r.base,fun a o e=>?_,?_,⟨r.locNew.1,?_⟩,fun p hp=>?_,r.adl,r.nodup,fun e he=>?_,r.gens,r.os⟩,nd,fun p hp=>?_⟩
 · dsimp only [ZdelL] at e
   split at e
   · injection e
   · exact r.zs a o e
 · refine E33 (r.loc) fun o es ep h hd hn=>?_;exact ⟨o,es,ep,h,hd,hn.1,fun x=>(hn.2 x).del ns rfl⟩
 · show (if _ then _ else _)=_
   split
   · rfl
   · exact r.locNew.2
 · refine E04 (r.led p hp) fun hq20=>?_;refine E12 hq20 fun o h i=>?_;intro b c d;refine ⟨⟨o,h,i.del ns rfl⟩,b,?_,d⟩;show (if _ then _ else _)=_
   split
   · rfl
   · exact c
 · refine E02 (r.fr e he) fun a hq19=>?_;refine E12 hq19 fun F b c=>?_;refine ⟨a,F,b,c.imp id fun ⟨x,h,hv⟩=>⟨x,(keep _ fun q=>?_).trans h,hv⟩⟩;refine E12 (List.mem_map.mp q) fun p hp hq18=>?_;obtain rfl:=hq18;refine E02 (H p hp) fun h1 hq17=>?_;refine E11 hq17 fun vs h2=>?_;rw [h1] at h;obtain rfl:=Option.some.inj h;refine E21 hv fun es ep hv=>?_;rw [h2] at hv;injection hv
 · refine E02 (H p hp) fun h1 hq16=>?_;refine E11 hq16 fun vs h2=>?_;refine E02 (r.zs _ _ h1) fun hq15=>?_;refine E12 hq15 fun sl h3 h4=>?_;intro h5;have h4:=h4 fun es ep q=>by rw [h2] at q;injection q
   subst h4;refine ⟨⟨h5,if_pos (List.mem_map.mpr ⟨p,hp,rfl⟩),fun e=>?_,fun q=>?_⟩,h3,vs,h2⟩
   · have:=r.locNew.2;rw [<-e,h1] at this;injection this
   · have:=(r.off q).2.2.1;rw [h1] at this;injection this
mutual
noncomputable def bd (m:Nat):D->Bool
 | .ref i=>Nat.blt i m
 | .tup xs=>bdL m xs
 | _=>true
noncomputable def bdL (m:Nat):LD->Bool
 | []=>true
 | d :: r=>bd m d && bdL m r
end
noncomputable def bdO (m:Nat):List (Option D)->Bool
 | []=>true
 | some d :: r=>bd m d && bdO m r
 | none :: r=>bdO m r
noncomputable def bdOD (m:Nat):OD->Bool
 | .list xs=>bdL m xs
 | .deque xs=>bdL m xs
 | .inst _ i=>Nat.blt i m
 | .ns _ vs=>bdO m vs
 | .cell (some d)=>bd m d
 | .cell none=>true
noncomputable def Zcut (Z:Zs)(m:Nat):Zs:=⟨Z.m,Z.ad.take m⟩
theorem Rr {Z:Zs}{m i:Nat}{a:Addr}(e:Nat.blt i m=true)(h:Z.ad[i]?=some a):(Zcut Z m).ad[i]?=some a:=by
 show (Z.ad.take m)[_]?=_;rw [List.getElem?_take,if_pos (show i < m from Nat.le_of_ble_eq_true e)];exact h
theorem Is.cut {Z:Zs}{m:Nat}{d:D}{v:Value}(e:bd m d=true)(h:Is Z d v):Is (Zcut Z m) d v:=
 Is.rec (motive_1:=fun d v _=>bd m d=true->Is (Zcut Z m) d v) (motive_2:=fun ds vs _=>bdL m ds=true->IsL (Zcut Z m) ds vs) (fun _=>.none) (fun b _=>.bool b) (fun i t _=>.int i t) (fun s t h _=>.str s t h) (fun h e=>.ref (Rr e h)) (fun a _=>.val a) (fun b _=>.bi b) (fun v _=>.any v) (fun h _ ih e=>.tup h (ih e)) (fun _=>.nil) (fun _ _ a b e=>let e:=Bool.and_eq_true_iff.mp e;.cons (a e.1) (b e.2)) h e
theorem IsL.cut {Z:Zs}{m:Nat}{ds:LD}{vs:List Value}(e:bdL m ds=true)(h:IsL Z ds vs):IsL (Zcut Z m) ds vs:=
 h.ind (P:=fun ds vs=>bdL m ds=true->IsL (Zcut Z m) ds vs) (fun _=>.nil) (fun a _ c e=>let e:=Bool.and_eq_true_iff.mp e;.cons (a.cut e.1) (c e.2)) e
theorem My {m:Nat}:∀ {ns:List Str} {os:List (Option D)} {x:Str} {d:D},bdO m os=true->look ns os x=some d->bd m d=true
 | n :: ns,some d' :: os,x,d,e,h=>by
  have e:=Bool.and_eq_true_iff.mp e;unfold look at h
  split at h
  · obtain rfl:=Option.some.inj h;exact e.1
  · exact My e.2 h
 | n :: ns,none :: os,x,d,e,h=>by
  unfold look at h
  split at h
  · injection h
  · exact My (os:=os) e h
theorem NsIs.cut {Z:Zs}{m:Nat}{ns:List Str}{os:List (Option D)}{es:Array DictEntry}(e:bdO m os=true)(h:NsIs Z ns os es):NsIs (Zcut Z m) ns os es:=⟨h.1,fun x=>by
 have q:=h.2 x;have k:=@My m ns os x;generalize look ns os x=o at q k ⊢;generalize nsFind es x=u at q ⊢
 cases q with
 | none=>exact .none
 | some i=>exact .some (i.cut (k e rfl))⟩
theorem IsO.cut {Z:Zs}{m:Nat}{d:OD}{o:Obj}(e:bdOD m d=true)(h:IsO Z d o):IsO (Zcut Z m) d o:=by
 cases d with
 | inst=>exact h.imp id fun h=>h.imp (fun hz1=>by refine E11 hz1 fun d h=>?_;exact ⟨d,h.imp (Rr e) id⟩) id
 | ns=>exact h.imp id fun h=>h.imp id fun ⟨es,ep,h⟩=>⟨es,ep,h.imp id fun h=>h.imp (NsIs.cut e) id⟩
 | cell v=>
  refine Exists.imp (fun _ h=>h.imp id fun (h:Jy Z v _)=>?_) h
  cases h with
  | none=>exact .none
  | some i=>exact .some (i.cut e)
 | _=>exact Exists.imp (fun _ h=>Exists.imp (fun _ h=>h.imp id (IsL.cut e)) h) h
noncomputable def Tidy (n:Nat)(loc:List (Option D))(led led':List OD):Prop:=led'=led \/ ∃ m,n <= m /\ led'=led.take m /\ bdO m loc=true /\ led'.all (bdOD m)=true
theorem Rel.tidy {s:Shared}{Z₀:Zs}{loc:List (Option D)}{led led':List OD}{Z:Zs}(r:Rel Γ ⟨loc,led,Z⟩ s)(z:Zle Z₀ Z)(t:Tidy Z₀.ad.length loc led led') :
 ∃ Z',Zle Z₀ Z' /\ Rel Γ ⟨loc,led',Z'⟩ s /\ Z'.m=Z.m /\ ∀ a,Off Γ ⟨loc,led,Z⟩ a->Off Γ ⟨loc,led',Z'⟩ a:=by
 rcases t with rfl | ⟨m,hm,rfl,h1,h2⟩
 · exact ⟨Z,z,r,rfl,fun _ h=>h⟩
 have pm:∀ p ∈ (Z.ad.take m).zip (led.take m),p ∈ Z.ad.zip led:=fun p hp=>by rw [List.zip,<-List.take_zipWith] at hp;exact List.mem_of_mem_take hp
 refine ⟨Zcut Z m,⟨z.1,?_⟩,⟨r.ok,r.base,r.zs,?_,r.locNew,fun p hp=>?_,?_,?_,r.fr,r.gens,r.os⟩,rfl,fun a h=>⟨h.base,h.z,h.loc,fun q=>h.led (List.mem_of_mem_take q)⟩⟩
 · refine E11 (z.2) fun l e=>?_;refine ⟨l.take (m - Z₀.ad.length),?_⟩;show Z.ad.take m=_;rw [e,List.take_append,List.take_of_length_le hm]
 · refine E33 (r.loc) fun o es ep h hd hn=>?_;exact ⟨o,es,ep,h,hd,hn.cut h1⟩
 · have hp:p ∈ (Z.ad.take m).zip (led.take m):=hp;refine E02 (r.led p (pm p hp)) fun hq14=>?_;refine E12 hq14 fun o h i=>?_;intro rest;exact ⟨⟨o,h,i.cut (List.all_eq_true.mp h2 _ (List.of_mem_zip hp).2)⟩,rest⟩
 · show (Z.ad.take m).length=(led.take m).length;rw [List.length_take,List.length_take,r.adl]
 · exact r.nodup.sublist (List.take_sublist _ _)
noncomputable def WhD (Γ:Cx)(E:String->St->Prop)(Z₀:Zs)(k:Nat)(test:Expr)(body orelse:List Stmt)(Q:Fl->St->Prop):Nat->List (Option D)->List OD->Prop
 | 0,_,_=>False
 | n + 1,loc,led=>∀ Z,Zle Z₀ Z->TS Γ E test ⟨loc,led,Z⟩ fun b σ₁=>Br b (XS Γ E body σ₁ (LoopK (fun σ₂=>∃ led',Tidy k σ₂.loc σ₂.led led' /\ WhD Γ E Z₀ k test body orelse Q n σ₂.loc led') Q)) (XS Γ E orelse σ₁ Q)
inductive Je8 (Γ:Cx)(Z₀:Zs)(F:List (Option D)->List OD->Prop)(s:Shared):Prop
 | mk (loc:List (Option D)) (led:List OD) (Z:Zs) (z:Zle Z₀ Z) (r:Rel Γ ⟨loc,led,Z⟩ s) (h:F loc led)
theorem Sa {test:Expr}{body orelse:List Stmt}{pos:Pos}{Q:Fl->St->Prop}(n:Nat)(h:WhD Γ E σ.Z σ.led.length test body orelse Q n σ.loc σ.led):EX Γ E (.While test body orelse pos) σ Q:=by
 intro s r;refine wpAny_While (codeAny_whileLoop (fun n s=>Je8 Γ σ.Z (WhD Γ E σ.Z σ.led.length test body orelse Q n) s) ?_ n ⟨_,_,_,Zle.rfl,r,h⟩)
 rintro n s' ⟨loc,led,Z,z,r',h⟩
 cases n with
 | zero=>exact h.elim
 | succ n=>
  refine wpAny_mono (h Z z s' r') (fun b s₁ hq0=>?_) fun v s' x=>JL (upE z v s' x);obtain ⟨b',σ₁,z₁,r₁,e,q⟩:=hq0;have e:b'=b:=e;subst e;have z₁:=z.trans z₁
  cases b' with
  | true=>
   refine wpAny_mono (q.1 rfl s₁ r₁) (fun f s₂ hq1=>?_) fun v s' x=>JL (upE z₁ v s' x);obtain ⟨fl,σ₂,z₂,r₂,i,q₂⟩:=hq1;have fin:(∃ led',Tidy σ.led.length σ₂.loc σ₂.led led' /\ WhD Γ E σ.Z σ.led.length test body orelse Q n σ₂.loc led')->∃ m,m < n + 1 /\ Je8 Γ σ.Z (WhD Γ E σ.Z σ.led.length test body orelse Q m) s₂:=fun ⟨led',ht,hw⟩=>by
    rw [<-r.adl] at ht;refine E14 (Rel.tidy r₂ (z₁.trans z₂) ht) fun Z₆ z₆ r₆ hq12=>?_;obtain -:=hq12;intro hq13;obtain -:=hq13;exact ⟨n,Nat.lt_succ_self _,_,_,_,z₆,r₆,hw⟩
   cases i with
   | next=>exact fin q₂
   | cont=>exact fin q₂
   | brk=>exact ⟨_,σ₂,z₁.trans z₂,r₂,.next,q₂⟩
   | ret i=>exact ⟨_,σ₂,z₁.trans z₂,r₂,.ret i,q₂⟩
  | false=>exact wpAny_mono (q.2 rfl s₁ r₁) (fun _ _ p=>p.up z₁) fun v s' x=>JL (upE z₁ v s' x)
inductive Yq (Γ:Cx)(σ:St)(J:Nat->List (Addr × Obj)->Prop)(i:Nat)(d:D)(v:Value)(s'':Shared):Prop
 | mk (Z':Zs) (ps':List (Addr × Obj)) (z:Zle σ.Z Z') (r:Rel Γ { σ with Z:=Z' } s'') (iv:Is Z' d v) (j:J (i + 1) ps') (H:Lv Γ { σ with Z:=Z' } s''.heap ps')
inductive YK (Γ:Cx)(σ:St)(keep:List OD->Prop)(xs:LD)(J:Nat->List (Addr × Obj)->Prop)(F:LD->St->Prop)(n:Nat)(s:Shared):Prop
 | mk (σ':St) (i:Nat) (ps:List (Addr × Obj)) (hn:n=xs.length + 1 - i) (hi:i <= xs.length) (z:Zle σ.Z σ'.Z) (r:Rel Γ σ' s) (hk:keep σ'.led) (j:J i ps) (H:Lv Γ σ' s.heap ps) (h:F (xs.drop i) σ')
structure Itr (Γ:Cx)(Z₀:Zs)(target:Expr)(it:Addr)(keep:List OD->Prop)(xs:LD)(J:Nat->List (Addr × Obj)->Prop):Prop where
 item:∀ i d σ s ps X,xs[i]?=some d->Zle Z₀ σ.Z->Rel Γ σ s->keep σ.led->J i ps->Lv Γ σ s.heap ps ->
  wpAny Γ.M Γ.A (pyNext (.ref it)) (fun r s'=>∃ v,r=some v /\ wpAny Γ.M Γ.A (letOwnedTupleGo target (.ref it) v) (fun _ s''=>Yq Γ σ J i d v s'') X s') X s
 done:Mw Γ->∀ i σ s ps X,xs[i]?=none->Zle Z₀ σ.Z->Rel Γ σ s->keep σ.led->J i ps->Lv Γ σ s.heap ps ->
  wpAny Γ.M Γ.A (pyNext (.ref it)) (fun r s'=>r=none /\ Rel Γ σ s') X s
 self:∀ i (σ:St) (s:Shared) ps (Q:Value->Shared->Prop) X,J i ps->Lv Γ σ s.heap ps->Q (.ref it) s->wpAny Γ.M Γ.A (pyIter (.ref it)) Q X s
noncomputable def Asn (Γ:Cx)(E:String->St->Prop)(target:Expr)(d:D)(σ:St)(Q:Unit->St->Prop):Prop:=∀ v,Is σ.Z d v->Wp Γ E (assign target Γ.env v) EqR σ Q
noncomputable def ForD (Γ:Cx)(E:String->St->Prop)(keep:List OD->Prop)(Z₀:Zs)(n:Nat)(target:Expr)(body orelse:List Stmt)(Q:Fl->St->Prop):LD->List (Option D)->List OD->Prop
 | [],loc,led=>∀ Z,Zle Z₀ Z->XS Γ E orelse ⟨loc,led,Z⟩ Q
 | x :: xs,loc,led=>∀ Z,Zle Z₀ Z->Asn Γ E target x ⟨loc,led,Z⟩ fun _ σ₁=>XS Γ E body σ₁ (LoopK (fun σ₂=>∃ led',Tidy n σ₂.loc σ₂.led led' /\ keep led' /\ ForD Γ E keep Z₀ n target body orelse Q xs σ₂.loc led') Q)
theorem O6 {keep:List OD->Prop}{xs:LD}{J:Nat->List (Addr × Obj)->Prop}{F:LD->St->Prop}{i:Nat}{loc loc₄:List (Option D)}{led led₄ led':List OD}{Z' Za Z₄:Zs}{h:Heap}{s₄:Shared}{ps':List (Addr × Obj)}(hlt:i < xs.length)(z₁:Zle σ.Z Z')(H':Lv Γ ⟨loc,led,Z'⟩ h ps')
 (z₂:Zle Z' Za) (hz:∀ p ∈ ps',Za.m p.1=some p.2) (zz:Zle Za Z₄) (r₄:Rel Γ ⟨loc₄,led₄,Z₄⟩ s₄) (ht:Tidy σ.Z.ad.length loc₄ led₄ led') (hk':keep led') (hJ':J (i + 1) ps') (hf:∀ Z,F (xs.drop (i + 1)) ⟨loc₄,led',Z⟩):∃ m,m < xs.length + 1 - i /\ YK Γ σ keep xs J F m s₄:=by
 have up:=z₂.trans zz;refine E03 (r₄.unhold H'.nd fun p hp=>⟨zz.1 _ _ (hz p hp),(H'.each p hp).2.2⟩) fun ns r₅ H₅=>?_;have z₅:Zle σ.Z (ZdelL Z₄ (ps'.map (·.1))):=by
  refine ⟨fun a o e=>?_,(z₁.trans up).2⟩;have e1:=z₁.1 _ _ e;refine (if_neg fun q=>?_).trans (up.1 _ _ e1);refine E12 (List.mem_map.mp q) fun p hp hq11=>?_;obtain rfl:=hq11;have:Z'.m p.1=none:=(H'.each p hp).1.z;rw [e1] at this;injection this
 refine E14 (Rel.tidy r₅ z₅ ht) fun Z₆ z₆ r₆ hq10=>?_;obtain -:=hq10;intro off₆;exact ⟨xs.length + 1 - (i + 1),by lia,_,i + 1,ps',rfl,hlt,z₆,r₆,hk',hJ',⟨H₅.nd,fun p hp=>let ⟨a,b⟩:=H₅.each p hp;⟨off₆ _ a,b⟩⟩,hf _⟩
theorem Td {target:Expr}{it:Addr}{keep:List OD->Prop}{xs:LD}{J:Nat->List (Addr × Obj)->Prop}{body orelse:List Stmt}{Q:Fl->St->Prop}{s:Shared}{ps:List (Addr × Obj)}
 (hc:Mw Γ) (I:Itr Γ σ.Z target it keep xs J) (hk:keep σ.led) (h:ForD Γ E keep σ.Z σ.Z.ad.length target body orelse Q xs σ.loc σ.led) (r:Rel Γ σ s) (hJ:J 0 ps) (H:Lv Γ σ s.heap ps) :
 codeAny Γ.M Γ.A (.forLoop target (.ref it) body orelse Γ.env) (fun r s'=>match r with | .ok f=>J5 Γ IsF σ Q f s' | .error e=>cameBackBy Γ.M Γ.A Γ.env (JK Γ σ E) e s') s:=by
 refine codeAny_loop' rfl (YK Γ σ keep xs J fun l σ'=>ForD Γ E keep σ.Z σ.Z.ad.length target body orelse Q l σ'.loc σ'.led) ?_ (xs.length + 1) ⟨σ,0,ps,rfl,Nat.zero_le _,Zle.rfl,r,hk,hJ,H,h⟩
 · rintro n s ⟨σ',i,ps,rfl,hi,z,r,hk,hJ,H,h⟩
   show wpAny _ _ ((forTurn target (.ref it) body orelse Γ.env).onRaise (fun x=>do noteFrame x Γ.env;theTreesLotGoes x)) _ _ s;refine wpAny_noted ?_;simp only [forTurn];refine wpAny_bind (wpAny_standAt (wpAny_bind (wpAny_onRaise ?_)))
   cases hx:xs[i]? with
   | none=>
    refine wpAny_mono (I.done hc i σ' s ps (fun _ _=>False) hx z r hk hJ H) (fun o s₁ hq2=>?_) (fun _ _ x=>x.elim);refine E02 hq2 fun ho r₁=>?_;subst ho;rw [List.drop_eq_nil_iff.mpr (List.getElem?_eq_none_iff.mp hx)] at h;exact wpAny_pure (.inr ⟨rfl,codeAny_block (wpAny_mono (h σ'.Z z s₁ r₁) (fun _ _ p=>p.up z) fun v s' x=>JL (upE z v s' x))⟩)
   | some d=>
    have hlt:i < xs.length:=(gel hx);rw [List.drop_eq_getElem_cons hlt,(List.getElem?_eq_some_iff.mp hx).2] at h;refine wpAny_mono (I.item i d σ' s ps (fun _ _=>False) hx z r hk hJ H) (fun o s₁ hq3=>?_) (fun _ _ x=>x.elim);refine E12 hq3 fun v ho h₁=>?_;subst ho;refine wpAny_bind (wpAny_mono h₁ (fun _ s₂ hq4=>?_) (fun _ _ x=>x.elim));obtain ⟨Z',ps',z',r',iv,hJ',H'⟩:=hq4;have z₁:=z.trans z';refine E03 (r'.hold H') fun z₂ r₂ hz=>?_;have z₃:=z₁.trans z₂;refine wpAny_bind (wpAny_mono (h _ z₃ v (iv.mono z₂) s₂ r₂) (fun _ s₃ hq5=>?_) fun v s' x=>JL (upE z₃ v s' x));obtain ⟨_,σ₃,zz,r₃,_,q⟩:=hq5;have z₄:=z₃.trans zz;refine wpAny_bind (wpAny_mono (q s₃ r₃) (fun f s₄ hq6=>?_) fun v s' x=>JL (upE z₄ v s' x));obtain ⟨fl,σ₄,zz',r₄,ifl,q'⟩:=hq6;have fin:(∃ led',Tidy σ.Z.ad.length σ₄.loc σ₄.led led' /\ keep led' /\ ForD Γ E keep σ.Z σ.Z.ad.length target body orelse Q (xs.drop (i + 1)) σ₄.loc led')->∃ m,m < xs.length + 1 - i /\ YK Γ σ keep xs J (fun l σ'=>ForD Γ E keep σ.Z σ.Z.ad.length target body orelse Q l σ'.loc σ'.led) m s₄:=
     fun ⟨led',ht,hk',hf⟩=>O6 hlt z₁ H' z₂ hz (zz.trans zz') r₄ ht hk' hJ' fun _=>hf
    cases ifl with
    | next=>exact wpAny_pure (.inl ⟨rfl,fin q'⟩)
    | cont=>exact wpAny_pure (.inl ⟨rfl,fin q'⟩)
    | brk=>exact wpAny_pure ⟨_,σ₄,z₄.trans zz',r₄,.next,q'⟩
    | ret iv'=>exact wpAny_pure ⟨_,σ₄,z₄.trans zz',r₄,.ret iv',q'⟩
theorem OT {M:Model}{A:Around}{X:Value->Shared->Prop}{target:Expr}{it:Addr}{v:Value}{o:Obj}{T:String}{Q:Unit->Shared->Prop}{s:Shared}(ho:s.heap.get? it=some o)(hc:o.cls=.type T)
 (hT:["enumerate", "zip", "dict_itemiterator", "dict_reverseitemiterator", "odict_iterator", "itertools.zip_longest", "itertools.pairwise"].contains T=false) (h:Q () s):wpAny M A (letOwnedTupleGo target (.ref it) v) Q X s:=by
 have key:∀ {vv:Value},wpAny M A (do
  let (.ref r,.ref a):=((.ref it:Value),vv) | return
  let o <-load r
  match o.cls,o.data with
  | .type n,.fields vs=>
   if ["enumerate", "zip", "dict_itemiterator", "dict_reverseitemiterator", "odict_iterator", "itertools.zip_longest", "itertools.pairwise"].contains n && vs[0]? == some (rawInt a) then
    rule "for.unpacks-the-owned-tuple"
    updateField r 0 .none
  | _,_=>pure ()) Q X s:=by
  intro vv;cases vv <;> first | exact wpAny_pure h | skip
  refine wpAny_bind (wpAny_load ho ?_);rw [hc]
  cases o.data with
  | fields=>dsimp only;rw [hT];exact wpAny_pure h
  | _=>exact wpAny_pure h
 cases target <;> first | exact wpAny_pure h | exact key
theorem Lv.one {h:Heap}{a:Addr}{o:Obj}{vs:Array Value}(x:Off Γ σ a)(ho:h.get? a=some o)(hd:o.data=.fields vs):Lv Γ σ h [(a,o)]:=
 ⟨by simp,fun p hp=>by simp only [List.mem_singleton] at hp;subst hp;exact ⟨x,ho,vs,hd⟩⟩
noncomputable def JList (it l:Addr)(i:Nat)(ps:List (Addr × Obj)):Prop:=∃ o,ps=[(it,o)] /\ o.cls=.type "list_iterator" /\ o.data=.fields #[.ref l,.int i 0]
theorem SX {target:Expr}{it l:Addr}{k:Nat}{xs:LD}{Z₀:Zs}(hl:Z₀.ad[k]?=some l):Itr Γ Z₀ target it (fun led=>led[k]?=some (.list xs)) xs (JList it l) where
 item:=by
  rintro i d σ s ps X hx z₀ r hk ⟨o,rfl,hcl,hda⟩ H
  refine E03 (H.each (it,o) (by simp)) fun off ho _=>?_
  refine E23 (r.at hk) fun a ol e h1 hq9=>?_;refine E22 hq9 fun items n hq27=>?_;clear hq9;obtain rfl:=hq27;intro il;rw [z₀.ad hl] at e;obtain rfl:=Option.some.inj e;refine E12 (il.get hx) fun v hv iv=>?_;refine wpAny_pyNext_list_item ⟨o,ho,hcl,hda⟩ ⟨_,h1,rfl,n,rfl⟩ (x:=v) (by simpa using hv) fun h' hq7 hs=>⟨v,rfl,?_⟩
  refine E13 hq7 fun o' g1 g2 g3=>?_;exact OT g1 g2 (by decide) ⟨σ.Z,[(it,o')],Zle.rfl,off.temp r hs,iv,⟨o',rfl,g2,g3⟩,Lv.one ⟨off.base,off.z,off.loc,off.led⟩ g1 g3⟩
 done:=by
  rintro hc i σ s ps X hx z₀ r hk ⟨o,rfl,hcl,hda⟩ H
  refine E03 (H.each (it,o) (by simp)) fun off ho _=>?_
  refine E23 (r.at hk) fun a ol e h1 hq8=>?_;refine E22 hq8 fun items n hq26=>?_;clear hq8;obtain rfl:=hq26;intro il;rw [z₀.ad hl] at e;obtain rfl:=Option.some.inj e;refine wpAny_pyNext_list_end hc ⟨o,ho,hcl,hda⟩ ⟨_,h1,rfl,n,rfl⟩ ?_ fun h' hs=>⟨rfl,r.extBut off hs _⟩;have:=il.length;simp only [List.getElem?_eq_none_iff,Array.getElem?_eq_none_iff,Array.length_toList] at hx this ⊢
  lia
 self:=by
  rintro i σ s ps Q X ⟨o,rfl,hcl,hda⟩ H h
  refine E03 (H.each (it,o) (by simp)) fun off ho _=>?_
  exact wpAny_pyIter_listiter ⟨o,ho,hcl,hda⟩ h
noncomputable def JTup (it l:Addr)(i:Nat)(ps:List (Addr × Obj)):Prop:=∃ o,ps=[(it,o)] /\ o.cls=.type "tuple_iterator" /\ o.data=.fields #[.ref l,.int i 0]
theorem VJ {target:Expr}{it l:Addr}{xs:LD}{Z₀:Zs}(ht:Is Z₀ (.tup xs) (.ref l)):Itr Γ Z₀ target it (fun _=>True) xs (JTup it l) where
 item:=by
  rintro i d σ s ps X hx z₀ r hk ⟨o,rfl,hcl,hda⟩ H
  refine E03 (H.each (it,o) (by simp)) fun off ho _=>?_
  cases ht with
  | @tup _ items n _ h1 il=>
   refine E02 (r.zs _ _ (z₀.1 _ _ h1)) fun hq7=>?_;refine E12 hq7 fun sl g _=>?_;intro _;refine E12 ((il.mono z₀).get hx) fun v hv iv=>?_;refine wpAny_pyNext_tuple_item ⟨o,ho,hcl,hda⟩ ⟨_,g,rfl,n,rfl⟩ (x:=v) (by simpa using hv) fun h' hq8 hs=>⟨v,rfl,?_⟩
   refine E13 hq8 fun o' g1 g2 g3=>?_;exact OT g1 g2 (by decide) ⟨σ.Z,[(it,o')],Zle.rfl,off.temp r hs,iv,⟨o',rfl,g2,g3⟩,Lv.one ⟨off.base,off.z,off.loc,off.led⟩ g1 g3⟩
 done:=by
  rintro hc i σ s ps X hx z₀ r hk ⟨o,rfl,hcl,hda⟩ H
  refine E03 (H.each (it,o) (by simp)) fun off ho _=>?_
  cases ht with
  | @tup _ items n _ h1 il=>
   refine E02 (r.zs _ _ (z₀.1 _ _ h1)) fun hq6=>?_;refine E12 hq6 fun sl g _=>?_;intro _;refine wpAny_pyNext_tuple_end hc ⟨o,ho,hcl,hda⟩ ⟨_,g,rfl,n,rfl⟩ ?_ fun h' hs=>⟨rfl,r.extBut off hs _⟩;have:=il.length;simp only [List.getElem?_eq_none_iff,Array.getElem?_eq_none_iff,List.size_toArray] at hx this ⊢
   lia
 self:=by
  rintro i σ s ps Q X ⟨o,rfl,hcl,hda⟩ H h
  refine E03 (H.each (it,o) (by simp)) fun off ho _=>?_
  exact wpAny_pyIter_tupleiter ⟨o,ho,hcl,hda⟩ h
noncomputable def JStr (it:Addr)(l:LN)(t:Tok)(i:Nat)(ps:List (Addr × Obj)):Prop:=∃ o,ps=[(it,o)] /\ o.cls=.type (strIterType ⟨l.toArray⟩) /\ o.data=.fields #[.str ⟨l.toArray⟩ t,.int i 0]
theorem VV {target:Expr}{it:Addr}{l:LN}{t:Tok}{Z₀:Zs}  : Itr Γ Z₀ target it (fun _=>True) (l.map fun c=>.str [c]) (JStr it l t) where
 item:=by
  rintro i d σ s ps X hx z₀ r hk ⟨o,rfl,hcl,hda⟩ H
  refine E03 (H.each (it,o) (by simp)) fun off ho _=>?_
  rw [List.getElem?_map] at hx;refine E12 (Option.map_eq_some_iff.mp hx) fun c hc' hq5=>?_;obtain rfl:=hq5;have hcps:(⟨l.toArray⟩:Str).cps[i]?=some c:=by simpa using hc'
  cases ha:(⟨l.toArray⟩:Str).cps.all (· < 128) with
  | true=>
   have hty:strIterType ⟨l.toArray⟩ = "str_ascii_iterator":=by simp only [strIterType,ha];rfl
   rw [hty] at hcl;refine wpAny_pyNext_ascii_item ⟨o,ho,hcl,hda⟩ hcps fun h' hq9 hs=>⟨_,rfl,?_⟩;refine E13 hq9 fun o' g1 g2 g3=>?_;exact OT g1 g2 (by decide) ⟨σ.Z,[(it,o')],Zle.rfl,r.extBut off hs.extBut _,.str _ _ (by simp),⟨o',rfl,by rw [hty];exact g2,g3⟩,Lv.one ⟨off.base,off.z,off.loc,off.led⟩ g1 g3⟩
  | false=>
   have hty:strIterType ⟨l.toArray⟩ = "str_iterator":=by simp only [strIterType,ha];rfl
   rw [hty] at hcl;refine wpAny_pyNext_wide_item ⟨o,ho,hcl,hda⟩ hcps fun h' hq10 hs=>⟨_,rfl,?_⟩;refine E13 hq10 fun o' g1 g2 g3=>?_;exact OT g1 g2 (by decide) ⟨σ.Z,[(it,o')],Zle.rfl,r.extBut off hs.extBut _,.str _ _ (by simp),⟨o',rfl,by rw [hty];exact g2,g3⟩,Lv.one ⟨off.base,off.z,off.loc,off.led⟩ g1 g3⟩
 done:=by
  rintro hc i σ s ps X hx z₀ r hk ⟨o,rfl,hcl,hda⟩ H
  refine E03 (H.each (it,o) (by simp)) fun off ho _=>?_
  rw [List.getElem?_map] at hx;have hcps:(⟨l.toArray⟩:Str).cps[i]?=none:=by simpa using hx
  cases ha:(⟨l.toArray⟩:Str).cps.all (· < 128) with
  | true=>
   have hty:strIterType ⟨l.toArray⟩ = "str_ascii_iterator":=by simp only [strIterType,ha];rfl
   rw [hty] at hcl;exact wpAny_pyNext_ascii_end hc ⟨o,ho,hcl,hda⟩ hcps fun h' hs=>⟨rfl,r.extBut off hs _⟩
  | false=>
   have hty:strIterType ⟨l.toArray⟩ = "str_iterator":=by simp only [strIterType,ha];rfl
   rw [hty] at hcl;exact wpAny_pyNext_wide_end hc ⟨o,ho,hcl,hda⟩ hcps fun h' hs=>⟨rfl,r.extBut off hs _⟩
 self:=by
  rintro i σ s ps Q X ⟨o,rfl,hcl,hda⟩ H h
  refine E03 (H.each (it,o) (by simp)) fun off ho _=>?_
  cases ha:(⟨l.toArray⟩:Str).cps.all (· < 128) with
  | true=>
   have hty:strIterType ⟨l.toArray⟩ = "str_ascii_iterator":=by simp only [strIterType,ha];rfl
   rw [hty] at hcl;exact wpAny_pyIter_striter_ascii ⟨o,ho,hcl,hda⟩ h
  | false=>
   have hty:strIterType ⟨l.toArray⟩ = "str_iterator":=by simp only [strIterType,ha];rfl
   rw [hty] at hcl;exact wpAny_pyIter_striter_wide ⟨o,ho,hcl,hda⟩ h
inductive Jes (Γ:Cx)(σ:St)(target:Expr)(keep:List OD->Prop)(xs:LD)(it:Value)(s':Shared):Prop
 | mk (a:Addr) (J:Nat->List (Addr × Obj)->Prop) (ps:List (Addr × Obj)) (e:it=.ref a) (r:Rel Γ σ s') (I:∀ Γ' Z₀,Zle σ.Z Z₀->Itr Γ' Z₀ target a keep xs J) (j:J 0 ps) (H:Lv Γ σ s'.heap ps)
noncomputable def Itb (Γ:Cx)(E:String->St->Prop)(target:Expr)(a:D)(σ:St)(keep:List OD->Prop)(xs:LD):Prop:=
 keep σ.led /\ ∀ v s,Is σ.Z a v->Rel Γ σ s->wpAny Γ.M Γ.A (pyIter v) (Jes Γ σ target keep xs) (JK Γ σ E) s
theorem Ua {target:Expr}{k:Nat}{xs:LD}(hp:σ.led[k]?=some (.list xs)):Itb Γ E target (.ref k) σ (fun led=>led[k]?=some (.list xs)) xs:=by
 refine ⟨hp,fun v s hv r=>?_⟩;refine E23 (r.at hp) fun a ol e h1 hq4=>?_;refine E22 hq4 fun items n hq25=>?_;clear hq4;obtain rfl:=hq25;intro il;refine E12 (hv.inv) fun _ hq3=>?_;obtain rfl:=hq3;intro e'
 ·
  rw [e] at e';obtain rfl:=Option.some.inj e';exact wpAny_pyIter_list ⟨_,h1,rfl,n,rfl⟩ ⟨_,JList _ a,_,rfl,r.push _ _,fun _ _ z=>SX (z.ad e),⟨_,rfl,rfl,rfl⟩,Lv.one (Off.fresh r) (Heap.get?_push_size _ rfl) rfl⟩
theorem VL {target:Expr}{l:LN}:Itb Γ E target (.str l) σ (fun _=>True) (l.map fun c=>.str [c]):=by
 refine ⟨trivial,fun v s hv r=>?_⟩;refine E12 (hv.inv) fun t hq2=>?_;obtain rfl:=hq2;intro hl
 · exact wpAny_pyIter_strU ⟨_,JStr _ l t,_,rfl,r.push _ _,fun _ _ _=>VV,⟨_,rfl,rfl,rfl⟩,Lv.one (Off.fresh r) (Heap.get?_push_size _ rfl) rfl⟩
theorem WX {target:Expr}{xs:LD}:Itb Γ E target (.tup xs) σ (fun _=>True) xs:=by
 refine ⟨trivial,fun v s hv r=>?_⟩;have hv':=hv;refine E33 (hv.inv) fun l items n hq1=>?_;obtain rfl:=hq1;intro h1 il
 ·
  refine E02 (r.zs _ _ h1) fun hq0=>?_;refine E12 hq0 fun sl g _=>?_;intro _;exact wpAny_pyIter_tuple ⟨_,g,rfl,n,rfl⟩ ⟨_,JTup _ l,_,rfl,r.push _ _,fun _ _ z=>VJ (hv'.mono z),⟨_,rfl,rfl,rfl⟩,Lv.one (Off.fresh r) (Heap.get?_push_size _ rfl) rfl⟩
theorem X7 (hc:Mw Γ){target iter:Expr}{body orelse:List Stmt}{pos:Pos}{Q:Fl->St->Prop}(h:EV Γ E iter σ fun a σ₁=>∃ keep xs,Itb Γ E target a σ₁ keep xs /\ ∀ n,n=σ₁.led.length->ForD Γ E keep σ₁.Z n target body orelse Q xs σ₁.loc σ₁.led)
 (hs:∀ x,foldedSetIterable iter Γ.env x=pure x):EX Γ E (.For target iter body orelse pos) σ Q:=by
 intro s r;refine wpAny_For (wpAny_mono (h s r) (fun v s₁ hq11=>?_) fun _ _ x=>x) hs;obtain ⟨a,σ₁,z,r₁,i,keep,xs,⟨hk,hi⟩,hf⟩:=hq11;refine wpAny_mono (hi v s₁ i r₁) (fun it s₂ hq12=>?_) (upE z);obtain ⟨a,J,ps,e,r₂,I,hJ,H⟩:=hq12;subst e;refine codeAny_mono (Td hc (I Γ _ Zle.rfl) hk (hf _ r₁.adl) r₂ hJ H) fun r s' h'=>?_
 cases r with
 | ok f=>exact h'.up z
 | error e=>exact wpAny_mono h' (fun _ _ x=>upE z _ _ x) fun _ _ x=>upE z _ _ x
end
end Mine
end
noncomputable section
open PySem PySem.W PyProof.Rows PySem.Calls
set_option backward.match.sparseCases false
namespace Mine
section
variable {Γ:Cx}{E:String->St->Prop}{σ:St}
theorem J5.set {α β:Type}{R:Zs->β->α->Prop}{Q:β->St->Prop}{b:β}{v:α}{s':Shared}{led':List OD}(r:Rel Γ { σ with led:=led' } s')(i:R σ.Z b v)(q:Q b { σ with led:=led' }):J5 Γ R σ Q v s':=⟨b,{ σ with led:=led' },Zle.rfl,r,i,q⟩
theorem J2 {Z:Zs}{xs:LD}{items:Array Value}{n:Nat}(h:IsL Z xs items.toList):IsO Z (.list xs) { cls:=.type "list",data:=.seq items n }:=⟨items,n,rfl,h⟩
theorem J5.new {Q:D->St->Prop}{s:Shared}{o:Obj}{d:OD}(r:Rel Γ σ s)(hf:o.isFreed=false)(hi:IsO σ.Z d o)(q:∀ Z,Q (.ref σ.led.length) ⟨σ.loc,σ.led++[d],Z⟩)(t:Nat):J5 Γ Is σ Q (.ref s.heap.objs.size) { s with heap:=s.heap.push o,toks:=t }:=
 let ⟨z,r',e⟩:=r.alloc hf hi t;⟨.ref σ.led.length,_,z,r',.ref e,q _⟩
theorem J5.here {α β:Type}{R:Zs->β->α->Prop}{Q:β->St->Prop}{b:β}{v:α}{s':Shared}(r:Rel Γ σ s')(i:R σ.Z b v)(q:Q b σ):J5 Γ R σ Q v s':=⟨b,_,Zle.rfl,r,i,q⟩
theorem Nh {elts:List Expr}{pos:Pos}{Q:LD->St->Prop}(hn:noStar elts=true)(h:EVs Γ E elts σ Q):Wp Γ E (spliced (backTo pos (starEach elts Γ.env))) IsL σ Q:=by
 rw [JN hn];exact JF h
theorem WU {elts:List Expr}{pos:Pos}{Q:D->St->Prop}(hn:noStar elts=true)(h:EVs Γ E elts σ fun ds σ₁=>ds.length <= 1000 /\ ∀ Z,Q (.ref σ₁.led.length) ⟨σ₁.loc,σ₁.led++[.list ds],Z⟩):EV Γ E (.List elts pos) σ Q:=by
 intro s r;refine wpAny_List (wpAny_mono (Nh hn h s r) (fun vs s₁ ⟨ds,σ₁,z,r₁,i,hl,q⟩=>⟨?_,?_⟩) fun _ _ x=>x)
 · rw [<-i.length,sizeLine_eq];lia
 · exact J5.up z (J5.new (d:=.list ds) r₁ rfl (J2 (by simpa using i)) q _)
theorem SO {elts:List Expr}{k:Nat}{pos:Pos}{Q:D->St->Prop}(hn:noStar elts=true)(h:EVs Γ E elts σ fun ds σ₁=>ds.length <= 1000 /\ ∀ Z,Q (.tup ds) { σ₁ with Z:=Z }):EV Γ E (.Tuple elts k pos) σ Q:=by
 intro s r;refine wpAny_Tuple (wpAny_mono (Nh hn h s r) (fun vs s₁ ⟨ds,σ₁,z,r₁,i,hl,q⟩=>⟨?_,?_⟩) fun _ _ x=>x)
 · rw [<-i.length,sizeLine_eq];lia
 · refine E13 (r₁.allocZ (o:={ cls:=.type "tuple",data:=.seq vs.toArray }) rfl s₁.toks) fun Z' z' hZ r₂=>?_;exact ⟨_,_,z.trans z',r₂,.tup hZ (i.mono z'),q _⟩
theorem O0 {x:Str}{pos:Pos}{d:D}{Q:Unit->St->Prop}(h:∃ loc',N2 Γ.names σ.loc x d loc' /\ Q () { σ with loc:=loc' }):Asn Γ E (.Name x pos) d σ Q:=by
 refine E12 h fun loc' U q=>?_;exact fun v hv s r=>wpAny_assign_Name (LR U hv q s r)
noncomputable def AsnL (Γ:Cx)(E:String->St->Prop):List Expr->LD->St->(Unit->St->Prop)->Prop
 | [],[],σ,Q=>Q () σ
 | t :: ts,d :: ds,σ,Q=>Asn Γ E t d σ fun _ σ₁=>AsnL Γ E ts ds σ₁ Q
 | _,_,_,_=>False
theorem JC {env:Env}:∀ {l:List Expr},noStar l=true->assignEach l env=l.map fun e=>(false,assign e env)
 | [],_=>rfl
 | e :: r,h=>by
  cases e <;> first | (cases h;done) | exact congrArg (_ :: ·) (JC (l:=r) h)
theorem Qr:∀ {ts:List Expr} {ds:LD} {vs:List Value} {σ:St} {Q:Unit->St->Prop},AsnL Γ E ts ds σ Q->IsL σ.Z ds vs->Wp Γ E (assignInOrder (ts.map fun e=>assign e Γ.env) vs) EqR σ Q
 | [],[],_,_,_,h,.nil=>Wp.pure rfl h
 | t :: ts,d :: ds,_,σ,Q,h,.cons i ir=>by
  refine Wp.bind (Wp.holding (Wp.mono (h _ i) fun _ σ₁ z q _ _=>Qr q (ir.mono z)))
 | [],_ :: _,_,_,_,h,_=>h.elim
 | _ :: _,[],_,_,_,h,_=>h.elim
theorem RK (hc:Mw Γ){elts:List Expr}{k:Nat}{pos:Pos}{ds:LD}{Q:Unit->St->Prop}(hn:noStar elts=true)(hl:elts.length=ds.length)(h:AsnL Γ E elts ds σ Q):Asn Γ E (.Tuple elts k pos) (.tup ds) σ Q:=by
 intro v hv s r;refine E33 (hv.inv) fun a items n hq11=>?_;obtain rfl:=hq11;intro hZ il
 ·
  refine E02 (r.zs _ _ hZ) fun hq10=>?_;refine E12 hq10 fun sl g hsl=>?_;intro _;have e:(assignEach elts Γ.env).map (·.2)=elts.map fun e=>assign e Γ.env:=by rw [JC hn];simp
  refine wpAny_assign_Tuple (items:=items.toArray) hc ⟨_,g,rfl,n,rfl⟩ (by rw [JC hn];simp [hl,il.length]) (by rw [JC hn,List.findIdx?_eq_none_iff];simp) fun h' hs=>?_
  rw [e];exact Qr h (by simpa using il) _ (r.extBut (Off.fresh r) hs _)
theorem Kb {t value:Expr}{pos:Pos}{Q:Fl->St->Prop}(h:EV Γ E value σ fun d σ₁=>Asn Γ E t d σ₁ fun _=>Q .next)(hn:noStar [t]=true)
 (hs:swapsWithSole [t] value pos.line Γ.env=pure false) (hw:swappedStores [t] value Γ.env=pure none):EX Γ E (.Assign [t] value pos) σ Q:=by
 intro s r;refine wpAny_Assign_stores (wpAny_mono (h s r) (fun v s₁ ⟨d,σ₁,z,r₁,i,q⟩=>?_) fun _ _ x=>x) hs hw;rw [JC hn];show wpAny _ _ (assign t Γ.env v) _ _ s₁;exact wpAny_mono (q v i s₁ r₁) (fun _ _ hz0=>by obtain ⟨_,σ',z',r',_,q'⟩:=hz0;exact ⟨_,σ',z.trans z',r',.next,q'⟩) (upE z)
theorem Jj {s:Shared}(r:Rel Γ σ s){l:Nat}{xs:LD}(h:σ.led[l]?=some (.list xs)){v:Value}(hv:Is σ.Z (.ref l) v):∃ a items n,v=.ref a /\ σ.Z.ad[l]?=some a /\ s.heap.get? a=some { cls:=.type "list",data:=.seq items n } /\ IsL σ.Z xs items.toList /\ items.size=xs.length:=by
 refine E23 (r.at h) fun a o e g hq9=>?_;refine E22 hq9 fun items n hq12=>?_;clear hq9;obtain rfl:=hq12;intro il;refine E12 (hv.inv) fun _ hq8=>?_;obtain rfl:=hq8;intro e'
 ·
  rw [e] at e';obtain rfl:=Option.some.inj e';exact ⟨a,items,n,rfl,e,g,il,by have:=il.length;simpa using this.symm⟩
theorem KM {s:Shared}(r:Rel Γ σ s){v:Value}{xs:LD}(h:Is σ.Z (.tup xs) v):∃ a items n,v=.ref a /\ s.heap.get? a=some { cls:=.type "tuple",data:=.seq items n } /\ IsL σ.Z xs items.toList /\ items.size=xs.length:=by
 cases h with
 | @tup a items n _ hZ il=>
  refine E02 (r.zs _ _ hZ) fun hq7=>?_;refine E12 hq7 fun sl g hsl=>?_;intro _;have:=hsl (by intro es ep q;injection q)
  subst this;exact ⟨a,items.toArray,n,rfl,g,by simpa using il,by simpa using il.length.symm⟩
theorem IsL.getA {Z:Zs}{xs:LD}{items:Array Value}{i:Nat}{d:D}(h:IsL Z xs items.toList)(e:xs[i]?=some d):∃ v,items[i]?=some v /\ Is Z d v:=by
 refine E12 (h.get e) fun v h1 h2=>?_;exact ⟨v,by simpa using h1,h2⟩
theorem Nl {l b:Nat}{xs ys:LD}{Q:D->St->Prop}(h1:σ.led[l]?=some (.list xs))(h2:σ.led[b]?=some (.list ys))(hl:xs.length + ys.length <= 100000)
 (h:∀ Z,Q (.ref σ.led.length) ⟨σ.loc,σ.led++[.list (xs++ys)],Z⟩):Bin Γ E .Add (.ref l) (.ref b) σ Q:=by
 intro va vb ha hb s r;refine E35 (Jj r h1 ha) fun a1 i1 n1 hq5=>?_;obtain rfl:=hq5;intro hq6;obtain -:=hq6;intro g1 e1 z1;refine E35 (Jj r h2 hb) fun a2 i2 n2 hq3=>?_;obtain rfl:=hq3;intro hq4;obtain -:=hq4;intro g2 e2 z2;exact P.add_list g1 g2 (J5.new (d:=.list (xs++ys)) r rfl (J2 (by simpa using e1.append e2)) h _) (by rw [z1,z2,sizeLine_eq];lia)
theorem J4 {s:Shared}(r:Rel Γ σ s){l:Nat}{a:Addr}{ys:LD}{items:Array Value}{n:Nat}(hp:σ.Z.ad[l]?=some a)(g:s.heap.get? a=some { cls:=.type "list",data:=.seq items n })(f:Array Value->Array Value)
 (il:IsL σ.Z ys (f items).toList) (t:Nat):Rel Γ { σ with led:=σ.led.set l (.list ys) } { s with heap:=s.heap.update a (Obj.mapSeq f),toks:=t }:=by
 have e:∃ n',Obj.mapSeq f { cls:=.type "list",data:=.seq items n }=({ cls:=.type "list",data:=.seq (f items) n' }:Obj):=⟨_,rfl⟩;refine E11 e fun n' e=>?_;exact r.put hp (o':={ cls:=.type "list",data:=.seq (f items) n' }) (by rw [<-e];exact Heap.get?_update_self _ g (by rw [e];rfl)) (J2 il) (Heap.SameBut.update ..) t
theorem Uh {l:Nat}{xs:LD}{name:Str}{id:String}{Q:D × LD->St->Prop}(slot:Slot "list" name id)(hty:typeOf (.builtin id)=pure (.type "method_descriptor"))(hp:σ.led[l]?=some (.list xs))(h:Q (.any (.builtin id),[.ref l]) σ):Met Γ E (.ref l) name σ Q:=by
 intro v pl hv s r;refine E35 (Jj r hp hv) fun a1 i1 n1 hq1=>?_;obtain rfl:=hq1;intro hq2;obtain -:=hq2;intro g1 e1 z1;exact getMethod_builtin ⟨_,g1,rfl⟩ PySem.F.plainAttrs_list slot hty (fun _ e=>by cases e;exact ⟨_,g1,rfl⟩) ⟨_,σ,Zle.rfl,r,⟨.any _,.cons hv .nil⟩,h⟩
theorem P4 {l:Nat}{xs:LD}{d:D}{Q:D->St->Prop}(hp:σ.led[l]?=some (.list xs))(hl:xs.length <= 100000)(h:Q .none { σ with led:=σ.led.set l (.list (xs++[d])) }):Cal Γ E (.any (.builtin "list.append")) [.ref l,d] [] σ Q:=by
 intro vf vs ks hf hv hk hn;obtain rfl:=hf.inv;refine JP (P:=fun vs ks=>Wp Γ E (call (.builtin "list.append") vs ks) Is σ Q) hv hn fun v v' i i'=>?_;intro s r;refine E35 (Jj r hp i) fun a1 i1 n1 hq0=>?_;obtain rfl:=hq0;intro ea g1 e1 z1;refine wpAny_call_entry slot_list_append ⟨_,g1,rfl⟩ entry_list_append ?_ (args_list_append _ _);show wpAny _ _ (updateSeq a1 (·.push v') >>= fun _=>ret .none) _ _ s;refine wpAny_bind (wpAny_updateSeq g1 rfl (wpAny_pure ⟨.none,rfl,J5.set (J4 r ea g1 _ ?_ _) .none h⟩) (by rw [z1,sizeLine_eq];lia) ?_)
 · simpa using e1.append (.cons i' .nil)
 · rw [Array.size_push,z1,sizeLine_eq];lia
end
theorem PL:fillsInplaceSlot (.type "list") "add" (Operator.Add == .Add)=pure false:=by
 unfold fillsInplaceSlot;show (typeLookup (.type "list") (dunderI "add") >>= fun fi=>pure (fi.isSome && !isSeqSlot fi))=pure false;rw [PySem.F.slot_list_iadd.lookup,pure_bind]
 congr 1
theorem Sd:seqSlot? (.type "list") (dunderI "add")=pure (some (.builtin "list.__iadd__")):=PySem.seqSlot_of PySem.F.slot_list_iadd.lookup (by decide +kernel)
section
variable {Γ:Cx}{E:String->St->Prop}{σ:St}
theorem Nm {l b:Nat}{xs ys:LD}{Q:D->St->Prop}(h1:σ.led[l]?=some (.list xs))(h2:σ.led[b]?=some (.list ys))(hl:xs.length + ys.length <= 100000)
 (h:Q (.ref l) { σ with led:=σ.led.set l (.list (xs++ys)) }):Inp Γ E .Add (.ref l) (.ref b) σ Q:=by
 intro va vb ha hb s r;refine E35 (Jj r h1 ha) fun a1 i1 n1 hq16=>?_;obtain rfl:=hq16;intro ea g1 e1 z1;refine E35 (Jj r h2 hb) fun a2 i2 n2 hq14=>?_;obtain rfl:=hq14;intro hq15;obtain -:=hq15;intro g2 e2 z2;unfold inplaceOp;refine wpAny_holding ?_;refine wpAny_bind (wpAny_typeOf ⟨_,g1,rfl⟩ (wpAny_bind (wpAny_of_eq PL ?_)));show wpAny _ _ (if false=true then _ else _) _ _ s
 rw [if_neg Bool.false_ne_true];refine wpAny_bind (wpAny_binaryOp1_none (nm := "add") ⟨_,g1,rfl⟩ ⟨_,g2,rfl⟩ noFill_list_add ?_);refine wpAny_bind (wpAny_of_eq Sd ?_);refine wpAny_bind (wpAny_rule ?_);refine call_meets PySem.F.slot_list_iadd ⟨_,g1,rfl⟩ PySem.F.entry_list_iadd (PySem.F.args_list_iadd_2 _ _) (AutoSeq1.list___iadd___list_list_0 a1 i1 n1 a2 i2 n2 ?_ ?_ ?_) ⟨g1,g2,?_⟩
 · have:Builtin.List.listTooLong (i1.size + i2.size)=false:=by unfold Builtin.List.listTooLong;simp;rw [sizeLine_eq];lia
   simp [this]
 · rw [z1,sizeLine_eq];lia
 · rw [z1,z2,sizeLine_eq];lia
 · exact J5.set (J4 r ea g1 _ (by simpa using e1.append e2) _) ha h
theorem TY {l:Nat}{xs:LD}{Q:Bool->St->Prop}(hp:σ.led[l]?=some (.list xs))(hl:xs.length <= 100000)(h:Q (!xs.isEmpty) σ):Tru Γ E (.ref l) σ Q:=by
 intro v hv s r;refine E35 (Jj r hp hv) fun a1 i1 n1 hq12=>?_;obtain rfl:=hq12;intro hq13;obtain -:=hq13;intro g1 e1 z1;refine wpAny_truthy_list ⟨_,g1,rfl,n1,rfl⟩ (by rw [z1];lia) ⟨!xs.isEmpty,σ,Zle.rfl,r.toks _,?_,h⟩
 show (!xs.isEmpty)=!i1.isEmpty
 cases xs with
 | nil=>have:i1.size=0:=z1;simp [Array.isEmpty,this]
 | cons x xs=>have:i1.size=xs.length + 1:=z1;simp [Array.isEmpty,this]
theorem LY {l:Nat}{xs:LD}(hp:σ.led[l]?=some (.list xs)):NoPyItem Γ (.ref l) σ:=by
 intro v s hv r;refine E35 (Jj r hp hv) fun a1 i1 n1 hq10=>?_;obtain rfl:=hq10;intro hq11;obtain -:=hq11;intro g1 e1 z1;exact ⟨"list",_,⟨_,g1,rfl⟩,list_getitem_lookup⟩
theorem Tg {xs:LD}:NoPyItem Γ (.tup xs) σ:=by
 intro v s hv r;refine E34 (KM r hv) fun a i1 n1 hq9=>?_;obtain rfl:=hq9;intro g1 e1 z1;exact ⟨"tuple",_,⟨_,g1,rfl⟩,PySem.F.slot_tuple_getitem.lookup⟩
noncomputable def atI (xs:LD)(i:Int):Option D:=if i < 0 then xs[(i + xs.length).toNat]? else xs[i.toNat]?
theorem Xh {l:Nat}{xs:LD}{i:Int}{d:D}{Q:D->St->Prop}(hp:σ.led[l]?=some (.list xs))(hd:atI xs i=some d)(h1:-(xs.length:Int) <= i)(hl:xs.length <= 100000)(h:Q d σ) :
 ∀ va vb,Is σ.Z (.ref l) va->Is σ.Z (.int i) vb->Wp Γ E (getItem va vb) Is σ Q:=by
 intro va vb ha hb s r
 (first | obtain rfl:=hb.inv | refine E11 (hb.inv) fun _ hq8=>?_;obtain rfl:=hq8 | obtain ⟨_,rfl,_⟩:=hb.inv | cases hb)
 refine E35 (Jj r hp ha) fun a1 i1 n1 hq6=>?_;obtain rfl:=hq6;intro hq7;obtain -:=hq7;intro g1 e1 z1;unfold atI at hd
 split at hd
 · rename_i hneg
   refine E12 (e1.getA hd) fun v hv iv=>?_;exact wpAny_getItem_list_neg ⟨_,g1,rfl,n1,rfl⟩ hneg (by rw [z1];exact h1) (by lia) (by rw [z1];exact hv) (J5.here r iv h)
 · rename_i hneg
   refine E12 (e1.getA hd) fun v hv iv=>?_;have:i.toNat < xs.length:=(gel hd);exact wpAny_getItem_list ⟨_,g1,rfl,n1,rfl⟩ (by lia) (by lia) hv (J5.here r iv h)
theorem TA {l:Nat}{xs:LD}{i:Int}{d:D}{Q:D->St->Prop}(hp:σ.led[l]?=some (.list xs))(hd:atI xs i=some d)(h1:-(xs.length:Int) <= i)(hl:xs.length <= 100000)(h:Q d σ):Itm Γ E (.ref l) (.int i) σ Q:=
 ⟨LY hp,Xh hp hd h1 hl h⟩
theorem V5 {xs:LD}{i:Int}{d:D}{Q:D->St->Prop}(h0:0 <= i)(hd:xs[i.toNat]?=some d)(hl:xs.length <= 100000)(h:Q d σ):Itm Γ E (.tup xs) (.int i) σ Q:=by
 refine ⟨Tg,fun va vb ha hb s r=>?_⟩
 (first | obtain rfl:=hb.inv | refine E11 (hb.inv) fun _ hq5=>?_;obtain rfl:=hq5 | obtain ⟨_,rfl,_⟩:=hb.inv | cases hb)
 refine E34 (KM r ha) fun a i1 n1 hq4=>?_;obtain rfl:=hq4;intro g1 e1 z1;refine E12 (e1.getA hd) fun v hv iv=>?_;have hlt:i.toNat < xs.length:=(gel hd);exact P.getItem_tuple g1 (by lia) (by lia) (seqIndex_of h0 (by rw [z1];lia)) hv (J5.here r iv h)
end
theorem JE:Manifest.owners.lookup (String.ofList ['e','u','q','e','d','.','s','n','o','i','t','c','e','l','l','o','c'].reverse)=some Manifest.sig_collections_deque:=by kernel_rfl
theorem Le:PlainAttrs "collections.deque":=
 ⟨⟨"collections.deque.__getattribute__",by rw [typeLookup_type,builtinLookup_eq_fast];kernel_rfl,by decide +kernel⟩,by rw [typeLookup_type,builtinLookup_eq_fast];kernel_rfl⟩
theorem JY:Slot "collections.deque" "append" "collections.deque.append":=
 .of (owner := "collections.deque") (n := "append") (by rw [typeLookup_type,builtinLookup_eq_fast];kernel_rfl) (by decide +kernel) (by decide +kernel) (by decide +kernel)
  (by first | exact .inl (by decide +kernel) | exact .inr (by decide +kernel)) (by rw [isSubtype_type];kernel_rfl)
theorem KN:entryFor table "collections.deque.append" = some Builtin.«collections.deque.append»:=entryFor_of_tree (by kernel_rfl)
theorem K0 (a b:Value):argsOk "collections.deque.append" ⟨[a,b],[]⟩:=by
 unfold argsOk;rw [signature?_of (id := "collections.deque.append") (n:=['d','n','e','p','p','a']) (o:=['e','u','q','e','d','.','s','n','o','i','t','c','e','l','l','o','c']) (by kernel_rfl) JE];kernel_rfl
theorem LJ:typeOf (.builtin "collections.deque.append")=pure (.type "method_descriptor"):=by show builtinType _=_;rw [builtinType_eq_fast];kernel_rfl
theorem JH:Slot "collections.deque" "appendleft" "collections.deque.appendleft":=
 .of (owner := "collections.deque") (n := "appendleft") (by rw [typeLookup_type,builtinLookup_eq_fast];kernel_rfl) (by decide +kernel) (by decide +kernel) (by decide +kernel)
  (by first | exact .inl (by decide +kernel) | exact .inr (by decide +kernel)) (by rw [isSubtype_type];kernel_rfl)
theorem J6:entryFor table "collections.deque.appendleft" = some Builtin.«collections.deque.appendleft»:=entryFor_of_tree (by kernel_rfl)
theorem Ke (a b:Value):argsOk "collections.deque.appendleft" ⟨[a,b],[]⟩:=by
 unfold argsOk;rw [signature?_of (id := "collections.deque.appendleft") (n:=['t','f','e','l','d','n','e','p','p','a']) (o:=['e','u','q','e','d','.','s','n','o','i','t','c','e','l','l','o','c']) (by kernel_rfl) JE];kernel_rfl
theorem KB:typeOf (.builtin "collections.deque.appendleft")=pure (.type "method_descriptor"):=by show builtinType _=_;rw [builtinType_eq_fast];kernel_rfl
theorem Kw:Slot "collections.deque" "pop" "collections.deque.pop":=
 .of (owner := "collections.deque") (n := "pop") (by rw [typeLookup_type,builtinLookup_eq_fast];kernel_rfl) (by decide +kernel) (by decide +kernel) (by decide +kernel)
  (by first | exact .inl (by decide +kernel) | exact .inr (by decide +kernel)) (by rw [isSubtype_type];kernel_rfl)
theorem LV:entryFor table "collections.deque.pop" = some Builtin.«collections.deque.pop»:=entryFor_of_tree (by kernel_rfl)
theorem L3 (a:Value):argsOk "collections.deque.pop" ⟨[a],[]⟩:=by
 unfold argsOk;rw [signature?_of (id := "collections.deque.pop") (n:=['p','o','p']) (o:=['e','u','q','e','d','.','s','n','o','i','t','c','e','l','l','o','c']) (by kernel_rfl) JE];kernel_rfl
theorem Nt:typeOf (.builtin "collections.deque.pop")=pure (.type "method_descriptor"):=by show builtinType _=_;rw [builtinType_eq_fast];kernel_rfl
theorem JO:Slot "collections.deque" "popleft" "collections.deque.popleft":=
 .of (owner := "collections.deque") (n := "popleft") (by rw [typeLookup_type,builtinLookup_eq_fast];kernel_rfl) (by decide +kernel) (by decide +kernel) (by decide +kernel)
  (by first | exact .inl (by decide +kernel) | exact .inr (by decide +kernel)) (by rw [isSubtype_type];kernel_rfl)
theorem Ky:entryFor table "collections.deque.popleft" = some Builtin.«collections.deque.popleft»:=entryFor_of_tree (by kernel_rfl)
theorem KD (a:Value):argsOk "collections.deque.popleft" ⟨[a],[]⟩:=by
 unfold argsOk;rw [signature?_of (id := "collections.deque.popleft") (n:=['t','f','e','l','p','o','p']) (o:=['e','u','q','e','d','.','s','n','o','i','t','c','e','l','l','o','c']) (by kernel_rfl) JE];kernel_rfl
theorem Lb:typeOf (.builtin "collections.deque.popleft")=pure (.type "method_descriptor"):=by show builtinType _=_;rw [builtinType_eq_fast];kernel_rfl
theorem JT:Slot "collections.deque" "__len__" "collections.deque.__len__":=
 .of (owner := "collections.deque") (n := "__len__") (by rw [typeLookup_type,builtinLookup_eq_fast];kernel_rfl) (by decide +kernel) (by decide +kernel) (by decide +kernel)
  (by first | exact .inl (by decide +kernel) | exact .inr (by decide +kernel)) (by rw [isSubtype_type];kernel_rfl)
theorem Lk:entryFor table "collections.deque.__len__" = some Builtin.«collections.deque.__len__»:=entryFor_of_tree (by kernel_rfl)
theorem L6 (a:Value):argsOk "collections.deque.__len__" ⟨[a],[]⟩:=by
 unfold argsOk;rw [signature?_of (id := "collections.deque.__len__") (n:=['_','_','n','e','l','_','_']) (o:=['e','u','q','e','d','.','s','n','o','i','t','c','e','l','l','o','c']) (by kernel_rfl) JE];kernel_rfl
theorem NB:typeLookup (.type "collections.deque") "__bool__" = pure none:=by rw [typeLookup_type,builtinLookup_eq_fast];kernel_rfl
section
variable {Γ:Cx}{E:String->St->Prop}{σ:St}
theorem Mi {s:Shared}(r:Rel Γ σ s){l:Nat}{xs:LD}(h:σ.led[l]?=some (.deque xs)){v:Value}(hv:Is σ.Z (.ref l) v):∃ (a:Addr) (items:List Value) (n:Int),v=.ref a /\ σ.Z.ad[l]?=some a /\ s.heap.get? a=some { cls:=.type "collections.deque",data:=.fields (#[.none,rawInt n]++items.toArray) } /\ IsL σ.Z xs items /\ items.length=xs.length:=by
 refine E23 (r.at h) fun a o e g hq6=>?_;refine E22 hq6 fun items n hq7=>?_;clear hq6;obtain rfl:=hq7;intro il;refine E12 (hv.inv) fun _ hq5=>?_;obtain rfl:=hq5;intro e'
 ·
  rw [e] at e';obtain rfl:=Option.some.inj e';exact ⟨a,items,n,rfl,e,g,il,il.length.symm⟩
theorem NY {Z:Zs}{xs:LD}{items:List Value}{n:Int}(h:IsL Z xs items):IsO Z (.deque xs) { cls:=.type "collections.deque",data:=.fields (#[.none,rawInt n]++items.toArray) }:=⟨items,n,rfl,h⟩
theorem Lo (n:Int)(items:List Value):(#[Value.none,rawInt n]++items.toArray).extract 2 (#[Value.none,rawInt n]++items.toArray).size=items.toArray:=by
 apply Array.ext';simp
theorem UO (n:Int)(items:List Value):(#[Value.none,rawInt n]++items.toArray).getD 0 .none=.none:=by
 rw [Array.getD_eq_getD_getElem?,Array.getElem?_append_left (by simp)];rfl
theorem Ja9 (n:Int)(x:Array Value):(#[Value.none,rawInt n]++x)[0]?=some .none:=by
 rw [Array.getElem?_append_left (by simp)];rfl
theorem MN {s:Shared}(r:Rel Γ σ s){l:Nat}{a:Addr}{ys:LD}{items items':List Value}{n:Int}(hp:σ.Z.ad[l]?=some a)(g:s.heap.get? a=some { cls:=.type "collections.deque",data:=.fields (#[.none,rawInt n]++items.toArray) })(f:Array Value->Array Value)
 (hf:f items.toArray=items'.toArray) (il:IsL σ.Z ys items') (t:Nat) :
 Rel Γ { σ with led:=σ.led.set l (.deque ys) } { s with heap:=s.heap.update a (Obj.mapFields fun vs=>#[vs.getD 0 .none,rawInt (n + 1)]++f (vs.extract 2 vs.size)),toks:=t }:=by
 have e:Obj.mapFields (fun vs=>#[vs.getD 0 .none,rawInt (n + 1)]++f (vs.extract 2 vs.size)) { cls:=.type "collections.deque",data:=.fields (#[.none,rawInt n]++items.toArray) }=({ cls:=.type "collections.deque",data:=.fields (#[.none,rawInt (n + 1)]++items'.toArray) }:Obj):=by
  show ({ cls:=.type "collections.deque",data:=.fields (#[(#[Value.none,rawInt n]++items.toArray).getD 0 .none,rawInt (n + 1)]++f ((#[Value.none,rawInt n]++items.toArray).extract 2 (#[Value.none,rawInt n]++items.toArray).size)) }:Obj)=_;rw [Lo,hf,UO]
 exact r.put hp (o':=_) (by rw [Heap.get?_update_self _ g (by rw [e];rfl),e]) (NY il) (Heap.SameBut.update ..) t
theorem Kq {M:Model}{A:Around}{X:Value->Shared->Prop}{s:Shared}{l:Addr}{items:List Value}{n:Int}{f:Array Value->Array Value}{Q:Unit->Shared->Prop}(g:s.heap.get? l=some { cls:=.type "collections.deque",data:=.fields (#[.none,rawInt n]++items.toArray) })
 (hz:(f items.toArray).size <= 200000) (h:Q () { s with heap:=s.heap.update l (Obj.mapFields fun vs=>#[vs.getD 0 .none,rawInt (n + 1)]++f (vs.extract 2 vs.size)) }):wpAny M A (Builtin.Deque.change (.ref l) f) Q X s:=by
 unfold Builtin.Deque.change Builtin.Deque.state;refine wpAny_bind (wpAny_bind (wpAny_field g rfl (x:=rawInt n) (by simp) (wpAny_pure ?_)))
 refine wpAny_updateFields g rfl h ?_;rw [Lo,Array.size_append,sizeLine_eq];simp only [List.size_toArray,List.length_cons,List.length_nil]
 lia
theorem Ml {M:Model}{A:Around}{X:Value->Shared->Prop}{s:Shared}{l:Addr}{o:Obj}{vs:Array Value}{Q:Option Nat->Shared->Prop}(g:s.heap.get? l=some o)(hd:o.data=.fields vs)(h0:vs[0]?=some .none)(h:Q none s):wpAny M A (Builtin.Deque.maxlen (.ref l)) Q X s:=by
 unfold Builtin.Deque.maxlen;exact wpAny_bind (wpAny_field g hd h0 (wpAny_pure h))
theorem Pd {s:Shared}{l:Addr}{items:List Value}{n:Int}{f:Array Value->Array Value}(g:s.heap.get? l=some { cls:=.type "collections.deque",data:=.fields (#[.none,rawInt n]++items.toArray) }) :
 ∃ o vs,(s.heap.update l (Obj.mapFields fun vs=>#[vs.getD 0 .none,rawInt (n + 1)]++f (vs.extract 2 vs.size))).get? l=some o /\ o.data=.fields vs /\ vs[0]?=some .none:=
 ⟨_,_,Heap.get?_update_self _ g (Obj.isFreed_of_fields (Obj.data_mapFields rfl _)),Obj.data_mapFields rfl _,by rw [UO];exact Ja9 _ _⟩
theorem Oj {M:Model}{A:Around}{X:Value->Shared->Prop}{s:Shared}{l:Addr}{items:List Value}{n:Int}{Q:Array Value->Shared->Prop}(g:s.heap.get? l=some { cls:=.type "collections.deque",data:=.fields (#[.none,rawInt n]++items.toArray) })(h:Q items.toArray s):wpAny M A (Builtin.Deque.items (.ref l)) Q X s:=by
 unfold Builtin.Deque.items fieldsOf;refine wpAny_bind (wpAny_bind (wpAny_load g (wpAny_pure (wpAny_pure ?_))));rw [Lo];exact h
theorem L5 {l:Nat}{xs:LD}{d:D}{Q:D->St->Prop}(hp:σ.led[l]?=some (.deque xs))(hl:xs.length <= 100000)(h:Q .none { σ with led:=σ.led.set l (.deque (xs++[d])) }):Cal Γ E (.any (.builtin "collections.deque.append")) [.ref l,d] [] σ Q:=by
 intro vf vs ks hf hv hk hn;obtain rfl:=hf.inv;refine JP (P:=fun vs ks=>Wp Γ E (call (.builtin "collections.deque.append") vs ks) Is σ Q) hv hn fun v v' i i'=>?_;intro s r;refine E35 (Mi r hp i) fun a0 its n hq4=>?_;obtain rfl:=hq4;intro ea g il z;refine wpAny_call_entry JY ⟨_,g,rfl⟩ KN ?_ (K0 _ _);show wpAny _ _ (Builtin.Deque.pushRight (.ref a0) v' >>= fun _=>ret .none) _ _ s;refine wpAny_bind ?_;unfold Builtin.Deque.pushRight;refine E23 (Pd (f:=(·.push v')) g) fun o vs g1 g2 g3=>?_;refine wpAny_bind (Kq g (by first | (rw [Array.size_push];simp;lia) | (rw [Array.size_append];simp;lia)) (wpAny_bind (Ml g1 g2 g3 ?_)))
 exact wpAny_pure (wpAny_pure ⟨.none,rfl,J5.set (MN r ea g (·.push v') (items':=its++[v']) (by simp) (il.append (.cons i' .nil)) _) .none h⟩)
theorem KO {l:Nat}{xs:LD}{d:D}{Q:D->St->Prop}(hp:σ.led[l]?=some (.deque xs))(hl:xs.length <= 100000)(h:Q .none { σ with led:=σ.led.set l (.deque (d :: xs)) }):Cal Γ E (.any (.builtin "collections.deque.appendleft")) [.ref l,d] [] σ Q:=by
 intro vf vs ks hf hv hk hn;obtain rfl:=hf.inv;refine JP (P:=fun vs ks=>Wp Γ E (call (.builtin "collections.deque.appendleft") vs ks) Is σ Q) hv hn fun v v' i i'=>?_;intro s r;refine E35 (Mi r hp i) fun a0 its n hq3=>?_;obtain rfl:=hq3;intro ea g il z;refine wpAny_call_entry JH ⟨_,g,rfl⟩ J6 ?_ (Ke _ _);show wpAny _ _ (Builtin.Deque.pushLeft (.ref a0) v' >>= fun _=>ret .none) _ _ s;refine wpAny_bind ?_;unfold Builtin.Deque.pushLeft;refine E23 (Pd (f:=(#[v']++·)) g) fun o vs g1 g2 g3=>?_;refine wpAny_bind (Kq g (by first | (rw [Array.size_push];simp;lia) | (rw [Array.size_append];simp;lia)) (wpAny_bind (Ml g1 g2 g3 ?_)))
 exact wpAny_pure (wpAny_pure ⟨.none,rfl,J5.set (MN r ea g (#[v']++·) (items':=v' :: its) (by simp) (.cons i' il) _) .none h⟩)
theorem LM {l:Nat}{xs:LD}{d:D}{Q:D->St->Prop}(hp:σ.led[l]?=some (.deque (d :: xs)))(hl:xs.length <= 100000)(h:Q d { σ with led:=σ.led.set l (.deque xs) }):Cal Γ E (.any (.builtin "collections.deque.popleft")) [.ref l] [] σ Q:=by
 intro vf vs ks hf hv hk hn;obtain rfl:=hf.inv;refine JB (P:=fun vs ks=>Wp Γ E (call (.builtin "collections.deque.popleft") vs ks) Is σ Q) hv hn fun v i=>?_;intro s r;refine E35 (Mi r hp i) fun a0 its n hq2=>?_;obtain rfl:=hq2;intro ea g il z;refine wpAny_call_entry JO ⟨_,g,rfl⟩ Ky ?_ (KD _)
 cases il with
 | @cons _ x _ its i il=>
  show wpAny _ _ (Builtin.Deque.items (.ref a0) >>= _) _ _ s;refine wpAny_bind (Oj g ?_);refine wpAny_bind (Kq g (by simp at z ⊢;lia) (wpAny_pure ⟨x,rfl,J5.set (MN r ea g (·.eraseIdxIfInBounds 0) (items':=its) (by simp) il _) i h⟩))
theorem N0 {l:Nat}{xs:LD}{d:D}{Q:D->St->Prop}(hp:σ.led[l]?=some (.deque (xs++[d])))(hl:xs.length <= 100000)(h:Q d { σ with led:=σ.led.set l (.deque xs) }):Cal Γ E (.any (.builtin "collections.deque.pop")) [.ref l] [] σ Q:=by
 intro vf vs ks hf hv hk hn;obtain rfl:=hf.inv;refine JB (P:=fun vs ks=>Wp Γ E (call (.builtin "collections.deque.pop") vs ks) Is σ Q) hv hn fun v i=>?_;intro s r;refine E35 (Mi r hp i) fun a0 its n hq1=>?_;obtain rfl:=hq1;intro ea g il z;refine wpAny_call_entry Kw ⟨_,g,rfl⟩ LV ?_ (L3 _);have hlen:its.length=xs.length + 1:=by simpa using z
 refine E12 (il.get (i:=xs.length) (d:=d) (by simp)) fun v hv iv=>?_
 have hsplit:its=its.take xs.length++[v]:=by
  apply List.ext_getElem?;intro j;rw [List.getElem?_append]
  split
  · rename_i hj;rw [List.getElem?_take,if_pos (by simp at hj;lia)]
  · rename_i hj
    have hj:xs.length <= j:=by simp [hlen] at hj;lia
    rcases Nat.eq_or_lt_of_le hj with rfl | hj'
    · rw [hv];simp [hlen]
    · rw [List.getElem?_eq_none (by lia),List.getElem?_eq_none (by simp;lia)]
 have il':IsL σ.Z xs (its.take xs.length):=by simpa using il.take xs.length
 generalize its.take xs.length=ys at hsplit il';subst hsplit;show wpAny _ _ (Builtin.Deque.items (.ref a0) >>= _) _ _ s;refine wpAny_bind (Oj g ?_);rw [show (ys++[v]).toArray.back?=some v by simp]
 exact wpAny_bind (Kq g (by simp at z ⊢;lia) (wpAny_pure ⟨v,rfl,J5.set (MN r ea g (·.pop) (items':=ys) (by simp) il' _) iv h⟩))
theorem MQ {l:Nat}{xs:LD}{name:Str}{id:String}{Q:D × LD->St->Prop}(slot:Slot "collections.deque" name id)(hty:typeOf (.builtin id)=pure (.type "method_descriptor"))(hp:σ.led[l]?=some (.deque xs))(h:Q (.any (.builtin id),[.ref l]) σ):Met Γ E (.ref l) name σ Q:=by
 intro v pl hv s r;refine E35 (Mi r hp hv) fun a0 its n hq0=>?_;obtain rfl:=hq0;intro ea g il z;exact getMethod_builtin ⟨_,g,rfl⟩ Le slot hty (fun _ e=>by cases e;exact ⟨_,g,rfl⟩) ⟨_,σ,Zle.rfl,r,⟨.any _,.cons hv .nil⟩,h⟩
end
theorem M3:mroOf (.type "collections.deque")=pure [.type "collections.deque",.type "object"]:=by rw [mroOf_type];kernel_rfl
theorem Ld:typeLookup (.type "collections.deque") "__new__" = pure (some (.builtin "collections.deque.__new__")):=by rw [typeLookup_type,builtinLookup_eq_fast];kernel_rfl
theorem Ly:Slot "collections.deque" "__init__" "collections.deque.__init__":=
 .of (owner := "collections.deque") (n := "__init__") (by rw [typeLookup_type,builtinLookup_eq_fast];kernel_rfl) (by decide +kernel) (by decide +kernel) (by decide +kernel)
  (by first | exact .inl (by decide +kernel) | exact .inr (by decide +kernel)) (by rw [isSubtype_type];kernel_rfl)
theorem Lc:entryFor table "collections.deque.__init__" = some Builtin.«collections.deque.__init__»:=entryFor_of_tree (by kernel_rfl)
theorem LS (a:Value):argsOk "collections.deque.__init__" ⟨[a],[]⟩:=by
 unfold argsOk;rw [signature?_of (id := "collections.deque.__init__") (n:=['_','_','t','i','n','i','_','_']) (o:=['e','u','q','e','d','.','s','n','o','i','t','c','e','l','l','o','c']) (by kernel_rfl) JE];kernel_rfl
theorem Ln:entryFor table "collections.deque.__new__" = some Builtin.«collections.deque.__new__»:=entryFor_of_tree (by kernel_rfl)
theorem ND:TypeCalled "collections.deque" "collections.deque.__new__" "collections.deque.__init__":=
 ⟨by decide +kernel,by decide +kernel,⟨_,_,M3⟩,madeBy_type M3 Ld (by decide +kernel),by decide +kernel,by rw [isSubtype_type];kernel_rfl,Ly⟩
theorem L4:checkTypeCall "collections.deque" ⟨[],[]⟩=pure ():=by kernel_rfl
theorem Mz:checkBuiltinCall "collections.deque.__new__" ⟨[.type "collections.deque"],[]⟩=pure ():=by kernel_rfl
theorem LE:plainId "collections.deque.__new__" = true:=by decide +kernel
theorem R0:isSubtype (.type "collections.deque") (.type "collections.deque")=pure true:=by rw [isSubtype_type];kernel_rfl
theorem MF:typeHasDict (.type "collections.deque")=false:=by decide +kernel
section
variable {Γ:Cx}{E:String->St->Prop}{σ:St}
theorem Q5 {Q:D->St->Prop}(h:∀ Z,Q (.ref σ.led.length) ⟨σ.loc,σ.led++[.deque []],Z⟩):Cal Γ E (.bi .deque) [] [] σ Q:=by
 intro vf vs ks hf hv hk hn s r;obtain rfl:=hf.inv;obtain rfl:=hv.inv;have:ks=[]:=by simpa using hn
 subst this;refine callType_codes (Q₁:=fun o s₁=>o=.ref s.heap.objs.size /\ s₁={ s with heap:=s.heap.push { cls:=.type "collections.deque",data:=.fields #[.none,rawInt 0] } }) ND L4 Lc ?_ ?_
 · refine codeAny_call_builtin LE Ln (wpAny_of_eq Mz ?_);show wpAny _ _ (Builtin.Deque.newArgs Builtin.Deque.ty ⟨[.type "collections.deque"],[]⟩ >>= _) _ _ s;refine wpAny_bind ?_;unfold Builtin.Deque.newArgs;refine wpAny_bind (wpAny_pure ?_);refine wpAny_bind (wpAny_of_eq R0 ?_);refine wpAny_pure ?_;refine wpAny_bind ?_;unfold Builtin.Deque.new;rw [if_neg (by simp),MF]
   refine wpAny_bind (wpAny_pure ?_);refine wpAny_newObj_type ?_ (by show _ <= _;simp;try (rw [sizeLine_eq];lia))
   exact wpAny_pure ⟨rfl,rfl⟩
 · rintro o s₁ ⟨rfl,rfl⟩
   have g:(s.heap.push { cls:=.type "collections.deque",data:=.fields #[.none,rawInt 0] }).get? s.heap.objs.size=some { cls:=.type "collections.deque",data:=.fields (#[.none,rawInt 0]++(([]:List Value)).toArray) }:=Heap.get?_push_size _ rfl;refine ⟨⟨_,g,rfl⟩,LS _,?_⟩;show wpAny _ _ (setField (.ref s.heap.objs.size) 0 .none >>= fun _=>Builtin.Deque.clear (.ref s.heap.objs.size) >>= fun _=>ret .none) _ _ _;refine wpAny_bind (wpAny_setField g rfl (by simp) (wpAny_bind ?_))
   have g2:((s.heap.push { cls:=.type "collections.deque",data:=.fields #[.none,rawInt 0] }).update s.heap.objs.size (Obj.mapFields (·.setIfInBounds 0 .none))).get? s.heap.objs.size=some { cls:=.type "collections.deque",data:=.fields (#[.none,rawInt 0]++(([]:List Value)).toArray) }:=by
    rw [Heap.get?_update_self _ g rfl];rfl
   unfold Builtin.Deque.clear;refine wpAny_bind (Oj g2 ?_);refine wpAny_pure (wpAny_pure ⟨rfl,?_⟩);refine E03 (r.alloc (d:=.deque []) (o:={ cls:=.type "collections.deque",data:=.fields #[.none,rawInt 0] }) rfl (NY .nil) s.toks) fun z r1 e1=>?_;have r2:=r1.put (od':=.deque []) (i:=σ.led.length) e1 g2 (NY .nil) (Heap.SameBut.update ..) s.toks;have e3:(σ.led++[OD.deque []]).set σ.led.length (.deque [])=σ.led++[OD.deque []]:=by
    apply List.ext_getElem?;intro j;rw [List.getElem?_set]
    split
    · rename_i e;subst e;simp
    · rfl
   rw [show ({ loc:=σ.loc,led:=σ.led++[OD.deque []],Z:=⟨σ.Z.m,σ.Z.ad++[s.heap.objs.size]⟩ }:St).led.set σ.led.length (.deque [])=_ from e3] at r2
   exact ⟨.ref σ.led.length,_,z,r2,.ref e1,h _⟩
theorem VZ {l:Nat}{xs:LD}{Q:Bool->St->Prop}(hp:σ.led[l]?=some (.deque xs))(hl:xs.length <= 100000)(h:Q (!xs.isEmpty) σ):Tru Γ E (.ref l) σ Q:=by
 intro v hv s r;refine E35 (Mi r hp hv) fun a0 its n hq0=>?_;obtain rfl:=hq0;intro hq1;obtain -:=hq1;intro g il z;have hT:s.TypeIs (.ref a0) "collections.deque":=⟨_,g,rfl⟩;have hne:((its.length:Int) != 0)=!xs.isEmpty:=by
  rw [z]
  cases xs with
  | nil=>rfl
  | cons x xs=>
   have:((List.length (x :: xs):Nat):Int) ≠ 0:=by simp;lia
   rw [bne_iff_ne.mpr this];rfl
 have body:wpAny Γ.M Γ.A.in1 (Builtin.«len» ⟨[.ref a0],[]⟩) (fun fin s'=>∃ t,fin=.done (.ret (.int its.length t)) /\ s'={ s with toks:=s.toks + 1 + 1 }) (JK Γ σ E) s:=by
  unfold Builtin.«len»;refine wpAny_bind (m:=oneArg "len" _) (wpAny_pure ?_);refine wpAny_bind (m:=callSpecial? (.ref a0) (Str.ofString "__len__")) (wpAny_callSpecial?_slot (name:=Str.ofString "__len__") hT JT
   (wpAny_call_entry JT hT Lk ?_ (L6 _)))
  show wpAny _ _ (Builtin.Deque.size (.ref a0) >>= fun n=>retInt n) _ _ s;unfold Builtin.Deque.size fieldsOf;refine wpAny_bind (wpAny_bind (wpAny_bind (wpAny_load g (wpAny_pure (wpAny_pure ?_)))));have:(#[Value.none,rawInt n]++its.toArray).size - 2=its.length:=by simp
  rw [this];refine wpAny_bind (wpAny_mkInt (wpAny_pure ⟨_,rfl,?_⟩));refine wpAny_bind (wpAny_holding (wpAny_pure ?_));refine wpAny_bind (wpAny_letGo ?_);show wpAny _ _ (if ((its.length:Nat):Int) < 0 then _ else _) _ _ _
  rw [if_neg (by lia)]
  show wpAny _ _ (if ((its.length:Nat):Int) ≥ 2 ^ 63 then _ else _) _ _ _
  rw [if_neg (by lia)]
  exact wpAny_bind (wpAny_mkInt (wpAny_pure ⟨_,rfl,rfl⟩))
 have key:wpAny Γ.M Γ.A (runValue (.builtin "len" ⟨[.ref a0],[]⟩)) (fun r s'=>∃ t,r=.int its.length t /\ s'={ s with toks:=s.toks + 1 + 1 }) (JK Γ σ E) s:=by
  refine wpAny_runValue (codeAny_builtin entry_len ?_);rw [Around.under_plainId plain_len _];exact wpAny_mono body (fun fin s' hz0=>by refine E12 hz0 fun t h1 h2=>?_;subst h1;exact ⟨t,rfl,h2⟩) fun _ _ e=>e
 unfold truthy;refine wpAny_bind (wpAny_callSpecial?_none (name:=Str.ofString "__bool__") hT NB ?_);refine wpAny_bind (wpAny_specialOf (name:=Str.ofString "__len__") hT JT.lookup ?_);refine wpAny_bind (wpAny_mono key (fun v s' hq0=>?_) fun _ _ e=>e);refine E12 hq0 fun t h1 h2=>?_;subst h1 h2;exact wpAny_pure ⟨!xs.isEmpty,σ,Zle.rfl,r.toks _,by show _=((its.length:Int) != 0);rw [hne],h⟩
end
abbrev Cx.at (Γ:Cx)(A:Around):Cx:={ Γ with A:=A,room:=Γ.room - 1 }
structure PB (Γ Γ':Cx):Prop where
 K:Γ'.K=Γ.K
 room:Γ'.room=Γ.room - 1
 handled:Γ'.A.handled=Γ.A.handled
structure MS (Γ:Cx)(A:Around):Prop where
 room:0 < Γ.room
 frames:A.frames=Γ.A.frames
 handled:A.handled=Γ.A.handled
 depth:A.depth <= Γ.A.depth + 1
 units:A.units <= Γ.A.units + 40
theorem MS.in1 {Γ:Cx}(h:0 < Γ.room):MS Γ Γ.A.in1:=⟨h,rfl,rfl,Nat.le_succ _,by show Γ.A.units + 1 <= _;lia⟩
theorem MS.in2 {Γ:Cx}(h:0 < Γ.room):MS Γ Γ.A.in1.in1:=⟨h,rfl,rfl,Nat.le_succ _,by show Γ.A.units + 1 + 1 <= _;lia⟩
section
variable {Γ:Cx}{E:String->St->Prop}{σ:St}{A:Around}
theorem MS.inner (h:MS Γ A):PB Γ (Γ.at A):=⟨rfl,rfl,h.handled⟩
theorem Rel.into {s:Shared}(r:Rel Γ σ s)(h:MS Γ A):Rel (Γ.at A) σ s:=by
 obtain ⟨o,a1,a2,a3,a4,a5,a6,a7,a8,a9,a10⟩:=r;refine ⟨⟨o.kind,o.nd,o.locs,o.dbg,o.glo,o.blt,h.frames.trans o.frames,?_,?_,o.g,o.b,o.nl,o.bt,o.K,o.top⟩,a1,a2,a3,a4,a5,a6,a7,a8,a9,a10⟩
 · show A.depth + (Γ.room - 1) < _;have:=o.depth;have:=h.depth;have:=h.room;lia
 · show A.units + 40 * (Γ.room - 1) + 40 < _;have:=o.units;have:=h.units;have:=h.room;lia
theorem Rel.out {s:Shared}{σ':St}(o:Ok Γ)(r:Rel (Γ.at A) σ' s):Rel Γ σ' s:=by
 obtain ⟨_,a1,a2,a3,a4,a5,a6,a7,a8,a9,a10⟩:=r;exact ⟨o,a1,a2,a3,a4,a5,a6,a7,a8,a9,a10⟩
theorem JK.out {v:Value}{s':Shared}(o:Ok Γ)(h:JK (Γ.at A) σ E v s'):JK Γ σ E v s':=by
 obtain ⟨a,cls,σ',e,z,r,⟨⟨o1,o2,o3,o4⟩,oe,vs,h1,h2,h3,h4,h5⟩,q⟩:=h;refine ⟨a,cls,σ',e,z,r.out o,⟨⟨o1,o2,o3,o4⟩,oe,vs,h1,h2,h3,h4,h5.imp id ?_⟩,q⟩
 rintro ⟨T,oT,ts,x1,x2,x3,x4,x5,⟨y1,y2,y3,y4⟩⟩
 exact ⟨T,oT,ts,x1,x2,x3,x4,x5,⟨y1,y2,y3,y4⟩⟩
structure M9 (K:Frag)(C:Addr)(name:Str)(p fget:Addr):Prop where
 cls:(clsIn K C).isSome=true
 ga:findIn K (.ref C) "__getattribute__" = some (some (.builtin "object.__getattribute__"))
 gattr:findIn K (.ref C) "__getattr__" = some none
 find:findIn K (.ref C) name=some (some (.ref p))
 get:specialIn K (.ref p) "__get__" = some (some (.builtin "property.__get__"))
 takes:takesIn K (.ref p)=some true
 pro:∃ rest,recIn K p "property" = some (.ref fget :: rest)
theorem M9.findObj {K:Frag}{C:Addr}{name:Str}{p fget:Addr}(h:M9 K C name p fget)(od:Option Obj):findObj K C od name=some (.bind (.builtin "property.__get__") (.ref p)):=by
 refine E11 (Option.isSome_iff_exists.mp h.cls) fun cd hcd=>?_;unfold PySem.W.findObj;rw [hcd,Option.bind_some,h.find,Option.bind_some];dsimp only;rw [h.get,Option.bind_some];dsimp only;rw [h.takes,Option.bind_some]
theorem S5 {x dx:Nat}{k:Kd}{p fget:Addr}{vals:List (Option D)}{name:Str}{Q:D->St->Prop}(h1:σ.led[x]?=some (.inst k dx))(h2:σ.led[dx]?=some (.ns k vals))
 (hp:M9 Γ.K k.addr name p fget) (hroom:0 < Γ.room) (h:∀ Γ',PB Γ Γ'->CalC Γ' (fun _ _=>False) (.val fget) [.ref x] [] σ fun d σ'=>plainD d=true /\ Q d σ'):Att Γ E (.ref x) name σ Q:=by
 intro v hv s r;refine E46 (Kx r h1 h2 hv) fun ax ox ad od hq0=>?_;obtain rfl:=hq0;intro _ I _ hg _;refine E11 (hp.pro) fun rest hrec=>?_;have ha:=MS.in1 hroom;have X:=r.ok.K.keeps r.base;refine get_bind X I hp.ga (hp.findObj _) hp.gattr (wpAny_call (prop_get (s:={ s with toks:=s.toks + 1 }) X hrec ?_))
 refine codeAny_mono (h _ ha.inner (.ref fget) [.ref ax] [] _ (.val _) (.cons hv .nil) .nil rfl ((r.toks _).into ha)) fun r' s' c=>?_
 cases r' with
 | error e=>obtain ⟨_,_,_,_,_,_,_,q⟩:=c;exact q.elim
 | ok f=>
  cases f with
  | ret v=>
   obtain ⟨d,σ',z,r',i,hd,q⟩:=c;show wpAny _ _ (handedOut v) _ _ _;rw [handedOut_of (UP i hd)];exact wpAny_pure ⟨d,σ',z,r'.out r.ok,i,q⟩
  | _=>exact c.elim
theorem UK {s:Shared}{h':Heap}{e:Addr}{cls:String}{args:List Value}(r:Rel Γ σ s)(m:Heap.MadeExc s.heap h' e cls args)(q:E cls σ):JK Γ σ E (.ref e) { s with heap:=h' }:=by
 refine E13 (m.there) fun t he _ _=>?_;exact ⟨e,cls,σ,rfl,Zle.rfl,r.keeps (t:=s.toks) m.keeps,⟨.of_none r m.new,_,_,he,rfl,rfl,by simp,.inl rfl⟩,q⟩
theorem MU (hc:Mw Γ){cls newId initId:String}(F:ExcCallFacts cls newId initId)(G:ExcRaiseFacts cls){b:Bi}(hb:b.val=.type cls){x:Str}{np cpos pos:Pos}{args:List Expr}{Q:Fl->St->Prop}(hn:noStar args=true)
 (h:EV Γ E (.Name x np) σ fun f σ₁=>f=.bi b /\ EVs Γ E args σ₁ fun ds σ₂=>ds.length <= 1000 /\ E cls σ₂):EX Γ E (.Raise (some (.Call (.Name x np) args [] cpos)) none pos) σ Q:=by
 intro s r;refine wpAny_Raise_call F G hc (by rw [JN hn];simp) (wpAny_mono (h s r) (fun f s₁ ⟨d,σ₁,z,r₁,i,e,q⟩=>?_) fun _ _ x=>x)
 subst e;obtain rfl:=i.inv;refine ⟨hb,?_⟩;rw [JN hn];refine Ko rfl (wpAny_mono (JF q s₁ r₁) (fun vs s₂ ⟨ds,σ₂,z₂,r₂,i₂,hl,q₂⟩=>wpAny_evalAll_nil ⟨rfl,?_,fun h' e m=>upE (z.trans z₂) _ _ (UK r₂ m q₂)⟩) (upE z));show vs.length <= _;rw [<-i₂.length,sizeLine_eq];lia
theorem Mx (hc:Mw Γ){x:Str}{np pos:Pos}{Q:Fl->St->Prop}(hk:Γ.env.kindOf x=some .globalImplicit)(t:Top Γ.K x (.bi .StopIteration))(h:E "StopIteration" σ):EX Γ E (.Raise (some (.Name x np)) none pos) σ Q:=
 fun s r=>owsi_raiseC hc (wpAny_Name (MW r hk t fun v i=>by obtain rfl:=i.inv;exact ⟨rfl,rfl⟩) t.dbg) fun h' e m=>UK r m h
end
structure KP (Γ:Cx)(x:Str)(c:Addr):Prop where
 kind:Γ.env.kindOf x=some .cell
 at_:Γ.env.cells.lookup x=some c
 dbg:(x == ("__debug__" : Str))=false
theorem Lp (k:Str->Option NameKind):∀ (binds:List (Str × Value)) (m:Str->Option Value),(∀ x ∈ binds,k x.1=some .local)->∀ x,bindL k binds m x=((binds.reverse.lookup x).or (m x))
 | [],m,_,x=>by simp [bindL]
 | (n,v) :: r,m,h,x=>by
  unfold bindL;rw [if_pos (h (n,v) (.head _)),Lp k r _ (fun y hy=>h y (.tail _ hy)) x,List.reverse_cons,List.lookup_append]
  by_cases e:x=n
  · subst e;simp [List.lookup]
  · have:(x == n)=false:=by simpa using e
    simp [List.lookup,this,e]
theorem K4 (k:Str->Option NameKind):∀ (binds:List (Str × Value)) (m:Str->Option Value),(∀ x ∈ binds,k x.1=some .local)->bindC k binds m=m
 | [],m,_=>rfl
 | (n,v) :: r,m,h=>by
  unfold bindC;rw [if_pos (h (n,v) (.head _)),K4 k r _ fun y hy=>h y (.tail _ hy)]
theorem Jz:∀ (names:List (Str × NameKind)) (n n':Nat) (acc acc':List (Str × Addr)),acc.map (·.1)=acc'.map (·.1)->(cellsFrom n names acc).map (·.1)=(cellsFrom n' names acc').map (·.1)
 | [],_,_,_,_,h=>h
 | (x,k) :: r,n,n',acc,acc',h=>by
  unfold cellsFrom
  split
  · exact Jz r _ _ _ _ (by simp [h])
  · exact Jz r _ _ _ _ h
structure Lj (K:Frag)(f:Addr)(fd:FuncData)(body:List Stmt)(names cells:List Str):Prop where
 look:∃ o,K.lookup f=some o /\ o.data=.func fd
 body:fd.body=.stmts body
 code:codeIn K fd.code fd.qualname=true
 locs:(names.all fun x=>fd.scope.names.lookup x == some .local && !(x == ("__debug__" : Str)))=true
 cell:(cellsFrom 0 fd.scope.names []).map (·.1)=cells
 ckind:(cells.all fun x=>fd.scope.names.lookup x == some .cell && !(x == ("__debug__" : Str)))=true
 clo:fd.closure=[]
 nd:names.Nodup
 ndc:cells.Nodup
 kind:fd.scope.kind=.function
 nco:fd.scope.isCoroutine=false
 ngen:fd.scope.isGenerator=false
 glo:fd.globals=mainGlobals
 blt:fd.builtins=builtinsNs
section
variable {K:Frag}{f:Addr}{fd:FuncData}{body:List Stmt}{names cells:List Str}
theorem Lj.loc (F:Lj K f fd body names cells){x:Str}(h:x ∈ names):fd.scope.names.lookup x=some .local:=beq_iff_eq.mp (Bool.and_eq_true_iff.mp (List.all_eq_true.mp F.locs x h)).1
theorem Lj.dbg (F:Lj K f fd body names cells){x:Str}(h:x ∈ names):(x == ("__debug__" : Str))=false:=by
 have:=(Bool.and_eq_true_iff.mp (List.all_eq_true.mp F.locs x h)).2
 simpa using this
theorem Lj.env (F:Lj K f fd body names cells)(L:Addr):Qy (callEnvC fd L f) names:=
 ⟨F.kind,F.nd,fun x hx=>F.loc hx,fun x hx=>F.dbg hx,F.glo,F.blt⟩
end
theorem VK {Γ:Cx}{E:String->St->Prop}{σ:St}{f:Addr}{fd:FuncData}{body:List Stmt}{names cells ps rest:List Str}{args:LD}{Q:D->St->Prop}
 (F:Lj Γ.K f fd body names cells) (hb:∀ vs:List Value,vs.length=args.length->bindArgs fd ⟨vs,[]⟩=pure (ps.zip vs)) (hp:ps.length=args.length) (hn:names=ps++rest) (hroom:0 < Γ.room)
 (h:∀ (Γ':Cx) (Z:Zs) (cs:List (Str × Addr)),RA Γ Γ' fd.scope cs names->cs.map (·.1)=cells->(∀ i p,cs[i]?=some p->KP Γ' p.1 p.2 /\ Z.ad[σ.led.length + i]?=some p.2) ->
  XS Γ' (fun cls σ'=>∀ Z',E cls ⟨σ.loc,σ'.led,Z'⟩) body ⟨args.map some++rest.map (fun _=>none),σ.led++cs.map (fun _=>.cell none),Z⟩ fun fl σ'=>∀ Z',Q fl.val ⟨σ.loc,σ'.led,Z'⟩) :
 CalC Γ E (.val f) args [] σ Q:=by
 intro vf vs ks s hf hvs hks hkn r;obtain rfl:=hf.inv;have:ks=[]:=by simpa using hkn
 subst this;refine E12 (F.look) fun of hl hof=>?_;have X:=r.ok.K.keeps r.base;have hlv:=hvs.length;have nps:ps.Nodup:=by have:=F.nd;rw [hn] at this;exact (List.nodup_append.mp this).1
 have hloc:∀ x ∈ ps.zip vs,fd.scope.names.lookup x.1=some .local:=fun x hx=>F.loc (by rw [hn];exact List.mem_append_left _ (List.of_mem_zip hx).1)
 refine codeAny_call_cells (body:=body) (by have:=r.ok.depth;lia) (X _ _ hl) hof (r.ok.nl.keeps r.base) (codeRec_of X F.code) F.body (hb vs hlv.symm) F.clo (fun x hx=>.inl (hloc x hx)) (fun s₁ x=>?_) F.nco F.ngen F.kind
 have hcs:(cellsFrom (s.heap.objs.size + 1) fd.scope.names []).map (·.1)=cells:=(Jz _ _ _ _ _ rfl).trans F.cell;have hlk:∀ p ∈ cellsFrom (s.heap.objs.size + 1) fd.scope.names [],(cellsFrom (s.heap.objs.size + 1) fd.scope.names []).lookup p.1=some p.2:=by
  have nd:((cellsFrom (s.heap.objs.size + 1) fd.scope.names []).map (·.1)).Nodup:=hcs ▸ F.ndc;generalize cellsFrom (s.heap.objs.size + 1) fd.scope.names []=l at nd;intro p hp
  induction l with
  | nil=>cases hp
  | cons q l ih=>
   have nd':=List.nodup_cons.mp nd;rcases List.mem_cons.mp hp with rfl | hp
   · simp [List.lookup]
   · have:(p.1 == q.1)=false:=by
      have:p.1 ≠ q.1:=fun e=>nd'.1 (List.mem_map.mpr ⟨p,hp,e⟩)
      simpa using this
     simp only [List.lookup,this];exact ih nd'.2 hp
 obtain ⟨⟨hh,tk,hs₁⟩,hns,keep,_⟩:=x.toInCall;refine NQ (nl:=(cellsFrom (s.heap.objs.size + 1) fd.scope.names []).map fun p=>(p.2,.cell none)) (loc:=args.map some++rest.map fun _=>none) r hroom (F.env _) rfl keep (Heap.get?_none_of_le (Nat.le_refl _)) hns (fun y=>?_) (fun p hp'=>?_) ?_ (by rw [hs₁]) (by rw [hs₁]) (fun Z hZ=>?_)
 · rw [Lp _ _ _ (fun y hy=>hloc y hy),K3 nps,hn];have:=MM (rest:=rest) y (hp.trans hlv) hvs
   cases hq:(ps.zip vs).lookup y with
   | none=>rw [hq] at this;exact this
   | some v=>rw [hq] at this;exact this
 · refine E12 (List.mem_map.mp hp') fun q hq hq2=>?_;obtain rfl:=hq2;have hab:=x.above q.1 q.2 hq;refine ⟨Heap.get?_none_of_le (Nat.le_of_lt hab),Nat.ne_of_gt hab,?_⟩;refine E12 (x.cell q.1 q.2 (hlk q hq)) fun o g1 g2=>?_;rw [K4 _ _ _ (fun y hy=>hloc y hy)] at g2;exact ⟨o,g1,none,g2,.none⟩
 · rw [List.map_map];have:=x.apart;unfold List.Nodup;rw [List.pairwise_map];exact this
 · have hl:=h (Γ.enter (callEnvC fd s.heap.objs.size f) names) Z (cellsFrom (s.heap.objs.size + 1) fd.scope.names []) ⟨rfl,rfl,rfl,rfl,rfl,rfl⟩ hcs (fun i p hi=>?_)
   · rw [List.map_map];exact hl
   · have hp':=List.mem_of_getElem? hi;have hm:p.1 ∈ cells:=by rw [<-hcs];exact List.mem_map.mpr ⟨p,hp',rfl⟩
     have hk:=Bool.and_eq_true_iff.mp (List.all_eq_true.mp F.ckind _ hm);refine ⟨⟨beq_iff_eq.mp hk.1,hlk p hp',by simpa using hk.2⟩,?_⟩
     rw [hZ,List.getElem?_append_right (by rw [r.adl];lia),r.adl,Nat.add_sub_cancel_left,List.map_map,List.getElem?_map,hi];rfl
section
variable {Γ:Cx}{E:String->St->Prop}{σ:St}
theorem WI {x:Str}{pos:Pos}{c:Addr}{i:Nat}{d:D}{Q:D->St->Prop}(hc:KP Γ x c)(hi:σ.Z.ad[i]?=some c)(hp:σ.led[i]?=some (.cell (some d)))(h:Q d σ):EV Γ E (.Name x pos) σ Q:=by
 intro s r;refine E23 (r.at hp) fun a o e g hq1=>?_;refine E12 hq1 fun v hd i=>?_;rw [hi] at e;obtain rfl:=Option.some.inj e
 cases i with
 | some i=>exact wpAny_Name (wpAny_loadName_cell r.ok.kind hc.kind hc.at_ ⟨o,g,hd⟩ (J5.here r i h)) hc.dbg
theorem MH {x:Str}{c:Addr}{k:Nat}{v0:Option D}{d:D}{v:Value}{Q:Unit->St->Prop}(hc:KP Γ x c)(hi:σ.Z.ad[k]?=some c)(hp:σ.led[k]?=some (.cell v0))(i:Is σ.Z d v)(h:Q () { σ with led:=σ.led.set k (.cell (some d)) }):Wp Γ E (storeName Γ.env x v) EqR σ Q:=by
 intro s r;refine E23 (r.at hp) fun a o e g hq0=>?_;refine E12 hq0 fun v0' hd _=>?_;rw [hi] at e;obtain rfl:=Option.some.inj e;exact wpAny_storeName_cell r.ok.kind hc.kind hc.at_ ⟨o,g,hd⟩ fun h' ⟨o',g',hd'⟩ hs=>J5.set (r.put (t:=s.toks) (od':=.cell (some d)) hi g' ⟨_,hd',.some i⟩ hs) rfl h
theorem R8 {x:Str}{pos:Pos}{d:D}{c:Addr}{k:Nat}{v0:Option D}{Q:Unit->St->Prop}(hc:KP Γ x c)(hi:σ.Z.ad[k]?=some c)(hp:σ.led[k]?=some (.cell v0))(h:Q () { σ with led:=σ.led.set k (.cell (some d)) }):Asn Γ E (.Name x pos) d σ Q:=
 fun v hv s r=>wpAny_assign_Name (MH hc hi hp hv h s r)
end
section
variable {Γ:Cx}{E:String->St->Prop}{σ:St}
theorem Mf:∀ (names:List Str) (x:Str),look names (names.map fun _=>none) x=none
 | [],_=>rfl
 | n :: ns,x=>by
  show (if x=n then none else look ns (ns.map fun _=>none) x)=none
  split
  · rfl
  · exact Mf ns x
noncomputable def nones (k:Kd):List (Option D):=k.names.map fun _=>none
theorem Tc {Z:Zs}(k:Kd)(hl:k.names.length <= 1000):IsO Z (.ns k (nones k)) emptyDict:=
 ⟨rfl,rfl,#[],_,rfl,⟨fun e he=>by simp at he,fun x=>by rw [nones,Mf];exact .none⟩,Nat.zero_le _,by simpa [nones] using hl⟩
theorem Rel.newInst {s:Shared}(r:Rel Γ σ s)(k:Kd)(hl:k.names.length <= 1000) :
 ∃ Z',Zle σ.Z Z' /\ Z'.ad[σ.led.length + 1]?=some (s.heap.objs.size + 1) /\
  Rel Γ ⟨σ.loc,σ.led++[.ns k (nones k),.inst k σ.led.length],Z'⟩ { s with heap:=(s.heap.push emptyDict).push (instObj k.addr s.heap.objs.size) }:=by
 refine E03 (r.alloc (d:=.ns k (nones k)) (o:=emptyDict) rfl (Tc k hl) s.toks) fun z1 r1 e1=>?_;refine E03 (r1.alloc (d:=.inst k σ.led.length) (o:=instObj k.addr s.heap.objs.size) rfl ⟨rfl,⟨_,e1,rfl⟩,rfl⟩ s.toks) fun z2 r2 e2=>?_;have hs:({ s with heap:=s.heap.push emptyDict }:Shared).heap.objs.size=s.heap.objs.size + 1:=Heap.size_push ..
 rw [hs] at r2 e2 z2;refine ⟨_,z1.trans z2,?_,by rw [List.append_assoc] at r2;exact r2⟩
 rw [show (⟨σ.loc,σ.led++[OD.ns k (nones k)],⟨σ.Z.m,σ.Z.ad++[s.heap.objs.size]⟩⟩:St).led.length=σ.led.length + 1 from List.length_append] at e2
 exact e2
theorem MS.call {C:Addr}{rest:List Value}{kw:List (Str × Value)}(h:0 < Γ.room):MS Γ (Γ.A.under (.builtin "type.__call__" ⟨.ref C :: rest,kw⟩)):=by
 refine ⟨h,?_,rfl,Nat.le_refl _,?_⟩
 · show pushEnvs [] Γ.A.frames=_;cases Γ.A.frames <;> rfl
 · show Γ.A.units + 1 <= _;lia
theorem Nj {x:Addr}{i:Nat}{Q:D->St->Prop}{A:Around}{σ₁:St}(o:Ok Γ)(z:Zle σ.Z σ₁.Z)(hx:σ₁.Z.ad[i]?=some x){r:Result}{s':Shared}(h:CPost (Γ.at A) E σ₁ (fun d σ'=>d=.none /\ Q (.ref i) σ') r s'):InitBack x (CPost Γ E σ Q) r s':=by
 cases r with
 | error e=>exact upE z _ _ (JK.out o h)
 | ok f=>
  cases f with
  | ret v=>
   obtain ⟨d,σ',z',r',i,hd,q⟩:=h;subst hd;obtain rfl:=i.inv;exact ⟨rfl,.ref _,σ',z.trans z',r'.out o,.ref (z'.ad hx),q⟩
  | _=>exact h.elim
theorem Rp {k:Kd}{fI:Addr}{args:LD}{kws:List (Str × D)}{Q:D->St->Prop}(hm:makesIn Γ.K k.addr=true)(hi:findIn Γ.K (.ref k.addr) "__init__" = some (some (.ref fI)))(hf:typeIn Γ.K (.ref fI)=some (.type "function"))
 (hroom:0 < Γ.room) (hl:k.names.length <= 1000)
 (h:∀ Γ' Z,PB Γ Γ'->CalC Γ' E (.val fI) (.ref (σ.led.length + 1) :: args) kws ⟨σ.loc,σ.led++[.ns k (nones k),.inst k σ.led.length],Z⟩ fun d σ'=>d=.none /\ Q (.ref (σ.led.length + 1)) σ'):CalC Γ E (.val k.addr) args kws σ Q:=by
 intro vf vs ks s hvf hvs hks hkn r;obtain rfl:=hvf.inv;have X:=r.ok.K.keeps r.base;have ha:MS Γ (Γ.A.under (.builtin "type.__call__" ⟨.ref k.addr :: vs,ks⟩)):=MS.call hroom;refine E13 (r.newInst k hl) fun Z' z' e' r1=>?_;obtain ⟨hh,g,d,t,os⟩:=s;refine make_core (makes_of X hm) (looks_findIn X hi) (fun self=>bind_fn X self hf) (.inl rfl) ?_;exact codeAny_mono (h _ _ ha.inner _ _ _ _ (.val _) (.cons (.ref e') (hvs.mono z')) (hks.mono z') hkn (r1.into ha)) fun r' s' c=>Nj r.ok z' e' c
end
structure Tl (K:Frag)(C sm fN fI:Addr):Prop where
 obj:∃ oc od cd sl,K.lookup C=some ⟨oc,od,.cls cd,sl⟩ /\ (sl.toList[4]?).join=some .none /\ cd.mro.isEmpty=false /\ cd.mro.contains (.ref C)=true
 call:specialIn K (.ref C) "__call__" = some (some (.builtin "type.__call__"))
 typ:instIn K (.ref C) (.type "type")=some true
 reads:readsIn K C (.type "type")=true
 new:findCls K (.ref C) (.type "type") "__new__" = some (.get (.builtin "staticmethod.__get__") (.ref sm) .none (.ref C))
 sm:∃ rest,recIn K sm "staticmethod" = some (.ref fN :: rest)
 init:findIn K (.ref C) "__init__" = some (some (.ref fI))
 fn:typeIn K (.ref fI)=some (.type "function")
theorem NM {K:Frag}{C sm fN fI:Addr}(m:Tl K C sm fN fI){M:Model}{h:Heap}(X:K.In h):Looks M h (Bind.madeBy (.ref C)) none:=by
 refine E44 (m.obj) fun oc od cd sl ho e3 e4 e5=>?_;have hc:clsIn K C=some cd:=by unfold clsIn;rw [ho]
 have hm:Looks M h (mroOf (.ref C)) cd.mro:=(looks_clsIn X hc).andThen .now;obtain ⟨c,l,hl⟩:∃ c l,cd.mro=c :: l:=by cases q:cd.mro with | nil=>rw [q] at e4;injection e4 | cons c l=>exact ⟨c,l,rfl⟩
 intro A Q E s k q;unfold Bind.madeBy;refine wpAny_bind (hm A _ E s k ?_);rw [hl,List.forIn_cons];refine wpAny_bind (wpAny_bind (wpAny_bind (wpAny_bind (wpAny_loadPart (k _ _ (X _ _ ho)) (wpAny_pure ?_)))));dsimp only;rw [<-Array.getElem?_toList,e3];exact wpAny_pure (wpAny_pure (wpAny_pure q))
section
variable {Γ:Cx}{E:String->St->Prop}{σ:St}
theorem Px {k:Kd}{sm fN fI:Addr}{args:LD}{kws:List (Str × D)}{Q:D->St->Prop}(m:Tl Γ.K k.addr sm fN fI)(hroom:0 < Γ.room)
 (h:∀ Γ',PB Γ Γ'->CalC Γ' E (.val fN) (.val k.addr :: args) kws σ fun d σ₁=>∃ x dx,d=.ref x /\ σ₁.led[x]?=some (.inst k dx) /\ CalC Γ' E (.val fI) (.ref x :: args) kws σ₁ fun d' σ'=>d'=.none /\ Q (.ref x) σ') :
 CalC Γ E (.val k.addr) args kws σ Q:=by
 intro vf vs ks s hvf hvs hks hkn r;obtain rfl:=hvf.inv;have X:=r.ok.K.keeps r.base;have ha:MS Γ (Γ.A.under (.builtin "type.__call__" ⟨.ref k.addr :: vs,ks⟩)):=MS.call hroom;have H:=h _ ha.inner;refine E44 (m.obj) fun oc od cd sl ho e3 e4 e5=>?_;refine E11 (m.sm) fun rest hsm=>?_;have hc:clsIn Γ.K k.addr=some cd:=by unfold clsIn;rw [ho]
 have hm:Looks Γ.M s.heap (mroOf (.ref k.addr)) cd.mro:=(looks_clsIn X hc).andThen .now;have made:=NM m (M:=Γ.M) X;have call:=looks_specialIn (M:=Γ.M) X m.call;have typ:=looks_instIn (M:=Γ.M) X m.typ;have r₀:=r;obtain ⟨hh,g,d,t,os⟩:=s;refine codeAny_of_tree ?_;show wpAny _ _ (callAny (.ref k.addr) _) _ _ _;refine nd_load (X _ _ ho) ?_;show wpAny _ _ (callAny.viaDunder (.ref k.addr) _) _ _ _;unfold callAny.viaDunder;refine wpAny_bind (call.at ?_);dsimp only;rw [tc_bind];refine wpAny_bind (wpAny_pure (wpAny_bind (wpAny_pure ?_)));refine wpAny_pure (a:=Fin.again (.call (.builtin "type.__call__") ⟨.ref k.addr :: vs,ks⟩)) (And.intro rfl ?_);refine codeAny_call_builtin_at (Code.quiet_builtin _ (by decide +kernel)) entry_typeCall (check_slot tc_kind tc_split typ (tc_args _ _ _) ?_)
 unfold Builtin.«type.__call__»;show wpAny _ _ (mroOf (.ref k.addr) >>= _) _ _ _;refine wpAny_bind (hm.at ?_);rw [e4,if_neg (by decide)]
 refine wpAny_bind (made.at ?_);refine wpAny_bind (cls_bind X m.reads m.new (wpAny_call (sm_get X hsm ?_)));refine handed_on rfl ?_;refine wpAny_bind (wpAny_holding (wpAny_call ?_));have r1:Rel Γ σ ⟨hh,g,d,t + 1,os⟩:=r.toks (t + 1);refine codeAny_mono (H _ _ _ _ (.val _) (.cons (.val _) hvs) hks hkn (r1.into ha)) fun r' s' c=>?_
 cases r' with
 | error e=>exact JK.out r.ok c
 | ok f=>
  cases f with
  | ret v=>
   obtain ⟨d',σ₁,z,r₂,i,x,dx,e1,hp,ci⟩:=c;subst e1;refine E25 (r₂.at hp) fun ax ox ex gx cx dxx px=>?_;obtain rfl:v=.ref ax:=by cases i with | ref e=>rw [ex] at e;obtain rfl:=Option.some.inj e;rfl
   have r₂':=r₂.out r.ok;have X₂:=r₂'.ok.K.keeps r₂'.base;obtain ⟨hh₂,g₂,d₂,t₂,os₂⟩:=s';have T:Looks Γ.M hh₂ (typeOf (.ref ax)) (.ref k.addr):=cx ▸ (Looks.ld gx).andThen .now;have S:Looks Γ.M hh₂ (isSubtype (.ref k.addr) (.ref k.addr)) true:=looks_mroIn X₂ (by unfold mroIn;rw [hc,Option.bind_some,if_neg (by rw [e4];decide),e5])
   have L:=looks_findIn (M:=Γ.M) X₂ m.init;have B:=bind_fn (M:=Γ.M) X₂ (.ref ax) m.fn;show wpAny _ _ (isInstance (.ref ax) (.ref k.addr) >>= _) _ _ _;have IS:Looks Γ.M hh₂ (isInstance (.ref ax) (.ref k.addr)) true:=T.andThen S;refine wpAny_bind (IS.at ?_);show wpAny _ _ (holding [.ref ax] (callSpecial? (.ref ax) (Str.ofString "__init__") vs ks) >>= _) _ _ _;refine wpAny_bind (wpAny_holding ?_);unfold callSpecial? specialOf;refine wpAny_bind (T.andThen L |>.at ?_);dsimp only;refine wpAny_holding (wpAny_bind (B.at ?_));refine wpAny_bind (wpAny_call ?_);refine codeAny_mono (ci _ _ _ _ (.val _) (.cons (.ref ex) (hvs.mono z)) (hks.mono z) hkn r₂) fun r' s' c=>?_;have c2:=Nj r.ok z ex c
   clear c
   cases r' with
   | error e=>exact c2
   | ok f=>
    cases f with
    | ret v=>
     refine E02 c2 fun hq0=>?_;clear c2;obtain rfl:=hq0;intro c3;exact wpAny_pure (wpAny_pure c3)
    | _=>exact c2.elim
  | _=>exact c.elim
end
structure XW (K:Frag)(C:Addr):Prop where
 obj:∃ oc od cd sl,K.lookup C=some ⟨oc,od,.cls cd,sl⟩ /\ cd.abstract=false /\ cd.hasDel=false
 base:∀ M h,K.In h->Looks M h (Bind.staticBase (.ref C)) (.type "object")
 top:mroIn K C (.type "object")=some true
 typ:instIn K (.ref C) (.type "type")=some true
theorem Po:mroOf (.type "object")=pure [.type "object"]:=by kernel_rfl
theorem K6:typeLookup (.type "object") "__new__" = pure (some (.builtin "object.__new__")):=by rw [typeLookup_type,builtinLookup_eq_fast];kernel_rfl
theorem KL:Bind.madeBy (.type "object")=pure (some "object.__new__"):=madeBy_type Po K6 (by decide +kernel)
theorem Jbx {α:Type}{b:Bool}{M:Model}{A:Around}{x y:Sem α}{Q:α->Shared->Prop}{E:Value->Shared->Prop}{s:Shared}(h:b=false)(k:wpAny M A y Q E s):wpAny M A (if b=true then x else y) Q E s:=by subst h;exact k
section
variable {prog:Program}{w:World}{A:Around}{K:Frag}{C:Addr}{h:Heap}{g:Array GenState}{d:Drawn}{t:Nat}{os:OsState}
theorem QN {Q:Unit->Shared->Prop}{E:Value->Shared->Prop}(n:XW K C)(X:K.In h)(hq:Q () ⟨h,g,d,t,os⟩):wpAny (model prog w) A (checkBuiltinCall "object.__new__" ⟨[.ref C],[]⟩) Q E ⟨h,g,d,t,os⟩:=by
 refine E43 (n.obj) fun oc od cd sl hC e1 e2=>?_;have hC:=X _ _ hC;have base:=n.base (model prog w) h X;have top:=looks_mroIn (M:=model prog w) X n.top;have typ:=looks_instIn (M:=model prog w) X n.typ;have made:Looks (model prog w) h (Bind.madeBy (.type "object")) (some "object.__new__"):=Looks.of_pure KL;have F:=PySem.F.objNew;unfold checkBuiltinCall;rw [F.kind,F.split,F.row];have args:Bind.checkArgs "object.__new__" ⟨.hand, "object.__new__", "__new__",.cls,[]⟩ ⟨.ref C :: [],[]⟩=pure ():=by kernel_rfl
 repeat (first | exact hq | refine Jbx (bne_self_eq_false _) ?_ | refine wpAny_of_eq args ?_ | lk)
theorem Se {Q:Fin->Shared->Prop}{E:Value->Shared->Prop}{oc:Value}{od:Option Addr}{cd:ClassData}{sl:Array (Option Value)}(hC:h.get? C=some ⟨oc,od,.cls cd,sl⟩)(e2:cd.hasDel=false)
 (hq:Q (.done (.ret (.ref (h.objs.size + 1)))) ⟨(h.push emptyDict).push (instObj C h.objs.size),g,d,t,os⟩):wpAny (model prog w) A (do
  let d <-if typeHasDict (.ref C) then some <$> alloc { cls:=.type "dict",data:=.dict #[] } else pure none
  ret (<-newObj (.ref C) .plain d)) Q E ⟨h,g,d,t,os⟩:=by
 show wpAny _ _ ((alloc emptyDict >>= fun x=>pure (some x)) >>= _) _ _ _;refine wpAny_bind (wpAny_bind (wpAny_alloc (wpAny_pure (wpAny_bind ?_))));show wpAny _ _ (newObjAsIs _ _ _) _ _ _;unfold newObjAsIs classHasDel;refine wpAny_bind (wpAny_alloc (wpAny_bind (wpAny_bind (wpAny_load (Heap.get?_push_of_some _ (Heap.get?_push_of_some _ hC)) (wpAny_pure (Jbx e2 ?_))))));refine wpAny_pure (wpAny_pure ?_);show Q _ ⟨_,_,_,_,_⟩;rw [Heap.size_push];exact hq
theorem Tf {Q:Fin->Shared->Prop}{E:Value->Shared->Prop}(n:XW K C)(X:K.In h)
 (hq:Q (.done (.ret (.ref (h.objs.size + 1)))) ⟨(h.push emptyDict).push (instObj C h.objs.size),g,d,t,os⟩):wpAny (model prog w) A (Builtin.«object.__new__» ⟨[.ref C],[]⟩) Q E ⟨h,g,d,t,os⟩:=by
 refine E43 (n.obj) fun oc od cd sl hC e1 e2=>?_;have hC:=X _ _ hC;have typ:=looks_instIn (M:=model prog w) X n.typ;have here:Looks (model prog w) h (Bind.madeHere "object.__new__" (.ref C)) ():=(n.base (model prog w) h X).andThen ((Looks.of_pure KL).andThen (Looks.of_pure (if_neg (by rw [Option.map_some,bne_self_eq_false];decide))))
 unfold Builtin.«object.__new__»
 repeat (first | exact Se hC e2 hq | refine Jbx e1 ?_ | lk)
theorem PC {R:Result->Shared->Prop}(n:XW K C)(X:K.In h)
 (hq:R (.ok (.ret (.ref (h.objs.size + 1)))) ⟨(h.push emptyDict).push (instObj C h.objs.size),g,d,t,os⟩) :
 codeAny (model prog w) A (.call (.builtin "object.__new__") ⟨[.ref C],[]⟩) R ⟨h,g,d,t,os⟩:=
 codeAny_call_builtin_code (Code.quiet_builtin _ PySem.F.objNew.quiet) (QN n X (codeAny_builtin PySem.F.objNew.entry (Tf n X hq)))
end
section
variable {Γ:Cx}{E:String->St->Prop}{σ:St}
theorem LF {k:Kd}{Q:D->St->Prop}(n:XW Γ.K k.addr)(hl:k.names.length <= 1000)
 (h:∀ Z,Q (.ref (σ.led.length + 1)) ⟨σ.loc,σ.led++[.ns k (nones k),.inst k σ.led.length],Z⟩):CalC Γ E (.any (.builtin "object.__new__")) [.val k.addr] [] σ Q:=by
 intro vf vs ks s hvf hvs hks hkn r;obtain rfl:=hvf.inv;refine JB (P:=fun vs ks=>codeAny Γ.M Γ.A (.call (.builtin "object.__new__") ⟨vs,ks⟩) (CPost Γ E σ Q) s) hvs hkn fun v i=>?_;obtain rfl:=i.inv;refine E13 (r.newInst k hl) fun Z' z' e' r1=>?_;have X:=r.ok.K.keeps r.base;obtain ⟨hh,g,d,t,os⟩:=s;exact PC n X ⟨_,_,z',r1,.ref e',h _⟩
structure Oh (K:Frag)(T:String)(name:Str)(v:Value):Prop where
 find:findCls K (.type T) (.type "type") name=some (.val v)
 ga:findIn K (.type "type") "__getattribute__" = some (some (.builtin "type.__getattribute__"))
 sub:subIn K (.type "type") (.type "type")=some true
 hand:handedIn v=true
 ty:typeOf (.type T)=pure (.type "type")
 opq:opaqueClassAbove (.type T)=pure none
theorem TZ {T:String}{b:Bi}(hb:b.val=.type T){name:Str}{w:Value}{Q:D × LD->St->Prop}(a:Oh Γ.K T name w)(h:Q (.any w,[]) σ):Met Γ E (.bi b) name σ Q:=by
 intro v pl hv s r;obtain rfl:=hv.inv;rw [hb];have X:=r.ok.K.keeps r.base;unfold getMethod;refine wpAny_bind ?_;unfold specialOf;refine wpAny_bind (wpAny_of_eq a.ty ?_);refine (looks_findIn X a.ga).here ?_;dsimp only;rw [if_pos canon_tga];refine wpAny_bind (cls_open X (Looks.of_pure a.opq) (Looks.of_pure a.ty) a.ga (hook:=none) (Looks.of_pure rfl) a.sub a.find ?_);refine wpAny_pure ?_;show wpAny _ _ (handedOut w) _ _ _;rw [handedOut_of a.hand];exact wpAny_pure (wpAny_pure ⟨(.any w,[]),σ,Zle.rfl,r.toks _,⟨.any _,.nil⟩,h⟩)
end
noncomputable def BindsW (fd:FuncData)(a b c:Str):Prop:=∀ (M:Model) (A:Around) (X:Value->Shared->Prop) (Q:List (Str × Value)->Shared->Prop) (v1 v2:Value) (s:Shared),
 Q [(a,v1),(b,.ref s.heap.objs.size),(c,.ref (s.heap.objs.size + 1))] { s with heap:=(s.heap.push { cls:=.type "tuple",data:=.seq #[v2] }).push { cls:=.type "dict",data:=.dict #[] } }->wpAny M A (bindArgs fd ⟨[v1,v2],[]⟩) Q X s
section
variable {Γ:Cx}{E:String->St->Prop}{σ:St}
theorem W3 {f:Addr}{fd:FuncData}{body:List Stmt}{a b c:Str}{d1 d2:D}{Q:D->St->Prop}
 (F:O8 Γ.K f fd body [a,b,c]) (hb:BindsW fd a b c) (hroom:0 < Γ.room)
 (h:∀ Γ' Z v1 v2,RA Γ Γ' fd.scope (callEnv fd 0 f).cells [a,b,c]->XS Γ' (fun cls σ'=>∀ Z',E cls ⟨σ.loc,σ'.led,Z'⟩) body ⟨[some d1,some (.any v1),some (.any v2)],σ.led,Z⟩ fun fl σ'=>∀ Z',Q fl.val ⟨σ.loc,σ'.led,Z'⟩) :
 CalC Γ E (.val f) [d1,d2] [] σ Q:=by
 intro vf vs ks s hf hvs hks hkn r;obtain rfl:=hf.inv;refine JP (P:=fun vs ks=>codeAny Γ.M Γ.A (.call (.ref f) ⟨vs,ks⟩) (CPost Γ E σ Q) s) hvs hkn fun x1 x2 i1 i2=>?_;refine E12 (F.look) fun of hl hof=>?_;have X:=r.ok.K.keeps r.base;refine codeAny_call_function (body:=body) (by have:=r.ok.depth;lia) (X _ _ hl) hof F.nco F.ngen F.body (codeRec_of X F.code) (hb _ _ _ _ x1 x2 s ?_)
 have k1:∀ b o,s.heap.get? b=some o->((s.heap.push { cls:=.type "tuple",data:=.seq #[x2] }).push { cls:=.type "dict",data:=.dict #[] }).get? b=some o:=fun b o e=>Heap.get?_push_of_some _ (Heap.get?_push_of_some _ e);refine wpAny_newFunctionEnv F.noCell (fun x hx=>?_) (fun h₀ hns hsb=>?_) F.kind
 · simp only [List.mem_cons,List.not_mem_nil,or_false] at hx;rcases hx with rfl | rfl | rfl <;> exact F.loc (by simp)
 · have keep:∀ b o,s.heap.get? b=some o->h₀.get? b=some o:=fun b o e=>hsb.extBut b o (Nat.ne_of_lt (Heap.lt_size (k1 b o e))) (Heap.get?_push_of_some _ (k1 b o e));refine ⟨(r.ok.nl.keeps r.base).keeps keep,codeAny_func ?_⟩;refine NQ (nl:=[]) (loc:=[some d1,some (.any (.ref s.heap.objs.size)),some (.any (.ref (s.heap.objs.size + 1)))]) r hroom (F.env _) rfl keep (Heap.get?_none_of_le (by
    show s.heap.objs.size <= _;show _ <= ((s.heap.push _).push _).objs.size;rw [Heap.size_push,Heap.size_push];lia)) hns (fun x=>?_) (fun _ h=>nomatch h) List.nodup_nil rfl rfl (fun Z _=>?_)
   rotate_left
   · rw [show σ.led++([]:List (Addr × OD)).map (·.2)=σ.led from List.append_nil _]
     exact h _ _ _ _ ⟨rfl,rfl,rfl,rfl,rfl,rfl⟩
   have nd:=F.nd;simp only [List.nodup_cons,List.mem_cons,List.not_mem_nil,or_false,not_or,not_false_eq_true,List.nodup_nil,and_true] at nd;refine E02 nd fun hq0=>?_;clear nd;obtain ⟨n1,n2⟩:=hq0;intro n3;show Jy σ.Z (look [a,b,c] _ x) (([(a,x1),(b,Value.ref s.heap.objs.size),(c,Value.ref (s.heap.objs.size + 1))]:List (Str × Value)).reverse.lookup x);simp only [look,List.reverse_cons,List.reverse_nil,List.nil_append,List.cons_append,List.lookup]
   by_cases e1:x=a
   · subst e1;have q1:(x == c)=false:=by simpa using n2
     have q2:(x == b)=false:=by simpa using n1
     simp only [q1,q2,beq_self_eq_true,if_true];exact .some i1
   · by_cases e2:x=b
     · subst e2;have q1:(x == c)=false:=by simpa using n3
       simp only [q1,beq_self_eq_true,if_neg e1,if_true];exact .some (.any _)
     · by_cases e3:x=c
       · subst e3;simp only [beq_self_eq_true,if_neg e1,if_neg e2,if_true];exact .some (.any _)
       · have q1:(x == c)=false:=by simpa using e3
         have q2:(x == b)=false:=by simpa using e2
         have q3:(x == a)=false:=by simpa using e1
         simp only [q1,q2,q3,if_neg e1,if_neg e2,if_neg e3];exact .none
theorem Mt {a b:Addr}{r:Bool}{Q:D->St->Prop}(ha:(clsIn Γ.K a).isSome=true)(hb:(clsIn Γ.K b).isSome=true)(hr:(a != b)=r)(h:Q (.bool r) σ):Cmp Γ E .IsNot (.val a) (.val b) σ Q:=by
 intro va vb ia ib s r';obtain rfl:=ia.inv;obtain rfl:=ib.inv;have X:=r'.ok.K.keeps r'.base;have get:∀ c,(clsIn Γ.K c).isSome=true->∃ o cd,s.heap.get? c=some o /\ o.data=.cls cd:=by
  intro c hc;unfold clsIn at hc
  cases e:Γ.K.lookup c with
  | none=>rw [e] at hc;injection hc
  | some o=>
   rw [e] at hc;obtain ⟨cl,d,da,sl⟩:=o;cases da <;> first | exact ⟨_,_,X _ _ e,rfl⟩ | cases hc
 show wpAny _ _ (do return Value.bool (!(<-isSame (.ref a) (.ref b)))) _ _ s;refine wpAny_bind ?_;unfold isSame;dsimp only
 by_cases e:a=b
 · subst e;have:r=false:=by rw [<-hr];simp
   subst this;rw [if_pos (by simp)]
   exact wpAny_pure (wpAny_pure (J5.here r' (.bool _) h))
 · have:r=true:=by rw [<-hr];simp [e]
   subst this;refine E22 (get a ha) fun oa ca ga da=>?_;refine E22 (get b hb) fun ob cb gb db=>?_;rw [if_neg (by simpa using e)]
   refine wpAny_bind (wpAny_load ga (wpAny_bind (wpAny_load gb ?_)));rw [da,db]
   split
   · rename_i q _;injection q
   · exact wpAny_pure (wpAny_pure (J5.here r' (.bool _) h))
end
abbrev Loc:=List (Option D)
abbrev Led:=List OD
noncomputable def nth {α:Type}:List α->Nat->Option α
 | [],_=>none
 | a :: _,0=>some a
 | _ :: l,n + 1=>nth l n
theorem Jq {α:Type}:∀ (l:List α) (n:Nat),nth l n=l[n]?
 | [],_=>rfl
 | _ :: _,0=>rfl
 | _ :: l,n + 1=>Jq l n
noncomputable def ri (ρ:LN)(n i:Nat):Nat:=match nth ρ i with
 | some j=>j
 | none=>n + (i - ρ.length)
mutual
noncomputable def rnD (ρ:LN)(n:Nat):D->D
 | .ref i=>.ref (ri ρ n i)
 | .tup xs=>.tup (rnL ρ n xs)
 | .none=>.none
 | .bool b=>.bool b
 | .int i=>.int i
 | .str x=>.str x
 | .val a=>.val a
 | .bi b=>.bi b
 | .any v=>.any v
noncomputable def rnL (ρ:LN)(n:Nat):LD->LD
 | []=>[]
 | d :: r=>rnD ρ n d :: rnL ρ n r
end
noncomputable def rnN (ρ:LN)(n:Nat):Option D->Option D
 | some d=>some (rnD ρ n d)
 | none=>none
noncomputable def rnO (ρ:LN)(n:Nat):List (Option D)->List (Option D)
 | []=>[]
 | d :: r=>rnN ρ n d :: rnO ρ n r
noncomputable def rnOD (ρ:LN)(n:Nat):OD->OD
 | .list xs=>.list (rnL ρ n xs)
 | .deque xs=>.deque (rnL ρ n xs)
 | .inst k i=>.inst k (ri ρ n i)
 | .ns k vs=>.ns k (rnO ρ n vs)
 | .cell v=>.cell (rnN ρ n v)
noncomputable def putAll (led:Led):LN->Led->Led
 | [],_=>led
 | j :: ρ,os=>match os with
  | []=>led
  | o :: os=>(putAll led ρ os).set j o
noncomputable def unf (ρ:LN)(led led':Led):Led:=putAll led ρ ((led'.take ρ.length).map (rnOD ρ led.length))++(led'.drop ρ.length).map (rnOD ρ led.length)
theorem KY (led:Led):∀ (ρ:LN) (os:Led),(putAll led ρ os).length=led.length
 | [],_=>rfl
 | j :: ρ,[]=>rfl
 | j :: ρ,o :: os=>List.length_set.trans (KY led ρ os)
theorem NK (led:Led):∀ (ρ:LN) (os:Led) (i:Nat),i ∉ ρ->(putAll led ρ os)[i]?=led[i]?
 | [],_,_,_=>rfl
 | j :: ρ,[],_,_=>rfl
 | j :: ρ,o :: os,i,h=>by
  have h:=not_or.mp fun q=>h (List.mem_cons.mpr q);exact (List.getElem?_set_ne (Ne.symm h.1)).trans (NK led ρ os i h.2)
theorem M2 (led:Led):∀ (ρ:LN) (os:Led) (t i:Nat) (o:OD),ρ.Nodup->ρ[t]?=some i->os[t]?=some o->i < led.length->(putAll led ρ os)[i]?=some o
 | [],_,_,_,_,_,e1,_,_=>nomatch e1
 | _ :: _,[],_,_,_,_,_,e2,_=>nomatch e2
 | j' :: ρ,o' :: os,0,i,o,nd,e1,e2,h=>by
  obtain rfl:=Option.some.inj e1;obtain rfl:=Option.some.inj e2;exact List.getElem?_set_self (by rw [KY];exact h)
 | j' :: ρ,o' :: os,t + 1,i,o,nd,e1,e2,h=>by
  have nd:=List.nodup_cons.mp nd;have e1:ρ[t]?=some i:=e1;exact (List.getElem?_set_ne (fun (q:j'=i)=>nd.1 (by rw [q];exact List.mem_of_getElem? e1))).trans (M2 led ρ os t i o nd.2 e1 e2 h)
theorem QH (ρ:LN)(n:Nat):∀ l,rnL ρ n l=l.map (rnD ρ n)
 | []=>rfl
 | _ :: r=>congrArg _ (QH ρ n r)
theorem Mm (ρ:LN)(n:Nat):∀ vs,cnt (rnO ρ n vs)=cnt vs
 | []=>rfl
 | some _ :: r=>congrArg Nat.succ (Mm ρ n r)
 | none :: r=>Mm ρ n r
theorem NT (ρ:LN)(n:Nat):∀ vs,(rnO ρ n vs).length=vs.length
 | []=>rfl
 | _ :: r=>congrArg Nat.succ (NT ρ n r)
theorem MR (ρ:LN)(n:Nat):∀ (ns:List Str) (vs:List (Option D)) (x:Str),look ns (rnO ρ n vs) x=rnN ρ n (look ns vs x)
 | [],_,_=>rfl
 | _ :: _,[],_=>rfl
 | m :: ns,v :: vs,x=>by
  show (if x=m then rnN ρ n v else look ns (rnO ρ n vs) x)=rnN ρ n (if x=m then v else look ns vs x)
  split
  · rfl
  · exact MR ρ n ns vs x
section
variable {ρ:LN}{n:Nat}{Z Z':Zs}
structure Ren (ρ:LN)(n:Nat)(Z Z':Zs):Prop where
 m:∀ a o,(∃ items n,o=({ cls:=.type "tuple",data:=.seq items n }:Obj))->Z.m a=some o->Z'.m a=some o
 ad:∀ i a,Z.ad[i]?=some a->Z'.ad[ri ρ n i]?=some a
structure Ner (ρ:LN)(n:Nat)(Z Z':Zs):Prop where
 m:∀ a o,Z'.m a=some o->Z.m a=some o
 ad:∀ i a,Z'.ad[ri ρ n i]?=some a->Z.ad[i]?=some a
theorem Is.ren (R:Ren ρ n Z Z'){d:D}{v:Value}(h:Is Z d v):Is Z' (rnD ρ n d) v:=
 Is.rec (motive_1:=fun d v _=>Is Z' (rnD ρ n d) v) (motive_2:=fun ds vs _=>IsL Z' (rnL ρ n ds) vs) .none .bool .int .str (fun h=>.ref (R.ad _ _ h)) .val .bi .any (fun h _ ih=>.tup (R.m _ _ ⟨_,_,rfl⟩ h) ih) .nil (fun _ _ a b=>.cons a b) h
theorem IsL.ren (R:Ren ρ n Z Z'){ds:LD}{vs:List Value}(h:IsL Z ds vs):IsL Z' (rnL ρ n ds) vs:=h.ind (P:=fun ds vs=>IsL Z' (rnL ρ n ds) vs) .nil fun a _ c=>.cons (a.ren R) c
theorem Is.ner (R:Ner ρ n Z Z')(d:D){v:Value}(h:Is Z' (rnD ρ n d) v):Is Z d v:=
 D.rec (motive_1:=fun d=>∀ v,IsV Z' (rnD ρ n d) v->Is Z d v) (motive_2:=fun ds=>∀ vs,IsLV Z' (rnL ρ n ds) vs->IsL Z ds vs) (fun _ h=>Eq.symm h ▸ .none) (fun b _ h=>Eq.symm h ▸ .bool b) (fun i _ hz0=>by refine E11 hz0 fun t h=>?_;exact h.symm ▸ .int i t) (fun s _ hz1=>by refine E12 hz1 fun t h k=>?_;exact h.symm ▸ .str s t k)
  (fun i _ hz2=>by refine E12 hz2 fun a h k=>?_;exact h.symm ▸ .ref (R.ad _ _ k)) (fun a _ h=>Eq.symm h ▸ .val a) (fun b _ h=>Eq.symm h ▸ .bi b) (fun v _ h=>Eq.symm h ▸ .any v) (fun xs ih _ hz3=>by refine E33 hz3 fun a items n h k l=>?_;exact h.symm ▸ .tup (R.m _ _ k) (ih _ l.inv))
  (fun _ h=>Eq.symm h ▸ .nil) (fun d ds a b _ hz4=>by refine E23 hz4 fun v r h k l=>?_;exact h.symm ▸ .cons (a _ k.inv) (b _ l.inv)) d v h.inv
theorem IsL.ner (R:Ner ρ n Z Z'):∀ (ds:LD) {vs:List Value},IsL Z' (rnL ρ n ds) vs->IsL Z ds vs:=fun ds=>by
 induction ds with
 | nil=>intro vs h;exact Eq.symm h.inv ▸ .nil
 | cons d ds ih=>intro vs h;refine E23 (h.inv) fun v r hq11=>?_;obtain rfl:=hq11;intro k l;exact .cons (Is.ner R d k) (ih l)
theorem Jy.ren (R:Ren ρ n Z Z'){d:Option D}{v:Option Value}(h:Jy Z d v):Jy Z' (rnN ρ n d) v:=by
 cases h with
 | none=>exact .none
 | some h=>exact .some (h.ren R)
theorem Jy.ner (R:Ner ρ n Z Z'){d:Option D}{v:Option Value}(h:Jy Z' (rnN ρ n d) v):Jy Z d v:=by
 cases d with
 | none=>cases h;exact .none
 | some d=>cases h with | some h=>exact .some (h.ner R)
theorem IsO.ren (R:Ren ρ n Z Z'){d:OD}{o:Obj}(h:IsO Z d o):IsO Z' (rnOD ρ n d) o:=by
 cases d with
 | inst=>exact h.imp id fun h=>h.imp (fun hz5=>by refine E11 hz5 fun d h=>?_;exact ⟨d,h.imp (R.ad _ _) id⟩) id
 | ns k vs=>exact h.imp id fun h=>h.imp id fun ⟨es,ep,h⟩=>⟨es,ep,h.imp id fun h=>h.imp (fun h=>⟨h.1,fun x=>by rw [MR];exact (h.2 x).ren R⟩) fun k=>by rw [Mm,NT];exact k⟩
 | cell=>exact Exists.imp (fun _ h=>h.imp id (Jy.ren R)) h
 | _=>exact Exists.imp (fun _ h=>Exists.imp (fun _ h=>h.imp id (IsL.ren R)) h) h
theorem IsO.ner (R:Ner ρ n Z Z'){d:OD}{o:Obj}(h:IsO Z' (rnOD ρ n d) o):IsO Z d o:=by
 cases d with
 | inst=>exact h.imp id fun h=>h.imp (fun hz6=>by refine E11 hz6 fun d h=>?_;exact ⟨d,h.imp (R.ad _ _) id⟩) id
 | ns k vs=>exact h.imp id fun h=>h.imp id fun ⟨es,ep,h⟩=>⟨es,ep,h.imp id fun h=>h.imp (fun h=>⟨h.1,fun x=>by have:=h.2 x;rw [MR] at this;exact this.ner R⟩) fun k=>by rw [Mm,NT] at k;exact k⟩
 | cell=>exact Exists.imp (fun _ h=>h.imp id (Jy.ner R)) h
 | _=>exact Exists.imp (fun _ h=>Exists.imp (fun _ h=>h.imp id (IsL.ner R _)) h) h
end
theorem IsO.noTup {Z:Zs}{d:OD}{o:Obj}(h:IsO Z d o):¬ ∃ items n,o=({ cls:=.type "tuple",data:=.seq items n }:Obj):=by
 rintro ⟨it,k,rfl⟩
 cases d with
 | list xs=>refine E22 h fun i n c _=>?_;injection c with c;injection c with c;exact absurd c (by decide)
 | deque xs=>refine E22 h fun i n c _=>?_;injection c with c;injection c with c;exact absurd c (by decide)
 | inst k i=>cases h.1
 | ns k vs=>refine E03 h fun _ h _=>?_;injection h with h;exact absurd h (by decide)
 | cell v=>refine E12 h fun _ h _=>?_;injection h
theorem IsO.slots {Z:Zs}{d:OD}{o:Obj}(h:IsO Z d o)(sl:Array (Option Value))(hs:(∀ es ep,o.data ≠ .dict es ep)->sl=o.slots):IsO Z d { o with slots:=sl }:=by
 cases d with
 | list xs=>refine E22 h fun i n hq10=>?_;clear h;obtain rfl:=hq10;intro q;exact ⟨i,n,by rw [hs fun _ _ q=>by injection q],q⟩
 | deque xs=>refine E22 h fun i n hq9=>?_;clear h;obtain rfl:=hq9;intro q;exact ⟨i,n,by rw [hs fun _ _ q=>by injection q],q⟩
 | inst k i=>exact h
 | ns k vs=>exact h
 | cell v=>exact h
theorem UX {α β:Type}{l:List α}{m:List β}{p:α × β}(h:p ∈ l.zip m):∃ i:Nat,l[i]?=some p.1 /\ m[i]?=some p.2:=by
 refine E11 (List.mem_iff_getElem?.mp h) fun i hi=>?_;rw [List.getElem?_zip_eq_some] at hi;exact ⟨i,hi⟩
theorem Lf {α:Type}{l:List α}(nd:l.Nodup){i j:Nat}{a:α}(h1:l[i]?=some a)(h2:l[j]?=some a):i=j:=by
 refine E11 (List.getElem?_eq_some_iff.mp h1) fun l1 e1=>?_;refine E11 (List.getElem?_eq_some_iff.mp h2) fun l2 e2=>?_;exact (List.getElem_inj (h₀:=l1) (h₁:=l2) nd).mp (e1.trans e2.symm)
theorem K9 (es:Array DictEntry):∀ (ns:List Str) (x:Str),look ns (ns.map fun y=>(nsFind es y).map D.any) x=if x ∈ ns then (nsFind es x).map D.any else none
 | [],_=>rfl
 | m :: ns,x=>by
  show (if x=m then _ else look ns _ x)=_
  rw [K9 es ns x]
  by_cases e:x=m
  · subst e;rw [if_pos rfl,if_pos (.head _)]
  · rw [if_neg e]
    by_cases h:x ∈ ns
    · rw [if_pos h,if_pos (.tail _ h)]
    · rw [if_neg h,if_neg fun q=>(List.mem_cons.mp q).elim e h]
section
variable {Γ:Cx}{E:String->St->Prop}{σ:St}
theorem Sp {a:Addr}{args:LD}{kws:List (Str × D)}{Q:D->St->Prop}(ρ:LN)(ledi:Led)(nd:ρ.Nodup)(hl:ledi.length=ρ.length)
 (hs:∀ (t j:Nat) (o:OD),ρ[t]?=some j->ledi[t]?=some o->σ.led[j]?=some (rnOD ρ σ.led.length o))
 (h:∀ loc Z,CalC Γ (fun cls σ'=>σ'.loc=loc /\ ∀ Z',E cls ⟨σ.loc,unf ρ σ.led σ'.led,Z'⟩) (.val a) args kws ⟨loc,ledi,Z⟩ fun d σ'=>σ'.loc=loc /\ ∀ Z',Q (rnD ρ σ.led.length d) ⟨σ.loc,unf ρ σ.led σ'.led,Z'⟩) :
 CalC Γ E (.val a) (rnL ρ σ.led.length args) (kws.map fun p=>(p.1,rnD ρ σ.led.length p.2)) σ Q:=by
 intro vf vs ks s hf hvs hks hkn r;obtain rfl:=hf.inv;refine E33 (r.loc) fun oL esL epL hLL hdL hNL=>?_;have hρ:∀ t j:Nat,ρ[t]?=some j->j < σ.led.length:=fun t j e=>by
  have:t < ledi.length:=by rw [hl];exact (gel e)
  exact (List.getElem?_eq_some_iff.mp (hs t j _ e (List.getElem?_eq_getElem this))).1
 obtain ⟨adi,hadi,hadl⟩:∃ adi:List Addr,(∀ t j:Nat,ρ[t]?=some j->adi[t]?=σ.Z.ad[j]?) /\ adi.length=ρ.length:=by
  refine ⟨ρ.map fun j=>(σ.Z.ad[j]?).getD 0,fun t j e=>?_,List.length_map ..⟩;have:j < σ.Z.ad.length:=by rw [r.adl];exact hρ t j e
  rw [List.getElem?_map,e,Option.map_some,List.getElem?_eq_getElem this];rfl
 have hin:∀ (t:Nat) b,adi[t]?=some b->∃ j:Nat,ρ[t]?=some j /\ σ.Z.ad[j]?=some b:=fun t b e=>by
  have:t < ρ.length:=by rw [<-hadl];exact (gel e)
  exact ⟨_,List.getElem?_eq_getElem this,(hadi _ _ (List.getElem?_eq_getElem this)) ▸ e⟩
 have hsub:∀ b,b ∈ adi->b ∈ σ.Z.ad:=fun b hb=>by
  refine E11 (List.mem_iff_getElem?.mp hb) fun t ht=>?_;refine E12 (hin t b ht) fun j _ e=>?_;exact List.mem_of_getElem? e
 let Zi:Zs:=⟨fun b=>if b ∈ σ.Z.ad /\ b ∉ adi then s.heap.get? b else σ.Z.m b,adi⟩
 have zm:∀ b o,σ.Z.m b=some o->Zi.m b=some o:=fun b o e=>(if_neg fun q=>by have:=(r.off q.1).2.2.1;rw [e] at this;injection this).trans e
 have N:Ner ρ σ.led.length Zi σ.Z:=by
  refine ⟨zm,fun i b e=>?_⟩;unfold ri at e;rw [Jq] at e
  cases q:ρ[i]? with
  | some j=>rw [q] at e;exact (hadi i j q).trans e
  | none=>
   rw [q] at e;have:=(gel e);rw [r.adl] at this;have this:σ.led.length + (i - ρ.length) < σ.led.length:=this
   lia
 let loci:Loc:=Γ.names.map fun x=>(nsFind esL x).map D.any
 have hlook:∀ x,look Γ.names loci x=(nsFind esL x).map D.any:=fun x=>by
  show look Γ.names (Γ.names.map _) x=_;rw [K9]
  by_cases hx:x ∈ Γ.names
  · exact if_pos hx
  · rw [if_neg hx];have:=hNL.2 x
    cases q:look Γ.names σ.loc x with
    | some d=>exact absurd (KF q) hx
    | none=>
     rw [q] at this;generalize nsFind esL x=u at this;cases this;rfl
 have R:Rel Γ ⟨loci,ledi,Zi⟩ s:=by
  refine ⟨r.ok,r.base,fun b o e=>?_,⟨oL,esL,epL,hLL,hdL,hNL.1,fun x=>?_⟩,⟨r.locNew.1,(if_neg fun q=>(r.off q.1).2.2.2 rfl).trans r.locNew.2⟩,fun p hp=>?_,hadl.trans hl.symm,?_,fun e he=>?_,r.gens,r.os⟩
  · have e:(if b ∈ σ.Z.ad /\ b ∉ adi then s.heap.get? b else σ.Z.m b)=some o:=e
    split at e
    · rename_i q;exact ⟨⟨o.slots,e,fun _=>rfl⟩,(r.off q.1).2.1⟩
    · exact r.zs b o e
  · show Jy Zi (look Γ.names loci x) _;rw [hlook]
    cases nsFind esL x with
    | none=>exact .none
    | some v=>exact .some (.any v)
  · refine E12 (UX hp) fun t h1 h2=>?_;refine E12 (hin t _ h1) fun j e1 e2=>?_;have e3:=hs t j _ e1 h2;refine E04 (r.led _ (NJ e2 e3)) fun hq8=>?_;refine E12 hq8 fun o g i=>?_;intro q1 q2 q3;exact ⟨⟨o,g,i.ner N⟩,q1,(if_neg fun q=>q.2 (List.mem_of_getElem? h1)).trans q2,q3⟩
  · refine List.pairwise_iff_getElem.mpr fun i j hi hj hij e=>?_;have hi:i < adi.length:=hi;have hj:j < adi.length:=hj;refine E12 (hin i _ (List.getElem?_eq_getElem hi)) fun j1 e1 e2=>?_;refine E12 (hin j _ (List.getElem?_eq_getElem hj)) fun j2 e3 e4=>?_;have e:adi[i]=adi[j]:=e;rw [<-e] at e4;have:=Lf r.nodup e2 e4;subst this;have:=Lf nd e1 e3
    lia
  · refine E02 (r.fr e he) fun q hq7=>?_;refine E12 hq7 fun F b c=>?_;exact ⟨q,F,b,c.imp id fun hz7=>by refine E12 hz7 fun x h hv=>?_;exact ⟨x,zm _ _ h,hv⟩⟩
 have back:∀ (σ':St) (s':Shared),σ'.loc=loci->Zle Zi σ'.Z->Rel Γ σ' s'->∃ Z'',Zle σ.Z Z'' /\ Ren ρ σ.led.length σ'.Z Z'' /\ Rel Γ ⟨σ.loc,unf ρ σ.led σ'.led,Z''⟩ s' /\ ∀ b,Off Γ σ' b->Off Γ ⟨σ.loc,unf ρ σ.led σ'.led,Z''⟩ b:=by
  rintro ⟨loc',led',Z'⟩ s' rfl z r'
  dsimp only at z r' ⊢;refine E11 (z.2) fun l hadx=>?_;have hadx:Z'.ad=adi++l:=hadx;have hdrop:Z'.ad.drop ρ.length=l:=by rw [hadx,<-hadl,List.drop_left]
  have hk:ρ.length <= led'.length:=by rw [<-r'.adl];show _ <= Z'.ad.length;rw [hadx,List.length_append,hadl];exact Nat.le_add_right _ _
  have fm:∀ b,b ∈ σ.Z.ad->b ∉ adi->∃ o,Z'.m b=some o /\ s.heap.get? b=some o:=fun b h1 h2=>by
   refine E02 (r.off h1) fun hq6=>?_;refine E11 hq6 fun o g=>?_;intro _;exact ⟨o,z.1 _ _ ((if_pos ⟨h1,h2⟩).trans g),g⟩
  let Z'':Zs:=⟨fun b=>if b ∈ σ.Z.ad /\ b ∉ adi then none else Z'.m b,σ.Z.ad++l⟩
  have z'':Zle σ.Z Z'':=⟨fun b o e=>(if_neg fun q=>by have:=(r.off q.1).2.2.1;rw [e] at this;injection this).trans (z.1 _ _ (zm _ _ e)),l,rfl⟩
  have hnew:∀ b,b ∈ l->b ∉ σ.Z.ad:=fun b hb q=>by
   by_cases hi:b ∈ adi
   · have nd:=r'.nodup;have nd:Z'.ad.Nodup:=nd;rw [hadx] at nd;exact (List.nodup_append.mp nd).2.2 b hi b hb rfl
   · refine E12 (fm b q hi) fun o e _=>?_;have:Z'.m b=none:=(r'.off (by show b ∈ Z'.ad;rw [hadx];exact List.mem_append_right _ hb)).2.2.1
     rw [e] at this;injection this
  have Rn:Ren ρ σ.led.length Z' Z'':=by
   refine ⟨fun b o ⟨it,k,ho⟩ e=>(if_neg fun q=>?_).trans e,fun i b e=>?_⟩
   · refine E12 (fm b q.1 q.2) fun o' e' g=>?_;rw [e] at e';obtain rfl:=Option.some.inj e';refine E22 (r.mem q.1) fun i od h1 h2=>?_;refine E02 (r.led _ (NJ h1 h2)) fun hq5=>?_;refine E12 hq5 fun o' g' io=>?_;intro _;dsimp only at g' io;rw [g] at g';obtain rfl:=Option.some.inj g';exact (io.noTup ⟨it,k,ho⟩).elim
   · unfold ri;rw [Jq];rw [hadx] at e;show (σ.Z.ad++l)[_]?=_
     cases q:ρ[i]? with
     | some j=>
      have hi:i < adi.length:=by rw [hadl];exact (gel q)
      rw [List.getElem?_append_left hi,hadi i j q] at e;dsimp only;rw [List.getElem?_append_left (gel e)];exact e
     | none=>
      have hi:adi.length <= i:=by rw [hadl];exact List.getElem?_eq_none_iff.mp q
      rw [List.getElem?_append_right hi,hadl] at e;dsimp only;rw [List.getElem?_append_right (by rw [r.adl];lia),r.adl,Nat.add_sub_cancel_left];exact e
  have zi:∀ b,Z'.m b=none->¬ (b ∈ σ.Z.ad /\ b ∉ adi):=fun b e q=>by
   refine E12 (fm b q.1 q.2) fun o e' _=>?_;rw [e] at e';injection e'
  have pl:putAll σ.led ρ ((led'.take ρ.length).map (rnOD ρ σ.led.length))=putAll σ.led ρ ((led'.take ρ.length).map (rnOD ρ σ.led.length)):=rfl;have lpl:=KY σ.led ρ ((led'.take ρ.length).map (rnOD ρ σ.led.length));refine ⟨Z'',z'',Rn,⟨r.ok,r'.base,fun b o e=>?_,?_,⟨r.locNew.1,?_⟩,fun p hp=>?_,?_,?_,fun e he=>?_,r'.gens,r'.os⟩,fun b x=>⟨x.base,(if_neg (zi b x.z)).trans x.z,x.loc,fun q=>?_⟩⟩
  · have e:(if b ∈ σ.Z.ad /\ b ∉ adi then none else Z'.m b)=some o:=e
    split at e
    · injection e
    · exact r'.zs b o e
  · refine E34 (r'.loc) fun o es ep h1 h2 h3 h4=>?_;refine ⟨o,es,ep,h1,h2,h3,fun x=>?_⟩;have a1:=hNL.2 x;have a2:=h4 x;have a2:Jy Z' (look Γ.names loci x) (nsFind es x):=a2;rw [hlook] at a2
    cases q:nsFind esL x with
    | none=>rw [q] at a1 a2;generalize nsFind es x=u at a2;cases a2;exact a1.mono z''
    | some v=>
     rw [q] at a1 a2;generalize nsFind es x=u at a2
     cases a2 with
     | some i=>obtain rfl:=i.inv;exact a1.mono z''
  · show (if _ then _ else _)=_
    split
    · rfl
    · exact r'.locNew.2
  · refine E12 (UX hp) fun i h1 h2=>?_;have h1:(σ.Z.ad++l)[i]?=some p.1:=h1;have h2:(unf ρ σ.led led')[i]?=some p.2:=h2;unfold unf at h2
    by_cases hi:i < σ.led.length
    · rw [List.getElem?_append_left (by rw [r.adl];exact hi)] at h1
      rw [List.getElem?_append_left (by rw [lpl];exact hi)] at h2
      by_cases hm:i ∈ ρ
      · refine E11 (List.mem_iff_getElem?.mp hm) fun t ht=>?_;have htl:t < ρ.length:=(gel ht);have e1:led'[t]?=some (led'[t]'(by lia)):=List.getElem?_eq_getElem _
        generalize led'[t]'(by lia)=od at e1
        have e2:((led'.take ρ.length).map (rnOD ρ σ.led.length))[t]?=some (rnOD ρ σ.led.length od):=by
         rw [List.getElem?_map,List.getElem?_take,if_pos htl,e1];rfl
        rw [M2 σ.led ρ _ t i _ nd ht e2 hi] at h2;have ha:Z'.ad[t]?=some p.1:=by
         rw [hadx,List.getElem?_append_left (by lia),hadi t i ht];exact h1
        refine E04 (r'.led _ (NJ ha e1)) fun hq4=>?_;refine E12 hq4 fun o g io=>?_;intro q1 q2 q3;dsimp only at g io q1 q2 q3;rw [<-Option.some.inj h2];exact ⟨⟨o,g,io.ren Rn⟩,q1,(if_neg (zi _ q2)).trans q2,q3⟩
      · rw [NK _ _ _ _ hm] at h2;refine E04 (r.led _ (NJ h1 h2)) fun hq3=>?_;refine E12 hq3 fun o g io=>?_;intro q1 q2 q3;have hni:p.1 ∉ adi:=fun q=>by
         refine E11 (List.mem_iff_getElem?.mp q) fun t ht=>?_;refine E12 (hin t _ ht) fun j e1 e2=>?_;have:=Lf r.nodup e2 h1;subst this;exact hm (List.mem_of_getElem? e1)
        have hia:p.1 ∈ σ.Z.ad:=List.mem_of_getElem? h1;refine E12 (fm _ hia hni) fun o' e' g'=>?_;rw [g] at g';obtain rfl:=Option.some.inj g';refine E02 (r'.zs _ _ e') fun hq2=>?_;refine E12 hq2 fun sl g2 hsl=>?_;intro _;exact ⟨⟨_,g2,(io.mono z'').slots sl hsl⟩,q1,if_pos ⟨hia,hni⟩,q3⟩
    · have hi':σ.led.length <= i:=Nat.le_of_not_lt hi;rw [List.getElem?_append_right (by rw [r.adl];exact hi'),r.adl] at h1
      rw [List.getElem?_append_right (by rw [lpl];exact hi'),lpl,List.getElem?_map,List.getElem?_drop] at h2
      refine E12 (Option.map_eq_some_iff.mp h2) fun od e1 rfl'=>?_;have ha:Z'.ad[ρ.length + (i - σ.led.length)]?=some p.1:=by
       rw [hadx,List.getElem?_append_right (by lia),hadl,Nat.add_sub_cancel_left];exact h1
      refine E04 (r'.led _ (NJ ha e1)) fun hq1=>?_;refine E12 hq1 fun o g io=>?_;intro q1 q2 q3;dsimp only at g io q1 q2 q3;exact ⟨⟨o,g,rfl' ▸ io.ren Rn⟩,q1,(if_neg (zi _ q2)).trans q2,q3⟩
  · show (σ.Z.ad++l).length=(unf ρ σ.led led').length;unfold unf;rw [List.length_append,List.length_append,lpl,List.length_map,List.length_drop,r.adl,<-hdrop,List.length_drop,show Z'.ad.length=led'.length from r'.adl]
  · show (σ.Z.ad++l).Nodup;have nd:Z'.ad.Nodup:=r'.nodup;rw [hadx] at nd;refine List.nodup_append.mpr ⟨r.nodup,(List.nodup_append.mp nd).2.1,fun b hb c hc q=>?_⟩;exact hnew c hc (q ▸ hb)
  · refine E02 (r.fr e he) fun h1 hq0=>?_;refine E12 hq0 fun F' h2 h3=>?_;exact ⟨h1,F',h2,h3.imp id fun hz8=>by refine E12 hz8 fun o h4 h5=>?_;exact ⟨o,z''.1 _ _ h4,h5⟩⟩
  · have q:b ∈ σ.Z.ad++l:=q;rcases List.mem_append.mp q with q | q
    · by_cases hi:b ∈ adi
      · exact x.led (by show b ∈ Z'.ad;rw [hadx];exact List.mem_append_left _ hi)
      · exact zi b x.z ⟨q,hi⟩
    · exact x.led (by show b ∈ Z'.ad;rw [hadx];exact List.mem_append_right _ q)
 have hk':(kws.map fun p=>(p.1,rnD ρ σ.led.length p.2)).map (·.2)=rnL ρ σ.led.length (kws.map (·.2)):=by
  rw [QH,List.map_map,List.map_map];rfl
 rw [hk'] at hks;refine codeAny_mono (h loci Zi _ vs ks s (.val a) (hvs.ner N) (hks.ner N) (by rw [hkn,List.map_map];rfl) R) fun res s' x=>?_
 cases res with
 | error e=>
  obtain ⟨b,cls,σ',he,z,r',x,q⟩:=x;refine E14 (back σ' s' q.1 z r') fun Z'' z'' Rn r'' off=>?_;obtain ⟨o1,oe,us,h1,h2,h3,h4,h5⟩:=x;refine ⟨b,cls,_,he,z'',r'',⟨off _ o1,oe,us,h1,h2,h3,h4,h5.imp id ?_⟩,q.2 _⟩
  rintro ⟨T,oT,ts,y1,y2,y3,y4,y5,y6⟩
  exact ⟨T,oT,ts,y1,y2,y3,y4,y5,off _ y6⟩
 | ok f=>cases f with
  | ret v=>
   obtain ⟨d,σ',z,r',i,q⟩:=x;refine E14 (back σ' s' q.1 z r') fun Z'' z'' Rn r'' off=>?_;exact ⟨_,_,z'',r'',i.ren Rn,q.2 _⟩
  | _=>exact x
end
noncomputable def Cx.comp (Γ:Cx)(env:Env)(names:List Str):Cx:={ Γ with env:=env,names:=names }
abbrev NoE:String->St->Prop:=fun _ _=>False
section
variable {Γ:Cx}{E:String->St->Prop}{σ:St}
theorem Mk:∀ (ns:List Str) (x:Str),look ns (ns.map fun _=>(none:Option D)) x=none
 | [],_=>rfl
 | m :: ns,x=>by
  show (if x=m then _ else look ns _ x)=_
  rw [Mk ns x];split <;> rfl
theorem PG {env:Env}{names:List Str}{s s₁:Shared}(r:Rel Γ σ s)(hE:Qy env names)(hframe:env.frame=Γ.env.frame)(keep:∀ b o,s.heap.get? b=some o->s₁.heap.get? b=some o)
 (hL:s.heap.get? env.locals=none) (hns:s₁.heap.Ns env.locals fun _=>none) (hg:s₁.gens=s.gens) (ho:s₁.os=s.os) :
 ∃ Z,Zle σ.Z Z /\ Z.ad=σ.Z.ad /\ Rel (Γ.comp env names) ⟨names.map fun _=>none,σ.led,Z⟩ s₁ /\ (∀ a o,s.heap.get? a=some o->Off Γ σ a->Off (Γ.comp env names) ⟨names.map fun _=>none,σ.led,Z⟩ a) /\
  ∀ (σ':St) (s':Shared),Zle Z σ'.Z->Rel (Γ.comp env names) σ' s'->∀ h',Heap.SameBut env.locals s'.heap h'->∃ Z',Zle σ.Z Z' /\ Z'.ad=σ'.Z.ad /\ Rel Γ ⟨σ.loc,σ'.led,Z'⟩ { s' with heap:=h' }:=by
 refine E33 (r.loc) fun oL esL epL hLL hdL hNL=>?_;have fr:=Off.of_none r hL;have hZ:Zle σ.Z (Zadd σ.Z Γ.env.locals oL []):=⟨fun a o e=>(JV fun q=>by rw [q,r.locNew.2] at e;injection e).trans e,_,rfl⟩
 have had:(Zadd σ.Z Γ.env.locals oL []).ad=σ.Z.ad:=List.append_nil _;refine ⟨Zadd σ.Z Γ.env.locals oL [],hZ,had,⟨⟨hE.kind,hE.nd,hE.locs,hE.dbg,hE.glo,hE.blt,r.ok.frames,r.ok.depth,r.ok.units,r.ok.g,r.ok.b,r.ok.nl,r.ok.bt,r.ok.K,?_⟩,fun b o e=>keep b o (r.base b o e),fun a o e=>?_,?_,⟨fr.base,?_⟩,fun p hp=>?_,?_,?_,fun e he=>?_,hg.trans r.gens,ho.trans r.os⟩,fun a o ha x=>⟨x.base,(JV x.loc).trans x.z,fun q=>?_,fun q=>?_⟩,fun σ' s' z r' h' hs=>?_⟩
 · refine E33 (r.ok.top) fun fe o F h1 h2 h3=>?_;exact ⟨fe,o,F,h1,h2,hframe.trans h3⟩
 · dsimp only at e
   by_cases q:a=Γ.env.locals
   · subst q;rw [JX] at e;obtain rfl:=Option.some.inj e;exact ⟨⟨oL.slots,keep _ _ hLL,fun _=>rfl⟩,r.locNew.1⟩
   · rw [JV q] at e;refine E02 (r.zs a o e) fun hq6=>?_;refine E12 hq6 fun sl h1 hsl=>?_;intro h2;exact ⟨⟨sl,keep _ _ h1,hsl⟩,h2⟩
 · refine E34 hns fun o es ep h1 h2 h3 h4=>?_;refine ⟨o,es,ep,h1,h2,h3,fun x=>?_⟩;rw [h4 x];show Jy _ (look names (names.map _) x) none;rw [Mk];exact .none
 · show (Zadd σ.Z Γ.env.locals oL _).m env.locals=none;rw [JV fr.loc];exact fr.z
 · have hp:p ∈ (σ.Z.ad++[]).zip σ.led:=hp;rw [List.append_nil] at hp;refine E04 (r.led p hp) fun hq5=>?_;refine E12 hq5 fun o h1 h2=>?_;intro h3 h4 h5;exact ⟨⟨o,keep _ _ h1,h2.mono hZ⟩,h3,(JV h5).trans h4,fun e=>fr.led (e ▸ (List.of_mem_zip hp).1)⟩
 · show (σ.Z.ad++[]).length=_;rw [List.append_nil];exact r.adl
 · show (σ.Z.ad++[]).Nodup;rw [List.append_nil];exact r.nodup
 · refine E02 (r.fr e he) fun h1 hq4=>?_;refine E12 hq4 fun F' h2 h3=>?_;refine ⟨h1,F',h2,.inr ?_⟩;rcases h3 with rfl | ⟨o,h3,h4⟩
   · exact ⟨oL,JX,_,_,hdL⟩
   · exact ⟨o,hZ.1 _ _ h3,h4⟩
 · have q:a=env.locals:=q;rw [q,hL] at ha;injection ha
 · have q:a ∈ σ.Z.ad++[]:=q;rw [List.append_nil] at q;exact x.led q
 · have hLz:σ'.Z.m Γ.env.locals=some oL:=z.1 _ _ JX;have nsq:NoSeq σ'.Z Γ.env.locals:=fun o items n e=>by rw [hLz] at e;obtain rfl:=Option.some.inj e;rw [hdL];exact fun q=>by injection q
   have z':Zle σ.Z (Zdel σ'.Z Γ.env.locals):=⟨fun a o e=>by
    have ne:a ≠ Γ.env.locals:=fun q=>by rw [q,r.locNew.2] at e;injection e
    rw [J9 ne];exact z.1 _ _ (hZ.1 _ _ e),(hZ.trans z).2⟩
   have lne:∀ a,a ≠ env.locals->h'.get? a=s'.heap.get? a:=fun a ne=>hs.2 a ne;have dne:Γ.env.locals ≠ env.locals:=Ne.symm fr.loc;refine ⟨Zdel σ'.Z Γ.env.locals,z',rfl,?_⟩;refine E02 (r'.zs _ _ hLz) fun hq3=>?_;refine E12 hq3 fun sl hsl _=>?_;intro _;have lz:∀ a o,σ'.Z.m a=some o->a ≠ env.locals:=fun a o e q=>by
    have:=r'.locNew.2;have this:σ'.Z.m env.locals=none:=this;rw [<-q,e] at this;injection this
   refine ⟨r.ok,fun b o e=>(lne b fun q=>by rw [q,fr.base] at e;injection e).trans (r'.base b o e),fun a o e=>?_,⟨_,esL,epL,(lne _ dne).trans hsl,hdL,hNL.mono z'⟩,⟨r.locNew.1,KR⟩,fun p hp=>?_,r'.adl,r'.nodup,fun e he=>?_,r'.gens,r'.os⟩
   · dsimp only at e;have ne:a ≠ Γ.env.locals:=fun q=>by rw [q,KR] at e;injection e
     rw [J9 ne] at e;refine E02 (r'.zs a o e) fun hq2=>?_;refine E12 hq2 fun sl h1 h2=>?_;intro h3;exact ⟨⟨sl,(lne _ (lz _ _ e)).trans h1,h2⟩,h3⟩
   · refine E04 (r'.led p hp) fun hq1=>?_;refine E12 hq1 fun o h1 h2=>?_;intro h3 h4 h5;have ne:p.1 ≠ Γ.env.locals:=fun q=>by rw [q,hLz] at h4;injection h4
     exact ⟨⟨o,(lne _ h5).trans h1,h2.del nsq.del rfl⟩,h3,(J9 ne).trans h4,ne⟩
   · refine E02 (r.fr e he) fun h1 hq0=>?_;refine E12 hq0 fun F' h2 h3=>?_;exact ⟨h1,F',h2,h3.imp id fun hz0=>by refine E12 hz0 fun o h4 h5=>?_;exact ⟨o,z'.1 _ _ h4,h5⟩⟩
noncomputable def Tss (Γ:Cx)(ifs:List Expr)(σ:St)(Q:Bool->St->Prop):Prop:=match ifs with
 | []=>Q true σ
 | [c]=>TS Γ NoE c σ Q
 | _=>False
noncomputable def CompD (Γ:Cx)(keep:List OD->Prop)(Z₀:Zs)(n k:Nat)(target:Expr)(ifs:List Expr)(elt:Expr)(Q:List OD->Prop):LD->List (Option D)->List OD->Prop
 | [],loc,led=>Q led
 | x :: xs,loc,led=>∀ Z,Zle Z₀ Z->Asn Γ NoE target x ⟨loc,led,Z⟩ fun _ σ₁=>Tss Γ ifs σ₁ fun ok σ₂=>Br ok
  (EV Γ NoE elt σ₂ fun d σ₃=>∃ ys,σ₃.led[k]?=some (.list ys) /\ ys.length <= 100000 /\ ∃ led',Tidy n σ₃.loc (σ₃.led.set k (.list (ys++[d]))) led' /\ keep led' /\ CompD Γ keep Z₀ n k target ifs elt Q xs σ₃.loc led')
  (∃ led',Tidy n σ₂.loc σ₂.led led' /\ keep led' /\ CompD Γ keep Z₀ n k target ifs elt Q xs σ₂.loc led')
theorem Zj {ifs:List Expr}{σ:St}{Q:Bool->St->Prop}(h:Tss Γ ifs σ Q) :
 Wp Γ NoE (forIn ifs true fun c r=>if r=true then do let ok <-isTrue c Γ.env (eval c Γ.env);pure (ForInStep.yield ok) else pure (ForInStep.yield r)) EqR σ Q:=by
 intro s r
 match ifs,h with
 | [],h=>exact wpAny_tests_nil ⟨true,σ,Zle.rfl,r,rfl,h⟩
 | [c],h=>exact wpAny_tests_one (h s r)
theorem Ru {target iter elt:Expr}{ifs:List Expr}{scope:Scope}{pos:Pos}{it acc:Addr}{k:Nat}{keep:List OD->Prop}{xs:LD}{J:Nat->List (Addr × Obj)->Prop}{Q:List OD->Prop}{s:Shared}{ps:List (Addr × Obj)}
 (hc:Mw Γ) (I:Itr Γ σ.Z target it keep xs J) (hk:keep σ.led) (ha:σ.Z.ad[k]?=some acc) (h:CompD Γ keep σ.Z σ.Z.ad.length k target ifs elt Q xs σ.loc σ.led) (r:Rel Γ σ s) (hJ:J 0 ps) (H:Lv Γ σ s.heap ps)
 {R:Result->Shared->Prop} (hR:∀ σ' s',Zle σ.Z σ'.Z->Rel Γ σ' s'->Q σ'.led->R (.ok .next) s') :
 codeAny Γ.M Γ.A (.compLoop (.ListComp elt [⟨target,iter,ifs,0⟩] scope pos) 0 (.ref it) (.ref acc) Γ.env) R s:=by
 refine codeAny_loop rfl (YK Γ σ keep xs J fun l σ'=>CompD Γ keep σ.Z σ.Z.ad.length k target ifs elt Q l σ'.loc σ'.led) ?_ (xs.length + 1) ⟨σ,0,ps,rfl,Nat.zero_le _,Zle.rfl,r,hk,hJ,H,h⟩
 rintro n s ⟨σ',i,ps,rfl,hi,z,r,hk,hJ,H,h⟩
 show wpAny _ _ ((compTurn (.ListComp elt [⟨target,iter,ifs,0⟩] scope pos) 0 (.ref it) (.ref acc) Γ.env).onRaise (fun x=>do noteFrame x Γ.env;theTreesLotGoes x)) _ _ s;refine wpAny_noted ?_;rw [compTurn_list];refine wpAny_bind (wpAny_standAt (wpAny_bind ?_));have none_:∀ (σ:St) (v:Value) (s':Shared),JK Γ σ NoE v s'->notedBy Γ.M Γ.A Γ.env (fun e s'=>R (.error e) s') v s':=fun σ v s' ⟨_,_,_,_,_,_,_,q⟩=>q.elim
 cases hx:xs[i]? with
 | none=>
  refine wpAny_mono (I.done hc i σ' s ps (fun _ _=>False) hx z r hk hJ H) (fun o s₁ hq0=>?_) (fun _ _ x=>x.elim);refine E02 hq0 fun ho r₁=>?_;subst ho;rw [List.drop_eq_nil_iff.mpr (List.getElem?_eq_none_iff.mp hx)] at h;exact wpAny_pure (hR _ _ z r₁ h)
 | some d=>
  have hlt:i < xs.length:=(gel hx);rw [List.drop_eq_getElem_cons hlt,(List.getElem?_eq_some_iff.mp hx).2] at h;refine wpAny_mono (I.item i d σ' s ps (fun _ _=>False) hx z r hk hJ H) (fun o s₁ hq1=>?_) (fun _ _ x=>x.elim);refine E12 hq1 fun v ho h₁=>?_;subst ho;refine wpAny_bind (wpAny_mono h₁ (fun _ s₂ hq2=>?_) (fun _ _ x=>x.elim));obtain ⟨Z',ps',z',r',iv,hJ',H'⟩:=hq2;have z₁:=z.trans z';refine E03 (r'.hold H') fun z₂ r₂ hz=>?_;have z₃:=z₁.trans z₂;refine wpAny_bind (wpAny_mono (h _ z₃ v (iv.mono z₂) s₂ r₂) (fun _ s₃ hq3=>?_) (none_ _));obtain ⟨_,σ₃,zz,r₃,_,q⟩:=hq3;have z₄:=z₃.trans zz;have fin:∀ (led₀:List OD) (σ₄:St) (s₄:Shared),Zle σ₃.Z σ₄.Z->Rel Γ { σ₄ with led:=led₀ } s₄->(∃ led',Tidy σ.Z.ad.length σ₄.loc led₀ led' /\ keep led' /\ CompD Γ keep σ.Z σ.Z.ad.length k target ifs elt Q (xs.drop (i + 1)) σ₄.loc led')->∃ m,m < xs.length + 1 - i /\ YK Γ σ keep xs J (fun l σ'=>CompD Γ keep σ.Z σ.Z.ad.length k target ifs elt Q l σ'.loc σ'.led) m s₄:=
   fun led₀ σ₄ s₄ zz' r₄ ⟨led',ht,hk',hf⟩=>O6 hlt z₁ H' z₂ hz (zz.trans zz') r₄ ht hk' hJ' fun _=>hf
  refine wpAny_bind (wpAny_mono (Zj q s₃ r₃) (fun ok s₄ hq4=>?_) (none_ _));obtain ⟨ok',σ₄,z5,r₄,e,q'⟩:=hq4;have e:ok'=ok:=e;subst e
  cases ok' with
  | false=>exact wpAny_pure ⟨rfl,fin _ _ _ z5 r₄ (q'.2 rfl)⟩
  | true=>
   refine wpAny_bind (wpAny_bind (wpAny_mono (q'.1 rfl s₄ r₄) (fun v s₅ hq5=>?_) (none_ _)));obtain ⟨d',σ₅,z6,r₅,iv',ys,hy,hl,hf⟩:=hq5;have ia:Is σ₅.Z (.ref k) (.ref acc):=.ref (z6.ad (z5.ad (z₄.ad ha)));refine E35 (Jj r₅ hy ia) fun a1 i1 n1 e1 ea g1 e2 zz1=>?_;cases e1;refine wpAny_bind (wpAny_call_entry slot_list_append ⟨_,g1,rfl⟩ entry_list_append ?_ (args_list_append _ _));show wpAny _ _ (updateSeq acc (·.push v) >>= fun _=>ret .none) _ _ s₅;refine wpAny_bind (wpAny_updateSeq g1 rfl (wpAny_pure ⟨.none,rfl,?_⟩) (by rw [zz1,sizeLine_eq];lia) ?_)
   · exact wpAny_pure (wpAny_pure ⟨rfl,fin _ σ₅ _ (z5.trans z6) (J4 r₅ ea g1 _ (by simpa using e2.append (.cons iv' .nil)) _) hf⟩)
   · rw [Array.size_push,zz1,sizeLine_eq];lia
theorem OA (g:Str->NameKind->NameKind):∀ (l:List (Str × NameKind)) (x:Str),(l.map fun p=>(p.1,g p.1 p.2)).lookup x=(l.lookup x).map (g x)
 | [],_=>rfl
 | (n,k) :: l,x=>by
  show List.lookup x ((n,g n k) :: _)=_;rw [List.lookup_cons,List.lookup_cons]
  cases h:x == n with
  | true=>rw [eq_of_beq h];rfl
  | false=>exact OA g l x
noncomputable def relK (env:Env)(x:Str)(k:NameKind):NameKind:=if (k == .free && env.scope.kind == .function && env.kindOf x == some .cell) then .cell else k
theorem JR (scope:Scope)(env:Env)(x:Str):(relabel scope env).names.lookup x=(scope.names.lookup x).map (relK env x):=by
 rw [<-OA];unfold relabel relK
 congr 1
 refine List.map_congr_left fun p _=>?_;obtain ⟨n,k⟩:=p;dsimp only
 split <;> rfl
noncomputable def closL (cells:List (Str × Addr)):List (Str × NameKind)->List (Str × Addr)->Option (List (Str × Addr))
 | [],acc=>some acc
 | (x,.free) :: r,acc=>match cells.lookup x with
  | some a=>closL cells r ((x,a) :: acc)
  | none=>none
 | _ :: r,acc=>closL cells r acc
theorem Mu {scope:Scope}{env:Env}{cl:List (Str × Addr)}(h:closL env.cells scope.names []=some cl):closureFor scope env=pure cl:=by
 unfold closureFor;have key:∀ (l:List (Str × NameKind)) (acc cl:List (Str × Addr)),closL env.cells l acc=some cl ->
  (forIn l acc fun x r=>if (x.2 == NameKind.free)=true then do let c <-cellOf env x.1;pure (ForInStep.yield ((x.1,c) :: r)) else pure (ForInStep.yield r):Sem (List (Str × Addr)))=pure cl:=by
  intro l
  induction l with
  | nil=>intro acc cl h;obtain rfl:=Option.some.inj h;rfl
  | cons p l ih=>
   obtain ⟨x,k⟩:=p;intro acc cl h;rw [List.forIn_cons]
   by_cases hk:k=.free
   · subst hk;unfold closL at h
     cases hc:env.cells.lookup x with
     | none=>rw [hc] at h;injection h
     | some a=>
      rw [hc] at h;have e:cellOf env x=pure a:=by unfold cellOf;rw [hc]
      simp only [e,beq_self_eq_true,if_true,pure_bind];exact ih _ _ h
   · have h:closL env.cells l acc=some cl:=by cases k <;> first | exact absurd rfl hk | exact h
     have hk:(k == NameKind.free)=false:=by cases k <;> first | exact absurd rfl hk | rfl
     simp only [hk,Bool.false_eq_true,if_false,pure_bind];exact ih _ _ h
 have:=key scope.names [] cl h;simp only [bind_pure] at this ⊢;exact this
inductive ITo (Γ:Cx)(σ:St)(target:Expr)(Q:(List OD->Prop)->LD->St->Prop)(it:Value)(s₂:Shared):Prop
 | mk (σ₁:St) (a:Addr) (J:Nat->List (Addr × Obj)->Prop) (ps:List (Addr × Obj)) (keep:List OD->Prop) (xs:LD) (e:it=.ref a) (z:Zle σ.Z σ₁.Z) (r:Rel Γ σ₁ s₂) (I:∀ Γ' Z₀,Zle σ₁.Z Z₀->Itr Γ' Z₀ target a keep xs J) (j:J 0 ps) (H:Lv Γ σ₁ s₂.heap ps) (q:Q keep xs σ₁)
noncomputable def IT (Γ:Cx)(E:String->St->Prop)(target iter:Expr)(σ:St)(Q:(List OD->Prop)->LD->St->Prop):Prop:=
 ∀ s,Rel Γ σ s->wpAny Γ.M Γ.A (eval iter Γ.env) (fun v s₁=>wpAny Γ.M Γ.A (pyIter v) (ITo Γ σ target Q) (JK Γ σ E) s₁) (JK Γ σ E) s
theorem Jeh {target iter:Expr}{Q:(List OD->Prop)->LD->St->Prop}(h:EV Γ E iter σ fun a σ₁=>∃ keep xs,Itb Γ E target a σ₁ keep xs /\ Q keep xs σ₁):IT Γ E target iter σ Q:=fun s r=>
 wpAny_mono (h s r) (fun v s₁ hz1=>by obtain ⟨a,σ₁,z,r₁,i,keep,xs,⟨hk,hi⟩,q⟩:=hz1;exact wpAny_mono (hi v s₁ i r₁) (fun it s₂ hz2=>by obtain ⟨ia,J,ps,e,r₂,I,hJ,H⟩:=hz2;exact ⟨σ₁,ia,J,ps,keep,xs,e,z,r₂,I,hJ,H,q⟩) (upE z)) fun _ _ x=>x
structure Zk (Γ Γ':Cx)(scope:Scope)(cl:List (Str × Addr))(names:List Str):Prop where
 K:Γ'.K=Γ.K
 names:Γ'.names=names
 room:Γ'.room=Γ.room
 scope:Γ'.env.scope=relabel scope Γ.env
 cells:Γ'.env.cells=cl
 handled:Γ'.A.handled=Γ.A.handled
theorem Xl (hc:Mw Γ){elt target iter:Expr}{ifs:List Expr}{scope:Scope}{pos:Pos}{names:List Str}{cl:List (Str × Addr)}{Q:D->St->Prop}
 (hclos:closL Γ.env.cells scope.names []=some cl) (hs:∀ x,foldedSetIterable iter Γ.env x=pure x) (hkind:scope.kind=.function) (hnc:∀ x ∈ scope.names,x.2 ≠ .cell)
 (hnames:∀ x ∈ scope.names,x.2=.local->scope.names.lookup x.1=some .local) (nd:names.Nodup) (hloc:∀ x ∈ names,scope.names.lookup x=some .local /\ (x == ("__debug__" : Str))=false)
 (h:IT Γ E target iter σ fun keep xs σ₁=>keep (σ₁.led++[.list []]) /\ ∀ Γ' Z,Zk Γ Γ' scope cl names->Zle σ₁.Z Z ->
  CompD Γ' keep Z (σ₁.led.length + 1) σ₁.led.length target ifs elt (fun led=>∀ Z',Q (.ref σ₁.led.length) ⟨σ₁.loc,led,Z'⟩) xs (names.map fun _=>none) (σ₁.led++[.list []])) :
 EV Γ E (.ListComp elt [⟨target,iter,ifs,0⟩] scope pos) σ Q:=by
 intro s r;rw [eval_ListComp];refine wpAny_comprehension_free (use:=none) rfl hs (Mu hclos) hkind hnames (wpAny_mono (h s r) (fun v s₁ h₁=>wpAny_mono h₁ (fun it s₂ hq6=>?_) fun _ _ x=>x) fun _ _ x=>x);obtain ⟨σ₁,ia,J,ps,keep,xs,e,z,r₂,I,hJ,H,hk2,hf⟩:=hq6;subst e;refine wpAny_newObj_type ?_;refine E03 (r₂.alloc (o:={ cls:=.type "list",data:=.seq ([]:List Value).toArray }) (d:=.list []) rfl ⟨_,_,rfl,.nil⟩ s₂.toks) fun za ra hA=>?_;have H₂:Lv Γ ⟨σ₁.loc,σ₁.led++[.list []],⟨σ₁.Z.m,σ₁.Z.ad++[s₂.heap.objs.size]⟩⟩ (s₂.heap.push { cls:=.type "list",data:=.seq ([]:List Value).toArray }) ps:=by
  refine ⟨H.nd,fun p hp=>?_⟩;refine E03 (H.each p hp) fun x h1 h2=>?_;refine ⟨⟨x.base,x.z,x.loc,fun q=>?_⟩,Heap.get?_push_of_some _ h1,h2⟩;rcases List.mem_append.mp q with q | q
  · exact x.led q
  · rw [List.mem_singleton.mp q] at h1;exact Nat.lt_irrefl _ (Heap.lt_size h1)
 generalize hS:({ s₂ with heap:=s₂.heap.push { cls:=.type "list",data:=.seq ([]:List Value).toArray },toks:=s₂.toks }:Shared)=s₃ at ra
 have hheap:s₂.heap.push { cls:=.type "list",data:=.seq ([]:List Value).toArray }=s₃.heap:=by rw [<-hS]
 rw [hheap] at H₂;refine wpAny_newFunctionEnv hnc (fun y hy=>by cases hy) (fun h₀ hns hsb=>?_) hkind
 have keepH:∀ b o,s₃.heap.get? b=some o->h₀.get? b=some o:=fun b o e=>hsb.extBut b o (Nat.ne_of_lt (Heap.lt_size e)) (Heap.get?_push_of_some _ e);have hlocR:∀ x ∈ names,(relabel scope Γ.env).names.lookup x=some .local:=fun x hx=>by rw [JR,(hloc x hx).1];rfl
 have hheap3:∀ a o,s₃.heap.get? a=some o->h₀.get? a=some o:=keepH;obtain ⟨Zc,zc,hadc,rc,offc,back⟩:=PG (env:=compEnvC scope cl s₃.heap.objs.size Γ.env) (names:=names) (s₁:={ s₃ with heap:=h₀,toks:=s₃.toks + ([]:List (Str × Value)).length }) ra
  ⟨hkind,nd,fun x hx=>hlocR x hx,fun x hx=>(hloc x hx).2,r.ok.glo,r.ok.blt⟩ rfl keepH (Heap.get?_none_of_le (Nat.le_refl _)) hns rfl rfl
 have hlen:σ₁.led.length + 1=Zc.ad.length:=by
  rw [hadc];show _=(σ₁.Z.ad++[_]).length;rw [List.length_append,r₂.adl];rfl
 have Hc:Lv (Γ.comp (compEnvC scope cl s₃.heap.objs.size Γ.env) names) ⟨names.map fun _=>none,σ₁.led++[.list []],Zc⟩ h₀ ps:=
  ⟨H₂.nd,fun p hp=>let ⟨x,h1,h2⟩:=H₂.each p hp;⟨offc _ _ h1 x,keepH _ _ h1,h2⟩⟩
 have hf':=hf (Γ.comp (compEnvC scope cl s₃.heap.objs.size Γ.env) names) Zc ⟨rfl,rfl,rfl,rfl,rfl,rfl⟩ (za.trans zc);rw [hlen] at hf';have loop:=Ru (R:=compPost Γ.M Γ.A (JK Γ σ E) none (J5 Γ Is σ Q) (.ref s₂.heap.objs.size) s₃.heap.objs.size) (Γ:=Γ.comp (compEnvC scope cl s₃.heap.objs.size Γ.env) names) (σ:=⟨names.map fun _=>none,σ₁.led++[.list []],Zc⟩) (iter:=iter) (scope:=scope) (pos:=pos)
  hc (I _ _ (za.trans zc)) hk2 (by rw [hadc];exact hA) hf' rc hJ Hc fun σ' s' z' r' q=>by
   refine E33 (r'.loc) fun o es ep h1 h2 h3=>?_;refine ⟨_,⟨o,es,ep,h1,h2,h3.1,fun _=>rfl⟩,fun h' hs'=>?_⟩;refine E13 (back σ' s' z' r' h' hs') fun Z' zz ha' rr=>?_;refine ⟨_,_,(z.trans za).trans zz,rr,.ref ?_,q Z'⟩;exact zz.ad hA
 exact codeAny_compStart_list loop ((I (Γ.comp (compEnvC scope cl s₃.heap.objs.size Γ.env) names) _ (za.trans zc)).self 0 _ _ _ _ _ hJ Hc loop)
end
section
variable {Γ:Cx}{E:String->St->Prop}{σ:St}
end
section
variable {Γ:Cx}{E:String->St->Prop}{σ:St}
theorem Vp {a b:Int}{Q:D->St->Prop}(hb:b ≠ 0)(h:Q (.int (a.fmod b)) σ):Bin Γ E .Mod (.int a) (.int b) σ Q:=by
 intro va vb ia ib s r;(first | obtain rfl:=ia.inv | refine E11 (ia.inv) fun _ hq9=>?_;obtain rfl:=hq9 | obtain ⟨_,rfl,_⟩:=ia.inv | cases ia);(first | obtain rfl:=ib.inv | refine E11 (ib.inv) fun _ hq8=>?_;obtain rfl:=hq8 | obtain ⟨_,rfl,_⟩:=ib.inv | cases ib);exact mod_int' hb ⟨_,σ,Zle.rfl,r.toks _,.int _ _,h⟩
theorem Nu {a b:Int}{Q:D->St->Prop}(hb:b ≠ 0)(hs:b.natAbs < 1073741824)(h:Q (.int (a.fdiv b)) σ):Bin Γ E .FloorDiv (.int a) (.int b) σ Q:=by
 intro va vb ia ib s r;(first | obtain rfl:=ia.inv | refine E11 (ia.inv) fun _ hq7=>?_;obtain rfl:=hq7 | obtain ⟨_,rfl,_⟩:=ia.inv | cases ia);(first | obtain rfl:=ib.inv | refine E11 (ib.inv) fun _ hq6=>?_;obtain rfl:=hq6 | obtain ⟨_,rfl,_⟩:=ib.inv | cases ib);exact floordiv_int hb ⟨_,σ,Zle.rfl,r.toks _,.int _ _,h⟩ (.inl (PyProof.noPylong_small hs))
theorem Wi {a n:Int}{Q:D->St->Prop}(hn:0 <= n)(hn2:n <= 1000000)(ha:a.natAbs < 2 ^ 64)(h:Q (.int (a ^ n.toNat)) σ):Bin Γ E .Pow (.int a) (.int n) σ Q:=by
 intro va vb ia ib s r;(first | obtain rfl:=ia.inv | refine E11 (ia.inv) fun _ hq5=>?_;obtain rfl:=hq5 | obtain ⟨_,rfl,_⟩:=ia.inv | cases ia);(first | obtain rfl:=ib.inv | refine E11 (ib.inv) fun _ hq4=>?_;obtain rfl:=hq4 | obtain ⟨_,rfl,_⟩:=ib.inv | cases ib);exact pow_int_small hn hn2 ha ⟨_,σ,Zle.rfl,r.toks _,.int _ _,h⟩
theorem Xa {l r₁ r₂:Expr}{op₁ op₂:CmpOp}{pos:Pos}{Q:Bool->St->Prop}(hm:behindInMarks op₂ r₂=false)
 (h:EV Γ E l σ fun a σ₁=>EV Γ E r₁ σ₁ fun b σ₂=>Cmp Γ E op₁ a b σ₂ fun c σ₃=>Tru Γ E c σ₃ fun t σ₄=>Br t (EV Γ E r₂ σ₄ fun d σ₅=>Cmp Γ E op₂ b d σ₅ fun c σ₆=>Tru Γ E c σ₆ Q) (Q false σ₄)) :
 TS Γ E (.Compare l [op₁,op₂] [r₁,r₂] pos) σ Q:=by
 intro s r;refine isTrue_chain (rs:=[]) (wpAny_mono (h s r) (fun va s₁ ⟨_,σ₁,z₁,r₁',ia,q₁⟩=>test_link (wpAny_mono (q₁ s₁ r₁') (fun vb s₂ hq0=>?_) (upE z₁))) fun _ _ x=>x) hm;obtain ⟨b,σ₂,z₂,r₂',ib,q₂⟩:=hq0;have z:=z₁.trans z₂;refine wpAny_mono (q₂ va vb (ia.mono z₂) ib s₂ r₂') (fun vc s₃ hq1=>?_) (upE z);obtain ⟨_,σ₃,z₃,r₃,ic,q₃⟩:=hq1;have z:=z.trans z₃;refine wpAny_mono (q₃ vc ic s₃ r₃) (fun t s₄ hq2=>?_) (upE z);obtain ⟨t',σ₄,z₄,r₄,e,q₄⟩:=hq2;have e:t'=t:=e;subst e;have z:=z.trans z₄
 cases t' with
 | false=>exact ⟨_,σ₄,z,r₄,rfl,q₄.2 rfl⟩
 | true=>
  refine test_last (wpAny_mono (q₄.1 rfl s₄ r₄) (fun vd s₅ hq3=>?_) (upE z));obtain ⟨_,σ₅,z₅,r₅,id,q₅⟩:=hq3;have ib:=ib.mono (z₃.trans (z₄.trans z₅));have z:=z.trans z₅;refine wpAny_mono (q₅ vb vd ib id s₅ r₅) (fun vc s₆ hq4=>?_) (upE z);obtain ⟨_,σ₆,z₆,r₆,ic,q₆⟩:=hq4;have z:=z.trans z₆;exact wpAny_mono (q₆ vc ic s₆ r₆) (fun _ _ p=>p.up z) (upE z)
theorem Tp {op:BoolOp}{x:Expr}{pos:Pos}{Q:D->St->Prop}(h:EV Γ E x σ Q):EV Γ E (.BoolOp op [x] pos) σ Q:=fun s r=>BoolOp_one (h s r)
theorem Zv {x y:Expr}{rest:List Expr}{pos:Pos}{Q:D->St->Prop}(h:EV Γ E x σ fun a σ₁=>Tru Γ E a σ₁ fun b σ₂=>Br b (EV Γ E (.BoolOp .And (y :: rest) pos) σ₂ Q) (Q a σ₂)):EV Γ E (.BoolOp .And (x :: y :: rest) pos) σ Q:=
 fun s r=>BoolOp_and (wpAny_mono (h s r) (fun v s₁ ⟨a,σ₁,z₁,r₁,i,q⟩=>wpAny_mono (q v i s₁ r₁) (fun b s₂ ⟨b',σ₂,z₂,r₂,e,q₂⟩=>by
  have e:b'=b:=e;subst e
  cases b' with
  | true=>exact wpAny_mono (q₂.1 rfl s₂ r₂) (fun _ _ p=>p.up (z₁.trans z₂)) (upE (z₁.trans z₂))
  | false=>exact ⟨_,_,z₁.trans z₂,r₂,i.mono z₂,q₂.2 rfl⟩) (upE z₁)) fun _ _ x=>x)
theorem Jb4 {x y:Expr}{rest:List Expr}{pos:Pos}{Q:D->St->Prop}(h:EV Γ E x σ fun a σ₁=>Tru Γ E a σ₁ fun b σ₂=>Br b (Q a σ₂) (EV Γ E (.BoolOp .Or (y :: rest) pos) σ₂ Q)):EV Γ E (.BoolOp .Or (x :: y :: rest) pos) σ Q:=
 fun s r=>BoolOp_or (wpAny_mono (h s r) (fun v s₁ ⟨a,σ₁,z₁,r₁,i,q⟩=>wpAny_mono (q v i s₁ r₁) (fun b s₂ ⟨b',σ₂,z₂,r₂,e,q₂⟩=>by
  have e:b'=b:=e;subst e
  cases b' with
  | true=>exact ⟨_,_,z₁.trans z₂,r₂,i.mono z₂,q₂.1 rfl⟩
  | false=>exact wpAny_mono (q₂.2 rfl s₂ r₂) (fun _ _ p=>p.up (z₁.trans z₂)) (upE (z₁.trans z₂))) (upE z₁)) fun _ _ x=>x)
theorem NX {k n:Nat}(h:k < n):seqIndex? (k:Int) n=some k:=by
 unfold seqIndex?;simp only [show ¬ ((k:Int) < 0) by lia,if_false]
 first
  | (rw [if_neg (by lia)];rfl)
  | simp [h]
theorem Xp {l:LN}{k c:Nat}{Q:D->St->Prop}(hc:l[k]?=some c)(h:Q (.str [c]) σ):Itm Γ E (.str l) (.int (k:Int)) σ Q:=by
 refine ⟨ON,fun va vb ha hb s r=>?_⟩;have hk:=(gel hc)
 (first | obtain rfl:=hb.inv | refine E11 (hb.inv) fun _ hq3=>?_;obtain rfl:=hq3 | obtain ⟨_,rfl,_⟩:=hb.inv | cases hb)
 refine E12 (ha.inv) fun t hq2=>?_;obtain rfl:=hq2;intro hl
 ·
  refine P.getItem_str (c:=c) ?_ ?_ ⟨_,σ,Zle.rfl,r.toks _,.str _ _ (by simp),h⟩
  · rw [decide_eq_false (by lia),decide_eq_false (by lia)];rfl
  · rw [Jw,NX hk];simpa using hc
theorem LG (lo hi:Option Int)(n:Nat):sliceRange (sliceBounds lo hi none n).1 (sliceBounds lo hi none n).2.1 (sliceBounds lo hi none n).2.2=Builtin.Str.strSliceIndices lo hi 1 n:=by
 unfold sliceBounds Builtin.Str.strSliceIndices;cases lo <;> cases hi <;> rfl
theorem IsL.cut' {Z:Zs}{ds:LD}{vs:List Value}(h:IsL Z ds vs)(i j:Nat):IsL Z (Mine.cut ds i j) (Mine.cut vs i j):=(h.take j).drop i
theorem R6 {l:Nat}{xs:LD}{lo hi:D}{a b:Option Int}{Q:D->St->Prop}(hp:σ.led[l]?=some (.list xs))(h1:ends lo=some a)(h2:ends hi=some b)(p1:∀ i,a=some i->0 <= i)(p2:∀ i,b=some i->0 <= i)(hl:xs.length <= 100000)
 (h:∀ Z,Q (.ref σ.led.length) ⟨σ.loc,σ.led++[.list (cut xs ((a.getD 0).toNat) ((b.getD xs.length).toNat))],Z⟩):Slc Γ E (.ref l) lo hi σ Q:=by
 refine ⟨LY hp,fun va vl vh s ha hlo hhi r=>?_⟩;have part:∀ {d:D} {v:Value} {o:Option Int},ends d=some o->Is σ.Z d v->IsPart v o:=by
  intro d v o e i;cases i <;> cases e
  · exact .none
  · exact .int _ _
 refine E35 (Jj r hp ha) fun a1 i1 n1 hq0=>?_;obtain rfl:=hq0;intro hq1;obtain -:=hq1;intro g1 e1 z1;have r':=r.push { cls:=.type "slice",data:=.fields #[vl,vh,.none] } s.toks;have hcut:slicePick i1 a b none=(cut i1.toList ((a.getD 0).toNat) ((b.getD xs.length).toNat)).toArray:=by
  unfold slicePick;rw [LG,<-z1,<-Array.length_toList,<-(MY i1.toList a b p1 p2).1]
  congr 2
  funext x
  simp
 refine wpAny_getItem_list_slice ⟨_,Heap.get?_push_of_some _ g1,rfl,_,rfl⟩ (Heap.IsSliceOf.new ..) (part h1 hlo) (part h2 hhi) .none (by simp) ?_ (by rw [z1,sizeLine_eq];lia)
 rw [hcut];exact J5.new (d:=.list (cut xs ((a.getD 0).toNat) ((b.getD xs.length).toNat))) r' rfl (J2 (by simpa using e1.cut' _ _)) h _
end
end Mine
end
noncomputable section
open PySem PySem.W PyProof.Rows PySem.Calls
namespace Mine
noncomputable def Same (led:Led):Nat->D->D->Prop
 | 0,_,_=>False
 | n + 1,.none,.none=>True
 | n + 1,.bool a,.bool b=>a=b
 | n + 1,.int a,.int b=>a=b
 | n + 1,.str a,.str b=>a=b
 | n + 1,.ref i,.ref j=>∃ xs ys,led[i]?=some (.list xs) /\ led[j]?=some (.list ys) /\ xs.length=ys.length /\ ∀ (k:Nat) a b,xs[k]?=some a->ys[k]?=some b->Same led n a b
 | n + 1,.tup xs,.tup ys=>xs.length=ys.length /\ ∀ (k:Nat) a b,xs[k]?=some a->ys[k]?=some b->Same led n a b
 | _ + 1,_,_=>False
noncomputable def SameV (led:Led)(n:Nat)(a b:D):Prop:=match a with
 | .none=>b=.none
 | .bool x=>b=.bool x
 | .int x=>b=.int x
 | .str x=>b=.str x
 | .ref i=>∃ j,b=.ref j /\ ∃ xs ys,led[i]?=some (.list xs) /\ led[j]?=some (.list ys) /\ xs.length=ys.length /\ ∀ (k:Nat) a b,xs[k]?=some a->ys[k]?=some b->Same led n a b
 | .tup xs=>∃ ys,b=.tup ys /\ xs.length=ys.length /\ ∀ (k:Nat) a b,xs[k]?=some a->ys[k]?=some b->Same led n a b
 | _=>False
theorem Same.inv {led:Led}{n:Nat}{a b:D}(h:Same led (n + 1) a b):SameV led n a b:=by
 cases a with
 | none=>cases b with | none=>rfl | _=>exact False.elim h
 | bool x=>cases b with | bool y=>exact congrArg D.bool (show x=y from h).symm | _=>exact False.elim h
 | int x=>cases b with | int y=>exact congrArg D.int (show x=y from h).symm | _=>exact False.elim h
 | str x=>cases b with | str y=>exact congrArg D.str (show x=y from h).symm | _=>exact False.elim h
 | ref i=>cases b with | ref j=>exact ⟨j,rfl,h⟩ | _=>exact False.elim h
 | tup xs=>cases b with | tup ys=>exact ⟨ys,rfl,h⟩ | _=>exact False.elim h
 | val=>exact False.elim h
 | bi=>exact False.elim h
 | any=>exact False.elim h
section
open PySem.SeqAt
variable {Γ:Cx}{E:String->St->Prop}{σ:St}
theorem Kp {Z:Zs}{xs ys:LD}{i1 i2:Array Value}{A:Around}{s:Shared}(h1:IsL Z xs i1.toList)(h2:IsL Z ys i2.toList)(z1:i1.size=xs.length)(z2:i2.size=ys.length)
 (h:∀ (k:Nat) a b va vb,xs[k]?=some a->ys[k]?=some b->Is Z a va->Is Z b vb->EqAt A s va vb true):∀ j (q1:j < i1.size) (q2:j < i2.size),EqAt A s i1[j] i2[j] ((fun _=>true) j):=by
 intro j q1 q2;have l1:j < xs.length:=by lia
 have l2:j < ys.length:=by lia
 refine E12 (h1.getA (List.getElem?_eq_getElem l1)) fun v1 e1 i1'=>?_;refine E12 (h2.getA (List.getElem?_eq_getElem l2)) fun v2 e2 i2'=>?_;rw [Array.getElem?_eq_getElem q1] at e1;rw [Array.getElem?_eq_getElem q2] at e2;rw [Option.some.inj e1,Option.some.inj e2];exact h j _ _ _ _ (List.getElem?_eq_getElem l1) (List.getElem?_eq_getElem l2) i1' i2'
theorem same_eq {s:Shared}(r:Rel Γ σ s):∀ (n:Nat) (a b:D) (va vb:Value) (A:Around),Same σ.led n a b->Is σ.Z a va->Is σ.Z b vb->A.units + n < cLine->EqAt A s va vb true
 | 0,_,_,_,_,_,h,_,_,_=>h.elim
 | n + 1,a,b,va,vb,A,h,ia,ib,hu=>by
  have hv:=h.inv
  clear h
  have hu1:A.units < cLine:=Nat.lt_of_le_of_lt (Nat.le_add_right _ _) hu;have hu2:A.in1.units + n < cLine:=by show A.units + 1 + n < cLine;lia
  cases a with
  | none=>obtain rfl:=hv;obtain rfl:=ia.inv;obtain rfl:=ib.inv;exact EqAt.same _
  | bool x=>obtain rfl:=hv;obtain rfl:=ia.inv;obtain rfl:=ib.inv;exact EqAt.same _
  | int x=>obtain rfl:=hv;refine E11 (ia.inv) fun t hq24=>?_;obtain rfl:=hq24;refine E11 (ib.inv) fun u hq23=>?_;obtain rfl:=hq23;have:=(MeetsSeq.EqGives.int x x t u).at A s;rwa [beq_self_eq_true] at this
  | str x=>obtain rfl:=hv;refine E12 (ia.inv) fun t hq22=>?_;obtain rfl:=hq22;intro _;refine E12 (ib.inv) fun u hq21=>?_;obtain rfl:=hq21;intro _;have:=(SeqRoads2.EqGives.str (⟨x.toArray⟩:Str) ⟨x.toArray⟩ t u).at A s;rwa [beq_self_eq_true] at this
  | ref i=>
   refine E12 hv fun j hq19=>?_;clear hv;obtain rfl:=hq19;intro hq20;refine E24 hq20 fun xs ys h1 h2 hl hs=>?_;refine E35 (Jj r h1 ia) fun l i1 n1 hq17=>?_;obtain rfl:=hq17;intro hq18;obtain -:=hq18;intro g1 il1 z1;refine E35 (Jj r h2 ib) fun l2 i2 n2 hq15=>?_;obtain rfl:=hq15;intro hq16;obtain -:=hq16;intro g2 il2 z2
   by_cases q:l=l2
   · rw [q];exact EqAt.same _
   · have hsz:i1.size=i2.size:=by rw [z1,z2,hl]
     have:=RcAt.lists (A:=A) ⟨_,g1,rfl,_,rfl⟩ ⟨_,g2,rfl,_,rfl⟩ hsz hu1 (Kp il1 il2 z1 z2 fun k a b va vb x1 x2 ia ib=>same_eq r n a b va vb A.in1 (hs k a b x1 x2) ia ib hu2);rw [show ((List.range i1.size).all fun _=>true)=true by simp] at this
     exact EqAt.of_refs q this
  | tup xs=>
   refine E13 hv fun ys hq14=>?_;clear hv;obtain rfl:=hq14;intro hl hs;refine E34 (KM r ia) fun l i1 n1 hq13=>?_;obtain rfl:=hq13;intro g1 il1 z1;refine E34 (KM r ib) fun l2 i2 n2 hq12=>?_;obtain rfl:=hq12;intro g2 il2 z2
   by_cases q:l=l2
   · rw [q];exact EqAt.same _
   · have hsz:i1.size=i2.size:=by rw [z1,z2,hl]
     have:=RcAt.tuples (A:=A) ⟨_,g1,rfl,_,rfl⟩ ⟨_,g2,rfl,_,rfl⟩ hu1 (Kp il1 il2 z1 z2 fun k a b va vb x1 x2 ia ib=>same_eq r n a b va vb A.in1 (hs k a b x1 x2) ia ib hu2);rw [show ((List.range (min i1.size i2.size)).all fun _=>true)=true by simp,hsz,beq_self_eq_true] at this
     exact EqAt.of_refs q this
  | val=>exact hv.elim
  | bi=>exact hv.elim
  | any=>exact hv.elim
theorem Sn {i j:Nat}{Q:D->St->Prop}(h:Same σ.led 20 (.ref i) (.ref j))(q:Q (.bool true) σ):Cmp Γ E .Eq (.ref i) (.ref j) σ Q:=by
 intro va vb ha hb s r;refine E24 h fun xs ys h1 h2 hl hs=>?_;have hu:=r.ok.units;refine E35 (Jj r h1 ha) fun a1 i1 n1 hq10=>?_;obtain rfl:=hq10;intro hq11;obtain -:=hq11;intro g1 il1 z1;refine E35 (Jj r h2 hb) fun a2 i2 n2 hq8=>?_;obtain rfl:=hq8;intro hq9;obtain -:=hq9;intro g2 il2 z2;refine eq_listAt ⟨_,g1,rfl,_,rfl⟩ ⟨_,g2,rfl,_,rfl⟩ (by lia) (by lia) (Kp il1 il2 z1 z2 fun k a b va vb x1 x2 ia ib=>same_eq r 19 a b va vb Γ.A.in1 (hs k a b x1 x2) ia ib (by show Γ.A.units + 1 + 19 < cLine;lia)) ?_
 rw [show ((List.range i1.size).all fun _=>true)=true by simp]
 exact ⟨_,σ,Zle.rfl,r,.bool _,q⟩
theorem Vz {i:Int}{Q:D->St->Prop}(h0:0 <= i)(h1:i <= 1114111)(h:Q (.str [i.toNat]) σ):Cal Γ E (.bi .chr) [.int i] [] σ Q:=by
 intro vf vs ks hf hv hk hn;obtain rfl:=hf.inv;refine JB (P:=fun vs ks=>Wp Γ E (call (.builtin "chr") vs ks) Is σ Q) hv hn fun v iv s r=>?_
 (first | obtain rfl:=iv.inv | refine E11 (iv.inv) fun _ hq7=>?_;obtain rfl:=hq7 | obtain ⟨_,rfl,_⟩:=iv.inv | cases iv)
 exact chr_of_range h0 h1 ⟨_,σ,Zle.rfl,r.toks _,.str _ _ (by simp),h⟩
theorem Wq {c:Nat}{Q:D->St->Prop}(h:Q (.int c) σ):Cal Γ E (.bi .ord) [.str [c]] [] σ Q:=by
 intro vf vs ks hf hv hk hn;obtain rfl:=hf.inv;refine JB (P:=fun vs ks=>Wp Γ E (call (.builtin "ord") vs ks) Is σ Q) hv hn fun v iv s r=>?_
 (first | obtain rfl:=iv.inv | obtain ⟨_,rfl⟩:=iv.inv | refine E12 (iv.inv) fun _ hq6=>?_;obtain rfl:=hq6;intro _ | cases iv)
 exact ord_of_one (by simp [Str.length]) ⟨_,σ,Zle.rfl,r.toks _,.int _ _,h⟩
theorem Nb {k:Nat}{xs:LD}{Q:D->St->Prop}(hp:σ.led[k]?=some (.list xs))(hl:xs.length <= 100000)(h:Q (.int xs.length) σ):Cal Γ E (.bi .len) [.ref k] [] σ Q:=by
 intro vf vs ks hf hv hk hn;obtain rfl:=hf.inv;refine JB (P:=fun vs ks=>Wp Γ E (call (.builtin "len") vs ks) Is σ Q) hv hn fun v iv s r=>?_;refine E35 (Jj r hp iv) fun a1 i1 n1 hq4=>?_;obtain rfl:=hq4;intro hq5;obtain -:=hq5;intro g1 il1 z1;exact call_len_list ⟨_,g1,rfl,_,rfl⟩ (by lia) ⟨_,σ,Zle.rfl,r.toks _,z1 ▸ .int _ _,h⟩
theorem WF {Z:Zs}:∀ {ns:List Int} {vs:List Value},IsL Z (ns.map D.int) vs->IntsAre vs ns:=by
 intro ns
 induction ns with
 | nil=>intro vs h;obtain rfl:vs=[]:=h.inv;exact .nil
 | cons n ns ih=>intro vs h;refine E23 (h.inv) fun v r hq3=>?_;obtain rfl:=hq3;intro k l;refine E11 (k.inv) fun t hq2=>?_;obtain rfl:=hq2;exact .cons _ _ (ih l)
theorem WS (hc:Mw Γ){k:Nat}{ns:List Int}{Q:D->St->Prop}(hp:σ.led[k]?=some (.list (ns.map .int)))(h:Q (.int ns.sum) σ):Cal Γ E (.bi .sum) [.ref k] [] σ Q:=by
 intro vf vs ks hf hv hk hn;obtain rfl:=hf.inv;refine JB (P:=fun vs ks=>Wp Γ E (call (.builtin "sum") vs ks) Is σ Q) hv hn fun v iv s r=>?_;refine E35 (Jj r hp iv) fun a1 i1 n1 hq0=>?_;obtain rfl:=hq0;intro hq1;obtain -:=hq1;intro g1 il1 z1;have hi:=WF il1;refine E11 (hi.allInts.items) fun xs hx=>?_;have hx:i1=intItems xs:=hx;subst hx;refine sum_intListG hc ⟨_,g1,rfl,_,rfl⟩ fun h' tk t' hk=>⟨_,σ,Zle.rfl,r.keeps hk,?_,h⟩;have e:=hi.numsOf;rw [nums_intItems] at e;rw [preSum_eq,List.take_of_length_le (by simp),e]
 exact .int _ _
end
end Mine
end
noncomputable section
open PySem PySem.W PyProof.Rows PySem.Calls
open PySem.Builtin PySem.Builtin.Str
set_option backward.match.sparseCases false
namespace Mine
abbrev st (l:LN):Str:=⟨l.toArray⟩
noncomputable def joinD (x:LN)(ts:List (LN)):LN:=(Txt.join (st x) (ts.map st)).cps.toList
noncomputable def countD (x y:LN):Int:=Txt.count (st x) (st y)
noncomputable def findD (x y:LN)(i:Int):Int:=Txt.find3 (st x) (st y) i
section
variable {Γ:Cx}{E:String->St->Prop}{σ:St}
theorem Sm {Z:Zs}:∀ {ts:List (LN)} {vs:List Value},IsL Z (ts.map D.str) vs->StrsAre vs (ts.map st):=by
 intro ns
 induction ns with
 | nil=>intro vs h;obtain rfl:vs=[]:=h.inv;exact .nil
 | cons n ns ih=>intro vs h;refine E23 (h.inv) fun v r hq9=>?_;obtain rfl:=hq9;intro k l;refine E12 (k.inv) fun t hq8=>?_;obtain rfl:=hq8;intro _;exact .cons _ _ (ih l)
theorem Uo {x:LN}{k:Nat}{ts:List (LN)}{Q:D->St->Prop}(hp:σ.led[k]?=some (.list (ts.map .str)))(hsz:(ts.map (·.length)).sum + ts.length * x.length <= 16777216)(hr:(joinD x ts).length <= 16777216)
 (h:Q (.str (joinD x ts)) σ):Cal Γ E (.any (.builtin "str.join")) [.str x,.ref k] [] σ Q:=by
 intro vf vs ks hf hv hk hn';obtain rfl:=hf.inv;refine JP (P:=fun vs ks=>Wp Γ E (call (.builtin "str.join") vs ks) Is σ Q) hv hn' fun v1 v2 i1 i2 s r=>?_;refine E12 (i1.inv) fun t hq4=>?_;obtain rfl:=hq4;intro hl1
 ·
  refine E35 (Jj r hp i2) fun a1 it n1 hq2=>?_;obtain rfl:=hq2;intro hq3;obtain -:=hq3;intro g1 il1 z1;refine join_list ⟨_,g1,rfl,_,rfl⟩ (Sm il1) ?_ fun t' k=>⟨_,σ,Zle.rfl,r.toks _,.str (joinD x ts) t' hr,h⟩;rw [List.map_map,List.length_map,Jw];rw [show ((fun x=>x.length) ∘ st)=fun l:LN=>l.length from funext fun l=>Jw l]
  exact hsz
theorem QO {x y:LN}{Q:D->St->Prop}(h:Q (.int (countD x y)) σ):Cal Γ E (.any (.builtin "str.count")) [.str x,.str y] [] σ Q:=by
 intro vf vs ks hf hv hk hn';obtain rfl:=hf.inv;refine JP (P:=fun vs ks=>Wp Γ E (call (.builtin "str.count") vs ks) Is σ Q) hv hn' fun v1 v2 i1 i2 s r=>?_;refine E12 (i1.inv) fun t hq1=>?_;obtain rfl:=hq1;intro hl1
 · refine E12 (i2.inv) fun u hq0=>?_;obtain rfl:=hq0;intro hl2
   · exact SC.count ⟨_,σ,Zle.rfl,r.toks _,.int _ _,h⟩
end
section
variable {Γ:Cx}{E:String->St->Prop}{σ:St}
theorem Jaj {body orelse:List Stmt}{h₀:ExceptHandler}{hs:List ExceptHandler}{pos:Pos}{Q:Fl->St->Prop} (h:XS Γ NoE body σ fun fl σ₁=>match fl with
 | .next=>XS Γ E orelse σ₁ Q
 | fl=>Q fl σ₁):EX Γ E (.Try body (h₀ :: hs) orelse [] pos) σ Q:=fun s r=>by
 refine wpAny_Try_except (wpAny_mono (h s r) (fun f s₁ hq3=>?_) fun _ _ hz0=>by obtain ⟨_,_,_,_,_,_,_,q⟩:=hz0;exact q.elim)
 obtain ⟨fl,σ₁,z,r₁,i,q⟩:=hq3
 cases i with
 | next=>exact wpAny_mono (q s₁ r₁) (fun _ _ p=>p.up z) (upE z)
 | brk=>exact ⟨_,σ₁,z,r₁,.brk,q⟩
 | cont=>exact ⟨_,σ₁,z,r₁,.cont,q⟩
 | ret i=>exact ⟨_,σ₁,z,r₁,.ret i,q⟩
end
end Mine
end
noncomputable section
open PySem PySem.W PyProof.Rows PySem.Calls
set_option backward.match.sparseCases false
namespace Mine
structure LI (K:Frag)(C fI fN:Addr):Prop where
 it:findIn K (.ref C) "__iter__" = some (some (.ref fI))
 itf:typeIn K (.ref fI)=some (.type "function")
 nx:findIn K (.ref C) "__next__" = some (some (.ref fN))
 nxf:typeIn K (.ref fN)=some (.type "function")
 len:findIn K (.ref C) "__len__" = some none
 hint:findIn K (.ref C) "__length_hint__" = some none
section
variable {Γ:Cx}{E:String->St->Prop}{σ:St}
noncomputable def LstD (Γ:Cx)(E:String->St->Prop)(fN:Addr)(x l:Nat)(Z₀:Zs)(Q:St->Prop):Nat->List (Option D)->List OD->Prop
 | 0,_,_=>False
 | n + 1,loc,led=>∀ Γ',PB Γ Γ'->∀ Z,Zle Z₀ Z->CalC Γ' (fun cls σ'=>(cls = "StopIteration" /\ Q σ') \/ (cls = "ValueError" /\ E cls σ')) (.val fN) [.ref x] [] ⟨loc,led,Z⟩ fun d σ'=>
  ∃ ys,σ'.led[l]?=some (.list ys) /\ ys.length <= 100000 /\ (∃ k dx vals,(σ'.led.set l (.list (ys++[d])))[x]?=some (.inst k dx) /\ (σ'.led.set l (.list (ys++[d])))[dx]?=some (.ns k vals) /\ findIn Γ.K (.ref k.addr) "__next__" = some (some (.ref fN)) /\ typeIn Γ.K (.ref fN)=some (.type "function")) /\ LstD Γ E fN x l Z₀ Q n σ'.loc (σ'.led.set l (.list (ys++[d])))
theorem CalC.call {A:Around}{f:D}{args:LD}{σ:St}{Q:D->St->Prop}{s:Shared}{vf:Value}{vs:List Value}(h:CalC (Γ.at A) E f args [] σ Q)(ha:MS Γ A)(hf:Is σ.Z f vf)(hv:IsL σ.Z args vs)(r:Rel Γ σ s) :
 wpAny Γ.M A (call vf vs) (J5 Γ Is σ Q) (JK Γ σ E) s:=
 wpAny_mono (Rz h vf vs [] hf hv .nil rfl s (r.into ha)) (fun _ _ hz0=>by obtain ⟨b,σ',z,r',i,q⟩:=hz0;exact ⟨b,σ',z,r'.out r.ok,i,q⟩) fun _ _ x=>x.out r.ok
theorem Ov:isSubtype (.type "ValueError") (.type "StopIteration")=pure false:=by rw [isSubtype_type];kernel_rfl
theorem Uq {fN:Addr}{x l:Nat}{ax S:Addr}{Q:St->Prop}{A:Around}(ha:MS Γ A.in1){R:Result->Shared->Prop}{σ₀:St}(hx:σ₀.Z.ad[x]?=some ax)(hS:σ₀.Z.ad[l]?=some S)
 (hR:∀ σ' s',Zle σ₀.Z σ'.Z->Rel Γ σ' s'->Q σ'->R (.ok (.ret .none)) s') (hE:∀ v s',JK Γ σ₀ E v s'->R (.error v) s') :
 ∀ (n:Nat) (σ:St) (s:Shared),Zle σ₀.Z σ.Z->LstD Γ E fN x l σ₀.Z Q n σ.loc σ.led->Rel Γ σ s->(∃ k dx vals,σ.led[x]?=some (.inst k dx) /\ σ.led[dx]?=some (.ns k vals) /\ findIn Γ.K (.ref k.addr) "__next__" = some (some (.ref fN)) /\ typeIn Γ.K (.ref fN)=some (.type "function")) ->
  codeAny Γ.M A (.builtin "list.extend.loop" ⟨[.ref S,.ref ax,.none],[]⟩) R s:=by
 intro n
 induction n with
 | zero=>intro _ _ _ h;exact h.elim
 | succ n ih=>
  intro σ s z h r q;refine E34 q fun k dx vals q1 q2 q3 q4=>?_;have X:=r.ok.K.keeps r.base;have hx':Is σ.Z (.ref x) (.ref ax):=.ref (z.ad hx);refine E46 (Kx r q1 q2 hx') fun ax' ox ad od e1 _ I _ hg _=>?_;cases e1;refine codeAny_builtin F.entry_extend_loop ?_;rw [Around.under_plainId F.plain_extend_loop _];show wpAny _ A.in1 (pyNext (.ref ax) >>= _) _ _ s;unfold pyNext;refine wpAny_bind (wpAny_bind (wpAny_attempt (special_fn X I q3 q4 (wpAny_mono (CalC.call (h _ ha.inner σ.Z z) ha (.val fN) (.cons hx' .nil) r) (fun v s₁ hq0=>?_) fun v s₁ hq1=>?_))))
  · obtain ⟨d,σ₁,z₁,r₁,iv,ys,p1,p2,p3,p4⟩:=hq0;refine wpAny_pure ?_;refine E35 (Jj r₁ p1 (.ref (z₁.ad (z.ad hS)))) fun a1 i1 n1 e1 ea g1 il z1=>?_;cases e1;show wpAny _ A.in1 (updateSeq S (·.push v) >>= _) _ _ _;refine wpAny_bind (wpAny_updateSeq g1 rfl (wpAny_pure ⟨plainId_quiet F.plain_extend_loop _,?_⟩) (by rw [z1,sizeLine_eq];lia) (by rw [Array.size_push,z1,sizeLine_eq];lia))
    exact ih { σ₁ with led:=σ₁.led.set l (.list (ys++[d])) } _ (z.trans z₁) p4 (J4 r₁ ea g1 _ (by simpa using il.append (.cons iv .nil)) _) p3
  · obtain ⟨a,cls,σ₁,e,z₁,r₁,ex,q⟩:=hq1;subst e;refine E23 (ex.there) fun oe us g hc _=>?_;rcases q with ⟨rfl,q⟩ | ⟨rfl,q⟩
    · refine wpAny_bind (wpAny_isInstance (T := "StopIteration") (b:=true) ⟨oe,g,hc⟩ isSubtype_stop ?_);exact wpAny_pure (wpAny_pure (hR _ _ (z.trans z₁) r₁ q))
    · refine wpAny_bind (wpAny_isInstance (T := "ValueError") (b:=false) ⟨oe,g,hc⟩ Ov ?_);exact wpAny_throw (hE _ _ ⟨a,_,σ₁,rfl,z.trans z₁,r₁,ex,q⟩)
theorem JA {K:Frag}{M:Model}{h:Heap}{x C:Addr}{ox:Obj}{od:Option Obj}{name:Str}{r:Option Value}(X:K.In h)(I:InstAt h x ox C od)(hs:findIn K (.ref C) name=some r):Looks M h (specialOf (.ref x) name) r:=
 I.type.andThen (looks_findIn X hs)
theorem SY {M:Model}{A:Around}{X:Value->Shared->Prop}{s:Shared}{K:Frag}{x C fI fN:Addr}{ox:Obj}{od:Option Obj}{Q:Value->Shared->Prop}(XK:K.In s.heap)(I:InstAt s.heap x ox C od)(io:LI K C fI fN)
 (h:wpAny M A (call (.ref fI) [.ref x]) (fun v s'=>v=.ref x /\ K.In s'.heap /\ (∃ ox od,InstAt s'.heap x ox C od) /\ Q (.ref x) s') X s):wpAny M A (pyIter (.ref x)) Q X s:=by
 unfold pyIter;refine wpAny_bind ((JA XK I io.it).here ?_);dsimp only;refine wpAny_bind ?_;unfold callSpecialIfBoundUnlessNone? bindSpecialIfBound?;refine wpAny_holding (wpAny_bind (wpAny_bind ((JA XK I io.it).here ?_)));dsimp only;have bound:∀ (Q:Option (Value × List Value)->Shared->Prop) (E:Value->Shared->Prop),Q (some (.ref fI,[.ref x])) s->wpAny M A (do return some (<-bindSpecial (.ref fI) (.ref x)):Sem (Option (Value × List Value))) Q E s:=fun Q E q=>
  wpAny_bind ((bind_fn XK _ io.itf).here (wpAny_pure q))
 have rest:wpAny M A (do
  if (.ref fI:Value) == .none then return some (<-(do rule "iter.none";raiseError "TypeError" s!"'{← typeNameOf (.ref x)}' object is not iterable" : Sem Value))
  return some (<-call (.ref fI) [.ref x])) (fun r s'=>wpAny M A (match r with
   | some it=>do
    match <-specialOf it "__next__" with
    | none=>rule "iter.non-iterator";raiseError "TypeError" s!"iter() returned non-iterator of type '{← typeNameOf it}'"
    | some _=>pure it
   | none=>do
    match <-bindSpecialIfBound? (.ref x) "__getitem__" with
    | none=>rule "iter.not-iterable";raiseError "TypeError" s!"'{← typeNameOf (.ref x)}' object is not iterable"
    | some _=>rule "iter.getitem-fallback";newFields "iterator" [(.ref x),<-mkInt 0]) Q X s') X s:=by
  rw [if_neg (show ¬ ((.ref fI:Value) == .none)=true from Bool.false_ne_true)]
  refine wpAny_bind (wpAny_mono h (fun v s' hq2=>wpAny_pure ?_) fun _ _ x=>x);refine E04 hq2 fun e XK' hq4=>?_;clear hq2;refine E21 hq4 fun ox' od' I'=>?_;intro q;subst e;exact wpAny_bind ((JA XK' I' io.nx).here (wpAny_pure q))
 refine wpAny_bind (wpAny_askSetting ?_)
 split
 · exact bound _ _ rest
 · exact wpAny_tryCatch (bound _ _ rest)
theorem Pr {S:Addr}{l:Nat}{A:Around}{Q:Unit->Shared->Prop}{X:Value->Shared->Prop}{s:Shared}(r:Rel Γ σ s)(p:σ.led[l]?=some (.list []))(hS:σ.Z.ad[l]?=some S)(h:∀ s',Rel Γ σ s'->Q () s'):wpAny Γ.M A (Builtin.List.listTouch (.ref S)) Q X s:=by
 refine E35 (Jj r p (.ref hS)) fun a1 i1 n1 e1 ea g1 il z1=>?_;cases e1;obtain rfl:i1=#[]:=Array.eq_empty_of_size_eq_zero z1;refine wpAny_bind (wpAny_updateSeq g1 rfl ?_);have g2:=Heap.get?_update_self (Obj.mapSeq (·.push Value.none)) g1 rfl;refine wpAny_updateSeq (hz:=by seq_fits) g2 rfl ?_
 have r4:=J4 (ys:=[]) (J4 (ys:=[.none]) r ea g1 (·.push Value.none) (.cons .none .nil) s.toks) ea g2 (·.pop) .nil s.toks;have e:(σ.led.set l (.list [.none])).set l (.list [])=σ.led:=by
  rw [List.set_set];exact List.ext_getElem? fun j=>by
   rw [List.getElem?_set]
   split
   · rename_i e;subst e
     rw [p,if_pos (gel p)]
   · rfl
 exact h _ ((show (⟨σ.loc,(σ.led.set l (.list [.none])).set l (.list []),σ.Z⟩:St)=σ by rw [e]) ▸ r4)
theorem Sj {M:Model}{A:Around}{X:Value->Shared->Prop}{s:Shared}{K:Frag}{x C fI fN:Addr}{ox:Obj}{od:Option Obj}{Q:Bool->Shared->Prop}(XK:K.In s.heap)(I:InstAt s.heap x ox C od)(io:LI K C fI fN)(h:Q true s):wpAny M A (Builtin.List.listLengthHint (.ref x)) Q X s:=by
 unfold Builtin.List.listLengthHint;refine wpAny_bind ((JA XK I io.len).here ?_);show wpAny _ _ (specialOf (Value.ref x) (Str.ofString "__length_hint__") >>= _) _ _ _;exact wpAny_bind ((JA XK I io.hint).here (wpAny_pure h))
theorem Rd {x dx:Nat}{k:Kd}{vals:List (Option D)}{ax:Addr}{s:Shared}(r:Rel Γ σ s)(h1:σ.led[x]?=some (.inst k dx))(h2:σ.led[dx]?=some (.ns k vals))(hax:σ.Z.ad[x]?=some ax):∃ ox od,InstAt s.heap ax ox k.addr od:=by
 refine E44 (Kx r h1 h2 (.ref hax)) fun _ ox _ od e _ I _=>?_;cases e;exact ⟨ox,_,I⟩
theorem WB {x dx l:Nat}{k:Kd}{vals:List (Option D)}{fI fN ax S:Addr}{P:Nat->List (Option D)->List OD->Prop}{A:Around}{Q:Fin->Shared->Prop}{X:Value->Shared->Prop}{s:Shared}(ha:MS Γ A)(r:Rel Γ σ s)(h1:σ.led[x]?=some (.inst k dx))(h2:σ.led[dx]?=some (.ns k vals))(hax:σ.Z.ad[x]?=some ax)(hS:σ.Z.ad[l]?=some S)(hne:S ≠ ax)(io:LI Γ.K k.addr fI fN)
 (h:CalC (Γ.at A) NoE (.val fI) [.ref x] [] σ fun d σ'=>d=.ref x /\ σ'.led[l]?=some (.list []) /\ (∃ dx vals,σ'.led[x]?=some (.inst k dx) /\ σ'.led[dx]?=some (.ns k vals)) /\ ∃ n,P n σ'.loc σ'.led)
 (hq:∀ n σ' s' dx vals,Zle σ.Z σ'.Z->P n σ'.loc σ'.led->Rel Γ σ' s'->σ'.led[x]?=some (.inst k dx)->σ'.led[dx]?=some (.ns k vals)->Q (.again (.builtin "list.extend.loop" ⟨[.ref S,.ref ax,.none],[]⟩)) s'):wpAny Γ.M A (Builtin.List.listExtendWith (.ref S) (.ref ax) .none) Q X s:=by
 refine E21 (Rd r h1 h2 hax) fun ox od I=>?_;unfold Builtin.List.listExtendWith;refine wpAny_bind (I.type.here ?_);have t1:Builtin.List.listSameRef (.ref S) (.ref ax)=false:=by simp [Builtin.List.listSameRef,hne]
 refine Jbx (by rw [t1];rfl) ?_
 refine wpAny_bind (SY (r.ok.K.keeps r.base) I io (wpAny_mono (h.call ha (.val fI) (.cons (.ref hax) .nil) r) (fun v s' q=>?_) fun _ _ q=>?_))
 · obtain ⟨d,σ',z',r',iv,rfl,p1,⟨dx',vals',p2,p3⟩,n,p4⟩:=q;have hx:=z'.ad hax;refine E12 (iv.inv) fun a hq3=>?_;obtain rfl:=hq3;intro e;obtain rfl:a=ax:=Option.some.inj (e.symm.trans hx);refine E21 (Rd r' p2 p3 hx) fun ox3 od3 I3=>?_;have X3:=r'.ok.K.keeps r'.base;refine ⟨rfl,X3,⟨ox3,od3,I3⟩,wpAny_bind (wpAny_holding (Sj X3 I3 io ?_))⟩;show wpAny _ _ (rule "list.extend.makes-room" >>= fun _=>Builtin.List.listTouch (.ref S) >>= fun _=>again (.builtin "list.extend.loop" ⟨[.ref S,.ref a,.none],[]⟩)) _ _ _;exact wpAny_bind (wpAny_rule (wpAny_bind (Pr r' p1 (z'.ad hS) fun s'' r''=>wpAny_pure (hq n σ' s'' dx' vals' z' p4 r'' p2 p3))))
 · obtain ⟨_,_,_,_,_,_,_,q⟩:=q;exact q.elim
theorem Nf {x dx:Nat}{k:Kd}{vals:List (Option D)}{fI fN:Addr}{Q:D->St->Prop}(hroom:0 < Γ.room)(h1:σ.led[x]?=some (.inst k dx))(h2:σ.led[dx]?=some (.ns k vals))(io:LI Γ.K k.addr fI fN)
 (h:∀ Γ',PB Γ Γ'->∀ Z,Zle σ.Z Z->CalC Γ' NoE (.val fI) [.ref x] [] ⟨σ.loc,σ.led++[.list []],Z⟩ fun d σ'=>d=.ref x /\ σ'.led[σ.led.length]?=some (.list []) /\ (∃ dx vals,σ'.led[x]?=some (.inst k dx) /\ σ'.led[dx]?=some (.ns k vals)) /\
  ∃ n,LstD Γ E fN x σ.led.length Z (fun σ'=>Q (.ref σ.led.length) σ') n σ'.loc σ'.led):Cal Γ E (.bi .list) [.ref x] [] σ Q:=by
 intro vf vs ks hf hv hk hn;obtain rfl:=hf.inv;refine JB (P:=fun vs ks=>Wp Γ E (call (.type "list") vs ks) Is σ Q) hv hn fun v iv s r=>?_;refine E46 (Kx r h1 h2 iv) fun ax ox ad od hq2=>?_;obtain rfl:=hq2;intro _ I _ hg _;have hax:σ.Z.ad[x]?=some ax:=by cases iv with | ref h=>exact h
 refine callType_codes (Q₁:=fun obj s₁=>obj=.ref s.heap.objs.size /\ s₁={ s with heap:=s.heap.push { cls:=.type "list",data:=.seq #[] } }) F.called_list (F.typeCall_list_1 _) F.entry_list_init (code_list_new _ ⟨rfl,rfl⟩) fun obj s₁ h₁=>?_
 refine E02 h₁ fun hq0=>?_;clear h₁;obtain rfl:=hq0;intro hq1;obtain rfl:=hq1;refine E03 (r.alloc (o:={ cls:=.type "list",data:=.seq #[] }) (d:=.list []) rfl ⟨_,_,rfl,.nil⟩ s.toks) fun za ra hA=>?_;have hS:(s.heap.push { cls:=.type "list",data:=.seq #[] }).get? s.heap.objs.size=some { cls:=.type "list",data:=.seq #[] }:=Heap.get?_push_size _ rfl;generalize hS0:s.heap.objs.size=S at hS hA ra za ⊢;generalize hs1:s.heap.push { cls:=.type "list",data:=.seq #[] }=H at hS ra ⊢;refine ⟨⟨_,hS,rfl⟩,F.args_list_init_2 _ _,?_⟩;show wpAny _ Γ.A.in1.in1 (do let old <-Builtin.List.listItems (.ref S);Builtin.List.listUpdate (.ref S) (fun _=>#[]);letGo old.toList.reverse;Builtin.List.listExtendWith (.ref S) (.ref ax) .none) _ _ _;refine wpAny_bind ?_;unfold Builtin.List.listItems;refine wpAny_bind (wpAny_seqItems hS rfl (wpAny_pure ?_));show wpAny _ Γ.A.in1.in1 (updateSeq S (fun _=>#[]) >>= fun _=>letGo (#[]:Array Value).toList.reverse >>= fun _=>Builtin.List.listExtendWith (.ref S) (.ref ax) .none) _ _ _;refine wpAny_bind (wpAny_updateSeq hS rfl ?_);have r2:=J4 (σ:=⟨σ.loc,σ.led++[.list []],⟨σ.Z.m,σ.Z.ad++[S]⟩⟩) (ys:=[]) ra hA hS (fun _=>#[]) .nil s.toks;have hled:(σ.led++[OD.list []]).set σ.led.length (.list [])=σ.led++[.list []]:=by simp
 rw [hled] at r2;generalize hs2:H.update S (Obj.mapSeq fun _=>#[])=H2 at r2 ⊢;refine wpAny_bind (wpAny_letGo ?_);have hax2:=za.ad hax;have hne:S ≠ ax:=by
  intro e;have e:x=σ.led.length:=Lf r2.nodup hax2 (e ▸ hA);exact Nat.lt_irrefl _ (e ▸ (gel h1))
 have ha:MS Γ Γ.A.in1.in1:=MS.in2 hroom;have ap:∀ {j:Nat} {o:OD},σ.led[j]?=some o->(σ.led++[OD.list []])[j]?=some o:=fun {j o} e=>by rw [List.getElem?_append_left (gel e)];exact e
 exact WB ha r2 (ap h1) (ap h2) hax2 hA hne io (h _ ha.inner _ za) fun n σ' s' dx' vals' z' p4 r' p2 p3=>
  ⟨plainId_quiet F.plain_extend_loop _,Uq (σ₀:=⟨σ.loc,σ.led++[.list []],⟨σ.Z.m,σ.Z.ad++[S]⟩⟩) (A:=Γ.A.in1) ha hax2 hA (fun σ'' s'' z'' r'' q=>⟨rfl,_,σ'',za.trans z'',r'',.ref (z''.ad hA),q⟩) (fun v s'' q=>upE za v s'' q) n σ' _ z' p4 r' ⟨k,dx',vals',p2,p3,io.nx,io.nxf⟩⟩
end
noncomputable def anyS (x:LN):LD->Option Bool
 | []=>some false
 | d :: r=>match d with
  | .str y=>(anyS x r).bind fun b=>some (cond (lEqB x y) true b)
  | _=>none
noncomputable def eqV (x:LN):Value->Bool
 | .str y _=>lEqB x y.cps.toList
 | _=>false
theorem Wf {Z:Zs}(x:LN){xs:LD}{vs:List Value}{b:Bool}(h:IsL Z xs vs):anyS x xs=some b->(∀ v ∈ vs,∃ (y:LN) (t:Tok),v=.str ⟨y.toArray⟩ t) /\ vs.any (eqV x)=b:=
 h.ind (P:=fun xs vs=>∀ b,anyS x xs=some b->(∀ v ∈ vs,∃ (y:LN) (t:Tok),v=.str ⟨y.toArray⟩ t) /\ vs.any (eqV x)=b) (fun b h=>⟨fun v hv=>(List.not_mem_nil hv).elim,Option.some.inj h⟩) (fun {d v ds vs} h _ ih b e=>by
  cases d with
  | str y=>
   refine E12 (h.inv) fun t hq3=>?_;obtain rfl:=hq3;intro hl
   replace e:(anyS x ds).bind (fun b=>some (cond (lEqB x y) true b))=some b:=e
   cases hb:anyS x ds with
   | none=>rw [hb] at e;injection e
   | some b'=>
    rw [hb] at e;refine E02 (ih b' hb) fun h1 h2=>?_;refine ⟨fun v hv=>?_,?_⟩
    · rcases List.mem_cons.mp hv with rfl | hv
      · exact ⟨y,t,rfl⟩
      · exact h1 v hv
    · rw [List.any_cons,h2,<-Option.some.inj e];show (lEqB x y || b')=_;cases lEqB x y <;> rfl
  | _=>injection e) b
section
open PySem.SeqAt
variable {Γ:Cx}{E:String->St->Prop}{σ:St}
theorem RR (x y:LN):(y == x)=lEqB x y:=by
 cases h:lEqB x y with
 | true=>rw [Jn.mp h];exact beq_self_eq_true _
 | false=>exact beq_eq_false_iff_ne.mpr fun e=>by rw [Jn.mpr e.symm] at h;injection h
theorem Pt {x:LN}{xs:LD}{b:Bool}{Q:D->St->Prop}(h0:anyS x xs=some b)(h:Q (.bool b) σ):Cmp Γ E .In (.str x) (.tup xs) σ Q:=by
 intro va vb ha hb s r;refine E34 (KM r hb) fun a items n hq2=>?_;obtain rfl:=hq2;intro g il z;refine E02 (Wf x il h0) fun h1 h2=>?_;refine E12 (ha.inv) fun t hq1=>?_;obtain rfl:=hq1;intro hl
 ·
  refine in_tupleAt (eqV x) ⟨_,g,rfl,_,rfl⟩ (fun v hv=>?_) ?_
  · refine E21 (h1 v (by simpa using hv)) fun y t' hq0=>?_;obtain rfl:=hq0
    have:=(SeqRoads2.EqGives.str (⟨y.toArray⟩:Str) ⟨x.toArray⟩ t' t).at Γ.A.in1 s;rw [show eqV x (Value.str (⟨y.toArray⟩:Str) t')=(y == x) from (RR x y).symm]
    exact this
  · have e:items.any (eqV x)=b:=by rw [<-h2];simp
    rw [e];exact ⟨_,σ,Zle.rfl,r,.bool _,h⟩
end
end Mine
end
noncomputable section
open PySem PySem.W PyProof.Rows PySem.Calls
open PySem.Builtin PySem.Builtin.Str
set_option backward.match.sparseCases false
namespace Mine
namespace MT
theorem XJ:typeLookup (.type "str") "maketrans" = pure (some (.builtin "str.maketrans")):=by rw [typeLookup_type,builtinLookup_eq_fast];kernel_rfl
theorem Jbg:typeOf (.builtin "str.maketrans")=pure (.type "builtin_function_or_method"):=by show builtinType _=_;rw [builtinType_eq_fast];kernel_rfl
theorem ZG:typeLookup (.type "builtin_function_or_method") "__get__" = pure none:=by rw [typeLookup_type,builtinLookup_eq_fast];kernel_rfl
theorem TO:entryFor table "str.maketrans" = some Builtin.«str.maketrans»:=entryFor_of_tree (by kernel_rfl)
theorem Tu:entryFor table "dict.fromkeys" = some Builtin.«dict.fromkeys»:=entryFor_of_tree (by kernel_rfl)
theorem M6:entryFor table "dict.fromkeys.loop" = some Builtin.«dict.fromkeys.loop»:=entryFor_of_tree (by kernel_rfl)
theorem WA:typeOf (.builtin "dict.fromkeys")=pure (.type "classmethod_descriptor"):=by show builtinType _=_;rw [builtinType_eq_fast];kernel_rfl
theorem Uk {as:Args}:(Code.builtin "dict.fromkeys" as).quiet=true:=Code.quiet_builtin _ (by decide +kernel)
theorem NA:isType (.type "dict")=pure true:=rfl
theorem T4 (v:Value):checkBoundCall "dict.fromkeys" ⟨[.type "dict",v],[]⟩=pure ():=by first | kernel_rfl | rfl
theorem OV:isSubtype (.type "dict") (.type "dict")=pure true:=by rw [isSubtype_type];kernel_rfl
theorem Sl:(kfb_private% "ownerAndName") "dict.fromkeys" = ("dict", "fromkeys"):=by first | decide +kernel | kernel_rfl
section
variable {prog:Program}{w:World}{A:Around}{E:Value->Shared->Prop}{s:Shared}
theorem LO {x:Str}{t u:Tok}{P:Fin->Shared->Prop}(h:P (.done (.ret (.builtin "str.maketrans"))) s) :
 wpAny (model prog w) A (Builtin.«object.__getattribute__» ⟨[.str x t,.str (Str.ofString "maketrans") u],[]⟩) P E s:=by
 obtain ⟨hp,g,d,tk,os⟩:=s;have hT:∀ s':Shared,s'.TypeIs (.str x t) "str":=fun _=>rfl;have f1:=XJ;have f2:=Jbg;have f3:=ZG;unfold Builtin.«object.__getattribute__»
 repeat (any_goals (first | assumption | wp_step))
theorem RX:handedOut (.builtin "str.maketrans")=pure (.builtin "str.maketrans"):=handedOut_of (by kernel_rfl)
theorem Py {x:Str}{t:Tok}{Q:Value->Shared->Prop}(h:Q (.builtin "str.maketrans") { s with toks:=s.toks + 1 }):wpAny (model prog w) A (getAttr (.str x t) (Str.ofString "maketrans")) Q E s:=by
 obtain ⟨hp,g,d,tk,os⟩:=s;have hT:∀ s':Shared,s'.TypeIs (.str x t) "str":=fun _=>rfl;have f1:=XJ;have f3:=F.slot_str_getattribute.lookup;have f4:=F.slot_str_getattribute.bind (.str x t);have f5:=am_str_getattr_none;unfold getAttr getAttrBy
 repeat (any_goals (first | assumption | ((with_reducible show wpAny _ _ (call (Value.builtin "object.__getattribute__") _ _) _ _ _);refine wpAny_call_entry F.slot_str_getattribute (hT _) F.entry_object_getattribute ?_ (F.args_object_getattribute_2 _ _);refine LO ?_) | wp_step))
 exact ⟨_,rfl,wpAny_of_eq RX h⟩
theorem WV {x:Str}{t:Tok}{pl:Sem Bool}{Q:Value × List Value->Shared->Prop}(h:Q (.builtin "str.maketrans",[]) { s with toks:=s.toks + 1 }):wpAny (model prog w) A (getMethod (.str x t) (Str.ofString "maketrans") pl) Q E s:=by
 have f3:=F.slot_str_getattribute.lookup;have f5:=am_str_getattr_none;unfold getMethod specialOf;refine wpAny_bind (wpAny_bind (wpAny_of_eq (a:=.type "str") rfl (wpAny_of_eq f3 ?_)));dsimp only;refine wpAny_bind (wpAny_bind (wpAny_of_eq (a:=.type "str") rfl (wpAny_of_eq (a:=none) (by exact f5) ?_)))
 refine wpAny_bind (wpAny_bind (wpAny_of_eq (a:=.type "str") rfl (wpAny_of_eq (a:=some (.builtin "str.maketrans")) (by exact XJ) ?_)))
 refine wpAny_bind (wpAny_of_eq (a:=.type "builtin_function_or_method") Jbg ?_);refine wpAny_bind (Py ?_);exact wpAny_pure h
def bound:Obj:={ cls:=.type "builtin_function_or_method",data:=.fields #[.builtin "dict.fromkeys",.type "dict"] }
theorem W6 {M:Model}{P:Fin->Shared->Prop}(h:P (.done (.ret (.ref s.heap.objs.size))) { s with heap:=s.heap.push bound }) :
 wpAny M A (Builtin.«classmethod_descriptor.__get__» ⟨[.builtin "dict.fromkeys",.none,.type "dict"],[]⟩) P E s:=by
 unfold Builtin.«classmethod_descriptor.__get__»;refine wpAny_bind (wpAny_of_eq (a:=(.builtin "dict.fromkeys",none,some (.type "dict"))) (by first | rfl | kernel_rfl) ?_)
 simp only [Sl];refine wpAny_bind (wpAny_of_eq (a:=.type "dict") rfl ?_);refine wpAny_bind (wpAny_of_eq (a:=true) NA ?_);refine KFB.if_not rfl ?_;refine wpAny_bind (wpAny_of_eq (a:=true) OV ?_);refine KFB.if_not rfl ?_;exact wpAny_bind (wpAny_newObj_type (wpAny_pure h))
theorem KV:plainId "dict.fromkeys.loop" = true:=by decide +kernel
theorem Jfd {Q₁:Value->Shared->Prop}(h:Q₁ (.ref s.heap.objs.size) { s with heap:=s.heap.push { cls:=.type "dict",data:=.dict #[] } }) :
 codeAny (model prog w) A (.call (.builtin "dict.__new__") ⟨[.type "dict"],[]⟩) (wants Q₁ E) s:=by
 refine codeAny_call_builtin F.kt_plain_dict_new F.kt_entry_dict_new (wpAny_of_eq (a:=()) (by kernel_rfl) ?_)
 have hsub:=F.kt_sub_dict;have hmro:=F.kt_mro_dict;obtain ⟨hp,g,d,tk,os⟩:=s;unfold Builtin.«dict.__new__»
 wp_walk
 exact h
theorem Pi {Q:Value->Shared->Prop}(h:Q (.ref s.heap.objs.size) { s with heap:=s.heap.push { cls:=.type "dict",data:=.dict #[] } }):wpAny (model prog w) A (call (.type "dict") []) Q E s:=by
 refine callType_codes (Q₁:=fun obj s₁=>obj=.ref s.heap.objs.size /\ s₁={ s with heap:=s.heap.push { cls:=.type "dict",data:=.dict #[] } }) F.kt_called_dict (by kernel_rfl) F.entry_dict_init (Jfd ⟨rfl,rfl⟩) ?_
 rintro obj s₁ ⟨rfl,rfl⟩
 have hnew:(s.heap.push { cls:=.type "dict",data:=.dict #[] }).DictOf (strKind prog w) s.heap.objs.size []:=Heap.DictOf.new s.heap;refine ⟨hnew.typeIs,by unfold argsOk;kernel_rfl,?_⟩
 unfold Builtin.«dict.__init__»;refine wpAny_bind ?_;unfold Builtin.Dict.selfAndRest;refine wpAny_bind (wpAny_notOrdered_dict hnew.typeIs ?_);show wpAny _ _ (pure (s.heap.objs.size,[])) _ _ _;refine wpAny_pure ?_;show wpAny _ _ (Builtin.Dict.addKeywords s.heap.objs.size [] >>= _) _ _ _;exact wpAny_bind (wpAny_pure (wpAny_pure ⟨rfl,h⟩))
end
section
variable {prog:Program}{w:World}{A:Around}{E:Value->Shared->Prop}
abbrev one (c:Nat):Str:=⟨#[c]⟩
noncomputable def kvS (l:LN):List (Str × Value):=l.map fun c=>(one c,.none)
theorem XF {a b:Nat}(h:one a=one b):a=b:=by injection h with h;simpa using h
theorem Pp {l:LN}{c:Nat}(h:c ∉ l):stored (kvS l) (one c) .none=kvS (l++[c]):=by
 unfold stored;have:¬ ((kvS l).any fun kv=>decide (kv.1=one c))=true:=by
  rw [List.any_eq_true];rintro ⟨kv,hkv,he⟩;refine E12 (List.mem_map.mp hkv) fun a ha hq3=>?_;obtain rfl:=hq3;exact h (XF (of_decide_eq_true he) ▸ ha)
 rw [if_neg this];simp [kvS]
theorem Qz {it d:Addr}{x:Str}{St:Nat->Heap->Prop}(hh:A.in1.handled=none)(W:Walks prog w A.in1 it [it] [it] x.cps.size (SignAt x) St)(hne:d ≠ it){p:LN}(hp:x.cps.toList=p)(hnd:p.Nodup)(hl:p.length <= 1000){R:Result->Shared->Prop}{s₀:Shared}
 (hR:∀ h' k,(∀ b o,b ≠ it->b ≠ d->s₀.heap.get? b=some o->h'.get? b=some o)->h'.DictOf (PySem.strKind prog w) d (kvS p)->R (.ok (.ret (.ref d))) { s₀ with heap:=h',toks:=k }) :
 ∀ (rest done:LN) (h:Heap) (t:Nat),p=done++rest->St done.length h->h.DictOf (PySem.strKind prog w) d (kvS done)->(∀ b o,b ≠ it->b ≠ d->s₀.heap.get? b=some o->h.get? b=some o) ->
  codeAny (model prog w) A (.builtin "dict.fromkeys.loop" ⟨[.ref d,.ref it,.none],[]⟩) R { s₀ with heap:=h,toks:=t }
 | [],done,h,t,e,st,hd,hk=>by
  have hn:x.cps.size=done.length:=by rw [<-Array.length_toList,hp,e,List.append_nil]
  refine codeAny_builtin M6 ?_;rw [Around.under_plainId KV _];show wpAny _ A.in1 (pyNext (.ref it) >>= _) _ _ _;refine wpAny_bind (W.done _ _ _ (hn ▸ st) fun h' tk keep=>?_);refine wpAny_pure (hR h' tk (fun b o b1 b2 g=>keep b o (by simp [b1]) (hk b o b1 b2 g)) ?_)
  rw [e,List.append_nil];exact hd.at fun o g=>keep d o (by simp [hne]) g
 | c :: rest,done,h,t,e,st,hd,hk=>by
  have hn:done.length < x.cps.size:=by rw [<-Array.length_toList,hp,e,List.length_append,List.length_cons];lia
  refine codeAny_builtin M6 ?_;rw [Around.under_plainId KV _];show wpAny _ A.in1 (pyNext (.ref it) >>= _) _ _ _;refine wpAny_bind (W.item _ _ _ _ hn st fun v h' tk hv st' keep=>?_);refine E22 hv fun c' u e1 hq2=>?_;clear hv;obtain rfl:=hq2;have e2:c'=c:=by
   rw [<-Array.getElem?_toList,hp,e,List.getElem?_append_right (Nat.le_refl _),Nat.sub_self] at e1;exact (Option.some.inj e1).symm
  subst e2;have hd':h'.DictOf (PySem.strKind prog w) d (kvS done):=hd.at fun o g=>keep d o (by simp [hne]) g
  have hc:c' ∉ done:=by rw [e] at hnd;have:=(List.nodup_append.mp hnd).2.2;exact fun hm=>this c' hm c' (.head _) rfl
  refine wpAny_bind (wpAny_typeOf (s:={ s₀ with heap:=h',toks:=tk }) hd'.typeIs ?_)
  rw [if_pos (by decide)]
  show wpAny _ A.in1 (holding [.str (one c') u] (dictSet d (.str (one c') u) .none) >>= _) _ _ _;refine wpAny_bind (wpAny_holding (wpAny_dictSet_pairs (knd:=PySem.strKind prog w) (k:=one c') (by simp [PySem.strKind,Value.isStrOf]) (s:={ s₀ with heap:=h',toks:=tk }) hd' (fun h'' hd'' hs=>?_) (by rw [kvS,List.length_map,sizeLine_eq];rw [e,List.length_append] at hl;lia)))
  rw [Pp hc] at hd'';refine wpAny_pure ⟨plainId_quiet KV _,?_⟩;refine Qz hh W hne hp hnd hl hR rest (done++[c']) h'' (tk + 1) (by simp [e]) ?_ hd'' fun b o b1 b2 g=>?_
  · rw [List.length_append,List.length_singleton];exact W.frame _ _ _ st' fun b hb o g=>by
     obtain rfl:b=it:=by simpa using hb
     exact (hs.2 b (Ne.symm hne)).trans g
  · exact (hs.2 b b2).trans (keep b o (by simp [b1]) (hk b o b1 b2 g))
end
section
variable {prog:Program}{w:World}{A:Around}{E:Value->Shared->Prop}{s:Shared}
theorem Ta:plainId "dict.fromkeys" = true:=by decide +kernel
theorem XI {x:Str}{t:Tok}(hh:A.handled=none)(hnd:x.cps.toList.Nodup)(hl:x.cps.toList.length <= 1000){R:Result->Shared->Prop}
 (hR:∀ h' k d,d=s.heap.objs.size->(∀ b o,s.heap.get? b=some o->h'.get? b=some o)->h'.DictOf (PySem.strKind prog w) d (kvS x.cps.toList)->R (.ok (.ret (.ref d))) { s with heap:=h',toks:=k }) :
 codeAny (model prog w) A (.builtin "dict.fromkeys" ⟨[.type "dict",.str x t],[]⟩) R s:=by
 refine codeAny_builtin Tu ?_;rw [Around.under_plainId Ta _];unfold Builtin.«dict.fromkeys»;refine wpAny_bind (wpAny_of_eq (a:=true) NA ?_);refine KFB.if_not rfl ?_;refine wpAny_bind (wpAny_of_eq (a:=true) OV ?_);refine KFB.if_not rfl ?_;refine KFB.if_not rfl ?_;refine wpAny_bind (wpAny_rule (wpAny_bind (wpAny_pure ?_)));refine wpAny_bind (Pi ?_);refine wpAny_holding ?_;have hd:(s.heap.push { cls:=.type "dict",data:=.dict #[] }).DictOf (PySem.strKind prog w) s.heap.objs.size []:=Heap.DictOf.new s.heap;refine wpAny_bind (wpAny_of_eq (a:=.type "str") rfl ?_);refine wpAny_bind (wpAny_typeOf (s:={ s with heap:=s.heap.push { cls:=.type "dict",data:=.dict #[] } }) hd.typeIs ?_)
 refine KFB.if_not (by decide) ?_
 refine wpAny_bind (wpAny_typeOf (s:={ s with heap:=s.heap.push { cls:=.type "dict",data:=.dict #[] } }) hd.typeIs ?_)
 refine KFB.if_not (by decide) ?_
 refine wpAny_bind (wpAny_pyIter_str fun o St hW st=>?_);refine wpAny_pure ⟨plainId_quiet KV _,?_⟩;have hsz:(s.heap.push { cls:=.type "dict",data:=.dict #[] }).objs.size=s.heap.objs.size + 1:=Heap.size_push ..;have fresh:∀ b o,s.heap.get? b=some o->b < s.heap.objs.size:=fun b o g=>Heap.lt_size g;refine Qz (s₀:=s) (it:=(s.heap.push { cls:=.type "dict",data:=.dict #[] }).objs.size) (d:=s.heap.objs.size) (A:=A) (by exact hh) (hW A.in1 hh) (Nat.ne_of_lt (by rw [hsz];exact Nat.lt_succ_self _)) rfl hnd hl (fun h' k keep hd'=>?_) x.cps.toList [] _ _ rfl st (hd.push o) fun b o' b1 b2 g=>?_
 · refine hR h' k _ rfl (fun b o g=>keep b o ?_ ?_ g) hd'
   · rw [hsz];exact Nat.ne_of_lt (Nat.lt_succ_of_lt (fresh b o g))
   · exact Nat.ne_of_lt (fresh b o g)
 · exact Heap.get?_push_of_some _ (Heap.get?_push_of_some _ g)
theorem W5 {x:Str}{t:Tok}{u:Addr}(hh:A.handled=none)(hu:s.heap.get? u=some bound)(hnd:x.cps.toList.Nodup)(hl:x.cps.toList.length <= 1000){Q:Value->Shared->Prop}
 (hR:∀ h' k d,d=s.heap.objs.size->(∀ b o,s.heap.get? b=some o->h'.get? b=some o)->h'.DictOf (PySem.strKind prog w) d (kvS x.cps.toList)->Q (.ref d) { s with heap:=h',toks:=k }):wpAny (model prog w) A (call (.ref u) [.str x t]) Q E s:=by
 refine wpAny_call (codeAny_of_tree ?_);show wpAny _ A.in1 (callAny (.ref u) ⟨[.str x t],[]⟩) _ _ s;simp only [callAny];refine wpAny_bind (wpAny_load hu ?_);simp only [bound,show (Value.type "builtin_function_or_method" == Value.type "method" || Value.type "builtin_function_or_method" == Value.type "builtin_function_or_method" || Value.type "builtin_function_or_method" == Value.type "method-wrapper")=true by decide,if_true]
 refine KFB.if_so (by decide) ?_
 refine wpAny_bind (wpAny_of_eq (a:=()) (T4 _) ?_);refine wpAny_bind (wpAny_pure (wpAny_pure ?_));exact ⟨Uk,XI hh hnd hl fun h' k d f keep hd=>hR h' k d f keep hd⟩
end
section
variable {prog:Program}{w:World}{A:Around}{E:Value->Shared->Prop}{s:Shared}
noncomputable def kvI (l:LN):List (Int × Value):=l.map fun (c:Nat)=>((c:Int),Value.none)
theorem PU {l:LN}{c:Nat}(h:c ∉ l):stored (kvI l) (c:Int) .none=kvI (l++[c]):=by
 unfold stored;have:¬ ((kvI l).any fun kv=>decide (kv.1=(c:Int)))=true:=by
  rw [List.any_eq_true];rintro ⟨kv,hkv,he⟩;refine E12 (List.mem_map.mp hkv) fun a ha hq1=>?_;obtain rfl:=hq1;have this:(a:Int)=(c:Int):=of_decide_eq_true he;exact h (Int.ofNat.inj this ▸ ha)
 rw [if_neg this];simp [kvI]
theorem Ow (l:LN)(c:Nat):valueAt (kvI l) (c:Int)=if c ∈ l then some .none else none:=by
 induction l with
 | nil=>simp [kvI,valueAt]
 | cons a l ih=>
  show ((kvI (a :: l)).find? fun kv=>decide (kv.1=(c:Int))).map (·.2)=_;unfold kvI;rw [List.map_cons,List.find?_cons]
  by_cases e:(a:Int)=(c:Int)
  · have e':a=c:=Int.ofNat.inj e;subst e';rw [decide_eq_true e];simp
  · rw [decide_eq_false e];have ne:c ≠ a:=fun q=>e (by rw [q])
    have:(c ∈ a :: l) ↔ c ∈ l:=by simp [ne]
    simp only [this];exact ih
inductive Ent:List DictEntry->LN->Prop
 | nil:Ent [] []
 | cons {e:DictEntry} {es:List DictEntry} {c:Nat} {l:LN} {u:Tok} (hk:e.key=.str (one c) u) (hv:e.val=.none) (h:Ent es l):Ent (e :: es) (c :: l)
theorem UJ:∀ {l:LN} {es:List DictEntry},Pairs (PySem.strKind prog w) es (kvS l)->Ent es l
 | [],es,h=>by cases h;exact .nil
 | c :: l,es,h=>by
  cases h with
  | cons a b r=>
   refine E11 (Value.isStrOf_shape a) fun u hu=>?_;exact .cons hu b (UJ r)
def FkH (h:Heap)(d:Addr)(p:LN):Prop:=∃ o es ep,h.get? d=some o /\ o.cls=.type "dict" /\ o.data=.dict es ep /\ Ent es.toList p
theorem Z0 {h:Heap}{d:Addr}{p:LN}(hd:h.DictOf (PySem.strKind prog w) d (kvS p)):FkH h d p:=
 let ⟨o,es,ep,g,hc,hda,_,hp,_⟩:=hd;⟨o,es,ep,g,hc.1,hda,UJ hp⟩
theorem Xd {d:Addr}{p:LN}(hd:FkH s.heap d p)(hlo:(d == sysModules)=false)(hnd:p.Nodup)(hl:p.length <= 1000){P:Fin->Shared->Prop}
 (hP:∀ h' k a,a=s.heap.objs.size->(∀ b o,s.heap.get? b=some o->h'.get? b=some o)->h'.DictOf (intKind prog w) a (kvI p)->P (.done (.ret (.ref a))) { s with heap:=h',toks:=k }) :
 wpAny (model prog w) A (Builtin.«str.maketrans» ⟨[.ref d],[]⟩) P E s:=by
 unfold Builtin.«str.maketrans»;refine wpAny_bind (wpAny_of_eq (a:=()) rfl ?_);refine wpAny_bind (wpAny_of_eq (a:=()) (by kernel_rfl) ?_)
 refine wpAny_bind (wpAny_of_eq (a:=none) rfl ?_);refine wpAny_bind (wpAny_of_eq (a:=none) rfl ?_);unfold newDict;refine wpAny_bind (wpAny_newObj_type ?_);refine wpAny_bind (wpAny_holding ?_);have fresh:∀ b o,s.heap.get? b=some o->b < s.heap.objs.size:=fun b o g=>Heap.lt_size g;refine E34 hd fun o es ep ho0 hc hda hpr=>?_;have ho:(s.heap.push { cls:=.type "dict",data:=.dict #[] }).get? d=some o:=Heap.get?_push_of_some _ ho0;have hT:({ s with heap:=s.heap.push { cls:=.type "dict",data:=.dict #[] } }:Shared).TypeIs (.ref d) "dict":=⟨o,ho,hc⟩
 show wpAny _ _ (typeOf (.ref d) >>= _) _ _ _;refine wpAny_bind (wpAny_typeOf hT ?_);refine wpAny_bind (wpAny_of_eq (a:=()) rfl ?_);refine wpAny_bind (wpAny_typeOf hT ?_);refine KFB.if_not (by decide) ?_
 refine wpAny_bind (wpAny_of_eq (a:=()) (by unfold notTheModulesDict;rw [hlo];rfl) ?_)
 refine wpAny_bind (wpAny_dictEntries ho hda ?_);refine wpAny_bind (MeetsSeq2.wpAny_forIn_array _ (fun rest _ s'=>∃ done l,p=done++l /\ Ent rest l /\ (∃ h' k,s'={ s with heap:=h',toks:=k } /\ (∀ b o,s.heap.get? b=some o->h'.get? b=some o) /\ h'.DictOf (intKind prog w) s.heap.objs.size (kvI done))) _ ?_ ?_ es PUnit.unit ?_)
 · rintro e rest b s' ⟨done,l,rfl,he,h',k,rfl,keep,hI⟩
   cases he with
   | @cons _ _ c l u hk hv he=>
    rw [hk,hv];show wpAny _ _ (mkInt (c:Int) >>= _) _ _ _;have hcd:c ∉ done:=fun hm=>(List.nodup_append.mp hnd).2.2 c hm c (.head _) rfl;refine wpAny_bind (wpAny_mkInt ?_);refine wpAny_bind (wpAny_dictSet_pairs (knd:=intKind prog w) (k:=(c:Int)) (by simp [intKind,Value.isInt]) (s:={ s with heap:=h',toks:=k + 1 }) hI (fun h'' hI' hs=>?_) (by rw [kvI,List.length_map,sizeLine_eq];rw [List.length_append] at hl;lia))
    rw [PU hcd] at hI';exact wpAny_pure ⟨done++[c],l,by simp,he,h'',_,rfl,fun b o g=>(hs.2 b (Nat.ne_of_lt (fresh b o g))).trans (keep b o g),hI'⟩
 · rintro b s' ⟨done,l,rfl,he,h',k,rfl,keep,hI⟩
   cases he;rw [List.append_nil] at hP;exact wpAny_pure (wpAny_pure (hP h' k _ rfl keep hI))
 · exact ⟨[],p,rfl,hpr,_,_,rfl,fun b o g=>Heap.get?_push_of_some _ g,Heap.DictOf.new _⟩
end
section
variable {prog:Program}{w:World}{A:Around}{E:Value->Shared->Prop}{s:Shared}
theorem Y2:isSubtype (.type "KeyError") (.type "LookupError")=pure true:=by rw [isSubtype_type];kernel_rfl
noncomputable def mapd (p:LN)(c:Nat):Mapped:=if c ∈ p then .drop else .keep
def WL (prog:Program)(w:World)(h:Heap)(a:Addr)(p:LN):Prop:=∃ o es ep,h.get? a=some o /\ o.cls=.type "dict" /\ o.data=.dict es ep /\ KeysOf (intKind prog w) es /\ ∀ c:Nat,findBy (intKind prog w).is es (c:Int)=if c ∈ p then some .none else none
theorem WL.at {h h':Heap}{a:Addr}{p:LN}(t:WL prog w h a p)(k:∀ o,h.get? a=some o->∃ sl,h'.get? a=some { o with slots:=sl }):WL prog w h' a p:=
 let ⟨o,es,ep,g,hc,hd,r⟩:=t;let ⟨sl,g'⟩:=k o g;⟨_,es,ep,g',hc,hd,r⟩
theorem Yz {h:Heap}{a:Addr}{p:LN}(hd:h.DictOf (intKind prog w) a (kvI p)):WL prog w h a p:=
 let ⟨o,es,ep,g,hc,hda,hk,hf⟩:=hd.mapOf;⟨o,es,ep,g,hc.1,hda,hk,fun c=>(hf c).trans (Ow p c)⟩
theorem Jfe {a:Addr}{p:LN}{c:Nat}{t:Tok}(hh:A.handled=none)(hd:WL prog w s.heap a p)(hlo:(a == sysModules)=false){Q:Value->Shared->Prop}
 (h1:c ∈ p->Q .none { s with toks:=s.toks + 1 }) (h2:c ∉ p->∀ h' e,Heap.NewExc s.heap h' e "KeyError"->E (.ref e) { s with heap:=h',toks:=s.toks + 1 }):wpAny (model prog w) A (getItem (.ref a) (.int c t)) Q E s:=by
 refine E35 hd fun o es ep g hc hda hk hf=>?_;have hT:∀ k,({ s with toks:=k }:Shared).TypeIs (.ref a) "dict":=fun k=>⟨o,g,hc⟩
 have hkey:(intKind prog w).is (c:Int) (.int c t)=true:=by simp [intKind,Value.isInt]
 unfold getItem;refine wpAny_holding (wpAny_bind (wpAny_sequenceKey (hT s.toks) (by decide) ?_))
 refine wpAny_bind (wpAny_callSpecial?_slot (name:=Str.ofString "__getitem__") (hT s.toks) slot_dict_getitem (wpAny_call_entry slot_dict_getitem (hT s.toks) entry_dict_getitem ?_ (args_dict_getitem _ _)));show wpAny _ _ (dictGet a (.int c t) >>= _) _ _ s;unfold dictGet;refine wpAny_bind (wpAny_holding (wpAny_bind ((intKind prog w).pyHash hkey (wpAny_bind (wpAny_dictFind_of (s:={ s with toks:=s.toks + 1 }) hkey g hda hk ?_)))))
 have hfc:=hf c;rw [findBy_of_findIdx?] at hfc
 cases hi:es.findIdx? fun e=>(intKind prog w).is (c:Int) e.key with
 | some i=>
  rw [hi] at hfc;dsimp only at hfc
  by_cases hm:c ∈ p
  · rw [if_pos hm] at hfc;refine wpAny_bind (wpAny_dictEntries (s:={ s with toks:=s.toks + 1 }) g hda (wpAny_pure ?_))
    rw [hfc];exact wpAny_pure ⟨_,rfl,wpAny_pure (h1 hm)⟩
  · rw [if_neg hm] at hfc;have hlt:i < es.size:=(Array.findIdx?_eq_some_iff_findIdx_eq.mp hi).1;rw [Array.getElem?_eq_getElem hlt] at hfc
    injection hfc
 | none=>
  rw [hi] at hfc
  by_cases hm:c ∈ p
  · rw [if_pos hm] at hfc;injection hfc
  · refine wpAny_pure ?_;show wpAny _ _ (Builtin.Dict.missed a (.int c t) >>= _) _ _ _;refine wpAny_bind (wpAny_missed_other hlo ?_);refine wpAny_bind (wpAny_typeOf (hT (s.toks + 1)) ?_);refine KFB.if_not (by decide) ?_
    exact wpAny_bind (wpAny_rule (wpAny_raise_newExc (A:=A.in1) plainExc_KeyError hh fun h' e x=>h2 hm h' e x))
theorem tl {a:Addr}{p:LN}{c:Nat}(hh:A.handled=none)(hd:WL prog w s.heap a p)(hlo:(a == sysModules)=false){Q:Mapped->Shared->Prop}
 (hQ:∀ h' k,(∀ b o,s.heap.get? b=some o->h'.get? b=some o)->Q (mapd p c) { s with heap:=h',toks:=k }):wpAny (model prog w) A (tableLookup (.ref a) c) Q E s:=by
 unfold tableLookup;refine wpAny_bind (wpAny_attempt (wpAny_bind (wpAny_mkInt ?_)));unfold mapd at hQ;refine Jfe (s:={ s with toks:=s.toks + 1 }) hh hd hlo (fun hc=>?_) fun hc h' e x=>?_
 · rw [if_pos hc] at hQ;exact wpAny_pure (hQ _ _ fun _ _ g=>g)
 · rw [if_neg hc] at hQ;refine E23 (x.there) fun oe te he hce hq0=>?_;obtain -:=hq0;refine wpAny_bind (wpAny_isInstance (T := "KeyError") (b:=true) ⟨_,he,hce⟩ Y2 ?_);exact wpAny_bind (wpAny_rule (wpAny_pure (hQ _ _ x.keeps)))
noncomputable def flat (pieces:List Str):LN:=(pieces.reverse.foldl (fun acc p=>acc++p.cps) (#[]:Array Nat)).toList
theorem RM (pieces:List Str)(c:Nat):flat (⟨#[c]⟩ :: pieces)=flat pieces++[c]:=by
 unfold flat;rw [List.reverse_cons,List.foldl_append];simp
abbrev TS:=List Str × Nat × Bool × List (Nat × Option Nat) × Bool
structure TI (p done:LN)(b:TS):Prop where
 pieces:flat b.1=done.filter fun c=>!decide (c ∈ p)
 total:b.2.1 <= done.length
 known:∀ c a,b.2.2.2.1.lookup c=some a->a=if c ∈ p then none else some c
theorem TI.drop {p done:LN}{b:TS}(h:TI p done b){c:Nat}(hc:c ∈ p){f:Bool}{kn:List (Nat × Option Nat)}{ad:Bool}(hk:∀ c a,kn.lookup c=some a->a=if c ∈ p then none else some c):TI p (done++[c]) (b.1,b.2.1,f,kn,ad):=
 ⟨by show flat b.1=_;rw [h.pieces,List.filter_append];simp [hc],by have:=h.total;simp;lia,hk⟩
theorem TI.keep {p done:LN}{b:TS}(h:TI p done b){c:Nat}(hc:c ∉ p){f:Bool}{kn:List (Nat × Option Nat)}{ad:Bool}(hk:∀ c a,kn.lookup c=some a->a=if c ∈ p then none else some c):TI p (done++[c]) (⟨#[c]⟩ :: b.1,b.2.1 + 1,f,kn,ad):=
 ⟨by show flat _=_;rw [RM,h.pieces,List.filter_append];simp [hc],by have:=h.total;simp;lia,hk⟩
theorem L9 {p:LN}{kn:List (Nat × Option Nat)}(hk:∀ c a,kn.lookup c=some a->a=if c ∈ p then none else some c){c:Nat}{v:Option Nat}(hv:v=if c ∈ p then none else some c):∀ c' a,((c,v) :: kn).lookup c'=some a->a=if c' ∈ p then none else some c':=by
 intro c' a h;rw [List.lookup_cons] at h
 cases e:c' == c with
 | true=>rw [e] at h;obtain rfl:=Option.some.inj h;rw [beq_iff_eq.mp e];exact hv
 | false=>rw [e] at h;exact hk _ _ h
theorem Xs {x:Str}{t:Tok}{a:Addr}{p:LN}(hh:A.handled=none)(hx:x.cps.toList ≠ [])(hl:x.cps.toList.length <= 1000)(hd:WL prog w s.heap a p)(hlo:(a == sysModules)=false){P:Fin->Shared->Prop}
 (hP:∀ h' k u,(∀ b o,s.heap.get? b=some o->h'.get? b=some o)->P (.done (.ret (.str ⟨(x.cps.toList.filter fun c=>!decide (c ∈ p)).toArray⟩ u))) { s with heap:=h',toks:=k }) :
 wpAny (model prog w) A (Builtin.«str.translate» ⟨[.str x t,.ref a],[]⟩) P E s:=by
 unfold Builtin.«str.translate»;refine wpAny_bind (wpAny_of_eq (a:=(.str x t,x,.ref a)) rfl ?_);refine KFB.if_not ?_ ?_
 · show (x.cps.size == 0)=false;rw [beq_eq_false_iff_ne];intro e;exact hx (by rw [Array.eq_empty_of_size_eq_zero e])
 have short:∀ n,n <= 1000->tooLong n=false:=fun n hn=>by unfold tooLong;rw [sizeLine_eq];exact decide_eq_false (by lia)
 refine wpAny_bind (MeetsSeq2.wpAny_forIn_array _ (fun rest (b:TS) s'=>∃ done,x.cps.toList=done++rest /\ TI p done b /\ ∃ h' k,s'={ s with heap:=h',toks:=k } /\ (∀ b o,s.heap.get? b=some o->h'.get? b=some o)) _ ?_ ?_ x.cps _ ?_)
 · rintro c rest ⟨pieces,total,fast,known,ad⟩ s' ⟨done,e,hT,h',k,rfl,keep⟩
   have hlen:done.length <= 1000:=by rw [e,List.length_append] at hl;lia
   have e':x.cps.toList=(done++[c])++rest:=by rw [e];simp
   refine KFB.if_not (short _ (Nat.le_trans hT.total hlen)) ?_;have look:∀ (h':Heap) (k:Nat) (_:∀ b o,s.heap.get? b=some o->h'.get? b=some o) {Q:Mapped->Shared->Prop} {E:Value->Shared->Prop},(∀ h'' k',(∀ b o,s.heap.get? b=some o->h''.get? b=some o)->Q (mapd p c) { s with heap:=h'',toks:=k' })->wpAny (model prog w) A (tableLookup (.ref a) c) Q E { s with heap:=h',toks:=k }:=fun h' k keep Q E q=>
    tl (s:={ s with heap:=h',toks:=k }) hh (hd.at fun o g=>⟨o.slots,keep a o g⟩) hlo fun h'' k' keep'=>q h'' k' fun b o g=>keep' b o (keep b o g)
   cases fast with
   | false=>
    refine KFB.if_not rfl ?_
    cases ad with
    | false=>
     refine KFB.if_not rfl ?_;refine wpAny_bind (look h' k keep fun h3 k3 keep3=>?_);unfold mapd
     by_cases hc:c ∈ p
     · rw [if_pos hc];exact wpAny_pure ⟨_,e',hT.drop hc hT.known,h3,k3,rfl,keep3⟩
     · rw [if_neg hc];exact wpAny_pure ⟨_,e',hT.keep hc hT.known,h3,k3,rfl,keep3⟩
    | true=>
     refine KFB.if_so rfl ?_;refine wpAny_bind (look h' k keep fun h'' k' keep'=>?_);unfold mapd
     by_cases hc:c ∈ p
     · rw [if_pos hc];exact wpAny_pure ⟨_,e',hT.drop hc hT.known,h'',k',rfl,keep'⟩
     · rw [if_neg hc];refine wpAny_bind (look h'' k' keep' fun h3 k3 keep3=>?_);unfold mapd
       by_cases hc:c ∈ p
       · rw [if_pos hc];exact wpAny_pure ⟨_,e',hT.drop hc hT.known,h3,k3,rfl,keep3⟩
       · rw [if_neg hc];exact wpAny_pure ⟨_,e',hT.keep hc hT.known,h3,k3,rfl,keep3⟩
   | true=>
    refine KFB.if_so rfl ?_;have hkn:=hT.known;dsimp only at hkn ⊢
    cases hlk:known.lookup c with
    | some a'=>
     have ha:=hkn _ _ hlk;dsimp only;refine wpAny_bind (wpAny_pure ?_)
     by_cases hc:c ∈ p
     · rw [if_pos hc] at ha;subst ha;exact wpAny_pure ⟨_,e',hT.drop hc hkn,h',k,rfl,keep⟩
     · rw [if_neg hc] at ha;subst ha;exact wpAny_pure ⟨_,e',hT.keep hc hkn,h',k,rfl,keep⟩
    | none=>
     dsimp only;refine wpAny_bind (look h' k keep fun h'' k' keep'=>?_);unfold mapd
     by_cases hc:c ∈ p
     · rw [if_pos hc];exact wpAny_bind (wpAny_pure (wpAny_pure ⟨_,e',hT.drop hc (L9 hkn (by rw [if_pos hc])),h'',k',rfl,keep'⟩))
     · rw [if_neg hc];exact wpAny_bind (wpAny_pure (wpAny_pure ⟨_,e',hT.keep hc (L9 hkn (by rw [if_neg hc])),h'',k',rfl,keep'⟩))
 · rintro ⟨pieces,total,fast,known,ad⟩ s' ⟨done,e,hT,h',k,rfl,keep⟩
   rw [List.append_nil] at e;have hlen:done.length <= 1000:=by rw [e] at hl;lia
   refine KFB.if_not (short _ (Nat.le_trans hT.total hlen)) ?_;have e2:(⟨pieces.reverse.foldl (fun acc p=>acc++p.cps) #[]⟩:Str)=⟨(x.cps.toList.filter fun c=>!decide (c ∈ p)).toArray⟩:=by
    have:=hT.pieces;apply Str.ext';apply Array.toList_inj.mp;rw [e];exact this
   show wpAny _ _ (retStr (⟨pieces.reverse.foldl (fun acc p=>acc++p.cps) #[]⟩:Str)) _ _ _;rw [e2];unfold retStr;refine wpAny_bind (wpAny_mkStr (wpAny_pure (hP h' _ _ keep)) ?_);show (x.cps.toList.filter fun c=>!decide (c ∈ p)).toArray.size <= sizeLine;rw [List.size_toArray,sizeLine_eq];have:=List.length_filter_le (fun c=>!decide (c ∈ p)) x.cps.toList
   lia
 · exact ⟨[],rfl,⟨rfl,Nat.le_refl _,fun c a h=>(nomatch h)⟩,s.heap,s.toks,rfl,fun _ _ g=>g⟩
end
end MT
open MT
section
variable {Γ:Cx}{E:String->St->Prop}{σ:St}
theorem Wk (K:Frag):findCls K (.type "dict") (.type "type") (Str.ofString "fromkeys")=some (.get (.builtin "classmethod_descriptor.__get__") (.builtin "dict.fromkeys") .none (.type "dict")):=by kernel_rfl!
theorem Ro (K:Frag):findIn K (.type "type") "__getattribute__" = some (some (.builtin "type.__getattribute__")):=by kernel_rfl!
theorem SM (K:Frag):subIn K (.type "type") (.type "type")=some true:=by kernel_rfl!
theorem Rel.addZ {s:Shared}(r:Rel Γ σ s){a:Addr}{o:Obj}(f:Off Γ σ a)(g:s.heap.get? a=some o):∃ Z',Zle σ.Z Z' /\ Z'.m a=some o /\ Rel Γ { σ with Z:=Z' } s:=by
 let m':Addr->Option Obj:=fun b=>if b=a then some o else σ.Z.m b
 have ne:∀ b,b ≠ a->m' b=σ.Z.m b:=fun b e=>if_neg e;have z:Zle σ.Z ⟨m',σ.Z.ad⟩:=⟨fun b x h=>(ne b fun e=>by rw [e,f.z] at h;injection h).trans h,[],(List.append_nil _).symm⟩
 refine ⟨⟨m',σ.Z.ad⟩,z,if_pos rfl,r.ok,r.base,fun b x h=>?_,?_,⟨r.locNew.1,(ne _ (Ne.symm f.loc)).trans r.locNew.2⟩,fun p hp=>?_,r.adl,r.nodup,fun e he=>?_,r.gens,r.os⟩
 · have h:m' b=some x:=h
   by_cases e:b=a
   · have:some o=some x:=by rw [<-h];show _=(if b=a then some o else σ.Z.m b);rw [if_pos e]
     obtain rfl:=Option.some.inj this;subst e;exact ⟨⟨o.slots,g,fun _=>rfl⟩,f.base⟩
   · exact r.zs b x (by rw [<-h,ne b e])
 · refine E33 (r.loc) fun x es ep h hd hn=>?_;exact ⟨x,es,ep,h,hd,hn.mono z⟩
 · refine E04 (r.led p hp) fun hq10=>?_;refine E12 hq10 fun x h i=>?_;intro b c d;exact ⟨⟨x,h,i.mono z⟩,b,(ne _ fun e=>f.led (e ▸ (List.of_mem_zip hp).1)).trans c,d⟩
 · refine E02 (r.fr e he) fun a' hq9=>?_;refine E12 hq9 fun F b c=>?_;exact ⟨a',F,b,c.imp id fun hz0=>by refine E12 hz0 fun x h hv=>?_;exact ⟨x,z.1 _ _ h,hv⟩⟩
theorem Rel.big {s:Shared}(r:Rel Γ σ s):sysModules < s.heap.objs.size:=by
 refine E32 (r.ok.g) fun o es ep g _=>?_;have:=Heap.lt_size (r.base _ _ g);exact Nat.lt_trans (by decide) this
theorem Pq {pos:Pos}{vf:Value}{vfirst:List Value}{f:D}{first:LD}{args:List Expr}{Q:D->St->Prop}(hf:Is σ.Z f vf)(hfi:IsL σ.Z first vfirst)
 (h:EVs Γ E args σ fun ds σ₁=>(∀ s,Rel Γ σ₁ s->Zle σ.Z σ₁.Z->∃ k,Looks Γ.M s.heap (keeperOf vf) k) /\ Cal Γ E f (first++ds) [] σ₁ Q):Wp Γ E (callWith pos vf vfirst (args.map fun e=>(false,eval e Γ.env)) []) Is σ Q:=by
 intro s r;unfold callWith;refine wpAny_bind (wpAny_holding (Ko rfl (wpAny_mono (JF h s r) (fun vs s₁ hq0=>?_) fun _ _ x=>x)));obtain ⟨ds,σ₁,z,r₁,i,q⟩:=hq0;refine wpAny_evalAll_nil ?_;refine wpAny_bind (wpAny_standAt ?_);have hst:((args.map fun e=>(false,eval e Γ.env)).any (·.1) || ([]:List (Option Str × Sem Value)).any (·.1.isNone))=false:=by simp
 rw [hst];refine E11 (q.1 s₁ r₁ z) fun k lk=>?_;exact Lz lk (wpAny_mono (q.2 vf (vfirst++vs) [] (hf.mono z) ((hfi.mono z).append i) .nil rfl s₁ r₁) (fun _ _ p=>p.up z) (upE z)) _
theorem T3 {o:Expr}{name:Str}{apos pos:Pos}{args:List Expr}{Q:D->St->Prop}(hn:noStar args=true)
 (h:EV Γ E o σ fun a σ₁=>Met Γ E a name σ₁ fun m σ₂=>EVs Γ E args σ₂ fun ds σ₃=>(∀ v s,Is σ₂.Z m.1 v->Rel Γ σ₃ s->Zle σ₂.Z σ₃.Z->∃ k,Looks Γ.M s.heap (keeperOf v) k) /\ Cal Γ E m.1 (m.2++ds) [] σ₃ Q)
 (hline:(apos.endLine == pos.line)=true) (hlen:args.length < 29)
 (hbase:attributeBase o name Γ.env (eval o Γ.env)=eval o Γ.env):EV Γ E (.Call (.Attribute o name apos) args [] pos) σ Q:=by
 refine Wp.eq (arm_eval_Call ..) ?_;rw [hbase];refine Wp.bind (Wp.mono h fun a σ₁ _ q v i=>?_);refine Wp.skip (fun _ _ _ _ _ h=>wpAny_standAt h) ?_;rw [JN hn];have hform:methodCallForm (args.length + ([]:List Keyword).length) (args.map fun e=>(false,eval e Γ.env)) (backToKw pos (keywordEach [] Γ.env))=true:=M4 (by lia)
 have hpos:methodCallPos true o Γ.env apos pos=pure pos:=by unfold methodCallPos;simp [hline]
 unfold methodCall;rw [hform];refine Wp.bind (Wp.holding (Wp.mono (q v _ i) fun m σ₂ z q₂ vm im=>?_));obtain ⟨vf,vfirst⟩:=vm;dsimp only;rw [hpos];exact fun s r=>wpAny_bind (wpAny_pure (Pq im.1 im.2 (q₂.mono fun ds σ' x=>⟨fun s r z=>x.1 vf s im.1 r z,x.2⟩) s r))
theorem YF {Q:D × LD->St->Prop}(h:∀ u Z',Zle σ.Z Z'->Z'.m u=some MT.bound->Q (.any (.ref u),[]) { σ with Z:=Z' }):Met Γ E (.bi .dict) (Str.ofString "fromkeys") σ Q:=by
 intro v pl hv s r;obtain rfl:=hv.inv;have X:=r.ok.K.keeps r.base;show wpAny _ _ (getMethod (.type "dict") _ _) _ _ _;unfold getMethod;refine wpAny_bind ?_;unfold specialOf;refine wpAny_bind (wpAny_of_eq (a:=.type "type") rfl ?_);refine (looks_findIn X (Ro _)).here ?_;dsimp only;rw [if_pos canon_tga];refine wpAny_bind (cls_open X (Looks.of_pure (by unfold opaqueClassAbove;dsimp only;rw [show Manifest.isStub "dict" = false by decide +kernel];rfl)) (Looks.of_pure (r:=.type "type") rfl) (Ro _) (hook:=none) (Looks.of_pure rfl) (SM _) (Wk _) ?_)
 show wpAny _ _ (holding [.builtin "dict.fromkeys"] (call (.builtin "classmethod_descriptor.__get__") [.builtin "dict.fromkeys",.none,.type "dict"]) >>= fun v=>ret v) _ _ _;refine wpAny_bind (wpAny_holding (wpAny_call_entry KFB.slot_get WA KFB.entry_get (W6 ?_) (KFB.args_get _ _ _)));refine E13 (r.allocZ (o:=MT.bound) rfl (s.toks + 1)) fun Z' z hm r'=>?_;exact ⟨_,rfl,wpAny_pure (wpAny_pure (wpAny_pure ⟨(.any (.ref s.heap.objs.size),[]),{ σ with Z:=Z' },z,r',⟨.any _,.nil⟩,h _ Z' z hm⟩))⟩
theorem M5 {s:Shared}{u:Addr}(r:Rel Γ σ s)(h:σ.Z.m u=some MT.bound):∃ k,Looks Γ.M s.heap (keeperOf (.ref u)) k:=by
 refine E02 (r.zs _ _ h) fun hq8=>?_;refine E12 hq8 fun sl g hs=>?_;intro _;refine ⟨.machine,fun A Q E s' k q=>?_⟩;unfold keeperOf;refine wpAny_bind (wpAny_load (k _ _ g) ?_);simp only [MT.bound,show (Value.type "builtin_function_or_method" != Value.type "method")=true by decide,show (Value.type "builtin_function_or_method" == Value.type "builtin_function_or_method" || Value.type "builtin_function_or_method" == Value.type "method-wrapper")=true by decide,if_true]
 exact wpAny_pure q
noncomputable def FkO (p:LN)(o:Obj):Prop:=o.cls=.type "dict" /\ ∃ es ep,o.data=.dict es ep /\ Ent es.toList p
noncomputable def TabO (Γ:Cx)(p:LN)(o:Obj):Prop:=o.cls=.type "dict" /\ ∃ es ep,o.data=.dict es ep /\ PySem.KeysOf (intKind Γ.prog Γ.w) es /\ ∀ c:Nat,findBy (intKind Γ.prog Γ.w).is es (c:Int)=if c ∈ p then some .none else none
theorem Yj (hc:Mw Γ){u:Addr}{p:LN}{Q:D->St->Prop}(hu:σ.Z.m u=some MT.bound)(hnd:p.Nodup)(hl:p.length <= 1000)(h:∀ d o Z',Zle σ.Z Z'->Z'.m d=some o->FkO p o->(d == sysModules)=false->Q (.any (.ref d)) { σ with Z:=Z' }):Cal Γ E (.any (.ref u)) [.str p] [] σ Q:=by
 intro vf vs ks hf hv hk hn;obtain rfl:=hf.inv;refine JB (P:=fun vs ks=>Wp Γ E (call (.ref u) vs ks) Is σ Q) hv hn fun v i s r=>?_;refine E12 (i.inv) fun t hq7=>?_;obtain rfl:=hq7;intro hlt
 ·
  refine E02 (r.zs _ _ hu) fun hq6=>?_;refine E12 hq6 fun sl g hs=>?_;intro _;have hs:=hs (by intro es ep q;injection q)
  subst hs;refine W5 hc g (by simpa using hnd) (by simpa using hl) fun h' k d hd keep hdict=>?_
  have r1:=r.keeps (t:=k) keep;refine E34 (Z0 hdict) fun o es ep g' hc hda hent=>?_;have off:Off Γ σ d:=.of_none r (Heap.get?_none_of_le (by rw [hd];exact Nat.le_refl _))
  refine E13 (r1.addZ off g') fun Z' z hm r2=>?_;refine ⟨.any (.ref d),{ σ with Z:=Z' },z,r2,.any _,h d o Z' z hm ⟨hc,es,ep,hda,by simpa using hent⟩ ?_⟩
  rw [hd];exact beq_eq_false_iff_ne.mpr (Nat.ne_of_gt r.big)
theorem Tr:plainId "str.maketrans" = true:=by decide +kernel
theorem Jbe {d:Addr}{p:LN}{o:Obj}{Q:D->St->Prop}(hu:σ.Z.m d=some o)(ho:FkO p o)(hlo:(d == sysModules)=false)(hnd:p.Nodup)(hl:p.length <= 1000)
 (h:∀ a o' Z',Zle σ.Z Z'->Z'.m a=some o'->TabO Γ p o'->(a == sysModules)=false->Q (.any (.ref a)) { σ with Z:=Z' }):Cal Γ E (.any (.builtin "str.maketrans")) [.any (.ref d)] [] σ Q:=by
 intro vf vs ks hf hv hk hn;obtain rfl:=hf.inv;refine JB (P:=fun vs ks=>Wp Γ E (call (.builtin "str.maketrans") vs ks) Is σ Q) hv hn fun v i s r=>?_;obtain rfl:=i.inv;refine E02 (r.zs _ _ hu) fun hq5=>?_;refine E12 hq5 fun sl g _=>?_;intro _;refine E02 ho fun hc hq4=>?_;refine E22 hq4 fun es ep hda hent=>?_;refine wpAny_call (codeAny_call_builtin Tr TO (wpAny_of_eq (a:=()) (by kernel_rfl) ?_))
 refine Xd (prog:=Γ.prog) (w:=Γ.w) ⟨_,es,ep,g,hc,hda,hent⟩ hlo hnd hl fun h' k a ha keep hdict=>?_;have r1:=r.keeps (t:=k) keep;refine E35 (Yz hdict) fun o' es' ep' g' hc' hda' hk' hf'=>?_;have off:Off Γ σ a:=.of_none r (Heap.get?_none_of_le (by rw [ha];exact Nat.le_refl _))
 refine E13 (r1.addZ off g') fun Z' z hm r2=>?_;refine ⟨.any (.ref a),{ σ with Z:=Z' },z,r2,.any _,h a o' Z' z hm ⟨hc',es',ep',hda',hk',hf'⟩ ?_⟩
 rw [ha];exact beq_eq_false_iff_ne.mpr (Nat.ne_of_gt r.big)
theorem XX {l:LN}{Q:D × LD->St->Prop}(h:Q (.any (.builtin "str.maketrans"),[]) σ):Met Γ E (.str l) (Str.ofString "maketrans") σ Q:=by
 intro v pl hv s r;refine E12 (hv.inv) fun t hq3=>?_;obtain rfl:=hq3;intro hl
 · exact WV ⟨(.any (.builtin "str.maketrans"),[]),σ,Zle.rfl,r.toks _,⟨.any _,.nil⟩,h⟩
noncomputable def outC (p x:LN):LN:=x.filter fun c=>!decide (c ∈ p)
theorem Zd (hcm:Mw Γ){x p:LN}{a:Addr}{o:Obj}{Q:D->St->Prop}(hx:x ≠ [])(hl:x.length <= 1000)(hu:σ.Z.m a=some o)(ho:TabO Γ p o)(hlo:(a == sysModules)=false)(h:Q (.str (outC p x)) σ):Cal Γ E (.any (.builtin "str.translate")) [.str x,.any (.ref a)] [] σ Q:=by
 intro vf vs ks hf hv hk hn;obtain rfl:=hf.inv;refine JP (P:=fun vs ks=>Wp Γ E (call (.builtin "str.translate") vs ks) Is σ Q) hv hn fun v1 v2 i1 i2 s r=>?_;refine E12 (i1.inv) fun t hq2=>?_;obtain rfl:=hq2;intro hlt
 ·
  obtain rfl:=i2.inv;refine E02 (r.zs _ _ hu) fun hq1=>?_;refine E12 hq1 fun sl g _=>?_;intro _;refine E02 ho fun hc hq0=>?_;refine E23 hq0 fun es ep hda hk' hf'=>?_;refine wpAny_call_entry F.slot_str_translate (typeIs_str _ _ _) F.entry_str_translate ?_ (F.args_str_translate_2 _ _);refine Xs (prog:=Γ.prog) (w:=Γ.w) (A:=Γ.A.in1) (x:=⟨x.toArray⟩) (t:=t) (a:=a) (p:=p) (s:=s) hcm (by simpa using hx) (by simpa using hl) ⟨_,es,ep,g,hc,hda,hk',hf'⟩ hlo fun h' k u keep=>⟨_,rfl,?_⟩
  refine ⟨.str (outC p x),σ,Zle.rfl,r.keeps (t:=k) keep,?_,h⟩;exact .str (outC p x) u (by have:=List.length_filter_le (fun c=>!decide (c ∈ p)) x;unfold outC;lia)
end
end Mine
end
noncomputable section
open PySem PySem.W PyProof.Rows PySem.Calls
set_option backward.match.sparseCases false
namespace Mine
noncomputable def FzAt (h:Heap)(a:Addr)(xs:LD):Prop:=∃ items n,h.get? a=some { cls:=.type "list",data:=.seq items n } /\ ∀ Z,IsL Z xs items.toList
section
variable {Γ:Cx}{E:String->St->Prop}{σ:St}
theorem Sw {l:Addr}{xs:LD}{lo hi:D}{a b:Option Int}{Q:D->St->Prop}(hp:FzAt Γ.base l xs)(h1:ends lo=some a)(h2:ends hi=some b)(p1:∀ i,a=some i->0 <= i)(p2:∀ i,b=some i->0 <= i)(hl:xs.length <= 100000)
 (h:∀ Z,Q (.ref σ.led.length) ⟨σ.loc,σ.led++[.list (cut xs ((a.getD 0).toNat) ((b.getD xs.length).toNat))],Z⟩):Slc Γ E (.val l) lo hi σ Q:=by
 refine E22 hp fun i1 n1 g0 e0=>?_;refine ⟨?_,fun va vl vh s ha hlo hhi r=>?_⟩
 · intro v s hv r;obtain rfl:=hv.inv;exact ⟨"list",_,⟨_,r.base _ _ g0,rfl⟩,PySem.F.slot_list_getitem.lookup⟩
 have part:∀ {d:D} {v:Value} {o:Option Int},ends d=some o->Is σ.Z d v->IsPart v o:=by
  intro d v o e i;cases i <;> cases e
  · exact .none
  · exact .int _ _
 obtain rfl:=ha.inv;have g1:=r.base _ _ g0;have e1:=e0 σ.Z;have z1:i1.size=xs.length:=by simpa using e1.length.symm
 have r':=r.push { cls:=.type "slice",data:=.fields #[vl,vh,.none] } s.toks;have hcut:slicePick i1 a b none=(cut i1.toList ((a.getD 0).toNat) ((b.getD xs.length).toNat)).toArray:=by
  unfold slicePick;rw [LG,<-z1,<-Array.length_toList,<-(MY i1.toList a b p1 p2).1]
  congr 2
  funext x
  simp
 refine wpAny_getItem_list_slice ⟨_,Heap.get?_push_of_some _ g1,rfl,_,rfl⟩ (Heap.IsSliceOf.new ..) (part h1 hlo) (part h2 hhi) .none (by simp) ?_ (by rw [z1,sizeLine_eq];lia)
 rw [hcut];exact J5.new (d:=.list (cut xs ((a.getD 0).toNat) ((b.getD xs.length).toNat))) r' rfl (J2 (by simpa using e1.cut' _ _)) h _
end
structure Yv (K:Frag)(s:Shared)(mg mb:Str->Option Value):Prop where
 g:s.heap.Ns mainGlobals mg
 b:s.heap.Ns builtinsNs mb
 nl:s.heap.NoLimit
 bt:∀ x:Str,x ≠ "__name__"->mb x=bootBuiltins x
 K:K.In s.heap
theorem Sb {prog:Program}{w:World}{s:Shared}{mg mb:Str->Option Value}{K:Frag}{f:Addr}{fd:FuncData}{body:List Stmt}{names cells ps rest:List Str}{args:LD}{vs:List Value}{P:Value->Shared->Prop}{E:Value->Shared->Prop}
 (T:Yv K s mg mb) (F:Lj K f fd body names cells) (hvs:∀ Z,IsL Z args vs) (hb:bindArgs fd ⟨vs,[]⟩=pure (ps.zip vs)) (hp:ps.length=args.length) (hn:names=ps++rest)
 (h:∀ (Γ:Cx) (Z:Zs) (cs:List (Str × Addr)),Γ.prog=prog->Γ.w=w->Γ.K=K->Γ.base=s.heap->Γ.gens=s.gens->Γ.os=s.os->Γ.names=names->Γ.room=40->Γ.env.scope=fd.scope->Mw Γ->cs.map (·.1)=cells.reverse->(∀ (i:Nat) (p:Str × Addr),cs[i]?=some p->KP Γ p.1 p.2 /\ Z.ad[i]?=some p.2) ->
  XS Γ (fun _ _=>False) body ⟨args.map some++rest.map (fun _=>none),cs.map (fun _=>.cell none),Z⟩ fun fl σ'=>∀ v s',Is σ'.Z fl.val v->s.heap.StaysIn s'.heap->s'.gens=s.gens->s'.os=s.os->P v s') :
 wpAny (model prog w) callerA (call (.ref f) vs) P E s:=by
 refine E12 (F.look) fun of hl hof=>?_;have X:=T.K;have hlv:=(hvs ⟨fun _=>none,[]⟩).length;have nps:ps.Nodup:=by have:=F.nd;rw [hn] at this;exact (List.nodup_append.mp this).1
 have hloc:∀ x ∈ ps.zip vs,fd.scope.names.lookup x.1=some .local:=fun x hx=>F.loc (by rw [hn];exact List.mem_append_left _ (List.of_mem_zip hx).1)
 refine wpAny_call (codeAny_call_cells (body:=body) (by show 1 + claimMargin < recursionLimit;decide) (X _ _ hl) hof T.nl (codeRec_of X F.code) F.body hb F.clo (fun x hx=>.inl (hloc x hx)) (fun s₁ x=>?_) F.nco F.ngen F.kind)
 have hcs:(cellsFrom (s.heap.objs.size + 1) fd.scope.names []).map (·.1)=cells:=(Jz _ _ _ _ _ rfl).trans F.cell;have hcs':(cellsFrom (s.heap.objs.size + 1) fd.scope.names []).reverse.map (·.1)=cells.reverse:=by rw [List.map_reverse,hcs]
 have hlk:∀ p ∈ cellsFrom (s.heap.objs.size + 1) fd.scope.names [],(cellsFrom (s.heap.objs.size + 1) fd.scope.names []).lookup p.1=some p.2:=by
  have nd:((cellsFrom (s.heap.objs.size + 1) fd.scope.names []).map (·.1)).Nodup:=hcs ▸ F.ndc;generalize cellsFrom (s.heap.objs.size + 1) fd.scope.names []=l at nd;intro p hp
  induction l with
  | nil=>cases hp
  | cons q l ih=>
   have nd':=List.nodup_cons.mp nd;rcases List.mem_cons.mp hp with rfl | hp
   · simp [List.lookup]
   · have:(p.1 == q.1)=false:=by
      have:p.1 ≠ q.1:=fun e=>nd'.1 (List.mem_map.mpr ⟨p,hp,e⟩)
      simpa using this
     simp only [List.lookup,this];exact ih nd'.2 hp
 obtain ⟨⟨hh,tk,hs₁⟩,hns,keep,_⟩:=x.toInCall
 let cs:=(cellsFrom (s.heap.objs.size + 1) fd.scope.names []).reverse
 let Γ:Cx:=⟨prog,w,K,mg,mb,s.heap,s.gens,s.os,callerA.deeper (callEnvC fd s.heap.objs.size f),callEnvC fd s.heap.objs.size f,names,[callEnvC fd s.heap.objs.size f],40⟩
 let Z:Zs:=⟨fun _=>none,cs.map (·.2)⟩
 have hE:Qy (callEnvC fd s.heap.objs.size f) names:=F.env _;have R:Rel Γ ⟨args.map some++rest.map (fun _=>none),cs.map (fun _=>.cell none),Z⟩ s₁:=by
  refine ⟨⟨hE.kind,hE.nd,hE.locs,hE.dbg,hE.glo,hE.blt,rfl,?_,?_,T.g,T.b,T.nl,T.bt,T.K,⟨_,_,_,rfl,rfl,rfl⟩⟩,keep,fun a o e=>(nomatch e),?_,⟨Heap.get?_none_of_le (Nat.le_refl _),rfl⟩,fun p hp=>?_,?_,?_,fun e he=>?_,?_,?_⟩
  · show 1 + claimMargin + 1 + 40 < recursionLimit;decide
  · show 4 + 3 + 40 * 40 + 40 < cLine;decide
  · refine E34 hns fun o es ep h1 h2 h3 h4=>?_;refine ⟨o,es,ep,h1,h2,h3,fun y=>?_⟩;rw [h4 y];show Jy Z (look names _ y) _;rw [Lp _ _ _ (fun y hy=>hloc y hy),K3 nps,hn];have:=MM (rest:=rest) y (hp.trans hlv) (hvs Z)
    cases hq:(ps.zip vs).lookup y with
    | none=>rw [hq] at this;exact this
    | some v=>rw [hq] at this;exact this
  · have hp:p ∈ (cs.map (·.2)).zip (cs.map fun _=>OD.cell none):=hp;refine E11 (List.mem_iff_getElem?.mp hp) fun i hi=>?_;rw [List.getElem?_zip_eq_some,List.getElem?_map,List.getElem?_map] at hi;refine E02 hi fun hi1 hi2=>?_;refine E12 (Option.map_eq_some_iff.mp hi1) fun q hq e1=>?_;refine E12 (Option.map_eq_some_iff.mp hi2) fun q' hq' e2=>?_;rw [hq] at hq';obtain rfl:=Option.some.inj hq';have hmem:=List.mem_reverse.mp (List.mem_of_getElem? hq);have hab:=x.above q.1 q.2 hmem;rw [<-e1,<-e2];refine ⟨?_,Heap.get?_none_of_le (Nat.le_of_lt hab),rfl,Nat.ne_of_gt hab⟩;refine E12 (x.cell q.1 q.2 (hlk q hmem)) fun o g1 g2=>?_;rw [K4 _ _ _ (fun y hy=>hloc y hy)] at g2;exact ⟨o,g1,none,g2,.none⟩
  · show (cs.map (·.2)).length=(cs.map fun _=>OD.cell none).length;rw [List.length_map,List.length_map]
  · have:=x.apart;show ((cellsFrom (s.heap.objs.size + 1) fd.scope.names []).reverse.map (·.2)).Nodup;unfold List.Nodup;rw [List.pairwise_map,List.pairwise_reverse];exact this.imp fun h=>Ne.symm h
  · rw [List.mem_singleton.mp he];exact ⟨by rw [hE.kind];decide,_,rfl,.inl rfl⟩
  · rw [hs₁]
  · rw [hs₁]
 refine wpAny_mono (h Γ Z cs rfl rfl rfl rfl rfl rfl rfl rfl rfl rfl hcs' (fun i p hi=>?_) s₁ R) (fun fl s' hq0=>?_) fun e s' ⟨_,_,_,_,_,_,_,q⟩=>q.elim
 · have hp':=List.mem_reverse.mp (List.mem_of_getElem? hi);have hm:p.1 ∈ cells:=by rw [<-hcs];exact List.mem_map.mpr ⟨p,hp',rfl⟩
   have hk:=Bool.and_eq_true_iff.mp (List.all_eq_true.mp F.ckind _ hm);refine ⟨⟨beq_iff_eq.mp hk.1,hlk p hp',by simpa using hk.2⟩,?_⟩
   show (cs.map (·.2))[i]?=_;rw [List.getElem?_map,hi];rfl
 · obtain ⟨fl',σ',z,r',i,q⟩:=hq0;refine q _ s' ?_ r'.base r'.gens r'.os
   cases i with
   | next=>exact .none
   | brk=>exact .none
   | cont=>exact .none
   | ret i=>exact i
end Mine
end
noncomputable section
open PySem PySem.W PyProof.Rows PySem.Calls
open PySem.Builtin PySem.Builtin.Str
namespace Mine
noncomputable def intT (n:Int):LN:=(Str.ofString (toString n)).cps.toList
section
variable {Γ:Cx}{E:String->St->Prop}{σ:St}
theorem PV {Z:Zs}{d d' d'':D}{vs:List Value}{ks:List (Str × Value)}{P:List Value->List (Str × Value)->Prop}(hv:IsL Z [d,d',d''] vs)(hk:ks.map (·.1)=([]:List (Str × D)).map (·.1))(h:∀ v v' v'',Is Z d v->Is Z d' v'->Is Z d'' v''->P [v,v',v''] []):P vs ks:=by
 have:ks=[]:=by simpa using hk
 subst this
 cases hv with
 | cons h1 h2=>cases h2 with | cons h2 h3=>cases h3 with | cons h3 h4=>cases h4;exact h _ _ _ h1 h2 h3
theorem Qx {Z:Zs}{d d' d'' d3:D}{vs:List Value}{ks:List (Str × Value)}{P:List Value->List (Str × Value)->Prop}(hv:IsL Z [d,d',d'',d3] vs)(hk:ks.map (·.1)=([]:List (Str × D)).map (·.1))(h:∀ v v' v'' v3,Is Z d v->Is Z d' v'->Is Z d'' v''->Is Z d3 v3->P [v,v',v'',v3] []):P vs ks:=by
 have:ks=[]:=by simpa using hk
 subst this
 cases hv with
 | cons h1 h2=>cases h2 with | cons h2 h3=>cases h3 with | cons h3 h4=>cases h4 with | cons h4 h5=>cases h5;exact h _ _ _ _ h1 h2 h3 h4
theorem Q7 {x y:LN}{i:Int}{Q:D->St->Prop}(h:Q (.int (findD x y i)) σ):Cal Γ E (.any (.builtin "str.find")) [.str x,.str y,.int i] [] σ Q:=by
 intro vf vs ks hf hv hk hn';cases hf;refine PV (P:=fun vs ks=>Wp Γ E (call (.builtin "str.find") vs ks) Is σ Q) hv hn' fun v1 v2 v3 i1 i2 i3 s r=>?_
 cases i1 with
 | str _ t hl1=>cases i2 with
  | str _ u hl2=>cases i3;exact SC.find3 ⟨_,σ,Zle.rfl,r.toks _,.int _ _,h⟩
theorem Ou (x y:Str)(i j:Int)(t u v w:Tok)(hj:j=x.length):Gives («str.find» ⟨[.str x t,.str y u,.int i v,.int j w],[]⟩) (.int (Txt.find3 x y i)):=by
 subst hj;have e:min (fromIndex x.length (x.length:Int)) x.length=x.length:=by
  unfold fromIndex
  lia
 show Gives (match occurrences x y (fromIndex x.length i) (min (fromIndex x.length (x.length:Int)) x.length) 1 with | k :: _=>retInt k | []=>(do rule "str.find.not-found";retInt (-1))) _
 rw [e];unfold Txt.find3
 cases occurrences x y (fromIndex x.length i) x.length 1 with
 | nil=>exact .rule (.of_eq rfl)
 | cons k _=>exact .of_eq rfl
theorem QP {x y:LN}{i j:Int}{Q:D->St->Prop}(hj:j=x.length)(h:Q (.int (findD x y i)) σ):Cal Γ E (.any (.builtin "str.find")) [.str x,.str y,.int i,.int j] [] σ Q:=by
 intro vf vs ks hf hv hk hn';cases hf;refine Qx (P:=fun vs ks=>Wp Γ E (call (.builtin "str.find") vs ks) Is σ Q) hv hn' fun v1 v2 v3 v4 i1 i2 i3 i4 s r=>?_
 cases i1 with
 | str _ t hl1=>cases i2 with
  | str _ u hl2=>cases i3;cases i4;exact call_gives F.slot_str_find (typeIs_str _ _ _) F.entry_str_find (F.args_str_find_4 _ _ _ _) (Ou (st x) (st y) i j t u _ _ (by rw [hj,Jw])) ⟨_,σ,Zle.rfl,r.toks _,.int _ _,h⟩
theorem NR {a b:Bool}{Q:D->St->Prop}(h:Q (.bool (a != b)) σ):Cmp Γ E .NotEq (.bool a) (.bool b) σ Q:=by
 intro va vb ha hb s r;obtain rfl:=ha.inv;obtain rfl:=hb.inv;exact PySem.SeqAt.RcNeAt.bool_bool a b _ _ _ _ ⟨_,σ,Zle.rfl,r,.bool _,h⟩
noncomputable def anyI (x:Int):LD->Option Bool
 | []=>some false
 | .int y :: r=>match anyI x r with
  | some b=>some (match decide (y=x) with | true=>true | false=>b)
  | none=>none
 | _=>none
end
noncomputable def eqVI (x:Int)(v:Value):Bool:=match v with
 | .int y _=>y == x
 | _=>false
theorem WD {Z:Zs}(x:Int){xs:LD}:∀ {vs:List Value} {b:Bool},IsL Z xs vs->anyI x xs=some b->(∀ v ∈ vs,∃ (y:Int) (t:Tok),v=.int y t) /\ vs.any (eqVI x)=b:=by
 induction xs with
 | nil=>intro vs b h e;obtain rfl:vs=[]:=h.inv;obtain rfl:=Option.some.inj e;exact ⟨fun _ h=>(nomatch h),rfl⟩
 | cons d ds ih=>
  intro vs b h e;refine E23 (h.inv) fun v r hq13=>?_;obtain rfl:=hq13;intro i hr
  cases d with
  | int y=>
   refine E11 (i.inv) fun t hq12=>?_;obtain rfl:=hq12;have e:(match anyI x ds with | some b=>some (match decide (y=x) with | true=>true | false=>b) | none=>none)=some b:=e
   cases eb:anyI x ds with
   | none=>rw [eb] at e;injection e
   | some b'=>
    have h1:=ih hr eb;rw [eb] at e;have e:=Option.some.inj e;refine ⟨fun w hw=>(List.mem_cons.mp hw).elim (fun q=>⟨y,t,q⟩) (h1.1 w),?_⟩;rw [List.any_cons,h1.2,<-e];show ((y == x) || b')=_
    by_cases q:y=x
    · subst q;simp
    · rw [beq_eq_false_iff_ne.mpr q,decide_eq_false q];rfl
  | _=>injection e
section
open PySem.SeqAt
variable {Γ:Cx}{E:String->St->Prop}{σ:St}
theorem L1 {x:Int}{xs:LD}{b:Bool}{Q:D->St->Prop}(h0:anyI x xs=some b)(h:Q (.bool (!b)) σ):Cmp Γ E .NotIn (.int x) (.tup xs) σ Q:=by
 intro va vb ha hb s r;refine E34 (KM r hb) fun a items n hq11=>?_;obtain rfl:=hq11;intro g il z;refine E02 (WD x il h0) fun h1 h2=>?_
 cases ha with
 | int _ t=>
  refine notIn_tupleAt (eqVI x) ⟨_,g,rfl,_,rfl⟩ (fun v hv=>?_) ?_
  · refine E21 (h1 v (by simpa using hv)) fun y t' hq10=>?_;obtain rfl:=hq10
    exact (MeetsSeq.EqGives.int y x t' t).at Γ.A.in1 s
  · have e:items.any (eqVI x)=b:=by rw [<-h2];simp
    rw [e];exact ⟨_,σ,Zle.rfl,r,.bool _,h⟩
theorem Q8 {xs ys:LD}{Q:D->St->Prop}(h:Same σ.led 20 (.tup xs) (.tup ys))(q:Q (.bool true) σ):Cmp Γ E .Eq (.tup xs) (.tup ys) σ Q:=by
 intro va vb ha hb s r;refine E02 h fun hl hs=>?_;have hu:=r.ok.units;refine E34 (KM r ha) fun a1 i1 n1 hq9=>?_;obtain rfl:=hq9;intro g1 il1 z1;refine E34 (KM r hb) fun a2 i2 n2 hq8=>?_;obtain rfl:=hq8;intro g2 il2 z2;have hsz:i1.size=i2.size:=by lia
 refine eq_tupleAt ⟨_,g1,rfl,_,rfl⟩ ⟨_,g2,rfl,_,rfl⟩ (by lia) (Kp il1 il2 z1 z2 fun k a b va vb x1 x2 ia ib=>same_eq r 19 a b va vb Γ.A.in1 (hs k a b x1 x2) ia ib (by show Γ.A.units + 1 + 19 < cLine;lia)) ?_
 rw [show ((List.range (min i1.size i2.size)).all fun _=>true)=true by simp,hsz,beq_self_eq_true]
 exact ⟨_,σ,Zle.rfl,r,.bool _,q⟩
end
section
variable {Γ:Cx}{E:String->St->Prop}{σ:St}
theorem MO {n:Int}(h0:0 <= n)(h1:n < 10000000000):(intT n).length <= 10:=by
 have:=toString_length_le (k:=10) h0 (by decide) h1
 exact this
theorem Ng {n:Int}(h0:0 <= n)(h1:n < 10000000000):n.natAbs.log2 < 1920:=by
 by_cases e:n.natAbs=0
 · rw [e];decide
 · exact (Nat.log2_lt e).mpr (Nat.lt_of_lt_of_le (show n.natAbs < 2 ^ 40 by lia) (Nat.pow_le_pow_right (by decide) (by decide)))
theorem Oe {n:Int}{Q:D->St->Prop}(h0:0 <= n)(h1:n < 10000000000)(h:Q (.str (intT n)) σ):Cal Γ E (.bi .str) [.int n] [] σ Q:=by
 intro vf vs ks hf hv hk hn;cases hf;refine JB (P:=fun vs ks=>Wp Γ E (call (.type "str") vs ks) Is σ Q) hv hn fun v i s r=>?_;cases i;exact P.str_of_int (Ng h0 h1) ⟨_,σ,Zle.rfl,r.toks _,.str (intT n) _ (Nat.le_trans (MO h0 h1) (by decide)),h⟩
theorem Ra {Z:Zs}{xs:LD}{vs:List Value}(h:IsL Z xs vs):∀ k:Nat,IsL Z (List.replicate k xs).flatten (List.replicate k vs).flatten
 | 0=>.nil
 | k + 1=>by rw [List.replicate_succ,List.replicate_succ,List.flatten_cons,List.flatten_cons];exact h.append (Ra h k)
theorem Nk {l:Nat}{xs:LD}{n:Int}{Q:D->St->Prop}(hp:σ.led[l]?=some (.list xs))(h0:0 <= n)(hl:xs.length * n.toNat <= 100000)(hn:n <= 1000)
 (h:∀ Z,Q (.ref σ.led.length) ⟨σ.loc,σ.led++[.list (List.replicate n.toNat xs).flatten],Z⟩):Bin Γ E .Mult (.ref l) (.int n) σ Q:=by
 intro va vb ia ib s r;refine E35 (Jj r hp ia) fun a1 i1 n1 hq6=>?_;obtain rfl:=hq6;intro hq7;obtain -:=hq7;intro g1 e1 z1
 cases ib with
 | int _ u=>
  rw [<-z1] at hl;refine wpAny_binaryOp_repeat_ref (T := "list") (U := "int") (by decide) ⟨_,g1,rfl⟩ (fun s'=>typeIs_int s' n u) noFill_list_mul F.fills_int_mul F.slot_int_rmul repeat_list F.slot_int_index.lookup
   (call_meets F.slot_int_rmul (typeIs_int s n u) F.entry_int_rmul (F.args_int_rmul_2 _ _) (int___rmul___int_list n u a1 i1 n1)
    ⟨g1,rfl,⟨_,g1,rfl⟩,call_meets F.slot_list_mul ⟨_,g1,rfl⟩ F.entry_list_mul (F.args_list_mul_2 _ _)
     (AutoListH.list___mul___list_int_3 a1 i1 n1 n u (by simp [Builtin.List.listFitsIndex];lia) (by lia) (by simp [Builtin.List.listTooLong,sizeLine];lia)) ⟨g1,?_⟩⟩)
  have key:IsL σ.Z (List.replicate n.toNat xs).flatten (List.foldl (fun x1 x2=>x1++x2) #[] (List.replicate (if i1.isEmpty=true then 0 else n.toNat) i1)).toList:=by
   rw [listMul_foldl];simp only [Array.toList_empty,List.nil_append]
   by_cases e:i1.isEmpty=true
   · rw [if_pos e];have:xs=[]:=by
      have e:=Array.isEmpty_iff.mp e;subst e;exact List.eq_nil_of_length_eq_zero z1.symm
     subst this;have:(List.replicate n.toNat ([]:LD)).flatten=[]:=by simp
     rw [this];exact .nil
   · rw [if_neg e];exact Ra e1 _
  refine J5.new (d:=.list (List.replicate n.toNat xs).flatten) r rfl (J2 key) h _
theorem ZJ {Z:Zs}{xs:LD}{vs:List Value}(h:IsL Z xs vs):IsL Z xs.reverse vs.reverse:=h.ind (P:=fun xs vs=>IsL Z xs.reverse vs.reverse) .nil fun h _ ih=>by rw [List.reverse_cons,List.reverse_cons];exact ih.append (.cons h .nil)
theorem Y6 {e st:Expr}{p pos:Pos}{Q:D->St->Prop}(h:EV Γ E e σ fun a σ₁=>∃ l xs,a=.ref l /\ σ₁.led[l]?=some (.list xs) /\ xs.length <= 100000 /\ EV Γ E st σ₁ fun d σ₂=>d=.int (-1) /\ σ₂.led[l]?=some (.list xs) /\ ∀ Z,Q (.ref σ₂.led.length) ⟨σ₂.loc,σ₂.led++[.list xs.reverse],Z⟩) :
 EV Γ E (.Subscript e (.Slice none none (some st) p) pos) σ Q:=by
 refine Wp.eq (arm_eval_Subscript ..) (Wp.bind (Wp.mono h fun a σ₁ z0 hq0 va ia=>?_));refine E24 hq0 fun l xs ea hp hl q=>?_;subst ea;intro s r;refine wpAny_bind (wpAny_holding ?_);rw [arm_eval_Slice];refine wpAny_bind (wpAny_pure ?_);refine wpAny_bind (wpAny_holding (wpAny_pure ?_));refine wpAny_bind (wpAny_holding (wpAny_mono (q s r) (fun vst s₃ hq1=>?_) fun _ _ x=>x));obtain ⟨d,σ₃,z₃,r₃,iu,ed,hp3,q₃⟩:=hq1;subst ed;unfold newFields;refine wpAny_newObj_type ?_ (by show _ <= _;simp;decide)
 refine wpAny_bind (wpAny_standAt ?_);have ia3:=ia.mono z₃;have rp:=r₃.push { cls:=.type "slice",dict:=none,data:=.fields [Value.none,.none,vst].toArray } s₃.toks;refine E22 (LY hp3 va _ ia3 rp) fun T id hT hl'=>?_;refine wpAny_bind (Kz hT hl' ?_);refine E11 (JS (.Slice none none (some st) p) va (.ref s₃.heap.objs.size)) fun l' e=>?_;rw [e];refine E35 (Jj r₃ hp3 ia3) fun a1 i1 n1 hq4=>?_;obtain rfl:=hq4;intro hq5;obtain -:=hq5;intro g1 e1 z1;have pst:IsPart vst (some (-1)):=by cases iu;exact .int _ _
 have hg:wpAny Γ.M Γ.A (getItem (.ref a1) (.ref s₃.heap.objs.size)) (J5 Γ Is σ₃ Q) (JK Γ σ₃ E) { s₃ with heap:=s₃.heap.push { cls:=.type "slice",dict:=none,data:=.fields [Value.none,.none,vst].toArray } }:=by
  refine wpAny_getItem_list_slice ⟨_,Heap.get?_push_of_some _ g1,rfl,_,rfl⟩ (Heap.IsSliceOf.new ..) .none .none pst (by simp) ?_ (by rw [z1,sizeLine_eq];lia)
  rw [krv_pick];exact J5.new (d:=.list xs.reverse) rp rfl (J2 (by simpa using ZJ e1)) q₃ _
 refine wpAny_bind (wpAny_operating (wpAny_mono hg (fun vd s' p=>?_) (upE z₃)));exact wpAny_bind (wpAny_letTemporaryGo (wpAny_pure (p.up z₃)))
noncomputable def pctFmt:LN:=[34,37,115,34,44,32,108,105,110,101,32,37,100,58,32]
noncomputable def pctD (x:LN)(n:Int):LN:=[34]++(x++([34,44,32,108,105,110,101,32]++(intT n++[58,32])))
end
noncomputable abbrev pqxctF:Str:=⟨#[34,37,115,34,44,32,108,105,110,101,32,37,100,58,32]⟩
noncomputable abbrev PqxcS:=List Value × Writer × LN
noncomputable abbrev PqxcF:=Bool->Option Str->Bool->Nat->PqxcS->Sem (ForInStep PqxcS)
noncomputable abbrev PqxcK:=Bool->Option Str->Bool->PqxcS->Sem PySem.Fin
noncomputable def pqxcJJ (f:PqxcF)(K:PqxcK)(i:Bool)(o:Option Str)(m:Bool)(p:List Value):Sem PySem.Fin:=forIn [:pqxctF.length] ((p,{},pqxctF.cps.toList):PqxcS) (f i o m) >>= K i o m
noncomputable def pqxcAll (b:Addr)(J:Bool->Option Str->Bool->List Value->Sem PySem.Fin):Sem PySem.Fin:=isInstance (.ref b) (.type "tuple") >>= fun i=>asStr? (.ref b) >>= fun o=>fillsMappingSlot (.ref b) >>= fun m=>
 if i then (seqItems? (.ref b) >>= fun r=>match r with | some xs=>pure xs.toList >>= J i o m | none=>unsupported "internal:str.__mod__" >>= J i o m) else pure [.ref b] >>= J i o m
structure ZW where
 b:Addr
 T:Sem PySem.Fin
 f:PqxcF
 K:PqxcK
 h:T=pqxcAll b (pqxcJJ f K)
noncomputable def pqxcGet (b:Addr){T:Sem PySem.Fin}{f:PqxcF}{K:PqxcK} (h:T=(isInstance (.ref b) (.type "tuple") >>= fun i=>asStr? (.ref b) >>= fun o=>fillsMappingSlot (.ref b) >>= fun m=>
 if i then (seqItems? (.ref b) >>= fun r=>match r with | some xs=>pure xs.toList >>= (fun p=>forIn [:pqxctF.length] ((p,{},pqxctF.cps.toList):PqxcS) (f i o m) >>= K i o m) | none=>unsupported "internal:str.__mod__" >>= (fun p=>forIn [:pqxctF.length] ((p,{},pqxctF.cps.toList):PqxcS) (f i o m) >>= K i o m))
 else pure [.ref b] >>= (fun p=>forIn [:pqxctF.length] ((p,{},pqxctF.cps.toList):PqxcS) (f i o m) >>= K i o m))):ZW:=⟨b,T,f,K,h⟩
noncomputable def pqxctB (v:Tok)(b:Addr):ZW:=pqxcGet b (Eq.refl (percentFormat (.str pqxctF v) pqxctF (.ref b)))
theorem Jel (v:Tok)(b:Addr):«str.__mod__» ⟨[.str pqxctF v,.ref b],[]⟩=pqxcAll b (pqxcJJ (pqxctB v b).f (pqxctB v b).K):=(KPt.entry_is_r ..).trans (pqxctB v b).h
section
variable (v:Tok)(b:Addr)(i:Bool)(o:Option Str)(m:Bool)(j:Nat)(p:List Value)(w:Writer)(x:Str)(n:Int)(t:Tok)
theorem Jdx:(pqxctB v b).f i o m j (p,w,pqxctF.cps.toList)=if tooLong w.total=true then unsupported "str.__mod__:memory" else pure (.yield (p,w.add ⟨#[34]⟩ none,pqxctF.cps.toList.drop 1)):=by kernel_rfl!
theorem Jcr:(pqxctB v b).f i o m j (.str x t :: p,w,pqxctF.cps.toList.drop 1)=if tooLong w.total=true then unsupported "str.__mod__:memory" else pure (.yield (p,w.add ⟨x.cps.toList.toArray⟩ none,pqxctF.cps.toList.drop 3)):=by kernel_rfl!
theorem Jce:(pqxctB v b).f i o m j (p,w,pqxctF.cps.toList.drop 3)=if tooLong w.total=true then unsupported "str.__mod__:memory" else pure (.yield (p,w.add ⟨#[34,44,32,108,105,110,101,32]⟩ none,pqxctF.cps.toList.drop 11)):=by kernel_rfl!
noncomputable abbrev pqxcJ (n:Int)(d:LN):Sem (LN × Option Value × Bool):=pure (percentInt { type:=100 } (decide (n < 0)) d,none,true)
noncomputable abbrev pqxcP:Percent:={ type:=100 }
theorem Jdw:(pqxctB v b).f i o m j (.int n t :: p,w,pqxctF.cps.toList.drop 11)=if tooLong w.total=true then unsupported "str.__mod__:memory" else (mkInt n.natAbs >>= fun a=>call (.builtin "int.__repr__") [a] >>= fun r=>asStr? r >>= fun e=>
 match e with | some d=>pure d.cps.toList >>= pqxcJ n | _=>unsupported "internal:str.__mod__" >>= pqxcJ n) >>= fun q=>pure (.yield (p,w.add ⟨q.1.toArray⟩ none,pqxctF.cps.toList.drop 13)):=by kernel_rfl!
theorem Jdu:(pqxctB v b).f i o m j (p,w,pqxctF.cps.toList.drop 13)=if tooLong w.total=true then unsupported "str.__mod__:memory" else pure (.yield (p,w.add ⟨#[58,32]⟩ none,[])):=by kernel_rfl!
theorem Jdl:(pqxctB v b).f i o m j (p,w,[])=if tooLong w.total=true then unsupported "str.__mod__:memory" else pure (.done (p,w,[])):=by kernel_rfl!
theorem Jep:(pqxctB v b).K i o m ([],w,[])=w.finish "str.__mod__":=by kernel_rfl!
end
section
variable {M:Model}{A:Around}{E:Value->Shared->Prop}{s:Shared}{l:LN}{p p':List Value}{r r':LN}{j:Nat}{f:Nat->PqxcS->Sem (ForInStep PqxcS)}{Q:PqxcS->Shared->Prop}{w:Writer}{T y:Str}{N:Nat}
theorem Tt (K:Nat)(e:f j (p,w,r)=if tooLong w.total=true then unsupported "str.__mod__:memory" else pure (.yield (p',w.add y none,r')))(g:KPc.Good w T N)(hN:N <= 16777216)(hy:y.length <= K)
 (h:∀ w',KPc.Good w' (T++y) (N + K)->wpAny M A (forIn l (p',w',r') f) Q E s):wpAny M A (forIn (j :: l) (p,w,r) f) Q E s:=by
 refine KPc.turn ?_;rw [e];exact wpAny_ite (KPc.ite_no (KPc.short_good g hN) (wpAny_pure (h _ (KPc.good_mono (KPc.good_add g (KPc.obj_none rfl)) (Nat.add_le_add_left hy _)))))
end
section
variable {prog:Program}{W:World}{A:Around}{E:Value->Shared->Prop}{s:Shared}
theorem Wb {J:Bool->Option Str->Bool->List Value->Sem PySem.Fin}{Q:PySem.Fin->Shared->Prop}{b:Addr}{its:Array Value}{M:Model}(ht:IsTup s.heap b its)(h:∀ m,wpAny M A (J true none m its.toList) Q E s) :
 wpAny M A (pqxcAll b J) Q E s:=by
 obtain ⟨o,g,c,k,d⟩:=ht;have ty:s.TypeIs (.ref b) "tuple":=⟨o,g,c⟩;exact wpAny_bind (wpAny_isInstance ty KPt.sub_tt (wpAny_bind (KPt.asStr_ref g d (wpAny_bind (KPt.fills_ref ty fun m=>wpAny_ite (KPc.ite_yes rfl (wpAny_bind (wpAny_seqItems g d (wpAny_bind (wpAny_pure (h m)))))))))))
theorem Jc8 {β:Type}{n:Int}{G:LN × Option Value × Bool->Sem β}{Q:β->Shared->Prop}(hl:n.natAbs.log2 < 1920)
 (h:∀ k,wpAny (model prog W) A (G (percentInt pqxcP (decide (n < 0)) (Str.ofString (toString ((n.natAbs:Nat):Int))).cps.toList,none,true)) Q E { s with toks:=k }) :
 wpAny (model prog W) A ((mkInt n.natAbs >>= fun a=>call (.builtin "int.__repr__") [a] >>= fun r=>asStr? r >>= fun e=>
 match e with | some d=>pure d.cps.toList >>= pqxcJ n | _=>unsupported "internal:str.__mod__" >>= pqxcJ n) >>= G) Q E s:=
 wpAny_bind (wpAny_bind (wpAny_mkInt (wpAny_bind (call_gives F.slot_int_repr (typeIs_int _ _ _) F.entry_int_repr (F.args_int_repr_1 _) (gives_int_repr _ _ (KPt.hd2 hl)) ⟨int_text_fits (KPt.hd2 hl),wpAny_bind (wpAny_of_eq (a:=some _) rfl (wpAny_bind (wpAny_pure (wpAny_pure (h _)))))⟩))))
end
theorem QR (x:Str)(n:Int)(t u v:Tok)(b:Addr)(h0:0 <= n)(h1:n < 10 ^ 10)(hl:n.natAbs.log2 < 1920)(hx:x.length <= 100000) :
 Meets («str.__mod__» ⟨[.str pqxctF v,.ref b],[]⟩) (fun _ R s=>IsTup s.heap b #[.str x t,.int n u] /\ ∀ t' k,R (.ok (.ret (.str (Str.mk #[34]++x++Str.mk #[34,44,32,108,105,110,101,32]++Str.ofString (toString n)++Str.mk #[58,32]) t'))) { s with toks:=k }):=by
 refine KPt.meets_tup fun prog w A s Q E q1 q2=>?_;rw [Jel];refine Wb q1 fun m=>?_;unfold pqxcJJ;refine wpAny_bind ?_;rw [KPc.range_list];refine KPc.start fun w0 g0=>Tt 1 (Jdx ..) g0 (by decide) (by decide) fun w1 g1=>Tt 100000 (Jcr ..) g1 (by decide) hx fun w2 g2=>Tt 8 (Jce ..) g2 (by decide) (by decide) fun w3 g3=>KPc.turn ?_
 rw [Jdw];refine wpAny_ite (KPc.ite_no (KPc.short_good g3 (by decide)) (Jc8 hl fun k=>wpAny_pure ?_))
 refine KPc.after_int (c:=pqxcP) (n:=n) g3 rfl (Or.inl rfl) rfl h0 h1 rfl rfl fun w4 g4=>Tt 2 (Jdu ..) g4 (by decide) (by decide) fun w5 g5=>KPc.turn ?_
 rw [Jdl];refine wpAny_ite (KPc.ite_no (KPc.short_good g5 (by decide)) (wpAny_pure ?_))
 dsimp only;rw [Jep];exact KPc.finish_ok g5 (by decide) (by rw [KPc.empty_app]) q2
section
variable {Γ:Cx}{E:String->St->Prop}{σ:St}
theorem O1 (a b:Str):a++b=st (a.cps.toList++b.cps.toList):=by
 obtain ⟨a⟩:=a;obtain ⟨b⟩:=b;show Str.mk (a++b)=Str.mk _
 congr 1
 simp
theorem SL (x:LN)(n:Int):Str.mk #[34]++st x++Str.mk #[34,44,32,108,105,110,101,32]++Str.ofString (toString n)++Str.mk #[58,32]=st (pctD x n):=by
 rw [O1,O1,O1,O1];show st (((([34]++x)++[34,44,32,108,105,110,101,32])++intT n)++[58,32])=_;unfold pctD;rw [List.append_assoc,List.append_assoc,List.append_assoc]
theorem Ww {f x:LN}{n:Int}{Q:D->St->Prop}(hf:f=pctFmt)(h0:0 <= n)(h1:n < 10000000000)(hx:x.length <= 100000)(h:Q (.str (pctD x n)) σ):Bin Γ E .Mod (.str f) (.tup [.str x,.int n]) σ Q:=by
 intro va vb ia ib s r;subst hf;refine E12 (ia.inv) fun t hq3=>?_;obtain rfl:=hq3;intro _;refine E34 (KM r ib) fun a items k hq2=>?_;obtain rfl:=hq2;intro g il z;refine E23 (il.inv) fun v1 r1 e1 i1 il1=>?_;refine E23 (il1.inv) fun v2 r2 e2 i2 il2=>?_;obtain rfl:=il2.inv;refine E12 (i1.inv) fun t1 hq1=>?_;obtain rfl:=hq1;intro _;refine E11 (i2.inv) fun u hq0=>?_;obtain rfl:=hq0;rw [e2] at e1;have ei:items=#[.str (st x) t1,.int n u]:=Array.toList_inj.mp e1;subst ei;have ht:IsTup s.heap a #[.str (st x) t1,.int n u]:=⟨_,g,rfl,k,rfl⟩;refine KPt.bin_left (T := "str") (U := "tuple") (op:=.Mod) (by decide) (typeIs_str s _ t) ⟨_,g,rfl⟩ F.fills_str_mod KPt.fills_tuple F.slot_str_mod
  (call_meets F.slot_str_mod (typeIs_str s _ t) F.entry_str_mod (F.args_str_mod_2 _ _) (QR (st x) n t1 u t a h0 h1 (Ng h0 h1) (by rw [Jw];exact hx)) ⟨ht,fun t' k'=>⟨(fun e=>nomatch e),?_⟩⟩)
 rw [SL];have hl:(pctD x n).length <= 16777216:=by
  have:=MO h0 h1;unfold pctD;simp only [List.length_append,List.length_cons,List.length_nil]
  lia
 exact ⟨_,σ,Zle.rfl,r.toks _,.str (pctD x n) t' hl,h⟩
end
end Mine
end
noncomputable section
open PySem PySem.W PyProof.Rows PySem.Calls
namespace Mine
abbrev Cx.busy (Γ:Cx)(e:Addr):Cx:={ Γ with A:=Γ.A.mark (some (.ref e)) }
section
variable {Γ:Cx}{E:String->St->Prop}{σ:St}
theorem Rel.busy {s:Shared}(r:Rel Γ σ s)(e:Addr):Rel (Γ.busy e) σ s:=by
 obtain ⟨o,a1,a2,a3,a4,a5,a6,a7,a8,a9,a10⟩:=r;exact ⟨⟨o.kind,o.nd,o.locs,o.dbg,o.glo,o.blt,o.frames,o.depth,o.units,o.g,o.b,o.nl,o.bt,o.K,o.top⟩,a1,a2,a3,a4,a5,a6,a7,a8,a9,a10⟩
theorem Rel.calm {s:Shared}{σ':St}{e:Addr}(o:Ok Γ)(r:Rel (Γ.busy e) σ' s):Rel Γ σ' s:=by
 obtain ⟨_,a1,a2,a3,a4,a5,a6,a7,a8,a9,a10⟩:=r;exact ⟨o,a1,a2,a3,a4,a5,a6,a7,a8,a9,a10⟩
theorem Ol:isSubtype (.type "ValueError") (.type "BaseException")=pure true:=by rw [isSubtype_type];kernel_rfl
theorem Rm:isSubtype (.type "ValueError") (.type "ValueError")=pure true:=by rw [isSubtype_type];kernel_rfl
theorem W4:((Manifest.find? "ValueError").elim "type" fun x=>x.metatype) = "type":=by rw [find?_eq_fast];kernel_rfl
theorem L2:isSubtype (.type "type") (.type "tuple")=pure false:=by rw [isSubtype_type];kernel_rfl
theorem Wl {body orelse suite:List Stmt}{b₀:Stmt}{x:Str}{np hp pos:Pos}{Q:Fl->St->Prop}(hk:Γ.env.kindOf x=some .globalImplicit)(t:Top Γ.K x (.bi .ValueError))
 (h:XS Γ (fun cls σ₁=>cls = "ValueError" /\ ∀ e,XS (Γ.busy e) NoE (b₀ :: suite) σ₁ Q) body σ fun fl σ₁=>match fl with
  | .next=>XS Γ E orelse σ₁ Q
  | fl=>Q fl σ₁):EX Γ E (.Try body [.ExceptHandler (some (.Name x np)) none (b₀ :: suite) hp] orelse [] pos) σ Q:=fun s r=>by
 refine wpAny_Try_except (wpAny_mono (h s r) (fun f s₁ hq0=>?_) fun v s₁ hq1=>?_)
 · obtain ⟨fl,σ₁,z,r₁,i,q⟩:=hq0
   cases i with
   | next=>exact wpAny_mono (q s₁ r₁) (fun _ _ p=>p.up z) (upE z)
   | brk=>exact ⟨_,σ₁,z,r₁,.brk,q⟩
   | cont=>exact ⟨_,σ₁,z,r₁,.cont,q⟩
   | ret i=>exact ⟨_,σ₁,z,r₁,.ret i,q⟩
 · obtain ⟨a,cls,σ₁,ev,z,r₁,xat,hcls,q⟩:=hq1;subst ev;subst hcls;refine K1 r₁.ok.frames r₁ xat fun h₁ r₂ x₂=>?_;refine Kg r₂ x₂ fun h₂ r₃ x₃=>?_;refine wpAny_handleBy_builtin (X := "ValueError") (T := "ValueError") (b:=true) Ol (by rw [W4];exact L2) Rm ?_
   refine wpAny_Name (MW r₃ hk t fun v i=>?_) t.dbg;cases i;have x₃':=x₃;obtain ⟨off,oe,vs,he,hce,hd,hsz,_⟩:=x₃;refine ⟨rfl,⟨oe,he,hce⟩,?_⟩;show wpAny _ _ (setFlight (.ref a) none) _ _ _;refine Kg r₃ x₃' fun h₄ r₄ x₄=>?_;exact wpAny_mono (q a _ (r₄.busy a)) (fun f s' hz0=>by obtain ⟨fl,σ',z',r',i,q'⟩:=hz0;exact ⟨fl,σ',z.trans z',r'.calm r₁.ok,i,q'⟩) fun _ _ ⟨_,_,_,_,_,_,_,q⟩=>q.elim
end
end Mine
end
noncomputable section
open PySem PySem.W PyProof.Rows PySem.Calls
set_option backward.match.sparseCases false
namespace Mine
inductive Ec where
 | value | stop
noncomputable def Ec.name:Ec->String
 | .value => "ValueError"
 | .stop => "StopIteration"
abbrev Jc:=LD->List (Str × D)->Led->(Ec->Led->Prop)->(D->Led->Prop)->Prop
abbrev QE:=Ec->Loc->Led->Prop
abbrev QD:=D->Loc->Led->Prop
abbrev QF:=Fl->Loc->Led->Prop
noncomputable def assocS {α:Type}:List (Str × α)->Str->Option α
 | [],_=>none
 | p :: l,x=>match nameEq x p.1 with
  | true=>some p.2
  | false=>assocS l x
theorem Jm {α:Type}:∀ {l:List (Str × α)} {x:Str} {a:α},assocS l x=some a->(x,a) ∈ l
 | (n,b) :: l,x,a,h=>by
  have h:(match nameEq x n with | true=>some b | false=>assocS l x)=some a:=h
  cases e:nameEq x n with
  | true=>rw [e] at h;obtain rfl:=Option.some.inj h;rw [Jl.mp e];exact .head _
  | false=>rw [e] at h;exact .tail _ (Jm h)
noncomputable def assocA {α:Type}:List (Nat × α)->Nat->Option α
 | [],_=>none
 | p :: l,x=>match Nat.beq x p.1 with
  | true=>some p.2
  | false=>assocA l x
theorem Kh {α:Type}:∀ {l:List (Nat × α)} {x:Nat} {a:α},assocA l x=some a->(x,a) ∈ l
 | (n,b) :: l,x,a,h=>by
  have h:(match Nat.beq x n with | true=>some b | false=>assocA l x)=some a:=h
  cases e:Nat.beq x n with
  | true=>rw [e] at h;obtain rfl:=Option.some.inj h;rw [Nat.eq_of_beq_eq_true e];exact .head _
  | false=>rw [e] at h;exact .tail _ (Kh h)
noncomputable def isLocal:NameKind->Bool
 | .local=>true
 | _=>false
noncomputable def isTop:NameKind->Bool
 | .globalImplicit=>true
 | _=>false
noncomputable def localsOf:List (Str × NameKind)->List Str
 | []=>[]
 | (x,k) :: r=>match isLocal k with
  | true=>x :: localsOf r
  | false=>localsOf r
noncomputable def nodupB:List Str->Bool
 | []=>true
 | x :: r=>!(r.any (nameEq x)) && nodupB r
theorem J7:∀ {l:List Str},nodupB l=true->l.Nodup
 | [],_=>.nil
 | x :: r,h=>by
  have h:=Bool.and_eq_true_iff.mp h;refine List.nodup_cons.mpr ⟨fun hm=>?_,J7 h.2⟩;have:(r.any (nameEq x))=true:=List.any_eq_true.mpr ⟨x,hm,Jl.mpr rfl⟩;rw [this] at h;cases h.1
theorem JJ {α:Type}:∀ (l:List (Str × α)) (x:Str),assocS l x=l.lookup x
 | [],_=>rfl
 | (n,a) :: l,x=>by
  unfold assocS;rw [List.lookup_cons]
  cases h:nameEq x n with
  | true=>
   have:(x == n)=true:=by rw [Jl.mp h];simp
   rw [this]
  | false=>
   have:(x == n)=false:=by simpa using JG h
   rw [this];exact JJ l x
noncomputable def kindIs (sc:List (Str × NameKind))(p:NameKind->Bool)(x:Str):Bool:=match assocS sc x with
 | some k=>p k
 | none=>false
set_option tactic.hygienic true in
theorem K8 {sc:List (Str × NameKind)}{x:Str}(h:kindIs sc isLocal x=true):sc.lookup x=some .local:=by
 unfold kindIs at h;rw [JJ] at h
 split at h
 · rename_i k e;cases k <;> first | exact e | cases h
 · injection h
set_option tactic.hygienic true in
theorem PA {sc:List (Str × NameKind)}{x:Str}(h:kindIs sc isTop x=true):sc.lookup x=some .globalImplicit:=by
 unfold kindIs at h;rw [JJ] at h
 split at h
 · rename_i k e;cases k <;> first | exact e | cases h
 · injection h
noncomputable def isFunK:ScopeKind->Bool
 | .function=>true
 | _=>false
noncomputable def notCell:NameKind->Bool
 | .cell=>false
 | _=>true
theorem KC {x:Str}(h:nameEq x (nm [95,95,100,101,98,117,103,95,95])=false):(x == ("__debug__" : Str))=false:=by
 have:("__debug__" : Str)=nm [95,95,100,101,98,117,103,95,95]:=by kernel_rfl
 rw [this];simpa using JG h
noncomputable def topsOf (all:List (Str × D))(sc:List (Str × NameKind)):List (Str × D):=match all with
 | []=>[]
 | p :: r=>match kindIs sc isTop p.1 with
  | true=>p :: topsOf r sc
  | false=>topsOf r sc
theorem Jh:∀ {all:List (Str × D)} {sc:List (Str × NameKind)} {p:Str × D},p ∈ topsOf all sc->p ∈ all /\ sc.lookup p.1=some .globalImplicit
 | a :: r,sc,p,h=>by
  unfold topsOf at h
  split at h
  · rename_i e
    rcases List.mem_cons.mp h with rfl | h
    · exact ⟨.head _,PA e⟩
    · exact ⟨.tail _ (Jh h).1,(Jh h).2⟩
  · exact ⟨.tail _ (Jh h).1,(Jh h).2⟩
noncomputable def tr (b:Bool)(P:Prop):Prop:=match b with
 | true=>P
 | false=>False
noncomputable def ife {α:Sort _}(b:Bool)(P R:α):α:=match b with
 | true=>P
 | false=>R
noncomputable def so {α:Type}(o:Option α)(k:α->Prop):Prop:=match o with
 | some a=>k a
 | none=>False
noncomputable def alt {α:Type}(o:Option α)(k:α->Prop)(n:Prop):Prop:=match o with
 | some a=>k a
 | none=>n
theorem tr_ {b:Bool}{P:Prop}(h:tr b P):b=true /\ P:=by cases b with | true=>exact ⟨rfl,h⟩ | false=>exact h.elim
theorem so_ {α:Type}{o:Option α}{k:α->Prop}(h:so o k):∃ a,o=some a /\ k a:=by cases o with | some a=>exact ⟨a,rfl,h⟩ | none=>exact h.elim
theorem VQ {α:Type}{o:Option α}{k:α->Prop}{n R:Prop}(h:alt o k n)(h1:∀ a,o=some a->k a->R)(h2:o=none->n->R):R:=by cases o with | some a=>exact h1 a rfl h | none=>exact h2 rfl h
noncomputable def dC (d:D)(fn:Prop)(fb:Bool->Prop)(fi:Int->Prop)(fs:LN->Prop)(fr:Nat->Prop)(ft:LD->Prop):Prop:=match d with
 | .none=>fn
 | .bool b=>fb b
 | .int i=>fi i
 | .str s=>fs s
 | .ref r=>fr r
 | .tup t=>ft t
 | _=>False
abbrev no1 {α:Type}:α->Prop:=fun _=>False
noncomputable def dI (d:D)(k:Int->Prop):Prop:=dC d False no1 k no1 no1 no1
noncomputable def dS (d:D)(k:LN->Prop):Prop:=dC d False no1 no1 k no1 no1
noncomputable def dR (d:D)(k:Nat->Prop):Prop:=dC d False no1 no1 no1 k no1
theorem dC_ {d:D}{fn:Prop}{fb:Bool->Prop}{fi:Int->Prop}{fs:LN->Prop}{fr:Nat->Prop}{ft:LD->Prop}{R:D->Prop}(h:dC d fn fb fi fs fr ft)(h1:fn->R .none)(h2:∀ b,fb b->R (.bool b))(h3:∀ i,fi i->R (.int i))(h4:∀ s,fs s->R (.str s))(h5:∀ r,fr r->R (.ref r))(h6:∀ t,ft t->R (.tup t)):R d:=by
 cases d with
 | none=>exact h1 h
 | bool b=>exact h2 b h
 | int i=>exact h3 i h
 | str s=>exact h4 s h
 | ref r=>exact h5 r h
 | tup t=>exact h6 t h
 | val=>exact h.elim
 | bi=>exact h.elim
 | any=>exact h.elim
theorem dI_ {d:D}{k:Int->Prop}(h:dI d k):∃ i,d=.int i /\ k i:=dC_ (R:=fun d=>∃ i,d=.int i /\ k i) h False.elim (fun _=>False.elim) (fun i h=>⟨i,rfl,h⟩) (fun _=>False.elim) (fun _=>False.elim) fun _=>False.elim
theorem dS_ {d:D}{k:LN->Prop}(h:dS d k):∃ i,d=.str i /\ k i:=dC_ (R:=fun d=>∃ i,d=.str i /\ k i) h False.elim (fun _=>False.elim) (fun _=>False.elim) (fun i h=>⟨i,rfl,h⟩) (fun _=>False.elim) fun _=>False.elim
theorem dR_ {d:D}{k:Nat->Prop}(h:dR d k):∃ i,d=.ref i /\ k i:=dC_ (R:=fun d=>∃ i,d=.ref i /\ k i) h False.elim (fun _=>False.elim) (fun _=>False.elim) (fun _=>False.elim) (fun i h=>⟨i,rfl,h⟩) fun _=>False.elim
noncomputable def oC (o:Option OD)(fl:LD->Prop)(fd:LD->Prop)(fi:Kd->Nat->Prop)(fn:Kd->List (Option D)->Prop)(fc:Option D->Prop):Prop:=match o with
 | some (.list xs)=>fl xs
 | some (.deque xs)=>fd xs
 | some (.inst k d)=>fi k d
 | some (.ns k vs)=>fn k vs
 | some (.cell v)=>fc v
 | none=>False
theorem oC_ {o:Option OD}{fl fd:LD->Prop}{fi:Kd->Nat->Prop}{fn:Kd->List (Option D)->Prop}{fc:Option D->Prop}{R:Prop}(h:oC o fl fd fi fn fc)(h1:∀ xs,o=some (.list xs)->fl xs->R)(h2:∀ xs,o=some (.deque xs)->fd xs->R)(h3:∀ k d,o=some (.inst k d)->fi k d->R)
 (h4:∀ k vs,o=some (.ns k vs)->fn k vs->R) (h5:∀ v,o=some (.cell v)->fc v->R):R:=by
 cases o with
 | none=>exact h.elim
 | some o=>cases o with
  | list xs=>exact h1 xs rfl h
  | deque xs=>exact h2 xs rfl h
  | inst k d=>exact h3 k d rfl h
  | ns k vs=>exact h4 k vs rfl h
  | cell v=>exact h5 v rfl h
noncomputable def oL (led:Led)(i:Nat)(k:LD->Prop):Prop:=oC (nth led i) k no1 (fun _ _=>False) (fun _ _=>False) no1
noncomputable def oQ (led:Led)(i:Nat)(k:LD->Prop):Prop:=oC (nth led i) no1 k (fun _ _=>False) (fun _ _=>False) no1
theorem oL_ {led:Led}{i:Nat}{k:LD->Prop}(h:oL led i k):∃ xs,led[i]?=some (.list xs) /\ k xs:=oC_ h (fun xs e h=>⟨xs,(Jq led i) ▸ e,h⟩) (fun _ _=>False.elim) (fun _ _ _=>False.elim) (fun _ _ _=>False.elim) fun _ _=>False.elim
theorem oQ_ {led:Led}{i:Nat}{k:LD->Prop}(h:oQ led i k):∃ xs,led[i]?=some (.deque xs) /\ k xs:=oC_ h (fun _ _=>False.elim) (fun xs e h=>⟨xs,(Jq led i) ▸ e,h⟩) (fun _ _ _=>False.elim) (fun _ _ _=>False.elim) fun _ _=>False.elim
noncomputable def Kd.same:Kd->Kd->Bool
 | .lex,.lex=>true
 | .sio,.sio=>true
 | _,_=>false
theorem Kd.same_eq {k k':Kd}(h:k.same k'=true):k'=k:=by cases k <;> cases k' <;> first | rfl | cases h
noncomputable def D.isStrT:D->Bool
 | .bi .str=>true
 | _=>false
noncomputable def oI (led:Led)(i:Nat)(k:Kd->Nat->List (Option D)->Prop):Prop:=oC (nth led i) no1 no1 (fun c dx=>oC (nth led dx) no1 no1 (fun _ _=>False) (fun c' vs=>tr (c.same c') (k c dx vs)) no1) (fun _ _=>False) no1
theorem oI_ {led:Led}{i:Nat}{k:Kd->Nat->List (Option D)->Prop}(h:oI led i k):∃ c dx vs,led[i]?=some (.inst c dx) /\ led[dx]?=some (.ns c vs) /\ k c dx vs:=
 oC_ h (fun _ _=>False.elim) (fun _ _=>False.elim) (fun c dx e h=>oC_ h (fun _ _=>False.elim) (fun _ _=>False.elim) (fun _ _ _=>False.elim)
  (fun c' vs e' h=>let ⟨q,h⟩:=tr_ h;⟨c,dx,vs,(Jq led i) ▸ e,(Kd.same_eq q ▸ (Jq led dx) ▸ e'),h⟩) fun _ _=>False.elim) (fun _ _ _=>False.elim) fun _ _=>False.elim
noncomputable def lC {α:Type}(l:List α)(n:Prop)(c:α->List α->Prop):Prop:=match l with
 | []=>n
 | a :: r=>c a r
theorem lC_ {α:Type}{l:List α}{n:Prop}{c:α->List α->Prop}{R:List α->Prop}(h:lC l n c)(h1:n->R [])(h2:∀ a r,c a r->R (a :: r)):R l:=by cases l with | nil=>exact h1 h | cons a r=>exact h2 a r h
noncomputable def l0 {α:Type}(l:List α)(k:Prop):Prop:=lC l k fun _ _=>False
noncomputable def l1 {α:Type}(l:List α)(k:α->Prop):Prop:=lC l False fun a r=>lC r (k a) fun _ _=>False
noncomputable def l2 {α:Type}(l:List α)(k:α->α->Prop):Prop:=lC l False fun a r=>l1 r (k a)
theorem l0_ {α:Type}{l:List α}{k:Prop}(h:l0 l k):l=[] /\ k:=lC_ (R:=fun l=>l=[] /\ k) h (fun h=>⟨rfl,h⟩) fun _ _=>False.elim
theorem l1_ {α:Type}{l:List α}{k:α->Prop}(h:l1 l k):∃ a,l=[a] /\ k a:=lC_ (R:=fun l=>∃ a,l=[a] /\ k a) h False.elim fun a r h=>lC_ (R:=fun r=>∃ a',a :: r=[a'] /\ k a') h (fun h=>⟨a,rfl,h⟩) fun _ _=>False.elim
theorem l2_ {α:Type}{l:List α}{k:α->α->Prop}(h:l2 l k):∃ a b,l=[a,b] /\ k a b:=lC_ (R:=fun l=>∃ a b,l=[a,b] /\ k a b) h False.elim fun a r h=>let ⟨b,e,h⟩:=l1_ h;⟨a,b,by rw [e],h⟩
theorem trB {b:Bool}{P:Prop}(h:tr b P):b=true:=(tr_ h).1
theorem trP {b:Bool}{P:Prop}(h:tr b P):P:=(tr_ h).2
@[elab_as_elim] theorem dIe {d:D}{k:Int->Prop}{R:D->Prop}(h:dI d k)(f:∀ i,k i->R (.int i)):R d:=by refine E12 (dI_ h) fun i hq5=>?_;obtain rfl:=hq5;intro h;exact f i h
@[elab_as_elim] theorem dSe {d:D}{k:LN->Prop}{R:D->Prop}(h:dS d k)(f:∀ i,k i->R (.str i)):R d:=by refine E12 (dS_ h) fun i hq4=>?_;obtain rfl:=hq4;intro h;exact f i h
@[elab_as_elim] theorem dRe {d:D}{k:Nat->Prop}{R:D->Prop}(h:dR d k)(f:∀ i,k i->R (.ref i)):R d:=by refine E12 (dR_ h) fun i hq3=>?_;obtain rfl:=hq3;intro h;exact f i h
@[elab_as_elim] theorem l0e {α:Type}{l:List α}{k:Prop}{R:List α->Prop}(h:l0 l k)(f:k->R []):R l:=by refine E02 (l0_ h) fun hq2=>?_;obtain rfl:=hq2;intro h;exact f h
@[elab_as_elim] theorem l1e {α:Type}{l:List α}{k:α->Prop}{R:List α->Prop}(h:l1 l k)(f:∀ a,k a->R [a]):R l:=by refine E12 (l1_ h) fun a hq1=>?_;obtain rfl:=hq1;intro h;exact f a h
@[elab_as_elim] theorem l2e {α:Type}{l:List α}{k:α->α->Prop}{R:List α->Prop}(h:l2 l k)(f:∀ a b,k a b->R [a,b]):R l:=by refine E22 (l2_ h) fun a b hq0=>?_;obtain rfl:=hq0;intro h;exact f a b h
theorem soe {α:Type}{o:Option α}{k:α->Prop}{R:Prop}(h:so o k)(f:∀ a,o=some a->k a->R):R:=let ⟨a,e,h⟩:=so_ h;f a e h
theorem oLe {led:Led}{i:Nat}{k:LD->Prop}{R:Prop}(h:oL led i k)(f:∀ xs,led[i]?=some (.list xs)->k xs->R):R:=let ⟨a,e,h⟩:=oL_ h;f a e h
theorem oQe {led:Led}{i:Nat}{k:LD->Prop}{R:Prop}(h:oQ led i k)(f:∀ xs,led[i]?=some (.deque xs)->k xs->R):R:=let ⟨a,e,h⟩:=oQ_ h;f a e h
structure X where
 names:List Str
 cells:List (Str × Nat)
 tops:List (Str × D)
 spec:List (Nat × Jc)
 lst:Jc
 all:List (Str × D)
 fz:Option (Nat × LD)
 calm:Bool
 specB:List (Nat × Jc)
noncomputable def noSp:Jc:=fun _ _ _ _ _=>False
noncomputable def X.busy (X:X):Mine.X:={ X with calm:=false,spec:=X.specB,lst:=noSp }
structure Ev where
 ev:Expr->Loc->Led->QE->QD->Prop
 ts:Expr->Loc->Led->QE->(Bool->Loc->Led->Prop)->Prop
 xs:List Stmt->Loc->Led->QE->QF->Prop
noncomputable def Ev.no:Ev:=⟨fun _ _ _ _ _=>False,fun _ _ _ _ _=>False,fun _ _ _ _ _=>False⟩
noncomputable def sz (n:Nat)(P:Prop):Prop:=tr (Nat.ble n 16777216) P
noncomputable def szL (n:Nat)(P:Prop):Prop:=tr (Nat.ble n 100000) P
theorem sz_ {n:Nat}{P:Prop}(h:sz n P):n <= 16777216 /\ P:=let ⟨a,b⟩:=tr_ h;⟨Nat.le_of_ble_eq_true a,b⟩
theorem Wx {n:Nat}{P:Prop}(h:szL n P):n <= 100000 /\ P:=let ⟨a,b⟩:=tr_ h;⟨Nat.le_of_ble_eq_true a,b⟩
theorem szB {n:Nat}{P:Prop}(h:sz n P):n <= 16777216:=(sz_ h).1
theorem szP {n:Nat}{P:Prop}(h:sz n P):P:=(sz_ h).2
theorem Pa {n:Nat}{P:Prop}(h:szL n P):n <= 100000:=(Wx h).1
theorem Oy {n:Nat}{P:Prop}(h:szL n P):P:=(Wx h).2
theorem Kt {n:Nat}{P:Prop}:sz n P ↔ n <= 16777216 /\ P:=⟨sz_,fun h=>by show tr _ P;rw [Nat.ble_eq_true_of_le h.1];exact h.2⟩
theorem Jf {n:Nat}{P:Prop}:szL n P ↔ n <= 100000 /\ P:=⟨Wx,fun h=>by show tr _ P;rw [Nat.ble_eq_true_of_le h.1];exact h.2⟩
noncomputable def has (c:Nat):LN->Bool
 | []=>false
 | a :: l=>ife (Nat.beq c a) true (has c l)
theorem Mg (c:Nat):∀ l:LN,has c l=l.contains c
 | []=>rfl
 | a :: l=>by
  show ife (Nat.beq c a) true (has c l)=_;rw [List.contains_cons,Mg c l]
  cases h:Nat.beq c a with
  | true=>rw [Nat.eq_of_beq_eq_true h];simp [ife]
  | false=>
   have:(c == a)=false:=by
    rw [beq_eq_false_iff_ne];intro e;rw [e,Nat.beq_refl] at h;injection h
   rw [this];rfl
noncomputable def ltI (a b:Int):Bool:=decide (a < b)
noncomputable def leI (a b:Int):Bool:=decide (a <= b)
noncomputable def eqI (a b:Int):Bool:=decide (a=b)
noncomputable def ltS (a b:LN):Bool:=decide (a < b)
noncomputable def addD (a b:D)(led:Led)(Q:D->Led->Prop):Prop:=dC a False no1 (fun x=>dI b fun y=>Q (.int (x + y)) led) (fun x=>dS b fun y=>sz (x.length + y.length) (Q (.str (x++y)) led))
 (fun i=>dR b fun j=>oL led i fun xs=>oL led j fun ys=>szL (xs.length + ys.length) (Q (.ref led.length) (led++[.list (xs++ys)]))) no1
noncomputable def pctW (f:LN)(b:D)(Q:D->Prop):Prop:=match b with
 | .tup ts=>l2 ts fun d e=>dS d fun x=>dI e fun n=>tr (lEqB f pctFmt) (tr (leI 0 n) (tr (ltI n 10000000000) (szL x.length (Q (.str (pctD x n))))))
 | _=>False
noncomputable def binD (op:Operator)(a b:D)(led:Led)(Q:D->Led->Prop):Prop:=match op with
 | .Add=>addD a b led Q
 | .Sub=>dI a fun x=>dI b fun y=>Q (.int (x - y)) led
 | .Mod=>dC a False no1 (fun x=>dI b fun y=>tr (!eqI y 0) (Q (.int (x.fmod y)) led)) (fun f=>pctW f b fun d=>Q d led) no1 no1
 | .Mult=>dR a fun i=>dI b fun n=>oL led i fun xs=>tr (leI 0 n) (tr (leI n 1000) (szL (xs.length * n.toNat) (Q (.ref led.length) (led++[.list (List.replicate n.toNat xs).flatten]))))
 | .FloorDiv=>dI a fun x=>dI b fun y=>tr (!eqI y 0) (tr (Nat.ble y.natAbs 1073741823) (Q (.int (x.fdiv y)) led))
 | .Pow=>dI a fun x=>dI b fun y=>tr (leI 0 y) (tr (leI y 1000000) (tr (Nat.ble x.natAbs 1000000) (Q (.int (x ^ y.toNat)) led)))
 | _=>False
noncomputable def inpD (op:Operator)(a b:D)(led:Led)(Q:D->Led->Prop):Prop:=match op with
 | .Add=>dC a False no1 (fun x=>dI b fun y=>Q (.int (x + y)) led) (fun x=>dS b fun y=>sz (x.length + y.length) (Q (.str (x++y)) led))
  (fun i=>dR b fun j=>oL led i fun xs=>oL led j fun ys=>szL (xs.length + ys.length) (Q (.ref i) (led.set i (.list (xs++ys))))) no1
 | _=>False
noncomputable def inD (x y:LN)(Q:Bool->Prop):Prop:=lC x (Q true) fun c r=>l0 r (Q (has c y))
noncomputable def eqD (a b:D)(led:Led)(Q:Bool->Prop):Prop:=dC a (dC b (Q true) no1 no1 (fun _=>Q false) no1 no1) no1 (fun x=>dI b fun y=>Q (eqI x y)) (fun x=>dC b (Q false) no1 no1 (fun y=>Q (lEqB x y)) no1 no1) (fun i=>dR b fun j=>Same led 20 (.ref i) (.ref j) /\ Q true) fun xs=>dC b False no1 no1 no1 no1 fun ys=>Same led 20 (.tup xs) (.tup ys) /\ Q true
noncomputable def cmpD (op:CmpOp)(a b:D)(led:Led)(Q:Bool->Prop):Prop:=match op with
 | .Eq=>eqD a b led Q
 | .NotEq=>dC a False (fun x=>dC b False (fun y=>Q (ife x (!y) y)) no1 no1 no1 no1) (fun x=>dI b fun y=>Q (!eqI x y)) (fun x=>dS b fun y=>Q (!lEqB x y)) no1 no1
 | .Lt=>dI a fun x=>dI b fun y=>Q (ltI x y)
 | .LtE=>dC a False no1 (fun x=>dI b fun y=>Q (leI x y)) (fun x=>dS b fun y=>Q (!ltS y x)) no1 no1
 | .Gt=>dI a fun x=>dI b fun y=>Q (ltI y x)
 | .GtE=>dI a fun x=>dI b fun y=>Q (leI y x)
 | .In=>dS a fun x=>dC b False no1 no1 (fun y=>inD x y Q) no1 fun t=>so (anyS x t) Q
 | .NotIn=>dC a False no1 (fun x=>(match b with
  | .tup t=>so (anyI x t) fun c=>Q (!c)
  | _=>False)) (fun x=>dS b fun y=>inD x y fun c=>Q (!c)) no1 no1
 | .Is=>(match b with
  | .none=>so (isNone a) Q
  | .bool y=>dC a False (fun x=>Q (x == y)) no1 (fun _=>Q false) no1 no1
  | _=>False)
 | .IsNot=>(match b with
  | .none=>so (isNone a) fun r=>Q (!r)
  | .bi y=>(match a with
   | .bi x=>so (x.same y) fun r=>Q (!r)
   | _=>False)
  | .val y=>(match a with
   | .val x=>tr (has x clsAs) (tr (has y clsAs) (Q (!Nat.beq x y)))
   | _=>False)
  | _=>False)
noncomputable def truD (a:D)(led:Led)(Q:Bool->Prop):Prop:=dC a (Q false) Q (fun i=>Q (!eqI i 0)) (fun s=>lC s (Q false) fun _ _=>Q true)
 (fun i=>oC (nth led i) (fun xs=>szL xs.length (lC xs (Q false) fun _ _=>Q true)) (fun xs=>szL xs.length (lC xs (Q false) fun _ _=>Q true)) (fun _ _=>False) (fun _ _=>False) no1) no1
noncomputable def biD (X:X)(b:Bi)(args:LD)(led:Led)(Ex:Ec->Led->Prop)(Q:D->Led->Prop):Prop:=match b with
 | .deque=>l0 args (Q (.ref led.length) (led++[.deque []]))
 | .len=>l1 args fun d=>dC d False no1 no1 (fun s=>Q (.int s.length) led) (fun i=>oL led i fun xs=>szL xs.length (Q (.int xs.length) led)) no1
 | .chr=>l1 args fun d=>dI d fun i=>tr (leI 0 i) (tr (leI i 1114111) (Q (.str [i.toNat]) led))
 | .ord=>l1 args fun d=>dS d fun s=>l1 s fun c=>Q (.int c) led
 | .str=>l1 args fun d=>dI d fun n=>tr (leI 0 n) (tr (ltI n 10000000000) (Q (.str (intT n)) led))
 | .sum=>tr X.calm <| l1 args fun d=>dR d fun i=>oL led i fun xs=>∃ ns:List Int,xs=ns.map D.int /\ Q (.int ns.sum) led
 | .type=>l1 args fun d=>dC d False no1 (fun _=>Q (.bi .int) led) (fun _=>Q (.bi .str) led) no1 no1
 | .int=>l1 args fun d=>dI d fun i=>Q (.int i) led
 | .isinstance=>l2 args fun d e=>dS d fun _=>tr e.isStrT (Q (.bool true) led)
 | .list=>X.lst args [] led Ex Q
 | _=>False
noncomputable def callD (X:X)(f:D)(args:LD)(kws:List (Str × D))(loc:Loc)(led:Led)(Ex:QE)(Q:QD):Prop:=match f with
 | .val a=>so (assocA X.spec a) fun sp=>sp args kws led (fun c led'=>Ex c loc led') (fun d led'=>Q d loc led')
 | .bi b=>l0 kws (biD X b args led (fun c led'=>Ex c loc led') fun d led'=>Q d loc led')
 | _=>False
inductive MK where
 | lapp | dapp | dappl | dpopl | dpop | onew | ssplit | sjoin | scount | sfind
noncomputable def MK.id:MK->String
 | .lapp => "list.append"
 | .dapp => "collections.deque.append"
 | .dappl => "collections.deque.appendleft"
 | .dpopl => "collections.deque.popleft"
 | .dpop => "collections.deque.pop"
 | .onew => "object.__new__"
 | .ssplit => "str.split"
 | .sjoin => "str.join"
 | .scount => "str.count"
 | .sfind => "str.find"
noncomputable def MK.self:MK->Bool
 | .onew=>false
 | _=>true
noncomputable def lmeths:List (Str × MK):=[(nm [97,112,112,101,110,100],.lapp)]
noncomputable def dmeths:List (Str × MK):=[(nm [97,112,112,101,110,100],.dapp),(nm [97,112,112,101,110,100,108,101,102,116],.dappl),(nm [112,111,112,108,101,102,116],.dpopl),(nm [112,111,112],.dpop)]
noncomputable def smeths:List (Str × MK):=[(nm [115,112,108,105,116],.ssplit),(nm [106,111,105,110],.sjoin),(nm [99,111,117,110,116],.scount),(nm [102,105,110,100],.sfind)]
noncomputable def nmNew:Str:=nm [95,95,110,101,119,95,95]
noncomputable def methK (a:D)(x:Str)(led:Led)(k:MK->Prop):Prop:=match a with
 | .ref i=>oC (nth led i) (fun _=>so (assocS lmeths x) k) (fun _=>so (assocS dmeths x) k) (fun _ _=>False) (fun _ _=>False) no1
 | .str _=>so (assocS smeths x) k
 | .bi .object=>tr (nameEq x nmNew) (k .onew)
 | _=>False
noncomputable def methD (m:MK)(a:D)(args:LD)(led:Led)(Q:D->Led->Prop):Prop:=match m with
 | .lapp=>dR a fun i=>l1 args fun d=>oL led i fun xs=>szL xs.length (Q .none (led.set i (.list (xs++[d]))))
 | .dapp=>dR a fun i=>l1 args fun d=>oQ led i fun xs=>szL xs.length (Q .none (led.set i (.deque (xs++[d]))))
 | .dappl=>dR a fun i=>l1 args fun d=>oQ led i fun xs=>szL xs.length (Q .none (led.set i (.deque (d :: xs))))
 | .dpopl=>dR a fun i=>l0 args (oQ led i fun xs=>lC xs False fun d ys=>szL ys.length (Q d (led.set i (.deque ys))))
 | .dpop=>dR a fun i=>l0 args (oQ led i fun xs=>l1 xs fun d=>Q d (led.set i (.deque [])))
 | .onew=>l1 args fun c=>(match c with
  | .val c=>tr (Nat.beq c (Kd.addr .sio)) (Q (.ref (led.length + 1)) (led++[.ns .sio (nones .sio),.inst .sio led.length]))
  | _=>False)
 | .ssplit=>False
 | .sjoin=>dS a fun s=>l1 args fun d=>dR d fun i=>oL led i fun xs=>∃ ts:List (LN),xs=ts.map D.str /\ (ts.map (·.length)).sum + ts.length * s.length <= 16777216 /\ (joinD s ts).length <= 16777216 /\ Q (.str (joinD s ts)) led
 | .scount=>dS a fun s=>l1 args fun d=>dS d fun y=>Q (.int (countD s y)) led
 | .sfind=>dS a fun s=>lC args False fun d r=>dS d fun y=>lC r False fun e r=>dI e fun i=>lC r (Q (.int (findD s y i)) led) fun g r=>l0 r (dI g fun j=>tr (eqI j s.length) (Q (.int (findD s y i)) led))
noncomputable def evsW (E:Ev):List Expr->Loc->Led->QE->(LD->Loc->Led->Prop)->Prop
 | [],loc,led,_,Q=>Q [] loc led
 | e :: es,loc,led,Ex,Q=>E.ev e loc led Ex fun d loc led=>evsW E es loc led Ex fun ds loc led=>Q (d :: ds) loc led
noncomputable def nameW (X:X)(x:Str)(loc:Loc)(led:Led)(Q:D->Prop):Prop:=
 alt (get X.names loc x) Q (alt (assocS X.cells x) (fun i=>oC (nth led i) no1 no1 (fun _ _=>False) (fun _ _=>False) fun v=>so v Q) (so (assocS X.tops x) Q))
noncomputable def attW (X:X)(a:D)(x:Str)(loc:Loc)(led:Led)(Q:QD):Prop:=dR a fun i=>oI led i fun k _ vals=>
 alt (get k.names vals x) (fun d=>tr (plainD d) (Q d loc led)) (so (assocS k.props x) fun p=>so (assocA X.spec p.2) fun sp=>sp [.ref i] [] led (fun _ _=>False) fun d led'=>tr (plainD d) (Q d loc led'))
noncomputable def setW (a:D)(x:Str)(d:D)(led:Led)(Q:Led->Prop):Prop:=dR a fun i=>oI led i fun k dx vals=>so (put k.names vals x d) fun vals'=>Q (led.set dx (.ns k vals'))
noncomputable def methW (a:D)(x:Str)(led:Led)(Q:Nat->Prop):Prop:=dR a fun i=>oI led i fun k _ vals=>alt (get k.names vals x) no1 (so (assocS k.meths x) Q)
noncomputable def isInst (a:D)(led:Led):Bool:=match a with
 | .ref i=>(match nth led i with
  | some (.inst _ _)=>true
  | _=>false)
 | _=>false
noncomputable def constW (c:Const)(Q:D->Prop):Prop:=match c with
 | .none=>Q .none
 | .bool b=>Q (.bool b)
 | .int i=>Q (.int i)
 | .str x=>tr (Nat.ble x.cps.toList.length 100000) (Q (.str x.cps.toList))
 | _=>False
noncomputable def endW (E:Ev)(e:Option Expr)(loc:Loc)(led:Led)(Ex:QE)(Q:D->Loc->Led->Prop):Prop:=match e with
 | none=>Q .none loc led
 | some e=>E.ev e loc led Ex Q
noncomputable def hiW (u:D)(n:Nat)(Q:Nat->Prop):Prop:=dC u (Q n) no1 (fun j=>tr (leI 0 j) (Q j.toNat)) no1 no1 no1
noncomputable def sliceW (a lo hi:D)(led:Led)(Q:D->Led->Prop):Prop:=dC a False no1 no1 (fun s=>hiW lo 0 fun i=>hiW hi s.length fun j=>Q (.str (cut s i j)) led)
 (fun r=>oL led r fun xs=>szL xs.length (hiW lo 0 fun i=>hiW hi xs.length fun j=>Q (.ref led.length) (led++[.list (cut xs i j)]))) no1
noncomputable def sliceX (X:X)(a lo hi:D)(led:Led)(Q:D->Led->Prop):Prop:=match a with
 | .val v=>so X.fz fun p=>v=p.1 /\ szL p.2.length (hiW lo 0 fun i=>hiW hi p.2.length fun j=>Q (.ref led.length) (led++[.list (cut p.2 i j)]))
 | a=>sliceW a lo hi led Q
noncomputable def itemW (a b:D)(led:Led)(Q:D->Prop):Prop:=dI b fun i=>tr (leI 0 i) (dC a False no1 no1 (fun s=>so (nth s i.toNat) fun c=>Q (.str [c])) (fun r=>oL led r fun xs=>szL xs.length (so (nth xs i.toNat) Q)) fun t=>szL t.length (so (nth t i.toNat) Q))
noncomputable def ob {α β:Type}(o:Option α)(k:α->Option β):Option β:=match o with
 | some a=>k a
 | none=>none
theorem ob_ {α β:Type}{o:Option α}{k:α->Option β}{b:β}(h:ob o k=some b):∃ a,o=some a /\ k a=some b:=by cases o with | some a=>exact ⟨a,rfl,h⟩ | none=>injection h
inductive Vw where
 | name (x:Str) (p:Pos)
 | attr (o:Expr) (n:Str) (p:Pos)
 | call (f:Expr) (as:List Expr) (ks:List Keyword) (p:Pos)
 | cst (c:Const) (k:Nat) (p:Pos)
 | no
noncomputable def vw:Expr->Vw
 | .Name x p=>.name x p
 | .Attribute o n p=>.attr o n p
 | .Call f as ks p=>.call f as ks p
 | .Constant c k p=>.cst c k p
 | _=>.no
noncomputable def Vw.ok (v:Vw)(e:Expr):Prop:=match v with
 | .name x p=>e=.Name x p
 | .attr o n p=>e=.Attribute o n p
 | .call f as ks p=>e=.Call f as ks p
 | .cst c k p=>e=.Constant c k p
 | .no=>True
theorem V7 (e:Expr):(vw e).ok e:=by cases e <;> first | rfl | trivial
noncomputable def Vw.nm:Vw->Option Str
 | .name x _=>some x
 | _=>none
noncomputable def Vw.at:Vw->Option (Expr × Str × Pos)
 | .attr o n p=>some (o,n,p)
 | _=>none
noncomputable def vName (e:Expr):Option Str:=(vw e).nm
noncomputable def vAttr (e:Expr):Option (Expr × Str × Pos):=(vw e).at
noncomputable def vNil {α β:Type}(l:List α)(b:β):Option β:=match l with
 | []=>some b
 | _ :: _=>none
noncomputable def vOne {α:Type}:List α->Option α
 | []=>none
 | a :: r=>vNil r a
noncomputable def Vw.cl:Vw->Option (Expr × List Expr × Pos)
 | .call f as ks p=>vNil ks (f,as,p)
 | _=>none
noncomputable def vCall (e:Expr):Option (Expr × List Expr × Pos):=(vw e).cl
noncomputable def vAsg:Stmt->Option (Expr × Expr)
 | .Assign ts e _=>ob (vOne ts) fun t=>some (t,e)
 | _=>none
theorem RC {e:Expr}{x:Str}(h:vName e=some x):∃ p,e=.Name x p:=by
 have q:=V7 e;have h:(vw e).nm=some x:=h;generalize vw e=v at h q
 cases v with
 | name x p=>obtain rfl:=Option.some.inj h;exact ⟨p,q⟩
 | _=>injection h
theorem UE {e:Expr}{a:Expr × Str × Pos}(h:vAttr e=some a):e=.Attribute a.1 a.2.1 a.2.2:=by
 have q:=V7 e;have h:(vw e).at=some a:=h;generalize vw e=v at h q
 cases v with
 | attr=>obtain rfl:=Option.some.inj h;exact q
 | _=>injection h
theorem Si {α β:Type}{l:List α}{b c:β}(h:vNil l b=some c):l=[] /\ b=c:=by cases l with | nil=>obtain rfl:=Option.some.inj h;exact ⟨rfl,rfl⟩ | cons=>injection h
theorem Qi {α:Type}{l:List α}{a:α}(h:vOne l=some a):l=[a]:=by cases l with | nil=>injection h | cons x r=>rw [(Si h).1,(Si h).2]
theorem Yo {e:Expr}{a:Expr × List Expr × Pos}(h:vCall e=some a):e=.Call a.1 a.2.1 [] a.2.2:=by
 have q:=V7 e;have h:(vw e).cl=some a:=h;generalize vw e=v at h q
 cases v with
 | call f as ks p=>rw [<-(Si h).2];exact (Si h).1 ▸ q
 | _=>injection h
theorem YS {st:Stmt}{a:Expr × Expr}(h:vAsg st=some a):∃ p,st=.Assign [a.1] a.2 p:=by cases st with | Assign ts e p=>refine E12 (ob_ (show ob (vOne ts) _=_ from h)) fun t e1 h=>?_;obtain rfl:=Option.some.inj h;rw [Qi e1];exact ⟨p,rfl⟩ | _=>injection h
noncomputable def vMeth (e:Expr):Option (Expr × Str × List Expr):=ob (vCall e) fun q=>ob (vAttr q.1) fun a=>ife (Nat.beq a.2.2.endLine q.2.2.line) (some (a.1,a.2.1,q.2.1)) none
theorem QB {e:Expr}{m:Expr × Str × List Expr}(h:vMeth e=some m):∃ ap p,e=.Call (.Attribute m.1 m.2.1 ap) m.2.2 [] p /\ ap.endLine=p.line:=by
 refine E12 (ob_ h) fun q f1 h=>?_;refine E12 (ob_ h) fun a f2 h=>?_
 cases hb:Nat.beq a.2.2.endLine q.2.2.line with
 | false=>rw [hb] at h;injection h
 | true=>
  rw [hb] at h;obtain rfl:=Option.some.inj h;exact ⟨_,_,(Yo f1).trans (by rw [UE f2]),Nat.eq_of_beq_eq_true hb⟩
noncomputable def noSuper:Expr->Bool
 | .Call (.Name _ _) [] [] _=>false
 | _=>true
noncomputable def okF (X:X)(f:D):Bool:=match f with
 | .val a=>(assocA X.spec a).isSome
 | .bi _=>true
 | _=>false
noncomputable def evCall (X:X)(E:Ev)(f:Expr)(as:List Expr)(ks:List Keyword)(pos:Pos)(loc:Loc)(led:Led)(Ex:QE)(Q:QD):Prop:=match f with
 | .Attribute o x apos=>l0 ks (tr (noSuper o) (tr (Nat.beq apos.endLine pos.line) (tr (Nat.ble as.length 28) (E.ev o loc led Ex fun a loc led=>ife (isInst a led)
  (methW a x led fun g=>evsW E as loc led Ex fun ds loc led=>callD X (.val g) (a :: ds) [] loc led Ex Q)
  (methK a x led fun m=>evsW E as loc led Ex fun ds loc led=>methD m a ds led fun d led=>Q d loc led)))))
 | .Name y p=>lC ks (E.ev (.Name y p) loc led Ex fun g loc led=>tr (okF X g) (evsW E as loc led Ex fun ds loc led=>callD X g ds [] loc led Ex Q))
  fun k r=>l0 r (so k.arg fun n=>E.ev (.Name y p) loc led Ex fun g loc led=>tr (okF X g) (evsW E as loc led Ex fun ds loc led=>E.ev k.value loc led Ex fun d loc led=>callD X g ds [(n,d)] loc led Ex Q))
 | _=>False
noncomputable def valW (E:Ev)(op:BoolOp)(es:List Expr)(p:Pos)(loc:Loc)(led:Led)(Ex:QE)(Q:QD):Prop:=lC es False fun x rest=>lC rest (E.ev x loc led Ex Q) fun _ _=>E.ev x loc led Ex fun a loc led=>truD a led fun b=>match op with
 | .And=>ife b (E.ev (.BoolOp .And rest p) loc led Ex Q) (Q a loc led)
 | .Or=>ife b (Q a loc led) (E.ev (.BoolOp .Or rest p) loc led Ex Q)
noncomputable def storeW (X:X)(x:Str)(d:D)(loc:Loc)(led:Led)(Q:Loc->Led->Prop):Prop:=
 alt (put X.names loc x d) (fun loc'=>Q loc' led) (so (assocS X.cells x) fun i=>oC (nth led i) no1 no1 (fun _ _=>False) (fun _ _=>False) fun _=>Q loc (led.set i (.cell (some d))))
noncomputable def asg1 (X:X)(E:Ev)(t:Expr)(d:D)(loc:Loc)(led:Led)(Ex:QE)(Q:Loc->Led->Prop):Prop:=match t with
 | .Name x _=>storeW X x d loc led Q
 | .Attribute o x _=>tr (noSuper o) (E.ev o loc led Ex fun a loc led=>setW a x d led fun led=>Q loc led)
 | _=>False
noncomputable def asgL (X:X)(E:Ev):List Expr->LD->Loc->Led->QE->(Loc->Led->Prop)->Prop
 | [],ds,loc,led,_,Q=>l0 ds (Q loc led)
 | t :: ts,ds,loc,led,Ex,Q=>lC ds False fun d ds=>asg1 X E t d loc led Ex fun loc led=>asgL X E ts ds loc led Ex Q
noncomputable def asgW (X:X)(E:Ev)(t:Expr)(d:D)(loc:Loc)(led:Led)(Ex:QE)(Q:Loc->Led->Prop):Prop:=match t with
 | .Tuple ts _ _=>(match d with
  | .tup ds=>tr X.calm (tr (noStar ts) (tr (Nat.beq ts.length ds.length) (asgL X E ts ds loc led Ex Q)))
  | _=>False)
 | t=>asg1 X E t d loc led Ex Q
abbrev WM:QE:=fun _ _ _=>False
noncomputable def tidyW (t:Bool)(n:Nat)(loc:Loc)(led:Led)(keep:Led->Prop)(K:Led->Prop):Prop:=ife t (∃ led',Tidy n loc led led' /\ keep led' /\ K led') (keep led /\ K led)
noncomputable def srcW (a:D)(led:Led)(k:Bool->(Led->Prop)->LD->Prop):Prop:=dC a False no1 no1 (fun s=>k true (fun _=>True) (s.map fun c=>.str [c])) (fun i=>oL led i fun xs=>k true (fun led=>led[i]?=some (.list xs)) xs) (fun t=>k false (fun _=>True) t)
noncomputable def noSetE:Expr->Bool
 | .Set ..=>false
 | _=>true
noncomputable def walkW (X:X)(E:Ev)(target iter:Expr)(loc:Loc)(led:Led)(Ex:QE)(k:Bool->(Led->Prop)->LD->Loc->Led->Prop):Prop:=
 (tr (noSetE iter) (E.ev iter loc led Ex fun a loc led=>srcW a led fun t keep xs=>k t keep xs loc led))
noncomputable def tssW (E:Ev)(ifs:List Expr)(loc:Loc)(led:Led)(Q:Bool->Loc->Led->Prop):Prop:=lC ifs (Q true loc led) fun c r=>l0 r (E.ts c loc led WM Q)
noncomputable def compL (X:X)(E:Ev)(t:Bool)(n k:Nat)(keep:Led->Prop)(target:Expr)(ifs:List Expr)(elt:Expr)(Q:Led->Prop):LD->Loc->Led->Prop
 | [],loc,led=>Q led
 | x :: xs,loc,led=>asgW X E target x loc led WM fun loc led=>tssW E ifs loc led fun ok loc led=>ife ok
  (E.ev elt loc led WM fun d loc led=>oL led k fun ys=>szL ys.length (tidyW t n loc (led.set k (.list (ys++[d]))) keep fun led=>compL X E t n k keep target ifs elt Q xs loc led))
  (tidyW t n loc led keep fun led=>compL X E t n k keep target ifs elt Q xs loc led)
noncomputable def isFreeK:NameKind->Bool
 | .free=>true
 | _=>false
noncomputable def freeC (cells:List (Str × Nat)):List (Str × NameKind)->Option (List (Str × Nat))
 | []=>some []
 | p :: r=>match isFreeK p.2 with
  | true=>(match assocS cells p.1,freeC cells r with
   | some i,some l=>some ((p.1,i) :: l)
   | _,_=>none)
  | false=>freeC cells r
noncomputable def compT (sc:Scope):Bool:=isFunK sc.kind && nodupB (sc.names.map (·.1)) && sc.names.all fun p=>notCell p.2 && !nameEq p.1 (nm [95,95,100,101,98,117,103,95,95])
noncomputable def compX (X:X)(sc:Scope)(cells:List (Str × Nat)):Mine.X:=⟨localsOf sc.names,cells,topsOf X.all sc.names,X.spec,X.lst,X.all,none,X.calm,X.specB⟩
noncomputable def compW (X:X)(E:Ev)(R:Mine.X->Ev)(elt:Expr)(gens:List Comprehension)(sc:Scope)(loc:Loc)(led:Led)(Ex:QE)(Q:QD):Prop:=tr X.calm <| l1 gens fun g=>tr (eqI g.is_async 0) (tr (compT sc) (so (freeC X.cells sc.names) fun cells=>
 walkW X E g.target g.iter loc led Ex fun t keep xs loc led=>keep (led++[.list []]) /\ compL (compX X sc cells) (R (compX X sc cells)) t (led.length + 1) led.length keep g.target g.ifs elt (fun led'=>Q (.ref led.length) loc led') xs ((localsOf sc.names).map fun _=>none) (led++[.list []])))
noncomputable def evW (X:X)(E:Ev)(R:Mine.X->Ev)(e:Expr)(loc:Loc)(led:Led)(Ex:QE)(Q:QD):Prop:=match e with
 | .Constant c _ _=>constW c fun d=>Q d loc led
 | .Name x _=>nameW X x loc led fun d=>Q d loc led
 | .BinOp l op r _=>E.ev l loc led Ex fun a loc led=>E.ev r loc led Ex fun b loc led=>binD op a b led fun d led=>Q d loc led
 | .BoolOp op es p=>valW E op es p loc led Ex Q
 | .ListComp elt gens sc _=>compW X E R elt gens sc loc led Ex Q
 | .UnaryOp op e _=>(match op with
  | .USub=>E.ev e loc led Ex fun a loc led=>dI a fun i=>Q (.int (-i)) loc led
  | _=>False)
 | .IfExp t b o _=>E.ts t loc led Ex fun c loc led=>ife c (E.ev b loc led Ex Q) (E.ev o loc led Ex Q)
 | .Compare l ops rs _=>l1 ops fun op=>l1 rs fun r=>tr (!behindInMarks op r) (E.ev l loc led Ex fun a loc led=>E.ev r loc led Ex fun b loc led=>cmpD op a b led fun c=>Q (.bool c) loc led)
 | .Attribute o x _=>tr (noSuper o) (E.ev o loc led Ex fun a loc led=>attW X a x loc led Q)
 | .Subscript o i _=>(match i with
  | .Slice lo hi none _=>E.ev o loc led Ex fun a loc led=>endW E lo loc led Ex fun l loc led=>endW E hi loc led Ex fun u loc led=>sliceX X a l u led fun d led=>Q d loc led
  | .Slice none none (some st) _=>E.ev o loc led Ex fun a loc led=>dR a fun i=>oL led i fun xs=>szL xs.length (E.ev st loc led Ex fun d loc led=>dI d fun k=>tr (eqI k (-1)) (nth led i=some (.list xs) /\ Q (.ref led.length) loc (led++[.list xs.reverse])))
  | .Slice _ _ _ _=>False
  | i=>E.ev o loc led Ex fun a loc led=>E.ev i loc led Ex fun b loc led=>itemW a b led fun d=>Q d loc led)
 | .Tuple es _ _=>tr (noStar es) (tr (Nat.ble es.length 1000) (evsW E es loc led Ex fun ds loc led=>Q (.tup ds) loc led))
 | .List es _=>tr (noStar es) (tr (Nat.ble es.length 1000) (evsW E es loc led Ex fun ds loc led=>Q (.ref led.length) loc (led++[.list ds])))
 | .Call f as ks pos=>tr (noStar as) (evCall X E f as ks pos loc led Ex Q)
 | _=>False
noncomputable def boolW (E:Ev)(op:BoolOp)(es:List Expr)(p:Pos)(loc:Loc)(led:Led)(Ex:QE)(Q:Bool->Loc->Led->Prop):Prop:=lC es False fun x rest=>lC rest (E.ts x loc led Ex Q) fun _ _=>match op with
 | .And=>E.ts x loc led Ex fun b loc led=>ife b (E.ts (.BoolOp .And rest p) loc led Ex Q) (Q false loc led)
 | .Or=>E.ts x loc led Ex fun b loc led=>ife b (Q true loc led) (E.ts (.BoolOp .Or rest p) loc led Ex Q)
noncomputable def isTest:Expr->Bool
 | .UnaryOp .Not _ _=>true
 | .BoolOp ..=>true
 | .IfExp ..=>true
 | .Compare ..=>true
 | _=>false
noncomputable def testW (E:Ev)(e:Expr)(loc:Loc)(led:Led)(Ex:QE)(Q:Bool->Loc->Led->Prop):Prop:=match e with
 | .UnaryOp .Not x _=>E.ts x loc led Ex fun b loc led=>ife b (Q false loc led) (Q true loc led)
 | .BoolOp op es p=>boolW E op es p loc led Ex Q
 | .Compare l ops rs _=>lC ops False fun op ops=>lC rs False fun r rs=>lC ops (l0 rs (tr (!behindInMarks op r) (E.ev l loc led Ex fun a loc led=>E.ev r loc led Ex fun b loc led=>cmpD op a b led fun c=>Q c loc led)))
  fun op2 ops=>l0 ops (l1 rs fun r2=>tr (!behindInMarks op2 r2) (E.ev l loc led Ex fun a loc led=>E.ev r loc led Ex fun b loc led=>cmpD op a b led fun c=>ife c (E.ev r2 loc led Ex fun d loc led=>cmpD op2 b d led fun c=>Q c loc led) (Q false loc led)))
 | _=>False
noncomputable def tsW (E:Ev)(ev:Expr->Loc->Led->QE->QD->Prop)(e:Expr)(loc:Loc)(led:Led)(Ex:QE)(Q:Bool->Loc->Led->Prop):Prop:=
 ife (isTest e) (testW E e loc led Ex Q) (ev e loc led Ex fun a loc led=>truD a led fun b=>Q b loc led)
noncomputable def seqW (E:Ev)(rest:List Stmt)(Ex:QE)(Q:QF)(fl:Fl)(loc:Loc)(led:Led):Prop:=match fl with
 | .next=>E.xs rest loc led Ex Q
 | .brk=>Q .brk loc led
 | .cont=>Q .cont loc led
 | .ret d=>Q (.ret d) loc led
noncomputable def loopW (I:Loc->Led->Prop)(Q:QF)(fl:Fl)(loc:Loc)(led:Led):Prop:=match fl with
 | .next=>I loc led
 | .cont=>I loc led
 | .brk=>Q .next loc led
 | .ret d=>Q (.ret d) loc led
noncomputable def whW (E:Ev)(k:Nat)(test:Expr)(body orelse:List Stmt)(Ex:QE)(Q:QF):Nat->Loc->Led->Prop
 | 0,_,_=>False
 | n + 1,loc,led=>E.ts test loc led Ex fun b loc led=>ife b (E.xs body loc led Ex (loopW (fun loc led=>∃ led',Tidy k loc led led' /\ whW E k test body orelse Ex Q n loc led') Q)) (E.xs orelse loc led Ex Q)
noncomputable def whileW (E:Ev)(test:Expr)(body orelse:List Stmt)(loc:Loc)(led:Led)(Ex:QE)(Q:QF):Prop:=∃ n,whW E led.length test body orelse Ex Q n loc led
noncomputable def forL (X:X)(E:Ev)(t:Bool)(n:Nat)(keep:Led->Prop)(target:Expr)(body orelse:List Stmt)(Ex:QE)(Q:QF):LD->Loc->Led->Prop
 | [],loc,led=>E.xs orelse loc led Ex Q
 | x :: xs,loc,led=>asgW X E target x loc led Ex fun loc led=>E.xs body loc led Ex (loopW (fun loc led=>tidyW t n loc led keep fun led=>forL X E t n keep target body orelse Ex Q xs loc led) Q)
noncomputable def forW (X:X)(E:Ev)(target iter:Expr)(body orelse:List Stmt)(loc:Loc)(led:Led)(Ex:QE)(Q:QF):Prop:=
 tr X.calm <| tr (noSetE iter) (E.ev iter loc led Ex fun a loc led=>srcW a led fun t keep xs=>keep led /\ forL X E t led.length keep target body orelse Ex Q xs loc led)
noncomputable def noComp:Expr->Bool
 | .ListComp .. | .SetComp .. | .DictComp ..=>false
 | _=>true
noncomputable def noTup:Expr->Bool
 | .Tuple ..=>false
 | _=>true
noncomputable def asnW (X:X)(E:Ev)(t:Expr)(e:Expr)(loc:Loc)(led:Led)(Ex:QE)(Q:QF):Prop:=match t with
 | .Name x _=>E.ev e loc led Ex fun d loc led=>storeW X x d loc led (Q .next)
 | .Tuple es k p=>tr (noTup e) (E.ev e loc led Ex fun d loc led=>asgW X E (.Tuple es k p) d loc led Ex (Q .next))
 | .Attribute o x _=>tr (noSuper o) (E.ev e loc led Ex fun d loc led=>E.ev o loc led Ex fun a loc led=>setW a x d led fun led=>Q .next loc led)
 | _=>False
noncomputable def augW (X:X)(E:Ev)(t:Expr)(op:Operator)(e:Expr)(loc:Loc)(led:Led)(Ex:QE)(Q:QF):Prop:=match t with
 | .Name x _=>so (get X.names loc x) fun a=>E.ev e loc led Ex fun b loc led=>inpD op a b led fun d led=>so (put X.names loc x d) fun loc=>Q .next loc led
 | .Attribute o x _=>tr (noSuper o) (E.ev o loc led Ex fun a loc led=>attW X a x loc led fun old loc led=>E.ev e loc led Ex fun b loc led=>inpD op old b led fun d led=>setW a x d led fun led=>Q .next loc led)
 | _=>False
noncomputable def isVE:D->Bool
 | .bi .ValueError=>true
 | _=>false
noncomputable def isSI:D->Bool
 | .bi .StopIteration=>true
 | _=>false
noncomputable def raiseW (X:X)(E:Ev)(e:Expr)(loc:Loc)(led:Led)(Ex:QE):Prop:=tr X.calm <| match e with
 | .Call (.Name x p) as [] _=>tr (noStar as) (tr (Nat.ble as.length 1000) (E.ev (.Name x p) loc led Ex fun f loc led=>tr (isVE f) (evsW E as loc led Ex fun _ loc led=>Ex .value loc led)))
 | .Name x _=>so (assocS X.tops x) fun d=>tr (isSI d) (Ex .stop loc led)
 | _=>False
noncomputable def tryK (E:Ev)(o:List Stmt)(Ex:QE)(Q:QF)(fl:Fl)(loc:Loc)(led:Led):Prop:=match fl with
 | .next=>E.xs o loc led Ex Q
 | .brk=>Q .brk loc led
 | .cont=>Q .cont loc led
 | .ret d=>Q (.ret d) loc led
noncomputable def isVEo:Option D->Bool
 | some (.bi .ValueError)=>true
 | _=>false
noncomputable def vH:ExceptHandler->Option (Expr × List Stmt)
 | .ExceptHandler t n b _=>(match t with
  | none=>none
  | some e=>(match n with
   | none=>some (e,b)
   | some _=>none))
noncomputable def vCons {α:Type}:List α->Option (α × List α)
 | []=>none
 | a :: r=>some (a,r)
theorem UR {α:Type}{l:List α}{a:α × List α}(h:vCons l=some a):l=a.1 :: a.2:=by cases l with | nil=>injection h | cons=>obtain rfl:=Option.some.inj h;rfl
noncomputable def catchOf (X:X)(hs:List ExceptHandler):Option (List Stmt):=ob (vOne hs) fun h=>ob (vH h) fun p=>ob (vName p.1) fun x=>ob (vCons p.2) fun q=>ife (isVEo (assocS X.tops x)) (some (q.1 :: q.2)) none
noncomputable def catchW (B:Ev)(s:List Stmt)(Q:QF):QE:=fun c loc led=>match c with
 | .value=>B.xs s loc led WM Q
 | .stop=>False
noncomputable def exW (X:X)(E:Ev)(R:Mine.X->Ev)(st:Stmt)(loc:Loc)(led:Led)(Ex:QE)(Q:QF):Prop:=match st with
 | .Pass _=>Q .next loc led
 | .Break _=>Q .brk loc led
 | .Continue _=>Q .cont loc led
 | .Return e _=>(match e with
  | none=>Q (.ret .none) loc led
  | some e=>E.ev e loc led Ex fun d loc led=>Q (.ret d) loc led)
 | .Expr e _=>tr (noComp e) (E.ev e loc led Ex fun _ loc led=>Q .next loc led)
 | .If t b o _=>E.ts t loc led Ex fun c loc led=>ife c (E.xs b loc led Ex Q) (E.xs o loc led Ex Q)
 | .While t b o _=>whileW E t b o loc led Ex Q
 | .For t i b o _=>forW X E t i b o loc led Ex Q
 | .Try b hs o f _=>l0 f (alt (catchOf X hs) (fun s=>E.xs b loc led (catchW (R X.busy) s Q) (tryK E o Ex Q)) (lC hs False fun _ _=>E.xs b loc led WM (tryK E o Ex Q)))
 | .Assign ts e _=>l1 ts fun t=>tr (noComp e) (asnW X E t e loc led Ex Q)
 | .AugAssign t op e _=>augW X E t op e loc led Ex Q
 | .Raise (some e) none _=>raiseW X E e loc led Ex
 | _=>False
noncomputable def nmMt:Str:=nm [109,97,107,101,116,114,97,110,115]
noncomputable def nmFk:Str:=nm [102,114,111,109,107,101,121,115]
noncomputable def nmTr:Str:=nm [116,114,97,110,115,108,97,116,101]
noncomputable def isTr1W (t:Str)(m1 m2:Expr × Str × List Expr)(arg:Expr):Option (Str × Expr × Expr × Expr):=
 ife (nameEq m1.2.1 nmMt && (nameEq m2.2.1 nmFk && (noSuper m1.1 && (noSuper m2.1 && noStar [arg])))) (some (t,m1.1,m2.1,arg)) none
noncomputable def isTr1M (t:Str)(m1:Expr × Str × List Expr):Option (Str × Expr × Expr × Expr):=ob (vOne m1.2.2) fun e=>ob (vMeth e) fun m2=>ob (vOne m2.2.2) (isTr1W t m1 m2)
noncomputable def isTr1 (st:Stmt):Option (Str × Expr × Expr × Expr):=ob (vAsg st) fun s=>ob (vName s.1) fun t=>ob (vMeth s.2) (isTr1M t)
noncomputable def isTr2W (t:Str)(a3:Expr × Str × Pos)(m:Expr × Str × List Expr)(t':Str):Option (Expr × Str × Expr):=
 ife (nameEq m.2.1 nmTr && (nameEq t' t && (noSuper a3.1 && noSuper m.1))) (some (a3.1,a3.2.1,m.1)) none
noncomputable def isTr2 (t:Str)(st:Stmt):Option (Expr × Str × Expr):=
 ob (vAsg st) fun s=>ob (vAttr s.1) fun a3=>ob (vMeth s.2) fun m=>ob (vOne m.2.2) fun e=>ob (vName e) (isTr2W t a3 m)
noncomputable def isTr (st:Stmt)(rest:List Stmt):Option ((Str × Expr × Expr × Expr) × (Expr × Str × Expr) × List Stmt):=
 ob (isTr1 st) fun a=>ob (vCons rest) fun r=>ob (isTr2 a.1 r.1) fun b=>some (a,b,r.2)
noncomputable def isDictD:D->Bool
 | .bi .dict=>true
 | _=>false
noncomputable def nodupN:LN->Bool
 | []=>true
 | a :: l=>ife (has a l) false (nodupN l)
noncomputable def outOf (p x:LN):LN:=x.filter fun c=>!has c p
section
variable (X:X)(E:Ev)(a:Str × Expr × Expr × Expr)(b:Expr × Str × Expr)(rest:List Stmt)(Ex:QE)(Q:QF)
noncomputable def trE (p x:LN):D->Loc->Led->Prop:=fun o loc led=>setW o b.2.1 (.str (outOf p x)) led fun led=>E.xs rest loc led Ex Q
noncomputable def trD' (p:LN)(v:Value)(x:LN)(loc:Loc)(led:Led):Prop:=lC x False fun _ _=>tr (Nat.ble x.length 1000) (get X.names loc a.1=some (.any v) /\ E.ev b.1 loc led Ex (trE E b rest Ex Q p x))
noncomputable def trD (p:LN)(v:Value):D->Loc->Led->Prop:=fun d loc led=>dS d fun x=>trD' X E a b rest Ex Q p v x loc led
noncomputable def trC' (p:LN)(loc:Loc)(led:Led):Prop:=∀ v:Value,so (put X.names loc a.1 (.any v)) fun loc=>E.ev b.2.2 loc led Ex (trD X E a b rest Ex Q p v)
noncomputable def trC:D->Loc->Led->Prop:=fun d loc led=>dS d fun p=>tr (nodupN p) (tr (Nat.ble p.length 1000) (trC' X E a b rest Ex Q p loc led))
noncomputable def trB':D->Loc->Led->Prop:=fun d loc led=>tr (isDictD d) (E.ev a.2.2.2 loc led Ex (trC X E a b rest Ex Q))
noncomputable def trA:D->Loc->Led->Prop:=fun d loc led=>dS d fun _=>E.ev a.2.2.1 loc led Ex (trB' X E a b rest Ex Q)
noncomputable def transW (loc:Loc)(led:Led):Prop:=tr X.calm <| E.ev a.2.1 loc led Ex (trA X E a b rest Ex Q)
end
noncomputable def xsW (X:X)(E:Ev)(R:Mine.X->Ev)(l:List Stmt)(loc:Loc)(led:Led)(Ex:QE)(Q:QF):Prop:=lC l (Q .next loc led) fun st rest=>alt (isTr st rest) (fun p=>transW X E p.1 p.2.1 p.2.2 Ex Q loc led) (exW X E R st loc led Ex (seqW E rest Ex Q))
noncomputable def Ev.up (X:X)(E:Ev)(R:Mine.X->Ev):Ev:=⟨evW X E R,tsW E E.ev,xsW X E R⟩
noncomputable def run:Nat->X->Ev
 | 0,_=>.no
 | n + 1,X=>.up X (run n X) (run n)
structure KOk (K:Frag):Prop where
 cls:∀ k:Kd,N7 K k.addr k.names
 meth:∀ (k:Kd) (x:Str) (f:Nat),(x,f) ∈ k.meths->findIn K (.ref k.addr) x=some (some (.ref f)) /\ typeIn K (.ref f)=some (.type "function") /\ keepIn K (.ref f)=true
 prop:∀ (k:Kd) (x:Str) (p f:Nat),(x,(p,f)) ∈ k.props->M9 K k.addr x p f
 new:XW K (Kd.addr .sio)
 obj:Oh K "object" (nm [95,95,110,101,119,95,95]) (.builtin "object.__new__")
 len:∀ k:Kd,k.names.length <= 1000
 isc:∀ a,has a clsAs=true->(clsIn K a).isSome=true
abbrev EE (Ex:QE):String->St->Prop:=fun cls σ'=>∃ c,cls=Ec.name c /\ Ex c σ'.loc σ'.led
abbrev QQ {β:Type}(Q:β->Loc->Led->Prop):β->St->Prop:=fun b σ'=>Q b σ'.loc σ'.led
abbrev SE (loc:Loc)(Ex:Ec->Led->Prop):String->St->Prop:=fun cls σ'=>σ'.loc=loc /\ ∃ c,cls=Ec.name c /\ Ex c σ'.led
abbrev SQ (loc:Loc)(Q:D->Led->Prop):D->St->Prop:=fun d σ'=>σ'.loc=loc /\ Q d σ'.led
noncomputable def SpecIn (Γ:Cx)(f:D)(sp:Jc):Prop:=∀ args kws led Ex Q loc Z,sp args kws led Ex Q->CalC Γ (SE loc Ex) f args kws ⟨loc,led,Z⟩ (SQ loc Q)
noncomputable def SpecOkC (c:Bool)(K:Frag)(r:Nat)(f:D)(sp:Jc):Prop:=∀ Γ,Γ.K=K->r <= Γ.room->(c=true->Mw Γ)->SpecIn Γ f sp
abbrev Ja (K:Frag)(r:Nat)(f:D)(sp:Jc):Prop:=SpecOkC true K r f sp
noncomputable def SpecCal (Γ:Cx)(f:D)(sp:Jc):Prop:=∀ args kws led Ex Q loc Z,sp args kws led Ex Q->Cal Γ (SE loc Ex) f args kws ⟨loc,led,Z⟩ (SQ loc Q)
noncomputable def SpecCalOkC (c:Bool)(K:Frag)(r:Nat)(f:D)(sp:Jc):Prop:=∀ Γ,Γ.K=K->r <= Γ.room->(c=true->Mw Γ)->SpecCal Γ f sp
abbrev Jr (K:Frag)(r:Nat)(f:D)(sp:Jc):Prop:=SpecCalOkC true K r f sp
structure Good (X:X)(Γ:Cx):Prop where
 names:Γ.names=X.names
 tops:∀ x d,(x,d) ∈ X.tops->Γ.env.kindOf x=some .globalImplicit /\ Top Γ.K x d
 K:KOk Γ.K
 spec:∃ r,r + 1 < Γ.room /\ (∀ a sp,(a,sp) ∈ X.spec->SpecOkC X.calm Γ.K r (.val a) sp /\ keepIn Γ.K (.ref a)=true)
 specB:∃ r,r + 1 < Γ.room /\ (∀ a sp,(a,sp) ∈ X.specB->SpecOkC false Γ.K r (.val a) sp /\ keepIn Γ.K (.ref a)=true)
 calm:X.calm=true->Mw Γ
 lst:∃ r,r < Γ.room /\ SpecCalOkC X.calm Γ.K r (.bi .list) X.lst
 all:∀ x d,(x,d) ∈ X.all->Top Γ.K x d
 fk:Γ.env.scope.kind=.function
 fz:∀ p,X.fz=some p->FzAt Γ.base p.1 p.2
noncomputable def Cl (X:X)(Γ:Cx)(Z:Zs):Prop:=∀ x i,(x,i) ∈ X.cells->∃ c,KP Γ x c /\ Z.ad[i]?=some c
theorem Cl.mono {X:X}{Γ:Cx}{Z Z':Zs}(z:Zle Z Z')(h:Cl X Γ Z):Cl X Γ Z':=fun x i hi=>let ⟨c,a,b⟩:=h x i hi;⟨c,a,z.ad b⟩
section
variable {Γ:Cx}{E:String->St->Prop}{loc:Loc}{led:Led}{Z:Zs}
theorem go {α β:Type}{t:Sem α}{R:Zs->β->α->Prop}{Q:β->Loc->Led->Prop}{Q':β->St->Prop}(h:Wp Γ E t R ⟨loc,led,Z⟩ (QQ Q))(k:∀ b loc led Z',Zle Z Z'->Q b loc led->Q' b ⟨loc,led,Z'⟩):Wp Γ E t R ⟨loc,led,Z⟩ Q':=
 Wp.mono h fun b σ' z q=>k b σ'.loc σ'.led σ'.Z z q
theorem Wp.exc {α β:Type}{E':String->St->Prop}{t:Sem α}{R:Zs->β->α->Prop}{σ:St}{Q:β->St->Prop}(h:Wp Γ E t R σ Q)(k:∀ cls σ',E cls σ'->E' cls σ'):Wp Γ E' t R σ Q:=
 fun s r=>wpAny_mono (h s r) (fun _ _ x=>x) fun _ _ ⟨a,cls,σ',e,z,r',x,q⟩=>⟨a,cls,σ',e,z,r',x,k _ _ q⟩
theorem Wp.excZ {α β:Type}{E':String->St->Prop}{t:Sem α}{R:Zs->β->α->Prop}{σ:St}{Q:β->St->Prop}(h:Wp Γ E t R σ Q)(k:∀ cls σ',Zle σ.Z σ'.Z->E cls σ'->E' cls σ'):Wp Γ E' t R σ Q:=
 fun s r=>wpAny_mono (h s r) (fun _ _ x=>x) fun _ _ ⟨a,cls,σ',e,z,r',x,q⟩=>⟨a,cls,σ',e,z,r',x,k _ _ z q⟩
theorem CalC.mono {E':String->St->Prop}{f:D}{args:LD}{kws:List (Str × D)}{σ:St}{Q Q':D->St->Prop}(h:CalC Γ E f args kws σ Q)(hq:∀ d σ',Q d σ'->Q' d σ')(k:∀ cls σ',E cls σ'->E' cls σ'):CalC Γ E' f args kws σ Q':=
 fun vf vs ks s a b c d r=>codeAny_mono (h vf vs ks s a b c d r) fun r s' x=>by
  cases r with
  | error e=>obtain ⟨a,cls,σ',e,z,r',x,q⟩:=x;exact ⟨a,cls,σ',e,z,r',x,k _ _ q⟩
  | ok f=>cases f with
   | ret v=>obtain ⟨b,σ',z,r',i,q⟩:=x;exact ⟨b,σ',z,r',i,hq _ _ q⟩
   | _=>exact x
theorem X4 {a b:D}{Q:QD}(h:addD a b led fun d led=>Q d loc led):Bin Γ E .Add a b ⟨loc,led,Z⟩ (QQ Q):=by
 refine dC_ (R:=fun a=>Bin Γ E .Add a b ⟨loc,led,Z⟩ (QQ Q)) h False.elim (fun _=>False.elim) (fun x h=>?_) (fun x h=>?_) (fun i h=>?_) fun _=>False.elim
 · refine dIe h fun y h=>?_;exact Os h
 · refine dSe h fun y h1=>?_;exact Oi (szB h1) (szP h1)
 · refine dRe h fun j h1=>?_;refine oLe h1 fun xs e1 h=>?_;refine oLe h fun ys e2 h=>?_;exact Nl e1 e2 (Pa h) fun _=>(Oy h)
theorem ne0 {y:Int}(h:(!eqI y 0)=true):y ≠ 0:=fun e=>by rw [e] at h;injection h
theorem X1 {op:Operator}{a b:D}{Q:QD}(h:binD op a b led fun d led=>Q d loc led):Bin Γ E op a b ⟨loc,led,Z⟩ (QQ Q):=by
 cases op with
 | Add=>exact X4 h
 | Sub=>refine dIe h fun x h1=>?_;refine dIe h1 fun y h2=>?_;exact Oq h2
 | Mod=>
  refine dC_ (R:=fun a=>Bin Γ E .Mod a b ⟨loc,led,Z⟩ (QQ Q)) h False.elim (fun _=>False.elim) (fun x h=>?_) (fun x h=>?_) (fun _=>False.elim) fun _=>False.elim
  · refine dIe h fun y h2=>?_;exact Vp (ne0 (trB h2)) (trP h2)
  · cases b with
    | tup ts=>
     have h:l2 ts fun d e=>dS d fun y=>dI e fun n=>tr (lEqB x pctFmt) (tr (leI 0 n) (tr (ltI n 10000000000) (szL y.length (Q (.str (pctD y n)) loc led)))):=h;refine l2e h fun d e h1=>?_;refine dSe h1 fun y h2=>?_;refine dIe h2 fun n h3=>?_;exact Ww (Jn.mp (trB h3)) (of_decide_eq_true (trB (trP h3))) (of_decide_eq_true (trB (trP (trP h3)))) (Pa (trP (trP (trP h3)))) (Oy (trP (trP (trP h3))))
    | _=>exact h.elim
 | Mult=>refine dRe h fun i h1=>?_;refine dIe h1 fun n h2=>?_;refine oLe h2 fun xs e h3=>?_;exact Nk e (of_decide_eq_true (trB h3)) (Pa (trP (trP h3))) (of_decide_eq_true (trB (trP h3))) fun _=>Oy (trP (trP h3))
 | FloorDiv=>refine dIe h fun x h1=>?_;refine dIe h1 fun y h2=>?_;exact Nu (ne0 (trB h2)) (Nat.lt_succ_of_le (Nat.le_of_ble_eq_true (trB (trP h2)))) (trP (trP h2))
 | Pow=>refine dIe h fun x h1=>?_;refine dIe h1 fun y h2=>?_;exact Wi (of_decide_eq_true (trB h2)) (of_decide_eq_true (trB (trP h2))) (Nat.lt_of_le_of_lt (Nat.le_of_ble_eq_true (trB (trP (trP h2)))) (by decide)) (trP (trP (trP h2)))
 | _=>exact h.elim
theorem UB {op:Operator}{a b:D}{Q:QD}(h:inpD op a b led fun d led=>Q d loc led):Inp Γ E op a b ⟨loc,led,Z⟩ (QQ Q):=by
 cases op with
 | Add=>
  refine dC_ (R:=fun a=>Inp Γ E .Add a b ⟨loc,led,Z⟩ (QQ Q)) h False.elim (fun _=>False.elim) (fun x h=>?_) (fun x h=>?_) (fun i h=>?_) fun _=>False.elim
  · refine dIe h fun y h=>?_;exact Op h
  · refine dSe h fun y h1=>?_;exact Oa (szB h1) (szP h1)
  · refine dRe h fun j h1=>?_;refine oLe h1 fun xs e1 h=>?_;refine oLe h fun ys e2 h=>?_;exact Nm e1 e2 (Pa h) (Oy h)
 | _=>exact h.elim
theorem OS (x y:LN):lEqB x y=(x == y):=by
 cases h:lEqB x y with
 | true=>rw [Jn.mp h];exact (beq_self_eq_true _).symm
 | false=>exact (beq_eq_false_iff_ne.mpr fun e=>by rw [Jn.mpr e] at h;injection h).symm
theorem Oo (x y:Int):eqI x y=(x == y):=by
 unfold eqI;by_cases h:x=y
 · subst h;rw [decide_eq_true rfl];exact (beq_self_eq_true _).symm
 · rw [decide_eq_false h];exact (beq_eq_false_iff_ne.mpr h).symm
theorem Qw (l:LN):(!(Builtin.Str.occurrences ⟨l.toArray⟩ ⟨([]:LN).toArray⟩ 0 (⟨l.toArray⟩:Str).length 1).isEmpty)=true:=
 (StrLaws.found_iff _ _).mpr ⟨0,Nat.zero_le _,by rw [StrLaws.subAt_eq];rfl⟩
theorem PR {l:LN}{Q:D->St->Prop}{σ:St}(h:Q (.bool true) σ):Cmp Γ E .In (.str []) (.str l) σ Q:=by
 intro va vb ha hb s r;(first | obtain rfl:=ha.inv | obtain ⟨_,rfl⟩:=ha.inv | refine E12 (ha.inv) fun _ hq3=>?_;obtain rfl:=hq3;intro _ | cases ha);(first | obtain rfl:=hb.inv | obtain ⟨_,rfl⟩:=hb.inv | refine E12 (hb.inv) fun _ hq2=>?_;obtain rfl:=hq2;intro _ | cases hb);exact P.in_str ⟨_,σ,Zle.rfl,r,.bool _,by rw [Qw];exact h⟩
theorem MV {l:LN}{Q:D->St->Prop}{σ:St}(h:Q (.bool false) σ):Cmp Γ E .NotIn (.str []) (.str l) σ Q:=by
 intro va vb ha hb s r;(first | obtain rfl:=ha.inv | obtain ⟨_,rfl⟩:=ha.inv | refine E12 (ha.inv) fun _ hq1=>?_;obtain rfl:=hq1;intro _ | cases ha);(first | obtain rfl:=hb.inv | obtain ⟨_,rfl⟩:=hb.inv | refine E12 (hb.inv) fun _ hq0=>?_;obtain rfl:=hq0;intro _ | cases hb);exact P.notIn_str ⟨_,σ,Zle.rfl,r,.bool _,by rw [Qw];exact h⟩
theorem X9 (x y:Nat):(x != y)=!Nat.beq x y:=by
 cases q:Nat.beq x y with
 | true=>rw [Nat.eq_of_beq_eq_true q];exact bne_self_eq_false _
 | false=>exact bne_iff_ne.mpr (Nat.ne_of_beq_eq_false q)
abbrev CQ (Q:Bool->Loc->Led->Prop):D->St->Prop:=fun d σ'=>∃ c,d=.bool c /\ Q c σ'.loc σ'.led
theorem Jda {a b:D}{Q:Bool->Loc->Led->Prop}(h:eqD a b led fun c=>Q c loc led):Cmp Γ E .Eq a b ⟨loc,led,Z⟩ (CQ Q):=by
 refine dC_ (R:=fun a=>Cmp Γ E .Eq a b ⟨loc,led,Z⟩ (CQ Q)) h (fun h=>?_) (fun _=>False.elim) (fun x h=>?_) (fun x h=>?_) (fun i h=>?_) fun xs h=>?_
 · exact dC_ (R:=fun b=>Cmp Γ E .Eq .none b ⟨loc,led,Z⟩ (CQ Q)) h (fun h=>La ⟨_,rfl,h⟩) (fun _=>False.elim) (fun _=>False.elim) (fun _ h=>Lr ⟨_,rfl,h⟩) (fun _=>False.elim) fun _=>False.elim
 · refine dIe h fun y h=>?_;exact PX ⟨_,rfl,Oo x y ▸ h⟩
 · exact dC_ (R:=fun b=>Cmp Γ E .Eq (.str x) b ⟨loc,led,Z⟩ (CQ Q)) h (fun h=>Lm ⟨_,rfl,h⟩) (fun _=>False.elim) (fun _=>False.elim) (fun y h=>Pu ⟨_,rfl,OS x y ▸ h⟩) (fun _=>False.elim) fun _=>False.elim
 · refine dRe h fun j h1=>?_;exact Sn h1.1 ⟨_,rfl,h1.2⟩
 · exact dC_ (R:=fun b=>Cmp Γ E .Eq (.tup xs) b ⟨loc,led,Z⟩ (CQ Q)) h False.elim (fun _=>False.elim) (fun _=>False.elim) (fun _=>False.elim) (fun _=>False.elim) fun ys h=>Q8 h.1 ⟨_,rfl,h.2⟩
theorem Jb2 {a b:D}{Q:Bool->Loc->Led->Prop}(h:dS a fun x=>dC b False no1 no1 (fun y=>inD x y fun c=>Q c loc led) no1 fun t=>so (anyS x t) fun c=>Q c loc led):Cmp Γ E .In a b ⟨loc,led,Z⟩ (CQ Q):=by
 refine dSe h fun x h1=>?_;refine dC_ (R:=fun b=>Cmp Γ E .In (.str x) b ⟨loc,led,Z⟩ (CQ Q)) h1 False.elim (fun _=>False.elim) (fun _=>False.elim) (fun y h2=>?_) (fun _=>False.elim) fun t h2=>by
  refine soe h2 fun c e h=>?_;exact Pt e ⟨_,rfl,h⟩
 refine lC_ (R:=fun x=>Cmp Γ E .In (.str x) (.str y) ⟨loc,led,Z⟩ (CQ Q)) h2 (fun h=>PR ⟨_,rfl,h⟩) fun c r h=>?_;refine l0e h fun h=>?_;exact PQ ⟨_,rfl,Mg c y ▸ h⟩
theorem Ss {a b:D}{Q:Bool->Loc->Led->Prop}(h:dS a fun x=>dS b fun y=>inD x y fun c=>Q (!c) loc led):Cmp Γ E .NotIn a b ⟨loc,led,Z⟩ (CQ Q):=by
 refine dSe h fun x h1=>?_;refine dSe h1 fun y h2=>?_;refine lC_ (R:=fun x=>Cmp Γ E .NotIn (.str x) (.str y) ⟨loc,led,Z⟩ (CQ Q)) h2 (fun h=>MV ⟨_,rfl,h⟩) fun c r h=>?_;refine l0e h fun h=>?_;exact MZ ⟨_,rfl,Mg c y ▸ h⟩
theorem Wm (x y:Bool):ife x (!y) y=(x != y):=by cases x <;> cases y <;> rfl
theorem XB {a b:Bool}{P:Bool->Prop}(e:a=b)(h:P (!a)):P (!b):=e ▸ h
theorem OZ {op:CmpOp}{a b:D}{Q:Bool->Loc->Led->Prop}(K:KOk Γ.K)(h:cmpD op a b led fun c=>Q c loc led):Cmp Γ E op a b ⟨loc,led,Z⟩ (CQ Q):=by
 cases op with
 | Eq=>exact Jda h
 | NotEq=>
  refine dC_ (R:=fun a=>Cmp Γ E .NotEq a b ⟨loc,led,Z⟩ (CQ Q)) h False.elim (fun x h=>?_) (fun x h=>?_) (fun x h=>?_) (fun _=>False.elim) fun _=>False.elim
  · exact dC_ (R:=fun b=>Cmp Γ E .NotEq (.bool x) b ⟨loc,led,Z⟩ (CQ Q)) h False.elim (fun y h=>NR ⟨_,rfl,Wm x y ▸ h⟩) (fun _=>False.elim) (fun _=>False.elim) (fun _=>False.elim) fun _=>False.elim
  · refine dIe h fun y h=>?_;exact P0 ⟨_,rfl,XB (P:=fun c=>Q c loc led) (Oo x y) h⟩
  · refine dSe h fun y h=>?_;exact Pz ⟨_,rfl,XB (P:=fun c=>Q c loc led) (OS x y) h⟩
 | Lt=>refine dIe h fun x h1=>?_;refine dIe h1 fun y h2=>?_;exact PE ⟨_,rfl,h2⟩
 | LtE=>
  refine dC_ (R:=fun a=>Cmp Γ E .LtE a b ⟨loc,led,Z⟩ (CQ Q)) h False.elim (fun _=>False.elim) (fun x h=>?_) (fun x h=>?_) (fun _=>False.elim) fun _=>False.elim
  · refine dIe h fun y h=>?_;exact Pn ⟨_,rfl,h⟩
  · refine dSe h fun y h=>?_;exact P2 ⟨_,rfl,h⟩
 | Gt=>refine dIe h fun x h1=>?_;refine dIe h1 fun y h2=>?_;exact Ps ⟨_,rfl,h2⟩
 | GtE=>refine dIe h fun x h1=>?_;refine dIe h1 fun y h2=>?_;exact Pk ⟨_,rfl,h2⟩
 | In=>exact Jb2 h
 | NotIn=>
  refine dC_ (R:=fun a=>Cmp Γ E .NotIn a b ⟨loc,led,Z⟩ (CQ Q)) h False.elim (fun _=>False.elim) (fun x h=>?_) (fun x h=>?_) (fun _=>False.elim) fun _=>False.elim
  · cases b with
    | tup t=>refine E12 (so_ h) fun c e h=>?_;exact L1 e ⟨_,rfl,h⟩
    | _=>exact h.elim
  · exact Ss (show dS (.str x) _ from h)
 | Is=>
  cases b with
  | none=>refine soe h fun r e h=>?_;exact N3 e ⟨_,rfl,h⟩
  | bool y=>exact dC_ (R:=fun a=>Cmp Γ E .Is a (.bool y) ⟨loc,led,Z⟩ (CQ Q)) h False.elim (fun x h=>NV ⟨_,rfl,h⟩) (fun _=>False.elim) (fun x h=>Lu ⟨_,rfl,h⟩) (fun _=>False.elim) fun _=>False.elim
  | _=>exact h.elim
 | IsNot=>
  cases b with
  | none=>refine soe h fun r e h=>?_;exact L7 e ⟨_,rfl,h⟩
  | bi y=>cases a with
   | bi x=>refine soe h fun r e h=>?_;exact NL e ⟨_,rfl,h⟩
   | _=>exact h.elim
  | val y=>cases a with
   | val x=>exact Mt (K.isc _ (trB h)) (K.isc _ (trB (trP h))) (X9 x y) ⟨_,rfl,(trP (trP h))⟩
   | _=>exact h.elim
  | _=>exact h.elim
theorem RS {a:D}{Q:Bool->Loc->Led->Prop}(h:truD a led fun b=>Q b loc led):Tru Γ E a ⟨loc,led,Z⟩ (QQ Q):=by
 refine dC_ (R:=fun a=>Tru Γ E a ⟨loc,led,Z⟩ (QQ Q)) h (fun h=>Ui h) (fun b h=>Lh h) (fun i h=>Xv (XB (P:=fun c=>Q c loc led) (Oo i 0) h)) (fun x h=>?_) (fun i h=>?_) fun _=>False.elim
 · exact lC_ (R:=fun x=>Tru Γ E (.str x) ⟨loc,led,Z⟩ (QQ Q)) h (fun h=>Qb h) fun _ _ h=>Qb h
 · refine oC_ h (fun xs e h=>?_) (fun xs e h=>?_) (fun _ _ _=>False.elim) (fun _ _ _=>False.elim) fun _ _=>False.elim
   · exact TY (Jq led i ▸ e) (Pa h) (lC_ (R:=fun xs=>QQ Q (!xs.isEmpty) ⟨loc,led,Z⟩) (Oy h) (fun h=>h) fun _ _ h=>h)
   · exact VZ (Jq led i ▸ e) (Pa h) (lC_ (R:=fun xs=>QQ Q (!xs.isEmpty) ⟨loc,led,Z⟩) (Oy h) (fun h=>h) fun _ _ h=>h)
end
section
variable {X:X}{Γ:Cx}{loc:Loc}{led:Led}{Z:Zs}
theorem SpecIn.cal {f:D}{sp:Jc}{args:LD}{kws:List (Str × D)}{Ex:QE}{Q:QD}(s:SpecIn Γ f sp)(h:sp args kws led (fun c led'=>Ex c loc led') (fun d led'=>Q d loc led')):Cal Γ (EE Ex) f args kws ⟨loc,led,Z⟩ (QQ Q):=
 Rz (CalC.mono (s _ _ _ _ _ loc Z h) (fun d σ' hz0=>by refine E02 hz0 fun e q=>?_;show Q d σ'.loc σ'.led;rw [e];exact q) fun cls σ' hz1=>by refine E02 hz1 fun e hq13=>?_;refine E12 hq13 fun c e2 q=>?_;exact ⟨c,e2,by rw [e];exact q⟩)
theorem Rf {Z:Zs}{d d':D}{vs:List Value}{ks:List (Str × Value)}(hv:IsL Z [d,d'] vs)(hk:ks.map (·.1)=([]:List (Str × D)).map (·.1)):∃ v v',vs=[v,v'] /\ ks=[] /\ Is Z d v /\ Is Z d' v':=
 JP (P:=fun vs ks=>∃ v v',vs=[v,v'] /\ ks=[] /\ Is Z d v /\ Is Z d' v') hv hk fun v v' i i'=>⟨v,v',rfl,rfl,i,i'⟩
theorem L0 {E:String->St->Prop}{l:LN}{σ:St}{Q:D->St->Prop}(h:Q (.bool true) σ):Cal Γ E (.bi .isinstance) [.str l,.bi .str] [] σ Q:=by
 intro vf vs ks hf hv hk hn;obtain rfl:=hf.inv;refine E24 (Rf hv hn) fun v v' hq11=>?_;obtain rfl:=hq11;intro hq12;obtain rfl:=hq12;intro i i'
 (first | obtain rfl:=i.inv | obtain ⟨_,rfl⟩:=i.inv | refine E12 (i.inv) fun _ hq10=>?_;obtain rfl:=hq10;intro _ | cases i);obtain rfl:=i'.inv
 exact fun s r=>call_isinstance (isinstance_true (Tx := "str") (T := "str") (by kernel_rfl) isSubtype_str_str) ⟨typeIs_str _ _ _,⟨_,σ,Zle.rfl,r,.bool _,h⟩⟩
theorem Jea (G:Good X Γ){b:Bi}{args:LD}{Ex:QE}{Q:QD}(h:biD X b args led (fun c led'=>Ex c loc led') fun d led'=>Q d loc led'):Cal Γ (EE Ex) (.bi b) args [] ⟨loc,led,Z⟩ (QQ Q):=by
 cases b with
 | deque=>refine l0e h fun h=>?_;exact Q5 fun _=>h
 | len=>
  refine l1e h fun d h1=>?_;exact dC_ (R:=fun d=>Cal Γ (EE Ex) (.bi .len) [d] [] ⟨loc,led,Z⟩ (QQ Q)) h1 False.elim (fun _=>False.elim) (fun _=>False.elim) (fun _ h=>Od h) (fun i h=>let ⟨xs,e,h⟩:=oL_ h;let ⟨hl,h⟩:=Wx h;Nb e hl h) fun _=>False.elim
 | chr=>refine l1e h fun d h1=>?_;refine dIe h1 fun i h2=>?_;exact Vz (of_decide_eq_true (trB h2)) (of_decide_eq_true (trB (trP h2))) (trP (trP h2))
 | ord=>refine l1e h fun d h1=>?_;refine dSe h1 fun s h2=>?_;refine l1e h2 fun c h3=>?_;exact Wq h3
 | str=>refine l1e h fun d h1=>?_;refine dIe h1 fun n h2=>?_;exact Oe (of_decide_eq_true (trB h2)) (of_decide_eq_true (trB (trP h2))) (trP (trP h2))
 | sum=>have hc:=trB h;refine l1e (trP h) fun d h1=>?_;refine dRe h1 fun i h2=>?_;refine E12 (oL_ h2) fun xs e hq9=>?_;refine E12 hq9 fun ns hq15=>?_;clear hq9;obtain rfl:=hq15;intro h3;exact WS (G.calm hc) e h3
 | type=>
  refine l1e h fun d h1=>?_;exact dC_ (R:=fun d=>Cal Γ (EE Ex) (.bi .type) [d] [] ⟨loc,led,Z⟩ (QQ Q)) h1 False.elim (fun _=>False.elim) (fun _ h=>Na h) (fun _ h=>Nd h) (fun _=>False.elim) fun _=>False.elim
 | int=>refine l1e h fun d h1=>?_;refine dIe h1 fun s h2=>?_;exact NP h2
 | isinstance=>
  refine l2e h fun d e h1=>?_;refine dSe h1 fun s h2=>?_
  obtain rfl:e=.bi .str:=by cases e with
   | bi b=>cases b <;> first | rfl | cases (trB h2)
   | _=>cases (trB h2)
  exact L0 (trP h2)
 | list=>refine E12 (G.lst) fun r hr s=>?_;exact fun vf vs ks x1 x2 x3 x4=>Wp.exc (Wp.mono (s Γ rfl (by lia) G.calm _ _ _ _ _ loc Z h vf vs ks x1 x2 x3 x4) fun d σ' _ hz2=>by refine E02 hz2 fun e q=>?_;show Q d σ'.loc σ'.led;rw [e];exact q) fun cls σ' ⟨e,c,e2,q⟩=>⟨c,e2,by rw [e];exact q⟩
 | _=>exact h.elim
theorem RD (G:Good X Γ){f:D}{args:LD}{kws:List (Str × D)}{Ex:QE}{Q:QD}(h:callD X f args kws loc led Ex Q):Cal Γ (EE Ex) f args kws ⟨loc,led,Z⟩ (QQ Q):=by
 cases f with
 | val a=>
  refine E12 (G.spec) fun r hr hs=>?_;refine soe h fun sp e h1=>?_;exact SpecIn.cal ((hs _ _ (Kh e)).1 Γ rfl (by lia) G.calm) h1
 | bi b=>refine l0e h fun h1=>?_;exact Jea G h1
 | _=>exact h.elim
theorem in1 {α β:Type}{x:α}{b:β}{m:β}{n:α}(h:(x,b) ∈ [(n,m)]):x=n /\ b=m:=by cases List.mem_singleton.mp h;exact ⟨rfl,rfl⟩
theorem P5:Slot "str" (nm [115,112,108,105,116]) "str.split":=PySem.F.slot_str_split
theorem Q2:Slot "str" (nm [106,111,105,110]) "str.join":=PySem.F.slot_str_join
theorem PO:Slot "str" (nm [99,111,117,110,116]) "str.count":=PySem.F.slot_str_count
theorem RP:Slot "str" (nm [102,105,110,100]) "str.find":=PySem.F.slot_str_find
theorem TG (G:Good X Γ){E:String->St->Prop}{a:D}{x:Str}{k:MK->Prop}(h:methK a x led k){Q:D × LD->St->Prop}(hq:∀ m:MK,k m->Q (.any (.builtin m.id),ife m.self [a] []) ⟨loc,led,Z⟩):Met Γ E a x ⟨loc,led,Z⟩ Q:=by
 cases a with
 | ref i=>
  refine oC_ h (fun xs e h=>?_) (fun xs e h=>?_) (fun _ _ _=>False.elim) (fun _ _ _=>False.elim) fun _ _=>False.elim
  · refine soe h fun m e1 h=>?_;refine E02 (in1 (Jm e1)) fun hq7=>?_;obtain rfl:=hq7;intro hq8;obtain rfl:=hq8;exact Uh slot_list_append (by kernel_rfl) (Jq led i ▸ e) (hq _ h)
  · refine soe h fun m e1 h=>?_;have q:=hq _ h;have e:=Jq led i ▸ e;rcases List.mem_cons.mp (Jm e1) with e1 | e1
    · cases e1;exact MQ JY LJ e q
    · rcases List.mem_cons.mp e1 with e1 | e1
      · cases e1;exact MQ JH KB e q
      · rcases List.mem_cons.mp e1 with e1 | e1
        · cases e1;exact MQ JO Lb e q
        · cases List.mem_singleton.mp e1;exact MQ Kw Nt e q
 | str s=>
  refine soe h fun m e1 h=>?_;rcases List.mem_cons.mp (Jm e1) with e1 | e1
  · cases e1;exact Ll P5 PySem.F.type_str_split (hq _ h)
  · rcases List.mem_cons.mp e1 with e1 | e1
    · cases e1;exact Ll Q2 PySem.F.type_str_join (hq _ h)
    · rcases List.mem_cons.mp e1 with e1 | e1
      · cases e1;exact Ll PO PySem.F.type_str_count (hq _ h)
      · cases List.mem_singleton.mp e1;exact Ll RP PySem.F.type_str_find (hq _ h)
 | bi b=>cases b with
  | object=>rw [Jl.mp (trB h)];exact TZ (b:=.object) rfl G.K.obj (hq _ (trP h))
  | _=>exact h.elim
 | _=>exact h.elim
theorem Tq (G:Good X Γ){E:String->St->Prop}{a:D}{m:MK}{args:LD}{Q:QD}(h:methD m a args led fun d led=>Q d loc led):Cal Γ E (.any (.builtin m.id)) (ife m.self [a] []++args) [] ⟨loc,led,Z⟩ (QQ Q):=by
 cases m with
 | lapp=>refine dRe h fun i h1=>?_;refine l1e h1 fun d h2=>?_;refine oLe h2 fun xs e h3=>?_;exact P4 e (Pa h3) (Oy h3)
 | dapp=>refine dRe h fun i h1=>?_;refine l1e h1 fun d h2=>?_;refine oQe h2 fun xs e h3=>?_;exact L5 e (Pa h3) (Oy h3)
 | dappl=>refine dRe h fun i h1=>?_;refine l1e h1 fun d h2=>?_;refine oQe h2 fun xs e h3=>?_;exact KO e (Pa h3) (Oy h3)
 | dpopl=>
  refine dRe h fun i h1=>?_;refine l0e h1 fun h2=>?_;refine oQe h2 fun xs e h3=>?_
  cases xs with
  | nil=>exact h3.elim
  | cons d ys=>exact LM e (Pa h3) (Oy h3)
 | dpop=>refine dRe h fun i h1=>?_;refine l0e h1 fun h2=>?_;refine oQe h2 fun xs e h3=>?_;refine E12 (l1_ h3) fun d hq6=>?_;obtain rfl:=hq6;intro h4;exact N0 (xs:=[]) e (by decide) h4
 | onew=>
  refine l1e h fun c h1=>?_
  cases c with
  | val c=>rw [Nat.eq_of_beq_eq_true (trB h1)];exact Rz (LF G.K.new (G.K.len _) fun _=>(trP h1))
  | _=>exact h1.elim
 | ssplit=>exact h.elim
 | sjoin=>refine dSe h fun s h1=>?_;refine l1e h1 fun d h2=>?_;refine dRe h2 fun i h3=>?_;refine E12 (oL_ h3) fun xs e hq5=>?_;refine E14 hq5 fun ts hq14=>?_;clear hq5;obtain rfl:=hq14;intro q1 q2 h4;exact Uo e q1 q2 h4
 | scount=>refine dSe h fun s h1=>?_;refine l1e h1 fun d h2=>?_;refine dSe h2 fun y h3=>?_;exact QO h3
 | sfind=>
  refine E12 (dS_ h) fun s hq4=>?_;obtain rfl:=hq4;intro h1
  cases args with
  | nil=>exact h1.elim
  | cons d r=>
   refine E12 (dS_ (show dS d _ from h1)) fun y hq3=>?_;obtain rfl:=hq3;intro h2
   cases r with
   | nil=>exact h2.elim
   | cons e r=>
    refine E12 (dI_ (show dI e _ from h2)) fun i hq2=>?_;obtain rfl:=hq2;intro h3
    cases r with
    | nil=>exact Q7 h3
    | cons g r=>
     refine E02 (l0_ (show l0 r _ from h3)) fun hq1=>?_;obtain rfl:=hq1;intro h4
     refine E12 (dI_ h4) fun j hq0=>?_;obtain rfl:=hq0;intro h5;refine E02 (tr_ h5) fun ej h6=>?_;exact QP (of_decide_eq_true ej) h6
theorem XH (G:Good X Γ){E:String->St->Prop}(c:Cl X Γ Z){x:Str}{p:Pos}{Q:QD}(h:nameW X x loc led fun d=>Q d loc led):EV Γ E (.Name x p) ⟨loc,led,Z⟩ (QQ Q):=
 VQ h (fun d e h=>P7 (by rw [G.names,<-Kj];exact e) h) fun _ h=>VQ h
  (fun i e h=>let ⟨a,ha,hi⟩:=c _ _ (Jm e);oC_ h (fun _ _=>False.elim) (fun _ _=>False.elim) (fun _ _ _=>False.elim) (fun _ _ _=>False.elim) fun v e2 h=>let ⟨d,ev,h⟩:=so_ h;WI ha hi (ev ▸ Jq led i ▸ e2) h)
  fun _ h=>let ⟨d,e,h⟩:=so_ h;let ⟨k,t⟩:=G.tops _ _ (Jm e);Yu k t h
theorem Wp.at_ {α β:Type}{E:String->St->Prop}{t:Sem α}{R:Zs->β->α->Prop}{σ:St}{Q Q':β->St->Prop}(h:Wp Γ E t R σ Q)(k:∀ b σ',Q b σ'->Q' b σ'):Wp Γ E t R σ Q':=Wp.mono h fun b σ' _ q=>k b σ' q
theorem UN (G:Good X Γ){E:String->St->Prop}{a:D}{x:Str}{Q:QD}(h:attW X a x loc led Q):Att Γ E a x ⟨loc,led,Z⟩ (QQ Q):=by
 refine dRe h fun i h1=>?_;refine E33 (oI_ h1) fun k dx vals e1 e2 h2=>?_;refine VQ h2 (fun d e h=>?_) fun _ h=>?_
 · exact Xz e1 e2 (G.K.cls k) (Kj _ _ _ ▸ e) (trB h) (trP h)
 · refine soe h fun p e4 h=>?_;refine soe h fun sp e5 h=>?_;refine E12 (G.spec) fun r hr hs=>?_;refine S5 e1 e2 (G.K.prop k _ _ _ (Jm e4)) (by lia) fun Γ' I=>?_
   have s:=(hs _ _ (Kh e5)).1 Γ' I.K (by rw [I.room];lia) fun hc=>I.handled.trans (G.calm hc)
   exact CalC.mono (s [.ref _] [] led _ _ loc Z h) (fun d σ' hz3=>by refine E02 hz3 fun el q=>?_;exact let ⟨hp,q⟩:=tr_ q;⟨hp,by show Q d σ'.loc σ'.led;rw [el];exact q⟩) fun cls σ' ⟨_,_,_,q⟩=>q
theorem OF (G:Good X Γ){E:String->St->Prop}{a:D}{x:Str}{d:D}{Q:Loc->Led->Prop}(h:setW a x d led fun led=>Q loc led):SetA Γ E a x d ⟨loc,led,Z⟩ (QQ fun _=>Q):=by
 refine dRe h fun i h1=>?_;refine E33 (oI_ h1) fun k dx vals e1 e2 h2=>?_;refine soe h2 fun vals' e3 h3=>?_;exact Ul e1 e2 (G.K.cls k) (Ni e3) h3
end
structure Snd (X:X)(Γ:Cx)(E:Ev):Prop where
 ev:∀ {e loc led Ex Q Z},E.ev e loc led Ex Q->Cl X Γ Z->EV Γ (EE Ex) e ⟨loc,led,Z⟩ (QQ Q)
 ts:∀ {e loc led Ex Q Z},E.ts e loc led Ex Q->Cl X Γ Z->TS Γ (EE Ex) e ⟨loc,led,Z⟩ (QQ Q)
 xs:∀ {l loc led Ex Q Z},E.xs l loc led Ex Q->Cl X Γ Z->XS Γ (EE Ex) l ⟨loc,led,Z⟩ (QQ Q)
theorem LK {o:Expr}{x:Str}{env:Env}{w:Sem Value}(h:noSuper o=true):attributeBase o x env w=w:=by
 cases o with
 | Call f as ks p=>cases f with
  | Name=>cases as with
   | nil=>cases ks with
    | nil=>injection h
    | cons=>rfl
   | cons=>rfl
  | _=>rfl
 | _=>rfl
theorem Li {e:Expr}{t:Option Expr}{n:Nat}{env:Env}(h:noComp e=true):swapsWith e t n env=pure false:=by
 cases e with
 | ListComp=>injection h
 | SetComp=>injection h
 | DictComp=>injection h
 | _=>rfl
theorem KW {b:Bool}{P R:Prop}(h:ife b P R):Br b P R:=by
 cases b with
 | true=>exact WO h
 | false=>exact Sg h
section
variable {X:X}{Γ:Cx}{E:Ev}{loc:Loc}{led:Led}{Z:Zs}{Ex:QE}
theorem LA (S:Snd X Γ E):∀ {es:List Expr} {loc:Loc} {led:Led} {Z:Zs} {Q:LD->Loc->Led->Prop},evsW E es loc led Ex Q->Cl X Γ Z->EVs Γ (EE Ex) es ⟨loc,led,Z⟩ fun ds σ'=>Q ds σ'.loc σ'.led /\ Zle Z σ'.Z
 | [],_,_,_,_,h,c=>⟨h,Zle.rfl⟩
 | e :: es,_,_,_,_,h,c=>go (S.ev h c) fun d loc led Z' z h=>EVs.mono (LA S h (c.mono z)) fun ds σ' q=>⟨q.1,z.trans q.2⟩
theorem S7 {c:Const}{k:Nat}{p:Pos}{Q:QD}(h:constW c fun d=>Q d loc led):EV Γ (EE Ex) (.Constant c k p) ⟨loc,led,Z⟩ (QQ Q):=by
 cases c with
 | none=>exact Xy h
 | bool=>exact XN h
 | int=>exact Zm h
 | str x=>exact YG (by cases x;rfl) (trP h) (Nat.le_trans (Nat.le_of_ble_eq_true (trB h)) (by decide))
 | _=>exact h.elim
theorem Ux (S:Snd X Γ E){e:Option Expr}{Q:QD}(h:endW E e loc led Ex Q)(c:Cl X Γ Z):EVo Γ (EE Ex) e ⟨loc,led,Z⟩ (QQ Q):=by
 cases e with
 | none=>exact Uc h
 | some e=>exact R9 (S.ev h c)
theorem U6 {E':String->St->Prop}{e:Option Expr}{Q:D->Loc->Led->Prop}{Q':D->St->Prop}(h:EVo Γ E' e ⟨loc,led,Z⟩ (QQ Q))(k:∀ b loc led Z',Zle Z Z'->Q b loc led->Q' b ⟨loc,led,Z'⟩):EVo Γ E' e ⟨loc,led,Z⟩ Q':=by
 cases e with
 | none=>exact k _ _ _ _ Zle.rfl h
 | some e=>exact go h k
theorem EVs.lens {E':String->St->Prop}:∀ {l:List Expr} {σ:St} {Q Q':LD->St->Prop},EVs Γ E' l σ Q->(∀ ds σ',ds.length=l.length->Q ds σ'->Q' ds σ')->EVs Γ E' l σ Q'
 | [],_,_,_,h,hq=>hq _ _ rfl h
 | _ :: _,_,_,_,h,hq=>Wp.mono h fun _ _ _ q=>EVs.lens q fun _ _ e q=>hq _ _ (congrArg Nat.succ e) q
theorem O7 (G:Good X Γ){f:D}(h:okF X f=true){Z:Zs}(v:Value)(i:Is Z f v):KeepOk Γ.K v:=by
 cases f with
 | val a=>
  refine E12 (G.spec) fun r hr hs=>?_;refine E11 (Option.isSome_iff_exists.mp h) fun sp e=>?_;obtain rfl:=i.inv;exact OP (hs _ _ (Kh e)).2
 | bi b=>obtain rfl:=i.inv;cases b <;> first | exact JQ | exact Rs
 | _=>injection h
theorem UZ {i:Int}(h:leI 0 i=true):0 <= i:=of_decide_eq_true h
theorem Pw {u:D}{n:Nat}{Q:Nat->Prop}(h:hiW u n Q):∃ o,ends u=some o /\ (∀ i,o=some i->0 <= i) /\ Q ((o.getD n).toNat):=
 dC_ (R:=fun u=>∃ o,ends u=some o /\ (∀ i,o=some i->0 <= i) /\ Q ((o.getD (n:Int)).toNat)) h (fun h=>⟨none,rfl,fun _ e=>(nomatch e),h⟩) (fun _=>False.elim) (fun i h=>let ⟨e,h⟩:=tr_ h;⟨some i,rfl,fun _ q=>by obtain rfl:=Option.some.inj q;exact UZ e,h⟩) (fun _=>False.elim) (fun _=>False.elim) fun _=>False.elim
theorem SN {E':String->St->Prop}{a lo hi:D}{Q:QD}(h:sliceW a lo hi led fun d led=>Q d loc led):Slc Γ E' a lo hi ⟨loc,led,Z⟩ (QQ Q):=by
 refine dC_ (R:=fun a=>Slc Γ E' a lo hi ⟨loc,led,Z⟩ (QQ Q)) h False.elim (fun _=>False.elim) (fun _=>False.elim) (fun s h1=>?_) (fun r h1=>?_) fun _=>False.elim
 · refine E13 (Pw h1) fun o1 a1 b1 h2=>?_;refine E13 (Pw h2) fun o2 a2 b2 h3=>?_;exact V6 a1 a2 b1 b2 h3
 · refine oLe h1 fun xs e h1=>?_;refine E13 (Pw (Oy h1)) fun o1 a1 b1 h2=>?_;refine E13 (Pw h2) fun o2 a2 b2 h3=>?_;exact R6 e a1 a2 b1 b2 (Pa h1) fun _=>h3
theorem RV (G:Good X Γ){E':String->St->Prop}{a lo hi:D}{Q:QD}(h:sliceX X a lo hi led fun d led=>Q d loc led):Slc Γ E' a lo hi ⟨loc,led,Z⟩ (QQ Q):=by
 cases a with
 | val v=>
  refine soe h fun p e h1=>?_;refine E02 h1 fun hq6=>?_;clear h1;obtain rfl:=hq6;intro h2;refine E13 (Pw (Oy h2)) fun o1 a1 b1 h3=>?_;refine E13 (Pw h3) fun o2 a2 b2 h4=>?_;exact Sw (G.fz p e) a1 a2 b1 b2 (Pa h2) fun _=>h4
 | _=>exact SN h
theorem QI (S:Snd X Γ E)(G:Good X Γ){f:D}{first:LD}{as:List Expr}{Q:QD}(h:evsW E as loc led Ex fun ds loc led=>callD X f (first++ds) [] loc led Ex Q)(c:Cl X Γ Z) :
 EVs Γ (EE Ex) as ⟨loc,led,Z⟩ fun ds σ'=>Cal Γ (EE Ex) f (first++ds) [] σ' (QQ Q):=
 EVs.mono (LA S h c) fun ds σ' q=>RD G q.1
theorem LB {op:CmpOp}{r:Expr}(h:(!behindInMarks op r)=true):behindInMarks op r=false:=by
 generalize behindInMarks op r=b at h;cases b with | true=>injection h | false=>rfl
theorem Qo (S:Snd X Γ E)(G:Good X Γ){a:D}{x:Str}{as:List Expr}{Q:QD} (h:ife (isInst a led)
 (methW a x led fun g=>evsW E as loc led Ex fun ds loc led=>callD X (.val g) (a :: ds) [] loc led Ex Q)
 (methK a x led fun m=>evsW E as loc led Ex fun ds loc led=>methD m a ds led fun d led=>Q d loc led)) (c:Cl X Γ Z) :
 Met Γ (EE Ex) a x ⟨loc,led,Z⟩ fun m σ₂=>(∀ v,Is σ₂.Z m.1 v->KeepOk Γ.K v) /\ EVs Γ (EE Ex) as σ₂ fun ds σ₃=>Cal Γ (EE Ex) m.1 (m.2++ds) [] σ₃ (QQ Q):=by
 cases hi:isInst a led with
 | true=>
  rw [hi] at h;refine E12 (dR_ (show methW a x led _ from h)) fun i hq5=>?_;obtain rfl:=hq5;intro h1
  refine E33 (oI_ h1) fun k dx vals a1 a2 h2=>?_;refine VQ h2 (fun _ _=>False.elim) fun a3 h=>?_;refine soe h fun g a4 h=>?_;refine E03 (G.K.meth _ _ _ (Jm a4)) fun m1 m2 m3=>?_;exact SF a1 a2 (G.K.cls k) m1 m2 (Kj _ _ _ ▸ a3) ⟨fun v i=>by obtain rfl:=i.inv;exact OP m3,QI (first:=[.ref i]) S G h c⟩
 | false=>
  rw [hi] at h;exact TG G (show methK a x led _ from h) fun m h=>⟨fun v i=>by obtain rfl:=i.inv;exact JQ,EVs.mono (LA S h c) fun ds σ' q=>Tq G q.1⟩
theorem Qc (S:Snd X Γ E)(G:Good X Γ){f:Expr}{as:List Expr}{ks:List Keyword}{pos:Pos}{Q:QD}(hn:noStar as=true)(h:evCall X E f as ks pos loc led Ex Q)(c:Cl X Γ Z):EV Γ (EE Ex) (.Call f as ks pos) ⟨loc,led,Z⟩ (QQ Q):=by
 cases f with
 | Attribute o x apos=>
  refine l0e h fun h=>?_;exact N4 hn (go (S.ev (trP (trP (trP h))) c) fun a loc led Z z h=>Qo S G h (c.mono z)) (beq_iff_eq.mpr (Nat.eq_of_beq_eq_true (trB (trP h)))) (Nat.lt_succ_of_le (Nat.le_of_ble_eq_true (trB (trP (trP h))))) (LK (trB h))
 | Name y p=>
  cases ks with
  | nil=>exact Vy hn (go (S.ev h c) fun f loc led Z z h=>let ⟨hf,h⟩:=tr_ h;⟨O7 G hf,QI (first:=[]) S G h (c.mono z)⟩) rfl
  | cons k r=>
   refine l0e h fun h=>?_;obtain ⟨n,e,v,p⟩:=k;refine E12 (so_ h) fun n hq4=>?_;obtain rfl:=hq4;intro h;exact Pv hn (go (S.ev h c) fun f loc led Z z h=>let ⟨hf,h⟩:=tr_ h;⟨O7 G hf,EVs.mono (LA S h (c.mono z)) fun ds σ' q=>go (S.ev q.1 ((c.mono z).mono q.2)) fun d loc led Z z h=>RD G h⟩) rfl
 | _=>exact h.elim
theorem Cmp.val {E':String->St->Prop}{op:CmpOp}{a b:D}{Q:Bool->Loc->Led->Prop}{Q':D->St->Prop}(h:Cmp Γ E' op a b ⟨loc,led,Z⟩ (CQ Q))(k:∀ c σ',Q c σ'.loc σ'.led->Q' (.bool c) σ'):Cmp Γ E' op a b ⟨loc,led,Z⟩ Q':=
 fun va vb ia ib=>Wp.at_ (h va vb ia ib) fun d σ' ⟨c,e,q⟩=>e ▸ k c σ' q
theorem Me (G:Good X Γ){E':String->St->Prop}{x:Str}{p:Pos}{d:D}{Q:Loc->Led->Prop}(h:storeW X x d loc led Q)(c:Cl X Γ Z):Asn Γ E' (.Name x p) d ⟨loc,led,Z⟩ (QQ fun _=>Q):=
 VQ h (fun loc' e h=>O0 ⟨_,G.names ▸ Ni e,h⟩) fun _ h=>
  let ⟨i,e,h⟩:=so_ h
  let ⟨a,ha,hi⟩:=c _ _ (Jm e)
  oC_ h (fun _ _=>False.elim) (fun _ _=>False.elim) (fun _ _ _=>False.elim) (fun _ _ _=>False.elim) fun v e2 h=>R8 ha hi (Jq led i ▸ e2) h
theorem No {α:Type}{M:Model}{A:Around}{t t':Sem α}{Q:α->Shared->Prop}{E:Value->Shared->Prop}{s:Shared}(e:t=t')(h:wpAny M A t' Q E s):wpAny M A t Q E s:=e ▸ h
theorem S6 {E':String->St->Prop}{o:Expr}{x:Str}{p:Pos}{d:D}{σ:St}{Q:Unit->St->Prop}(h:EV Γ E' o σ fun a σ'=>Zle σ.Z σ'.Z /\ SetA Γ E' a x d σ' Q):Asn Γ E' (.Attribute o x p) d σ Q:=
 fun v hv s r=>No (assign_Attribute o x p v) (wpAny_bind (wpAny_holding (wpAny_mono (h s r) (fun va s₁ hz0=>by obtain ⟨_,σ₁,z,r₁,ia,z',q⟩:=hz0;exact wpAny_bind (wpAny_standAt (wpAny_bind (wpAny_holding (wpAny_mono (q va v ia (hv.mono z) s₁ r₁) (fun _ _ p=>wpAny_release (p.up z)) (upE z)))))) fun _ _ x=>x)))
theorem Ox (S:Snd X Γ E)(G:Good X Γ){t:Expr}{d:D}{Q:Loc->Led->Prop}(h:asg1 X E t d loc led Ex Q)(c:Cl X Γ Z):Asn Γ (EE Ex) t d ⟨loc,led,Z⟩ (QQ fun _=>Q):=by
 cases t with
 | Name=>exact Me G h c
 | Attribute=>exact S6 (go (S.ev (trP h) c) fun a loc led Z' z h=>⟨z,OF G h⟩)
 | _=>exact h.elim
theorem Q0 (S:Snd X Γ E)(G:Good X Γ):∀ {ts:List Expr} {ds:LD} {loc:Loc} {led:Led} {Z:Zs} {Q:Loc->Led->Prop},asgL X E ts ds loc led Ex Q->Cl X Γ Z->AsnL Γ (EE Ex) ts ds ⟨loc,led,Z⟩ (QQ fun _=>Q)
 | [],_,_,_,_,_,h,_=>by refine E02 (l0_ h) fun hq3=>?_;obtain rfl:=hq3;intro h;exact h
 | t :: ts,[],_,_,_,_,h,c=>h.elim
 | t :: ts,d :: ds,_,_,_,_,h,c=>fun v hv=>go (Ox S G h c v hv) fun _ loc led Z' z h=>Q0 S G h (c.mono z)
theorem Qj (S:Snd X Γ E)(G:Good X Γ){t:Expr}{d:D}{Q:Loc->Led->Prop}(h:asgW X E t d loc led Ex Q)(c:Cl X Γ Z):Asn Γ (EE Ex) t d ⟨loc,led,Z⟩ (QQ fun _=>Q):=by
 cases t with
 | Tuple=>cases d with
  | tup ds=>exact RK (G.calm (trB h)) (trB (trP h)) (Nat.eq_of_beq_eq_true (trB (trP (trP h)))) (Q0 S G (trP (trP (trP h))) c)
  | _=>exact h.elim
 | Name=>exact Ox S G h c
 | Attribute=>exact Ox S G h c
 | _=>exact h.elim
theorem Cmp.val' {E':String->St->Prop}{op:CmpOp}{a b:D}{Q:Bool->Loc->Led->Prop}{Q':D->St->Prop}(h:Cmp Γ E' op a b ⟨loc,led,Z⟩ (CQ Q))(k:∀ c loc led Z',Zle Z Z'->Q c loc led->Q' (.bool c) ⟨loc,led,Z'⟩):Cmp Γ E' op a b ⟨loc,led,Z⟩ Q':=
 fun va vb ia ib=>Wp.mono (h va vb ia ib) fun d σ' z ⟨c,e,q⟩=>e ▸ k c σ'.loc σ'.led σ'.Z z q
theorem Ja1 (S:Snd X Γ E){op:BoolOp}{es:List Expr}{p:Pos}{Q:QD}(h:valW E op es p loc led Ex Q)(c:Cl X Γ Z):EV Γ (EE Ex) (.BoolOp op es p) ⟨loc,led,Z⟩ (QQ Q):=by
 cases es with
 | nil=>exact h.elim
 | cons x rest=>cases rest with
  | nil=>exact Tp (S.ev h c)
  | cons y rest=>cases op with
   | And=>exact Zv (go (S.ev h c) fun a loc led Z' z h v i=>go (RS (Q:=fun b loc led=>ife b (E.ev (.BoolOp .And (y :: rest) p) loc led Ex Q) (Q a loc led)) h v i) fun b loc led Z'' z' h=>let ⟨x,y⟩:=KW h;⟨fun e=>S.ev (x e) ((c.mono z).mono z'),y⟩)
   | Or=>exact Jb4 (go (S.ev h c) fun a loc led Z' z h v i=>go (RS (Q:=fun b loc led=>ife b (Q a loc led) (E.ev (.BoolOp .Or (y :: rest) p) loc led Ex Q)) h v i) fun b loc led Z'' z' h=>let ⟨x,y⟩:=KW h;⟨x,fun e=>S.ev (y e) ((c.mono z).mono z')⟩)
theorem Wy {E':String->St->Prop}{a b:D}{Q:QD}(h:itemW a b led fun d=>Q d loc led):Itm Γ E' a b ⟨loc,led,Z⟩ (QQ Q):=by
 refine dIe h fun i h1=>?_;have hi:=UZ (trB h1);have e1:((i.toNat:Nat):Int)=i:=Int.toNat_of_nonneg hi;refine dC_ (R:=fun a=>Itm Γ E' a (.int i) ⟨loc,led,Z⟩ (QQ Q)) (trP h1) False.elim (fun _=>False.elim) (fun _=>False.elim) (fun s h=>?_) (fun r h=>?_) fun t h=>?_
 · refine soe h fun c e h=>?_;rw [<-e1];exact Xp (by rw [<-Jq];exact e) h
 · refine oLe h fun xs e h1=>?_;refine soe (Oy h1) fun d e2 h=>?_;exact TA e (by unfold atI;rw [if_neg (Int.not_lt.mpr hi),<-Jq];exact e2) (by lia) (Pa h1) h
 · refine soe (Oy h) fun d e2 h1=>?_;exact V5 hi (by rw [<-Jq];exact e2) (Pa h) h1
theorem Vb {E':String->St->Prop}{target:Expr}{a:D}{k:Bool->(Led->Prop)->LD->Prop}(h:srcW a led k):∃ t keep xs,Itb Γ E' target a ⟨loc,led,Z⟩ keep xs /\ k t keep xs:=
 dC_ (R:=fun a=>∃ t keep xs,Itb Γ E' target a ⟨loc,led,Z⟩ keep xs /\ k t keep xs) h False.elim (fun _=>False.elim) (fun _=>False.elim) (fun s h=>⟨true,_,_,VL,h⟩) (fun i h=>let ⟨xs,e,h⟩:=oL_ h;⟨true,_,_,Ua e,h⟩) fun t h=>⟨false,_,_,WX,h⟩
theorem N8 {t:Bool}{n:Nat}{keep K:Led->Prop}(h:tidyW t n loc led keep K):∃ led',Tidy n loc led led' /\ keep led' /\ K led':=by
 cases t with
 | true=>exact h
 | false=>exact ⟨led,.inl rfl,h⟩
theorem noE {cls:String}{σ:St}(h:EE WM cls σ):NoE cls σ:=let ⟨_,_,q⟩:=h;q
theorem VU (S:Snd X Γ E){ifs:List Expr}{Q:Bool->Loc->Led->Prop}{Q':Bool->St->Prop}(h:tssW E ifs loc led Q)(c:Cl X Γ Z)(k:∀ b loc led Z',Zle Z Z'->Q b loc led->Q' b ⟨loc,led,Z'⟩):Tss Γ ifs ⟨loc,led,Z⟩ Q':=by
 cases ifs with
 | nil=>exact k _ _ _ _ Zle.rfl h
 | cons e r=>refine l0e h fun h=>?_;exact Wp.exc (go (S.ts h c) k) fun _ _=>noE
theorem Mo (S:Snd X Γ E)(G:Good X Γ){Z₀:Zs}(c:Cl X Γ Z₀){t:Bool}{n k:Nat}{keep:Led->Prop}{target elt:Expr}{ifs:List Expr}{Q:Led->Prop} :
 ∀ {xs:LD} {loc:Loc} {led:Led},compL X E t n k keep target ifs elt Q xs loc led->CompD Γ keep Z₀ n k target ifs elt Q xs loc led
 | [],_,_,h=>h
 | x :: xs,_,_,h=>fun Z z v hv=>Wp.exc (go (Qj S G h (c.mono z) v hv) fun _ loc led Z1 z1 h=>VU S h ((c.mono z).mono z1) fun ok loc led Z2 z2 h=>
  let ⟨p,q⟩:=KW h
  ⟨fun e=>Wp.exc (go (S.ev (p e) (((c.mono z).mono z1).mono z2)) fun d loc led Z3 z3 h=>let ⟨ys,e1,h⟩:=oL_ h;let ⟨hl,h⟩:=Wx h;let ⟨led',a1,a2,a3⟩:=N8 h;⟨ys,e1,hl,led',a1,a2,Mo S G c a3⟩) fun _ _=>noE,
   fun e=>let ⟨led',a1,a2,a3⟩:=N8 (q e);⟨led',a1,a2,Mo S G c a3⟩⟩) fun _ _=>noE
theorem MI {α:Type}{b:Bool}{x y:α}(h:ife b (some x) none=some y):b=true /\ x=y:=by cases b with | true=>exact ⟨rfl,Option.some.inj h⟩ | false=>injection h
theorem VN {target iter:Expr}{k:Bool->(Led->Prop)->LD->Loc->Led->Prop}(h:walkW X E target iter loc led Ex k):noSetE iter=true:=trB h
theorem Wj (S:Snd X Γ E)(G:Good X Γ){target iter:Expr}{k:Bool->(Led->Prop)->LD->Loc->Led->Prop}(h:walkW X E target iter loc led Ex k)(c:Cl X Γ Z) :
 IT Γ (EE Ex) target iter ⟨loc,led,Z⟩ fun keep xs σ₁=>Zle Z σ₁.Z /\ ∃ t,k t keep xs σ₁.loc σ₁.led:=
 Jeh (go (S.ev (trP h) c) fun a loc led Z' z h=>let ⟨t,keep,xs,i,h⟩:=Vb h;⟨keep,xs,i,z,t,h⟩)
theorem CompD.mono {keep:Led->Prop}{Z₀:Zs}{n k:Nat}{target elt:Expr}{ifs:List Expr}{Q Q':Led->Prop}:∀ {xs:LD} {loc:Loc} {led:Led},CompD Γ keep Z₀ n k target ifs elt Q xs loc led->(∀ led,Q led->Q' led)->CompD Γ keep Z₀ n k target ifs elt Q' xs loc led
 | [],_,_,h,q=>q _ h
 | x :: xs,_,_,h,q=>fun Z z v hv=>Wp.at_ (h Z z v hv) fun _ σ₁ h=>by
  have step:∀ ok σ₂,Br ok (EV Γ NoE elt σ₂ fun d σ₃=>∃ ys,σ₃.led[k]?=some (.list ys) /\ ys.length <= 100000 /\ ∃ led',Tidy n σ₃.loc (σ₃.led.set k (.list (ys++[d]))) led' /\ keep led' /\ CompD Γ keep Z₀ n k target ifs elt Q xs σ₃.loc led')
   (∃ led',Tidy n σ₂.loc σ₂.led led' /\ keep led' /\ CompD Γ keep Z₀ n k target ifs elt Q xs σ₂.loc led')->Br ok (EV Γ NoE elt σ₂ fun d σ₃=>∃ ys,σ₃.led[k]?=some (.list ys) /\ ys.length <= 100000 /\ ∃ led',Tidy n σ₃.loc (σ₃.led.set k (.list (ys++[d]))) led' /\ keep led' /\ CompD Γ keep Z₀ n k target ifs elt Q' xs σ₃.loc led')
   (∃ led',Tidy n σ₂.loc σ₂.led led' /\ keep led' /\ CompD Γ keep Z₀ n k target ifs elt Q' xs σ₂.loc led'):=fun ok σ₂ h=>
   ⟨fun e=>Wp.at_ (h.1 e) fun d σ₃ h=>h.imp fun ys h=>h.imp id fun h=>h.imp id fun h=>h.imp fun led' h=>h.imp id fun h=>h.imp id fun h=>CompD.mono h q,fun e=>(h.2 e).imp fun led' h=>h.imp id fun h=>h.imp id fun h=>CompD.mono h q⟩
  match ifs,h with
  | [],h=>exact step _ _ h
  | [c],h=>exact Wp.at_ h fun ok σ₂ h=>step _ _ h
theorem J3:∀ {l:List (Str × NameKind)},(l.map (·.1)).Nodup->∀ p ∈ l,l.lookup p.1=some p.2
 | q :: l,nd,p,hp=>by
  have nd:=List.nodup_cons.mp nd;rcases List.mem_cons.mp hp with rfl | hp
  · simp [List.lookup]
  · have:(p.1 == q.1)=false:=by
     have:p.1 ≠ q.1:=fun e=>nd.1 (by show q.1 ∈ _;rw [<-e];exact List.mem_map.mpr ⟨p,hp,rfl⟩)
     simpa using this
    simp only [List.lookup,this];exact J3 nd.2 p hp
theorem JI:∀ {l:List (Str × NameKind)} {x:Str},x ∈ localsOf l->(x,.local) ∈ l
 | (n,k) :: r,x,h=>by
  unfold localsOf at h
  cases k with
  | «local»=>
   rcases List.mem_cons.mp h with rfl | h
   · exact .head _
   · exact .tail _ (JI h)
  | _=>exact .tail _ (JI h)
theorem JU:∀ {l:List (Str × NameKind)},(l.map (·.1)).Nodup->(localsOf l).Nodup
 | [],_=>.nil
 | (n,k) :: r,nd=>by
  have nd:=List.nodup_cons.mp nd;unfold localsOf
  cases k with
  | «local»=>exact List.nodup_cons.mpr ⟨fun h=>nd.1 (List.mem_map.mpr ⟨_,JI h,rfl⟩),JU nd.2⟩
  | _=>exact JU nd.2
structure Vx (sc:Scope):Prop where
 kind:sc.kind=.function
 nd:(sc.names.map (·.1)).Nodup
 each:∀ p ∈ sc.names,p.2 ≠ .cell /\ (p.1 == ("__debug__" : Str))=false
theorem Tj {sc:Scope}(h:compT sc=true):Vx sc:=by
 unfold compT at h;simp only [Bool.and_eq_true] at h;refine E02 h fun hq2=>?_;clear h;refine E02 hq2 fun h1 h2=>?_;intro h3;refine ⟨?_,J7 h2,fun p hp=>?_⟩
 · generalize sc.kind=k at h1;cases k <;> first | rfl | cases h1
 · refine E02 (Bool.and_eq_true_iff.mp (List.all_eq_true.mp h3 p hp)) fun a b=>?_;exact ⟨fun e=>(by rw [e] at a;injection a),KC (by simpa using b)⟩
theorem Oc (c:Cl X Γ Z):∀ {l:List (Str × NameKind)} {cells:List (Str × Nat)} {acc:List (Str × Addr)},freeC X.cells l=some cells->(∀ p ∈ acc,Γ.env.cells.lookup p.1=some p.2) ->
 ∃ cl,closL Γ.env.cells l acc=some cl /\ (∀ p ∈ cl,Γ.env.cells.lookup p.1=some p.2) /\ (∀ p ∈ acc,p ∈ cl) /\ ∀ p ∈ cells,(p.1,.free) ∈ l /\ ∃ a,KP Γ p.1 a /\ (p.1,a) ∈ cl /\ Z.ad[p.2]?=some a
 | [],cells,acc,h,ha=>by obtain rfl:=Option.some.inj h;exact ⟨acc,rfl,ha,fun _ h=>h,fun _ h=>nomatch h⟩
 | (x,k) :: r,cells,acc,h,ha=>by
  unfold freeC at h;have other:isFreeK k=false->freeC X.cells r=some cells->closL Γ.env.cells ((x,k) :: r) acc=closL Γ.env.cells r acc->∃ cl,closL Γ.env.cells ((x,k) :: r) acc=some cl /\ (∀ p ∈ cl,Γ.env.cells.lookup p.1=some p.2) /\ (∀ p ∈ acc,p ∈ cl) /\ ∀ p ∈ cells,(p.1,.free) ∈ (x,k) :: r /\ ∃ a,KP Γ p.1 a /\ (p.1,a) ∈ cl /\ Z.ad[p.2]?=some a:=fun _ h e=>by
   refine E14 (Oc c h ha) fun cl h1 h2 h3 h4=>?_;exact ⟨cl,e.trans h1,h2,h3,fun p hp=>let ⟨a,b⟩:=h4 p hp;⟨.tail _ a,b⟩⟩
  cases k with
  | free=>
   have h:(match assocS X.cells x,freeC X.cells r with | some i,some l=>some ((x,i) :: l) | _,_=>none)=some cells:=h
   cases q1:assocS X.cells x with
   | none=>rw [q1] at h;injection h
   | some i=>cases q2:freeC X.cells r with
    | none=>rw [q1,q2] at h;injection h
    | some l=>
     rw [q1,q2] at h;obtain rfl:=Option.some.inj h;refine E12 (c _ _ (Jm q1)) fun a ca za=>?_;obtain ⟨cl,h1,h2,h3,h4⟩:=Oc c (acc:=(x,a) :: acc) q2 fun p hp=>by
      rcases List.mem_cons.mp hp with rfl | hp
      · exact ca.at_
      · exact ha p hp
     refine ⟨cl,?_,h2,fun p hp=>h3 p (.tail _ hp),fun p hp=>?_⟩
     · show (match Γ.env.cells.lookup x with | some a=>closL Γ.env.cells r ((x,a) :: acc) | none=>none)=some cl
       rw [ca.at_];exact h1
     · rcases List.mem_cons.mp hp with rfl | hp
       · exact ⟨.head _,a,ca,h3 _ (.head _),za⟩
       · refine E02 (h4 p hp) fun m b=>?_;exact ⟨.tail _ m,b⟩
  | _=>exact other rfl h rfl
theorem QJ {cl:List (Str × Addr)}{f:Str->Option Addr}(h:∀ p ∈ cl,f p.1=some p.2){x:Str}{a:Addr}(hm:(x,a) ∈ cl):cl.lookup x=some a:=by
 induction cl with
 | nil=>cases hm
 | cons p cl ih=>
  obtain ⟨n,b⟩:=p;simp only [List.lookup]
  cases e:x == n with
  | true=>
   have e:=eq_of_beq e;subst e;have h1:=h (x,b) (.head _);have h2:=h (x,a) hm;rw [h1] at h2;exact h2
  | false=>
   rcases List.mem_cons.mp hm with q | q
   · cases q;rw [beq_self_eq_true] at e;cases e
   · exact ih (fun p hp=>h p (.tail _ hp)) q
theorem XE (S:Snd X Γ E){R:Mine.X->Ev}(SR:∀ X Γ,Good X Γ->Snd X Γ (R X))(G:Good X Γ){elt:Expr}{gens:List Comprehension}{sc:Scope}{p:Pos}{Q:QD}(h:compW X E R elt gens sc loc led Ex Q)(c:Cl X Γ Z):EV Γ (EE Ex) (.ListComp elt gens sc p) ⟨loc,led,Z⟩ (QQ Q):=by
 have hcalm:=trB h;refine l1e (trP h) fun g h1=>?_;refine soe (trP (trP h1)) fun cells hc h4=>?_;obtain ⟨target,iter,ifs,ia⟩:=g;have e0:ia=0:=of_decide_eq_true (trB h1);subst e0;dsimp only at h4;have T:=Tj (trB (trP h1));refine E14 (Oc c (acc:=[]) hc fun _ h=>nomatch h) fun cl hcl hl hq1=>?_;obtain -:=hq1;intro hcc;have hs:∀ x,foldedSetIterable iter Γ.env x=pure x:=fun x=>by
  have:=VN h4
  cases iter with
  | Set=>injection this
  | _=>rfl
 refine Xl (G.calm hcalm) (names:=localsOf sc.names) hcl hs T.kind (fun x hx=>(T.each x hx).1) (fun x hx e=>by have:=J3 T.nd x hx;rw [this,e]) (JU T.nd) (fun x hx=>⟨J3 T.nd (x,.local) (JI hx),(T.each _ (JI hx)).2⟩) ?_
 have w:=Wj S G h4 c;refine fun s r=>wpAny_mono (w s r) (fun v s₁ h₁=>wpAny_mono h₁ (fun it s₂ ⟨σ₁,a,J,ps,keep,xs,e,z,r₁,I,hJ,H,zz,t,hk,hL⟩=>⟨σ₁,a,J,ps,keep,xs,e,z,r₁,I,hJ,H,hk,fun Γ' Z' O z'=>?_⟩) fun _ _ x=>x) fun _ _ x=>x;have G':Good (compX X sc cells) Γ':=by
  refine ⟨O.names,fun x d hx=>?_,O.K ▸ G.K,?_,?_,fun hc=>O.handled.trans (G.calm hc),?_,fun x d hx=>O.K ▸ G.all x d hx,?_,fun _ h=>(nomatch h)⟩
  · refine E02 (Jh hx) fun h1 h2=>?_;refine ⟨?_,O.K ▸ G.all _ _ h1⟩;show Γ'.env.scope.names.lookup x=_;rw [O.scope,JR,h2];rfl
  · refine E12 (G.spec) fun r hr hs=>?_;exact ⟨r,O.room ▸ hr,O.K ▸ hs⟩
  · refine E12 (G.specB) fun r hr hs=>?_;exact ⟨r,O.room ▸ hr,O.K ▸ hs⟩
  · refine E12 (G.lst) fun r hr hs=>?_;exact ⟨r,O.room ▸ hr,O.K ▸ hs⟩
  · rw [O.scope];exact T.kind
 have c':Cl (compX X sc cells) Γ' Z':=fun x i hx=>by
  refine E02 (hcc (x,i) hx) fun hf hq0=>?_;refine E13 hq0 fun a ca hm za=>?_;refine ⟨a,⟨?_,?_,ca.dbg⟩,z'.ad (zz.ad za)⟩
  · show Γ'.env.scope.names.lookup x=_;rw [O.scope,JR,J3 T.nd _ hf];show some (relK Γ.env x .free)=_;unfold relK;rw [G.fk,ca.kind];rfl
  · rw [O.cells];exact QJ (f:=fun x=>List.lookup x Γ.env.cells) hl hm
 exact CompD.mono (Mo (SR _ _ G') G' c' hL) fun _ h _=>h
theorem Jd2 (S:Snd X Γ E){R:Mine.X->Ev}(SR:∀ X Γ,Good X Γ->Snd X Γ (R X))(G:Good X Γ){e:Expr}{Q:QD}(h:evW X E R e loc led Ex Q)(c:Cl X Γ Z):EV Γ (EE Ex) e ⟨loc,led,Z⟩ (QQ Q):=by
 cases e with
 | Constant=>exact S7 h
 | Name=>exact XH G c h
 | BoolOp=>exact Ja1 S h c
 | ListComp=>exact XE S SR G h c
 | BinOp l op r=>exact Ys (go (S.ev h c) fun a loc led Z z h=>go (S.ev h (c.mono z)) fun b loc led Z' z' h=>X1 h)
 | UnaryOp op=>cases op with
  | USub=>exact Jbj (go (S.ev h c) fun a loc led Z z h=>let ⟨i,e,h⟩:=dI_ h;e ▸ V1 h)
  | _=>exact h.elim
 | IfExp=>exact TW (go (S.ts h c) fun b loc led Z z h=>let ⟨x,y⟩:=KW h;⟨fun e=>S.ev (x e) (c.mono z),fun e=>S.ev (y e) (c.mono z)⟩)
 | Compare l ops rs=>
  refine l1e h fun op h1=>?_;refine l1e h1 fun r h2=>?_;exact ZD (go (S.ev (trP h2) c) fun a loc led Z z h=>go (S.ev h (c.mono z)) fun b loc led Z' z' h=>Cmp.val (OZ G.K h) fun _ _ q=>q) (LB (trB h2))
 | Attribute=>exact VX (go (S.ev (trP h) c) fun a loc led Z z h=>UN G h) (LK (trB h))
 | Subscript o i=>cases i with
  | Slice lo hi st=>cases st with
   | none=>exact TR (go (S.ev h c) fun a loc led Z z h=>U6 (Ux S h (c.mono z)) fun l loc led Z' z' h=>U6 (Ux S h ((c.mono z).mono z')) fun u loc led Z'' z'' h=>RV G h)
   | some st=>cases lo with
    | none=>cases hi with
     | none=>exact Y6 (go (S.ev h c) fun a loc led Z z h=>let ⟨i,ea,h⟩:=dR_ h;let ⟨xs,e,h⟩:=oL_ h;let ⟨hl,h⟩:=Wx h;⟨i,xs,ea,e,hl,go (S.ev h (c.mono z)) fun d loc led Z' z' h=>let ⟨k,ed,h⟩:=dI_ h;let ⟨ek,h⟩:=tr_ h;⟨by rw [ed,of_decide_eq_true ek],Jq led i ▸ h.1,fun _=>h.2⟩⟩)
     | some=>exact h.elim
    | some=>cases hi <;> exact h.elim
  | _=>exact Vs (go (S.ev h c) fun a loc led Z z h=>go (S.ev h (c.mono z)) fun b loc led Z' z' h=>Wy h)
 | Tuple=>exact SO (trB h) (EVs.lens (LA S (trP (trP h)) c) fun ds σ' hl' q=>⟨hl' ▸ Nat.le_of_ble_eq_true (trB (trP h)),fun Z=>q.1⟩)
 | List=>exact WU (trB h) (EVs.lens (LA S (trP (trP h)) c) fun ds σ' hl' q=>⟨hl' ▸ Nat.le_of_ble_eq_true (trB (trP h)),fun Z=>q.1⟩)
 | Call=>exact Qc S G (trB h) (trP h) c
 | _=>exact h.elim
theorem Nn {e:Expr}{env:Env}(h:isTest e=false):isTrue e env (eval e env)=(do let v <-eval e env;standAt e.pos;holding [v] (truthy v)):=by
 cases e with
 | UnaryOp op=>cases op with
  | Not=>injection h
  | _=>rfl
 | BoolOp=>injection h
 | IfExp=>injection h
 | Compare=>injection h
 | _=>rfl
theorem VI (S:Snd X Γ E){op:BoolOp}{es:List Expr}{p:Pos}{Q:Bool->Loc->Led->Prop}(h:boolW E op es p loc led Ex Q)(c:Cl X Γ Z):TS Γ (EE Ex) (.BoolOp op es p) ⟨loc,led,Z⟩ (QQ Q):=by
 cases es with
 | nil=>exact h.elim
 | cons x rest=>cases rest with
  | nil=>cases op with
   | And=>exact PW (S.ts h c)
   | Or=>exact QV (S.ts h c)
  | cons y rest=>cases op with
   | And=>exact UD (go (S.ts h c) fun b loc led Z' z h=>let ⟨x,y⟩:=KW h;⟨fun e=>S.ts (x e) (c.mono z),y⟩)
   | Or=>exact Jaa (go (S.ts h c) fun b loc led Z' z h=>let ⟨x,y⟩:=KW h;⟨x,fun e=>S.ts (y e) (c.mono z)⟩)
theorem Jcm (S:Snd X Γ E)(G:Good X Γ){e:Expr}{Q:Bool->Loc->Led->Prop}(h:tsW E E.ev e loc led Ex Q)(c:Cl X Γ Z):TS Γ (EE Ex) e ⟨loc,led,Z⟩ (QQ Q):=by
 cases ht:isTest e with
 | false=>
  have h:(E.ev e loc led Ex fun a loc led=>truD a led fun b=>Q b loc led):=by unfold tsW at h;rw [ht] at h;exact h
  exact Zt (go (S.ev h c) fun a loc led Z' z h=>RS h) (Nn ht)
 | true=>
  have h:testW E e loc led Ex Q:=by unfold tsW at h;rw [ht] at h;exact h
  cases e with
  | UnaryOp op=>cases op with
   | Not=>exact YD (go (S.ts h c) fun b loc led Z' z h=>by cases b <;> exact h)
   | _=>exact h.elim
  | BoolOp=>exact VI S h c
  | Compare l ops rs=>
   cases ops with
   | nil=>exact h.elim
   | cons op ops=>cases rs with
    | nil=>exact h.elim
    | cons r rs=>cases ops with
     | cons op2 ops=>
      refine l0e h fun h=>?_;refine l1e h fun r2 h=>?_;refine Xa (LB (trB h)) (go (S.ev (trP h) c) fun a loc led Z z h=>go (S.ev h (c.mono z)) fun b loc led Z' z' h=>Cmp.val' (OZ (Q:=fun t loc led=>ife t (E.ev r2 loc led Ex fun d loc led=>cmpD op2 b d led fun c=>Q c loc led) (Q false loc led)) G.K h) fun t loc led Z'' z'' h=>Lh (let ⟨x,y⟩:=KW h;⟨fun e=>go (S.ev (x e) (((c.mono z).mono z').mono z'')) fun d loc led Z z h=>Cmp.val (OZ G.K h) fun _ _ q=>Lh q,y⟩))
     | nil=>
      refine l0e h fun h=>?_;exact ZB (go (S.ev (trP h) c) fun a loc led Z z h=>go (S.ev h (c.mono z)) fun b loc led Z' z' h=>Cmp.val (OZ G.K h) fun _ _ q=>Lh q) (LB (trB h))
  | _=>exact h.elim
end
section
variable {X:X}{Γ:Cx}{E:Ev}{loc:Loc}{led:Led}{Z:Zs}{Ex:QE}
theorem Rq {I:Loc->Led->Prop}{I':St->Prop}{Q:QF}{fl:Fl}(k:I loc led->I' ⟨loc,led,Z⟩)(h:loopW I Q fl loc led):LoopK I' (QQ Q) fl ⟨loc,led,Z⟩:=by
 cases fl with
 | next=>exact k h
 | cont=>exact k h
 | brk=>exact h
 | ret d=>exact h
theorem YY (S:Snd X Γ E){Z₀:Zs}{k:Nat}{t:Expr}{b o:List Stmt}{Q:QF}(c:Cl X Γ Z₀):∀ (n:Nat) {loc:Loc} {led:Led},whW E k t b o Ex Q n loc led->WhD Γ (EE Ex) Z₀ k t b o (QQ Q) n loc led
 | 0,_,_,h=>h
 | n + 1,_,_,h=>fun Z z=>go (S.ts h (c.mono z)) fun b loc led Z' z' h=>let ⟨x,y⟩:=KW h;⟨fun e=>go (S.xs (x e) ((c.mono z).mono z')) fun fl loc led Z' z h=>Rq (fun hz0=>by refine E12 hz0 fun led' ht h=>?_;exact ⟨led',ht,YY S c n h⟩) h,fun e=>S.xs (y e) ((c.mono z).mono z')⟩
theorem K5 {e t:Expr}{n:Nat}{env:Env}(h:noComp e=true):swapsWithSole [t] e n env=pure false:=Li (t:=some t) h
theorem Xf {es:List Expr}{k:Nat}{p:Pos}{e:Expr}{env:Env}(h:noTup e=true):swappedStores [.Tuple es k p] e env=pure none:=by
 cases e with
 | Tuple=>injection h
 | _=>rfl
theorem Qm (S:Snd X Γ E)(G:Good X Γ){t e:Expr}{p:Pos}{Q:QF}(hs:noComp e=true)(h:asnW X E t e loc led Ex Q)(c:Cl X Γ Z):EX Γ (EE Ex) (.Assign [t] e p) ⟨loc,led,Z⟩ (QQ Q):=by
 cases t with
 | Name=>exact Kb (go (S.ev h c) fun d loc led Z z h=>Me G h (c.mono z)) rfl (K5 hs) rfl
 | Tuple=>exact Kb (go (S.ev (trP h) c) fun d loc led Z z h=>Qj S G h (c.mono z)) rfl (K5 hs) (Xf (trB h))
 | Attribute=>exact Mc (go (S.ev (trP h) c) fun d loc led Z z h=>go (S.ev h (c.mono z)) fun a loc led Z' z' h=>OF G h) (Li hs)
 | _=>exact h.elim
theorem Yc (S:Snd X Γ E)(G:Good X Γ){t e:Expr}{op:Operator}{p:Pos}{Q:QF}(h:augW X E t op e loc led Ex Q)(c:Cl X Γ Z):EX Γ (EE Ex) (.AugAssign t op e p) ⟨loc,led,Z⟩ (QQ Q):=by
 cases t with
 | Name x=>
  refine soe h fun a e1 h=>?_;rw [Kj,<-G.names] at e1;exact Y7 e1 (go (S.ev h c) fun b loc led Z z h va vb ia ib=>
   Wp.at_ (UB (Q:=fun d loc led=>so (put X.names loc _ d) fun loc=>Q .next loc led) h va vb ia ib) fun d σ' q=>let ⟨l,e,q⟩:=so_ q;⟨l,G.names ▸ Ni e,q⟩)
 | Attribute o x=>
  exact NS (go (S.ev (trP h) c) fun a loc led Z z h va ia=>go (UN G h va ia) fun old loc led Z' z' h=>go (S.ev h ((c.mono z).mono z')) fun b loc led Z'' z'' h va vb ia ib=>
   go (UB (Q:=fun d loc led=>setW a x d led fun led=>Q .next loc led) h va vb ia ib) fun d loc led Z z h=>OF G h)
 | _=>exact h.elim
theorem RF (S:Snd X Γ E)(G:Good X Γ){Z₀:Zs}(c:Cl X Γ Z₀){t:Bool}{n:Nat}{keep:Led->Prop}{target:Expr}{body orelse:List Stmt}{Q:QF} :
 ∀ {xs:LD} {loc:Loc} {led:Led},forL X E t n keep target body orelse Ex Q xs loc led->ForD Γ (EE Ex) keep Z₀ n target body orelse (QQ Q) xs loc led
 | [],_,_,h=>fun Z z=>S.xs h (c.mono z)
 | x :: xs,_,_,h=>fun Z z v hv=>go (Qj S G h (c.mono z) v hv) fun _ loc led Z1 z1 h=>go (S.xs h ((c.mono z).mono z1)) fun fl loc led Z2 z2 h=>
  Rq (fun h=>let ⟨led',a1,a2,a3⟩:=N8 h;⟨led',a1,a2,RF S G c a3⟩) h
theorem X6 (S:Snd X Γ E)(G:Good X Γ){target iter:Expr}{body orelse:List Stmt}{p:Pos}{Q:QF}(h:forW X E target iter body orelse loc led Ex Q)(c:Cl X Γ Z):EX Γ (EE Ex) (.For target iter body orelse p) ⟨loc,led,Z⟩ (QQ Q):=by
 refine X7 (G.calm (trB h)) (go (S.ev (trP (trP h)) c) fun a loc led Z1 z1 h=>?_) fun x=>by
  cases iter with
  | Set=>cases (trB (trP h))
  | _=>rfl
 obtain ⟨t,keep,xs,i,hk,h⟩:=Vb h;exact ⟨keep,xs,i,fun n hn=>hn ▸ RF S G (c.mono z1) h⟩
theorem Yn (S:Snd X Γ E){b o:List Stmt}{hs:List ExceptHandler}{f:List Stmt}{p:Pos}{Q:QF}(h:l0 f (lC hs False fun _ _=>E.xs b loc led WM (tryK E o Ex Q)))(c:Cl X Γ Z):EX Γ (EE Ex) (.Try b hs o f p) ⟨loc,led,Z⟩ (QQ Q):=by
 refine l0e h fun h=>?_
 cases hs with
 | nil=>exact h.elim
 | cons h₀ hs=>
  refine Jaj (Wp.exc (go (S.xs h c) fun fl loc led Z' z h=>?_) fun _ _=>noE)
  cases fl with
  | next=>exact S.xs h (c.mono z)
  | brk=>exact h
  | cont=>exact h
  | ret d=>exact h
theorem WJ {d:D}(h:isVE d=true):d=.bi .ValueError:=by cases d with
 | bi b=>cases b <;> first | rfl | cases h
 | _=>injection h
theorem Vk {d:D}(h:isSI d=true):d=.bi .StopIteration:=by cases d with
 | bi b=>cases b <;> first | rfl | cases h
 | _=>injection h
theorem Yk {o:Option D}(h:isVEo o=true):o=some (.bi .ValueError):=by
 cases o with
 | none=>injection h
 | some d=>cases d with
  | bi b=>cases b <;> first | rfl | cases h
  | _=>injection h
theorem vH_ {h:ExceptHandler}{a:Expr × List Stmt}(e:vH h=some a):∃ p,h=.ExceptHandler (some a.1) none a.2 p:=by
 obtain ⟨t,n,b,p⟩:=h
 cases t with
 | none=>injection e
 | some t=>cases n with
  | none=>obtain rfl:=Option.some.inj e;exact ⟨p,rfl⟩
  | some=>injection e
theorem Good.busy (G:Good X Γ)(e:Addr):Good X.busy (Γ.busy e):=
 ⟨G.names,G.tops,G.K,G.specB,G.specB,fun h=>(nomatch h),⟨0,by refine E12 (G.spec) fun r hr _=>?_;show 0 < Γ.room;lia,fun _ _ _ _ _ _ _ _ _ _ _ h=>h.elim⟩,G.all,G.fk,G.fz⟩
theorem VE (S:Snd X Γ E){R:Mine.X->Ev}(SR:∀ X Γ,Good X Γ->Snd X Γ (R X))(G:Good X Γ){b o:List Stmt}{hs:List ExceptHandler}{s:List Stmt}{p:Pos}{Q:QF}(e:catchOf X hs=some s)(h:E.xs b loc led (catchW (R X.busy) s Q) (tryK E o Ex Q))(c:Cl X Γ Z):EX Γ (EE Ex) (.Try b hs o [] p) ⟨loc,led,Z⟩ (QQ Q):=by
 refine E12 (ob_ e) fun h₀ f1 e=>?_;refine E12 (ob_ e) fun q f2 e=>?_;refine E12 (ob_ e) fun x f3 e=>?_;refine E12 (ob_ e) fun bb f4 e9=>?_;refine E02 (MI e9) fun hv es=>?_;subst es;refine E11 (vH_ f2) fun hp g2=>?_;refine E11 (RC f3) fun np g3=>?_;rw [Qi f1,g2,g3,UR f4];refine E02 (G.tops _ _ (Jm (Yk hv))) fun k1 t1=>?_;refine Wl k1 t1 (Wp.excZ (go (S.xs h c) fun fl loc led Z' z h=>?_) fun cls σ' zz hq0=>?_)
 · cases fl with
   | next=>exact S.xs h (c.mono z)
   | brk=>exact h
   | cont=>exact h
   | ret d=>exact h
 · refine E12 hq0 fun cc ec q=>?_
   cases cc with
   | value=>exact ⟨ec,fun a=>Wp.exc ((SR _ _ (G.busy a)).xs (Z:=σ'.Z) q fun x i hx=>let ⟨c,k,hz⟩:=c x i hx;⟨c,⟨k.kind,k.at_,k.dbg⟩,zz.ad hz⟩) fun _ _=>noE⟩
   | stop=>exact q.elim
theorem TD (S:Snd X Γ E)(G:Good X Γ){e:Expr}{p:Pos}{Q:QF}(h:raiseW X E e loc led Ex)(c:Cl X Γ Z):EX Γ (EE Ex) (.Raise (some e) none p) ⟨loc,led,Z⟩ (QQ Q):=by
 refine E02 (tr_ h) fun hcalm h=>?_
 cases e with
 | Name x=>refine soe h fun d e h=>?_;refine E02 (G.tops _ _ (Jm e)) fun k t=>?_;exact Mx (G.calm hcalm) k (Vk (trB h) ▸ t) ⟨.stop,rfl,(trP h)⟩
 | Call f as ks=>cases f with
  | Name=>cases ks with
   | nil=>
    exact MU (G.calm hcalm) PySem.F.excCall_ValueError PySem.F.excRaise_ValueError (b:=.ValueError) rfl (trB h) (go (S.ev (trP (trP h)) c) fun f loc led Z z h1=>
     ⟨WJ (trB h1),EVs.lens (LA S (trP h1) (c.mono z)) fun ds σ' e q=>⟨e ▸ Nat.le_of_ble_eq_true (trB (trP h)),.value,rfl,q.1⟩⟩)
   | cons=>exact h.elim
  | _=>exact h.elim
 | _=>exact h.elim
theorem Jdd (S:Snd X Γ E){R:Mine.X->Ev}(SR:∀ X Γ,Good X Γ->Snd X Γ (R X))(G:Good X Γ){st:Stmt}{Q:QF}(h:exW X E R st loc led Ex Q)(c:Cl X Γ Z):EX Γ (EE Ex) st ⟨loc,led,Z⟩ (QQ Q):=by
 cases st with
 | Pass=>exact Xj h
 | Break=>exact Ts h
 | Continue=>exact Og h
 | Return e=>cases e with
  | none=>exact PP h
  | some e=>exact Re (S.ev h c)
 | Expr=>exact Vu (S.ev (trP h) c) (Li (trB h))
 | If=>exact Jem (go (S.ts h c) fun b loc led Z z h=>let ⟨x,y⟩:=KW h;⟨fun e=>S.xs (x e) (c.mono z),fun e=>S.xs (y e) (c.mono z)⟩)
 | While=>refine E11 h fun n h=>?_;exact Sa n (YY S c n h)
 | For=>exact X6 S G h c
 | Try=>refine E02 (l0_ h) fun hq5=>?_;obtain rfl:=hq5;intro h;exact VQ h (fun s e h=>VE S SR G e h c) fun _ h=>Yn S (show l0 [] _ from h) c
 | Assign ts=>refine l1e h fun t h1=>?_;exact Qm S G (trB h1) (trP h1) c
 | AugAssign=>exact Yc S G h c
 | Raise e cause=>cases e with
  | none=>exact h.elim
  | some e=>cases cause with
   | none=>exact TD S G h c
   | some=>exact h.elim
 | _=>exact h.elim
theorem Nv:∀ {l:LN},nodupN l=true->l.Nodup
 | [],_=>.nil
 | a :: l,h=>by
  unfold nodupN at h
  cases e:has a l with
  | true=>rw [e] at h;injection h
  | false=>
   rw [e] at h;rw [Mg] at e;exact List.nodup_cons.mpr ⟨fun hm=>(by rw [List.contains_iff_mem.mpr hm] at e;injection e),Nv h⟩
theorem Su (p x:LN):outC p x=outOf p x:=by
 unfold outOf outC
 congr 1;funext c
 rw [Mg,List.contains_eq_mem]
theorem PK {d:D}(h:isDictD d=true):d=.bi .dict:=by cases d with
 | bi b=>cases b <;> first | rfl | cases h
 | _=>injection h
theorem Xn:nmMt=Str.ofString "maketrans":=by kernel_rfl
theorem W8:nmFk=Str.ofString "fromkeys":=by kernel_rfl
theorem WC:nmTr=Str.ofString "translate":=by kernel_rfl
inductive Tr1 (a:Str × Expr × Expr × Expr):Stmt->Prop
 | mk (tp:Pos) (n1 n2:Str) (ap1 ap2 p2 p1 p:Pos) (h1:n1=nmMt) (h2:n2=nmFk) (h3:noSuper a.2.1=true) (h4:noSuper a.2.2.1=true) (h5:noStar [a.2.2.2]=true) (h6:ap1.endLine=p1.line) (h7:ap2.endLine=p2.line):Tr1 a (.Assign [.Name a.1 tp] (.Call (.Attribute a.2.1 n1 ap1) [.Call (.Attribute a.2.2.1 n2 ap2) [a.2.2.2] [] p2] [] p1) p)
inductive Tr2 (t:Str)(a:Expr × Str × Expr):Stmt->Prop
 | mk (ap3:Pos) (n4:Str) (ap4 tp p4 p:Pos) (h1:n4=nmTr) (h2:noSuper a.1=true) (h3:noSuper a.2.2=true) (h4:ap4.endLine=p4.line):Tr2 t a (.Assign [.Attribute a.1 a.2.1 ap3] (.Call (.Attribute a.2.2 n4 ap4) [.Name t tp] [] p4) p)
theorem TE {st:Stmt}{a:Str × Expr × Expr × Expr}(h:isTr1 st=some a):Tr1 a st:=by
 refine E12 (ob_ h) fun s f1 h1=>?_;refine E12 (ob_ h1) fun t f2 h2=>?_;refine E12 (ob_ h2) fun m1 f3 h3=>?_;refine E12 (ob_ h3) fun e f4 h4=>?_;refine E12 (ob_ h4) fun m2 f5 h5=>?_;refine E12 (ob_ h5) fun arg f6 h6=>?_;refine E02 (MI h6) fun b eb=>?_
 clear h h1 h2 h3 h4 h5 h6
 subst eb;refine E02 (Bool.and_eq_true_iff.mp b) fun e1 b=>?_;refine E02 (Bool.and_eq_true_iff.mp b) fun e2 b=>?_;refine E02 (Bool.and_eq_true_iff.mp b) fun e3 b=>?_;refine E02 (Bool.and_eq_true_iff.mp b) fun e4 e5=>?_;refine E11 (YS f1) fun p hq4=>?_;obtain rfl:=hq4;refine E11 (RC f2) fun tp g2=>?_;refine E22 (QB f3) fun ap1 p1 g3 e6=>?_;refine E22 (QB f5) fun ap2 p2 g5 e7=>?_;rw [g2,g3,Qi f4,g5,Qi f6];exact .mk _ _ _ _ _ _ _ _ (Jl.mp e1) (Jl.mp e2) e3 e4 e5 e6 e7
theorem SU {t:Str}{st:Stmt}{a:Expr × Str × Expr}(h:isTr2 t st=some a):Tr2 t a st:=by
 refine E12 (ob_ h) fun s f1 h1=>?_;refine E12 (ob_ h1) fun a3 f2 h2=>?_;refine E12 (ob_ h2) fun m f3 h3=>?_;refine E12 (ob_ h3) fun e f4 h4=>?_;refine E12 (ob_ h4) fun t' f5 h5=>?_;refine E02 (MI h5) fun b eb=>?_
 clear h h1 h2 h3 h4 h5
 subst eb;refine E02 (Bool.and_eq_true_iff.mp b) fun e1 b=>?_;refine E02 (Bool.and_eq_true_iff.mp b) fun e2 b=>?_;refine E02 (Bool.and_eq_true_iff.mp b) fun e3 e4=>?_;refine E11 (YS f1) fun p hq3=>?_;obtain rfl:=hq3;refine E22 (QB f3) fun ap4 p4 g3 e5=>?_;refine E11 (RC f5) fun tp g5=>?_;rw [UE f2,g3,Qi f4,g5,Jl.mp e2];exact .mk _ _ _ _ _ _ (Jl.mp e1) e3 e4 e5
theorem Ye (hc:Mw Γ)(S:Snd X Γ E)(G:Good X Γ){a:Str × Expr × Expr × Expr}{b:Expr × Str × Expr}{rest:List Stmt}{Q:QF}{st2:Stmt}(T2:Tr2 a.1 b st2){p:LN}(hnd:p.Nodup)(hl:p.length <= 1000){ta:Addr}{o':Obj}(hm':Z.m ta=some o')(ho':TabO Γ p o')(hlo':(ta == sysModules)=false)
 (h:(∃ loc5,put X.names loc a.1 (.any (.ref ta))=some loc5 /\ E.ev b.2.2 loc5 led Ex (trD X E a b rest Ex Q p (.ref ta)))) (c:Cl X Γ Z):∃ loc',N2 Γ.names loc a.1 (.any (.ref ta)) loc' /\ XS Γ (EE Ex) (st2 :: rest) ⟨loc',led,Z⟩ (QQ Q):=by
 refine E12 h fun loc5 e5 h=>?_;refine ⟨loc5,G.names ▸ Ni e5,?_⟩
 cases T2 with
 | mk ap3 n4 ap4 tp' p4 ps' t0 t1 t2 t3=>
  rw [t0,WC];refine Ot (Mc (N4 rfl (go (S.ev h c) fun d loc7 led7 Z7 z7 h=>?_) (beq_iff_eq.mpr t3) (by decide:(1:Nat) < 29) (LK t2)) (Li rfl))
  refine E12 (dS_ h) fun x hq2=>?_;obtain rfl:=hq2;intro h
  cases x with
  | nil=>exact False.elim h
  | cons x0 xs=>
   have h1:tr (Nat.ble (x0 :: xs).length 1000) _:=h;refine Ll F.slot_str_translate F.type_str_translate ⟨fun v i=>by obtain rfl:=i.inv;exact JQ,MJ (P7 (by rw [G.names,<-Kj];exact (trP h1).1) ?_)⟩
   refine Zd hc (fun e=>(nomatch e)) (Nat.le_of_ble_eq_true (trB h1)) (z7.1 _ _ hm') ho' hlo' ?_;rw [Su];refine go (S.ev (trP h1).2 (c.mono z7)) fun d loc8 led8 Z8 z8 h=>?_;exact fun va vb ia ib=>go (OF G (Q:=fun loc led=>E.xs rest loc led Ex Q) h va vb ia ib) fun _ loc9 led9 Z9 z9 h=>Ms (S.xs h (((c.mono z7).mono z8).mono z9))
theorem SS (S:Snd X Γ E)(G:Good X Γ){st:Stmt}{rest:List Stmt}{p:(Str × Expr × Expr × Expr) × (Expr × Str × Expr) × List Stmt}{Q:QF}(e:isTr st rest=some p)(h:transW X E p.1 p.2.1 p.2.2 Ex Q loc led)(c:Cl X Γ Z):XS Γ (EE Ex) (st :: rest) ⟨loc,led,Z⟩ (QQ Q):=by
 refine E02 (tr_ h) fun hcalm h=>?_;have hc:=G.calm hcalm;refine E12 (ob_ e) fun a' e1 e=>?_;refine E12 (ob_ e) fun r' e0 e=>?_;refine E12 (ob_ e) fun b' e2 e9=>?_;obtain ⟨st2,rest2⟩:=r';obtain rfl:=UR e0;obtain rfl:=Option.some.inj e9;have T1:=TE e1;have T2:=SU e2
 clear e0 e1 e2
 have h:E.ev a'.2.1 loc led Ex (trA X E a' b' rest2 Ex Q):=h
 cases T1 with
 | mk tp n1 n2 ap1 ap2 p2 p1 ps t1 t2 s1 s2 s3 s4 s5=>
  rw [t1,t2,Xn,W8];refine Ot (Kb (t:=.Name a'.1 tp) (N4 rfl (go (S.ev h c) fun d loc1 led1 Z1 z1 h=>?_) (beq_iff_eq.mpr s4) (by decide:(1:Nat) < 29) (LK s1)) rfl (K5 rfl) rfl)
  refine E12 (dS_ h) fun l hq1=>?_;obtain rfl:=hq1;intro h;refine XX ⟨fun v i=>by obtain rfl:=i.inv;exact JQ,MJ (T3 s3 (go (S.ev h (c.mono z1)) fun d loc2 led2 Z2 z2 h=>?_) (beq_iff_eq.mpr s5) (by decide:(1:Nat) < 29) (LK s2))⟩
  obtain rfl:=PK (trB h);refine YF fun u Z3 z3 hu=>MJ (go (S.ev (trP h) (((c.mono z1).mono z2).mono z3)) fun d loc4 led4 Z4 z4 h=>?_);refine E12 (dS_ h) fun q hq0=>?_;obtain rfl:=hq0;intro h;have hnd:=Nv (trB h);have hl:=Nat.le_of_ble_eq_true (trB (trP h));refine ⟨fun v s i r z=>by obtain rfl:=i.inv;exact M5 r (z4.1 _ _ hu),Yj hc (z4.1 _ _ hu) hnd hl fun dd o Z5 z5 hm ho hlo=>?_⟩
  refine Jbe hm ho hlo hnd hl fun ta o' Z6 z6 hm' ho' hlo'=>?_;refine E12 (Ye (Z:=Z6) hc S G T2 hnd hl hm' ho' hlo' (so_ ((trP (trP h)) (.ref ta))) ((((((c.mono z1).mono z2).mono z3).mono z4).mono z5).mono z6)) fun loc' U k=>?_;exact O0 ⟨loc',U,Ms k⟩
theorem Jcb (S:Snd X Γ E){R:Mine.X->Ev}(SR:∀ X Γ,Good X Γ->Snd X Γ (R X))(G:Good X Γ){l:List Stmt}{Q:QF}(h:xsW X E R l loc led Ex Q)(c:Cl X Γ Z):XS Γ (EE Ex) l ⟨loc,led,Z⟩ (QQ Q):=by
 cases l with
 | nil=>exact Jak h
 | cons st rest=>
  refine VQ (show alt (isTr st rest) (fun p=>transW X E p.1 p.2.1 p.2.2 Ex Q loc led) (exW X E R st loc led Ex (seqW E rest Ex Q)) from h) (fun p e h=>SS S G e h c) fun _ h=>?_
  refine Ot (go (Jdd S SR G h c) fun fl loc led Z' z h=>?_)
  cases fl with
  | next=>exact Ms (S.xs h (c.mono z))
  | brk=>exact h
  | cont=>exact h
  | ret d=>exact h
theorem LC:∀ (n:Nat) (X:Mine.X) (Γ:Cx),Good X Γ->Snd X Γ (run n X)
 | 0,_,_,_=>⟨fun h=>h.elim,fun h=>h.elim,fun h=>h.elim⟩
 | n + 1,X,Γ,G=>have S:=LC n X Γ G;⟨fun h c=>Jd2 S (LC n) G h c,fun h c=>Jcm S G h c,fun h c=>Jcb S (LC n) G h c⟩
end
inductive Sel where
 | arg (i:Nat)
 | dflt (d:D) (v:Value) (h:∀ Z,Is Z d v)
noncomputable def selV (vs:List Value):List Sel->List Value
 | []=>[]
 | .arg i :: r=>(nth vs i).getD .none :: selV vs r
 | .dflt _ v _ :: r=>v :: selV vs r
noncomputable def selD (ds:LD):List Sel->LD
 | []=>[]
 | .arg i :: r=>(nth ds i).getD .none :: selD ds r
 | .dflt d _ _ :: r=>d :: selD ds r
noncomputable def selOk (n:Nat):List Sel->Bool
 | []=>true
 | .arg i :: r=>Nat.blt i n && selOk n r
 | .dflt _ _ _ :: r=>selOk n r
theorem Y3 {l:LN}{x:Str}{t:Tok}(e:lEqB l x.cps.toList=true)(h:Nat.ble l.length 1000=true)(Z:Zs):Is Z (.str l) (.str x t):=by
 obtain rfl:=Jn.mp e;cases x;exact .str _ t (Nat.le_trans (Nat.le_of_ble_eq_true h) (by decide))
theorem Rv {Z:Zs}{ds:LD}{vs:List Value}(h:IsL Z ds vs):∀ {sel:List Sel},selOk ds.length sel=true->IsL Z (selD ds sel) (selV vs sel)
 | [],_=>.nil
 | .arg i :: r,e=>by
  have e:=Bool.and_eq_true_iff.mp e;have hi:i < ds.length:=Nat.le_of_ble_eq_true e.1;refine E12 (h.get (List.getElem?_eq_getElem hi)) fun v hv iv=>?_;unfold selD selV;rw [Jq,Jq,hv,List.getElem?_eq_getElem hi];exact .cons iv (Rv h e.2)
 | .dflt d v k :: r,e=>.cons (k Z) (Rv h e)
noncomputable def allV:Nat->(List Value->Prop)->Prop
 | 0,P=>P []
 | n + 1,P=>∀ v,allV n fun l=>P (v :: l)
theorem NN {n:Nat}:∀ {P:List Value->Prop},allV n P->∀ vs,vs.length=n->P vs:=by
 induction n with
 | zero=>intro P h vs e;rw [List.eq_nil_of_length_eq_zero e];exact h
 | succ n ih=>
  intro P h vs e
  cases vs with
  | nil=>injection e
  | cons v vs=>exact ih (h v) vs (Nat.succ.inj e)
structure Pat where
 n:Nat
 kn:List Str
 ps:List Str
 sel:List Sel
structure PJ (K:Frag)(fd:FuncData)(p:Pat):Prop where
 sel:selOk (p.n + p.kn.length) p.sel=true
 len:p.ps.length=p.sel.length
 bind:∀ S,allV p.n fun vs=>allV p.kn.length fun ks=>peek K S (bindArgs fd ⟨vs,p.kn.zip ks⟩)=some (p.ps.zip (selV (vs++ks) p.sel))
theorem MX (vs:List Value):∀ sel:List Sel,(selV vs sel).length=sel.length
 | []=>rfl
 | .arg _ :: r=>congrArg Nat.succ (MX vs r)
 | .dflt _ _ _ :: r=>congrArg Nat.succ (MX vs r)
theorem PJ.binds {K:Frag}{fd:FuncData}{p:Pat}(h:PJ K fd p){args:LD}{kws:List (Str × D)}(hn:args.length=p.n)(hk:kws.map (·.1)=p.kn):Binds K fd args kws p.ps (selD (args++kws.map (·.2)) p.sel):=by
 intro Z s vs ks X hv hkv hkn;have l1:=hv.length;have l2:=hkv.length;have lk:p.kn.length=kws.length:=by rw [<-hk,List.length_map]
 simp only [List.length_map] at l2;refine ⟨selV (vs++ks.map (·.2)) p.sel,kp_binds X fun S=>?_,by rw [h.len,MX],Rv (hv.append hkv) ?_⟩
 · have e:=NN (NN (h.bind S) vs (by lia)) (ks.map (·.2)) (by rw [List.length_map];lia)
   rw [<-hk,<-hkn,Mp] at e;exact e
 · rw [List.length_append,List.length_map,hn,<-lk];exact h.sel
noncomputable def bindW (names:List Str)(ps:List Pat)(args:LD)(kws:List (Str × D))(Q:Loc->Prop):Prop:=match ps with
 | []=>False
 | p :: r=>match Nat.beq args.length p.n,Nat.beq kws.length p.kn.length,keq p.kn kws with
  | true,true,true=>Q ((selD (args++kws.map (·.2)) p.sel).map some++(names.drop p.ps.length).map fun _=>none)
  | _,_,_=>bindW names r args kws Q
where keq:List Str->List (Str × D)->Bool
 | n :: ns,k :: ks=>nameEq n k.1 && keq ns ks
 | _,_=>true
theorem U7:∀ {ns:List Str} {ks:List (Str × D)},bindW.keq ns ks=true->ks.length=ns.length->ks.map (·.1)=ns
 | [],[],_,_=>rfl
 | n :: ns,k :: ks,h,e=>by
  have h:=Bool.and_eq_true_iff.mp h;rw [List.map_cons,U7 h.2 (Nat.succ.inj e),Jl.mp h.1]
noncomputable def defW (X:X)(n:Nat)(body:List Stmt)(ps:List Pat):Jc:=fun args kws led Ex Q=>bindW X.names ps args kws fun loc=>(run n X).xs body loc led (fun c _ led=>Ex c led) fun fl _ led=>Q fl.val led
structure XOk (K:Frag)(r:Nat)(scope:Scope)(X:X):Prop where
 kok:KOk K
 tops:∀ x d,(x,d) ∈ X.tops->scope.names.lookup x=some .globalImplicit /\ Top K x d
 spec:∀ a sp,(a,sp) ∈ X.spec->SpecOkC X.calm K r (.val a) sp /\ keepIn K (.ref a)=true
 specB:∀ a sp,(a,sp) ∈ X.specB->SpecOkC false K r (.val a) sp /\ keepIn K (.ref a)=true
 lst:SpecCalOkC X.calm K r (.bi .list) X.lst
 all:∀ x d,(x,d) ∈ X.all->Top K x d
 fk:scope.kind=.function
 fz:X.fz=none
theorem XOk.good {Γ:Cx}{r:Nat}{scope:Scope}{X:X}(h:XOk Γ.K r scope X)(hn:Γ.names=X.names)(hs:Γ.env.scope=scope)(hr:r + 1 < Γ.room)(hc:X.calm=true->Mw Γ):Good X Γ:=
 ⟨hn,fun x d hx=>⟨by show Γ.env.scope.names.lookup x=_;rw [hs];exact (h.tops x d hx).1,(h.tops x d hx).2⟩,h.kok,⟨r,hr,h.spec⟩,⟨r,hr,h.specB⟩,hc,⟨r,by lia,h.lst⟩,h.all,by rw [hs];exact h.fk,fun p e=>by rw [h.fz] at e;injection e⟩
theorem UQ {K:Frag}{r:Nat}{f:Addr}{fd:FuncData}{body:List Stmt}{X:X}{n:Nat}{ps:List Pat}(F:O8 K f fd body X.names)(h:XOk K r fd.scope X)(hc:X.cells=[])(hp:∀ p ∈ ps,PJ K fd p /\ X.names=p.ps++X.names.drop p.ps.length):SpecOkC X.calm K (r + 3) (.val f) (defW X n body ps):=by
 intro Γ hK hr hcalm args kws led Ex Q loc Z hq;subst hK;unfold defW at hq
 revert hp
 induction ps with
 | nil=>exact hq.elim
 | cons p ps ih=>
  intro hp;unfold bindW at hq
  split at hq
  · rename_i e1 e2 e3
    refine E02 (hp p (.head _)) fun hp1 hp2=>?_;have hk:=U7 e3 (Nat.eq_of_beq_eq_true e2);refine YZ F (hp1.binds (Nat.eq_of_beq_eq_true e1) hk) hp2 (by lia) fun Γ' Z' En=>?_
    have G:Good X Γ':=XOk.good (r:=r) (scope:=fd.scope) (En.K ▸ h) En.names En.scope (by rw [En.room];lia) (fun hc=>En.handled.trans (hcalm hc))
    have:=(LC n _ _ G).xs (Z:=Z') hq (fun x i hx=>by rw [hc] at hx;cases hx)
    exact Wp.exc (Wp.at_ this fun fl σ' q Z=>⟨rfl,q⟩) fun cls σ' q Z=>⟨rfl,q⟩
  · exact ih hq fun p hm=>hp p (.tail _ hm)
end Mine
end
noncomputable section
open PySem PySem.W PyProof.Rows PySem.Calls
namespace Mine
noncomputable def ofL:List Obj->BT->Nat->Option BT
 | [],t,_=>some t
 | o :: r,t,n=>match ((t.ins n o).get n).isSome with
  | true=>ofL r (t.ins n o) (Nat.succ n)
  | false=>none
theorem QX (life:Life):∀ (l:List Obj) (t:BT) (n:Nat) (t':BT),ofL l t n=some t'->∃ m,absHeap t' m life=⟨((absHeap t n life).objs.toList++l).toArray,life⟩ /\ m=n + l.length
 | [],t,n,t',h=>by
  obtain rfl:=Option.some.inj h;exact ⟨n,by simp [absHeap],rfl⟩
 | o :: r,t,n,t',h=>by
  unfold ofL at h
  cases e:((t.ins n o).get n).isSome with
  | false=>rw [e] at h;injection h
  | true=>
   rw [e] at h;refine E12 (QX life r _ _ _ h) fun m h1 h2=>?_;refine ⟨m,h1.trans ?_,by rw [h2];simp only [List.length_cons];lia⟩
   rw [show Nat.succ n=n + 1 from rfl,absHeap_ins e]
   simp [Heap.push]
noncomputable def impT (stp:SharedT->Thread->Option (SharedT × Thread)):Nat->SharedT->Thread->Option SharedT
 | 0,_,_=>none
 | n + 1,s,t=>match t.atExitBegin with
  | some []=>some s
  | some (_ :: _)=>none
  | none=>match stp s t with
   | some (s',t')=>impT stp n s' t'
   | none=>none
theorem RH {tb:String->Option Builtin}{p:Program}{w:World}:∀ {n:Nat} {s s':SharedT} {t:Thread},impT (stepT (denote tb) p w) n s t=some s'->importEnds tb p w n s.abs t=some s'.abs
 | 0,_,_,_,h=>by injection h
 | n + 1,s,s',t,h=>by
  unfold impT at h;unfold importEnds
  cases he:t.atExitBegin with
  | some l=>
   rw [he] at h
   cases l with
   | nil=>obtain rfl:=Option.some.inj h;rfl
   | cons=>injection h
  | none=>
   rw [he] at h
   cases hs:stepT (denote tb) p w s t with
   | none=>rw [hs] at h;injection h
   | some r=>obtain ⟨s₂,t₂⟩:=r;rw [hs] at h;dsimp only;rw [stepT_spec hs];exact RH h
noncomputable def topT (stp:SharedT->Thread->Option (SharedT × Thread))(ok:Thread->Bool):Nat->SharedT->Thread->Option SharedT
 | 0,_,_=>none
 | n + 1,s,t=>match through t with
  | true=>some s
  | false=>match ok t with
   | false=>none
   | true=>match stp s t with
    | some (s',t')=>topT stp ok n s' t'
    | none=>none
theorem QA {tb:String->Option Builtin}{p:Program}{w:World}{n₀:Nat}{ann:Option Value}:∀ {n:Nat} {s s':SharedT} {t:Thread},topT (stepT (denote tb) p w) (stepOk n₀ ann) n s t=some s'->topRun tb p w n₀ ann n s.abs t=some s'.abs
 | 0,_,_,_,h=>by injection h
 | n + 1,s,s',t,h=>by
  unfold topT at h;unfold topRun
  cases he:through t with
  | true=>rw [he] at h;obtain rfl:=Option.some.inj h;rfl
  | false=>
   rw [he] at h
   cases hk:stepOk n₀ ann t with
   | false=>rw [hk] at h;injection h
   | true=>
    rw [hk] at h
    cases hs:stepT (denote tb) p w s t with
    | none=>rw [hs] at h;injection h
    | some r=>obtain ⟨s₂,t₂⟩:=r;rw [hs] at h;dsimp only;rw [stepT_spec hs];exact QA h
noncomputable def head {α:Type}(stpO stp:SharedT->Thread->Option (SharedT × Thread))(fence:Shared->Option Shared)(ok:Nat->Option Value->Thread->Bool)(chk:Shared->Shared->Bool)(looks:SharedT->α)(os:OsState)(N:Nat)(tO tT:Thread):Option α:=
 match impT stpO N ⟨.nil,0,{},#[],{},1,os⟩ tO with
 | none=>none
 | some s=>match fence s.abs with
  | none=>none
  | some s₀=>match s₀.heap.isNs mainGlobals && s₀.gens.size == 0 with
   | false=>none
   | true=>match ofL s₀.heap.objs.toList .nil 0 with
    | none=>none
    | some T=>match topT stp (ok s₀.heap.objs.size (s₀.heap.nsMap mainGlobals "__annotations__")) N ⟨T,s₀.heap.objs.size,s₀.heap.life,s₀.gens,s₀.drawn,s₀.toks,s₀.os⟩ tT with
     | none=>none
     | some s₁=>match chk s₀ s₁.abs with
      | true=>some (looks s₁)
      | false=>none
noncomputable def getT (s:SharedT)(a:Nat):Option Obj:=cond (Nat.blt a s.n) ((s.tree.get a).casesOn (s.abs.heap.get? a) alive) none
theorem Xx (s:SharedT)(a:Nat):s.abs.heap.get? a=getT s a:=by
 unfold getT
 cases h:Nat.blt a s.n with
 | true=>
  cases g:s.tree.get a with
  | some o=>exact abs_get (Nat.le_of_ble_eq_true h) g
  | none=>rfl
 | false=>exact abs_get_none fun q=>Bool.noConfusion ((Nat.ble_eq_true_of_le q).symm.trans h)
theorem Nc {p q:Program}{loose:List Str}{Xt:Shared->Bool}{α:Type}{Yf:Shared->α}{Yt:SharedT->α}{Ya:World->α}{N:Nat}{g0:Bool}(hy:∀ s,Yf s.abs=Yt s)
 (h:∀ w:World,head (stepT (denote treeTable) (opening p) w) (stepT (denote treeTable) p w) (fenceModules? p) stepOk
  (fun s₀ s₁=>staticsOk (importedModules p.main.body) s₀.heap s₁.heap && namesBound p s₁.heap && gensDone s₁ && laidKept s₀.heap s₁.heap)
  (fun s=>(openSeen q loose (importedModules p.main.body) Xt g0 s.abs,Yt s)) (start (opening p)).1.os N (start (opening p)).2 (topStub p)=some (openGood q loose,Ya w)):LeftO p q loose Xt Yf Ya N g0:=by
 intro w;have h:=h w;unfold head at h;generalize e1:impT _ N _ _=o1 at h
 cases o1 with
 | none=>injection h
 | some s=>
  have i1:=RH e1;have e0:SharedT.abs ⟨.nil,0,{},#[],{},1,(start (opening p)).1.os⟩=(start (opening p)).1:=rfl;rw [e0] at i1;dsimp only at h;generalize e2:fenceModules? p s.abs=o2 at h
  cases o2 with
  | none=>injection h
  | some s₀=>
   dsimp only at h;generalize e3:(s₀.heap.isNs mainGlobals && s₀.gens.size == 0)=b at h
   cases b with
   | false=>injection h
   | true=>
    dsimp only at h;generalize e4:ofL s₀.heap.objs.toList .nil 0=o4 at h
    cases o4 with
    | none=>injection h
    | some T=>
     dsimp only at h;generalize e5:topT _ _ N _ _=o5 at h
     cases o5 with
     | none=>injection h
     | some s₁=>
      have i5:=QA e5;have e6:SharedT.abs ⟨T,s₀.heap.objs.size,s₀.heap.life,s₀.gens,s₀.drawn,s₀.toks,s₀.os⟩=s₀:=by
       refine E12 (QX s₀.heap.life _ _ _ _ e4) fun m x1 x2=>?_;have:m=s₀.heap.objs.size:=by rw [x2];simp
       subst this;show (⟨absHeap T _ _,_,_,_,_⟩:Shared)=s₀;rw [x1];simp [absHeap,BT.list]
      rw [e6] at i5;dsimp only at h;unfold openEnds fencedOpening;rw [i1,Option.bind_some,e2,Option.bind_some];unfold topFrom;rw [e3];dsimp only;rw [i5,Option.bind_some];generalize e7:(staticsOk (importedModules p.main.body) s₀.heap s₁.abs.heap && namesBound p s₁.abs.heap && gensDone s₁.abs && laidKept s₀.heap s₁.abs.heap)=c at h ⊢
      cases c with
      | false=>injection h
      | true=>dsimp only at h;rw [<-hy] at h;exact h
abbrev pw:=PySem.Challenge.pw_ox0162_01
noncomputable def stAt:List Stmt->Nat->Stmt
 | [],_=>.Pass default
 | s :: _,0=>s
 | _ :: l,n + 1=>stAt l n
noncomputable def bodOf:Stmt->List Stmt
 | .FunctionDef _ _ b _ _ _ _ _ _ _=>b
 | .ClassDef _ _ _ b _ _ _ _ _ _ _=>b
 | _=>[]
noncomputable def parOf:Stmt->Arguments
 | .FunctionDef _ a _ _ _ _ _ _ _ _=>a
 | _=>⟨[],[],none,[],[],none,[]⟩
noncomputable def scoOf:Stmt->Scope
 | .FunctionDef _ _ _ _ _ _ s _ _ _=>s
 | _=>default
noncomputable def fnD (i:Nat):Stmt:=stAt pw.main.body i
noncomputable def mthD (i j:Nat):Stmt:=stAt (bodOf (fnD i)) j
abbrev s (x:String):Str:=Str.ofString x
noncomputable def e (P:Params)(x:String)(t:Nat)(v:Value):DictEntry:=⟨PyData.keyHash P (s x),.str (s x) t,v⟩
noncomputable def f (d:Stmt)(n q:Str)(df mo cd:Value):FuncData:={ name:=n,qualname:=q,params:=parOf d,body:=.stmts (bodOf d),scope:=scoOf d,globals:=3,closure:=[],defaults:=df,kwdefaults:=.none,doc:=.none,pyModule:=mo,annotations:=none,code:=cd,closureTuple:=.none,builtins:=0 }
noncomputable def KK (P:Params):Frag:=[
 (2,⟨.none,none,.dict (Array.mk [e P "\x69mport.loaded._collections" 185 (.bool true),e P "class._frozen_importlib.BuiltinImporter" 187 (.ref 15),e P "watched.\x69mport" 208 (.ref 19),e P "class._frozen_importlib.ModuleSpec" 218 (.ref 23),e P "sys.modules.booked-epoch" 247 (.int 3 0),e P "sys.modules.landed._collections" 248 (.bool true),e P "\x69mport.later-laid._collections" 263 (.bool true),e P "watched.library" 265 (.ref 28),e P "watched.library-objects" 0 (.str (s "\x0d") 0),e P "watched.library-deep._collections" 266 (.str (s "\x04\x00\x00\x0c\x04\x00\x00\x0c\x04\x00\x00\x03\x04\x00\x00\x0c\x08\x04dict\x02") 0),e P "type.__subclasses__.OSError.0" 322 (.int 63 0),e P "type.__subclasses__.OSError.n" 323 (.int 1 0)]) 12,Array.mk []⟩),
 (3,⟨.type "dict",none,.dict (Array.mk [e P "__name__" 165 (.str (s "law_ox0162_01") 1152),e P "__doc__" 166 (.none),e P "__package__" 167 (.none),e P "__loader__" 168 (.builtin "__main__.__loader__#opaque"),e P "__spec__" 169 (.none),e P "__annotations__" 170 (.ref 6),e P "__builtins__" 171 (.ref 4),e P "__file__" 173 (.str (s "/claim/cut.py") 172),e P "__cached__" 174 (.none),e P "deque" 272 (.type "collections.deque"),e P "_wall" 285 (.ref 39),e P "_whence" 295 (.ref 46),e P "_index" 303 (.ref 53),e P "UnsupportedOperation" 325 (.ref 63),e P "IOBase" 357 (.ref 83),e P "BufferedIOBase" 375 (.ref 98),e P "TextIOBase" 393 (.ref 110),e P "BytesIO" 655 (.ref 340),e P "StringIO" 942 (.ref 587),e P "_kind" 953 (.ref 596),e P "_fspath" 962 (.ref 603),e P "_check_arg_types" 972 (.ref 610),e P "isabs" 979 (.ref 617),e P "join" 990 (.ref 624),e P "dirname" 1000 (.ref 631),e P "shlex" 1141 (.ref 722),e P "split" 1151 (.ref 734),e P "_law_sign" 1161 (.ref 741),e P "_law_kind" 1172 (.ref 748),e P "_law_next_line" 1181 (.ref 755),e P "_law_quotation" 1192 (.ref 762),e P "_law_token" 1209 (.ref 769),e P "_law_tokens" 1224 (.ref 776),e P "_law_leader" 1234 (.ref 783),e P "_law_told" 1240 (.ref 788),e P "_law_read" 1246 (.ref 793),e P "_law_words" 1255 (.ref 800),e P "_law_words_told" 1261 (.ref 805),e P "law" 1267 (.ref 810)]) 39,Array.mk []⟩),
 (52,⟨.type "code",none,.fields (Array.mk [.str (s "_index") 296,.str (s "_index") 297,.str (s "/claim/cut.py") 298,.int 11 0,.int 2 0,.int 0 0,.int 0 0,.int 3 0,.ref 47,.bool true,.int 273 0,.ref 48,.none,.ref 49,.ref 50,.ref 51,.int 301 0,.int 11 0,.str (s "/claim/cut.py") 302]),Array.mk []⟩),
 (53,⟨.type "function",none,.func (f (fnD 4) (s "_index") (s "_index") (.none) (.str (s "io") 286) (.ref 52)),Array.mk []⟩),
 (79,⟨.type "code",none,.fields (Array.mk [.str (s "__new__") 340,.str (s "IOBase.__new__") 341,.str (s "/claim/cut.py") 342,.int 23 0,.int 1 0,.int 1 0,.int 0 0,.int 15 0,.ref 74,.bool true,.int 273 0,.ref 75,.none,.ref 76,.ref 77,.ref 78,.int 346 0,.int 23 0,.str (s "/claim/cut.py") 347]),Array.mk []⟩),
 (80,⟨.type "function",none,.func (f (mthD 6 1) (s "__new__") (s "IOBase.__new__") (.none) (.str (s "io") 286) (.ref 79)),Array.mk []⟩),
 (82,⟨.type "dict",none,.dict (Array.mk [e P "__module__" 333 (.str (s "io") 338),e P "__firstlineno__" 337 (.int 20 336),e P "__new__" 348 (.ref 84),e P "__static_attributes__" 349 (.ref 81),e P "__dict__" 352 (.ref 85),e P "__weakref__" 354 (.ref 86),e P "__doc__" 355 (.none)]) 4,Array.mk []⟩),
 (83,⟨.type "type",none,.cls { name:=s "IOBase",bases:=[.type "object"],mro:=[.ref 83,.type "object"],ns:=82,qualname:=s "IOBase",hasDict:=true,slotNames:=[],subclasses:=[.ref 98,.ref 110],abstract:=false,collection:=none,hasDel:=false:ClassData },Array.mk [none,none,(some (.str (s "IOBase") 326)),(some (.str (s "IOBase") 334)),(some (.none)),(some (.bool true))]⟩),
 (84,⟨.type "staticmethod",none,.fields (Array.mk [.ref 80]),Array.mk []⟩),
 (85,⟨.type "getset_descriptor",none,.fields (Array.mk [.str (s "__dict__") 351,.ref 83,.builtin "function.__dict__",.builtin "function.__dict__#set"]),Array.mk []⟩),
 (86,⟨.type "getset_descriptor",none,.fields (Array.mk [.str (s "__weakref__") 353,.ref 83,.builtin "ExceptionGroup.__weakref__",.none]),Array.mk []⟩),
 (97,⟨.type "dict",none,.dict (Array.mk [e P "__module__" 365 (.str (s "io") 370),e P "__firstlineno__" 369 (.int 27 368),e P "__static_attributes__" 372 (.ref 96),e P "__doc__" 373 (.none)]) 2,Array.mk []⟩),
 (98,⟨.type "type",none,.cls { name:=s "BufferedIOBase",bases:=[.ref 83],mro:=[.ref 98,.ref 83,.type "object"],ns:=97,qualname:=s "BufferedIOBase",hasDict:=true,slotNames:=[],subclasses:=[.ref 340],abstract:=false,collection:=none,hasDel:=false:ClassData },Array.mk [(some (.ref 89)),none,(some (.str (s "BufferedIOBase") 358)),(some (.str (s "BufferedIOBase") 366)),(some (.none)),(some (.bool true))]⟩),
 (109,⟨.type "dict",none,.dict (Array.mk [e P "__module__" 383 (.str (s "io") 388),e P "__firstlineno__" 387 (.int 29 386),e P "__static_attributes__" 390 (.ref 108),e P "__doc__" 391 (.none)]) 2,Array.mk []⟩),
 (110,⟨.type "type",none,.cls { name:=s "TextIOBase",bases:=[.ref 83],mro:=[.ref 110,.ref 83,.type "object"],ns:=109,qualname:=s "TextIOBase",hasDict:=true,slotNames:=[],subclasses:=[.ref 587],abstract:=false,collection:=none,hasDel:=false:ClassData },Array.mk [(some (.ref 101)),none,(some (.str (s "TextIOBase") 376)),(some (.str (s "TextIOBase") 384)),(some (.none)),(some (.bool true))]⟩),
 (339,⟨.type "dict",none,.dict (Array.mk [e P "__module__" 401 (.str (s "_io") 406),e P "__firstlineno__" 405 (.int 31 404),e P "__init__" 415 (.ref 127),e P "_BytesIO__check" 422 (.ref 134),e P "_BytesIO__line" 433 (.ref 141),e P "closed" 441 (.ref 149),e P "close" 448 (.ref 156),e P "__enter__" 455 (.ref 163),e P "__exit__" 463 (.ref 170),e P "readable" 470 (.ref 177),e P "writable" 477 (.ref 184),e P "seekable" 484 (.ref 191),e P "isatty" 491 (.ref 198),e P "flush" 498 (.ref 205),e P "fileno" 505 (.ref 212),e P "detach" 512 (.ref 219),e P "getvalue" 519 (.ref 226),e P "getbuffer" 526 (.ref 233),e P "tell" 533 (.ref 240),e P "seek" 543 (.ref 248),e P "truncate" 551 (.ref 256),e P "read" 563 (.ref 264),e P "read1" 573 (.ref 272),e P "readinto" 583 (.ref 279),e P "readinto1" 591 (.ref 286),e P "readline" 601 (.ref 294),e P "readlines" 609 (.ref 302),e P "__iter__" 616 (.ref 309),e P "__next__" 624 (.ref 316),e P "write" 634 (.ref 323),e P "writelines" 642 (.ref 330),e P "__repr__" 649 (.ref 337),e P "__static_attributes__" 652 (.ref 338),e P "__doc__" 653 (.none)]) 2,Array.mk []⟩),
 (340,⟨.type "type",none,.cls { name:=s "BytesIO",bases:=[.ref 98],mro:=[.ref 340,.ref 98,.ref 83,.type "object"],ns:=339,qualname:=s "BytesIO",hasDict:=true,slotNames:=[],subclasses:=[],abstract:=false,collection:=none,hasDel:=false:ClassData },Array.mk [(some (.ref 113)),none,(some (.str (s "BytesIO") 394)),(some (.str (s "BytesIO") 402)),(some (.none)),(some (.bool true))]⟩),
 (350,⟨.type "tuple",none,.seq (Array.mk [.str (s "") 670,.str (s "\n") 671]) 0,Array.mk []⟩),
 (356,⟨.type "code",none,.fields (Array.mk [.str (s "__init__") 672,.str (s "StringIO.__init__") 673,.str (s "/claim/cut.py") 674,.int 204 0,.int 3 0,.int 0 0,.int 0 0,.int 3 0,.ref 351,.bool true,.int 273 0,.ref 352,.none,.ref 353,.ref 354,.ref 355,.int 678 0,.int 204 0,.str (s "/claim/cut.py") 679]),Array.mk []⟩),
 (357,⟨.type "function",none,.func (f (mthD 10 1) (s "__init__") (s "StringIO.__init__") (.ref 350) (.str (s "io") 286) (.ref 356)),Array.mk []⟩),
 (363,⟨.type "code",none,.fields (Array.mk [.str (s "__translated") 681,.str (s "StringIO.__translated") 682,.str (s "/claim/cut.py") 683,.int 217 0,.int 2 0,.int 0 0,.int 0 0,.int 3 0,.ref 358,.bool true,.int 273 0,.ref 359,.none,.ref 360,.ref 361,.ref 362,.int 687 0,.int 217 0,.str (s "/claim/cut.py") 688]),Array.mk []⟩),
 (364,⟨.type "function",none,.func (f (mthD 10 2) (s "__translated") (s "StringIO.__translated") (.none) (.str (s "io") 286) (.ref 363)),Array.mk []⟩),
 (370,⟨.type "code",none,.fields (Array.mk [.str (s "__check") 690,.str (s "StringIO.__check") 691,.str (s "/claim/cut.py") 692,.int 225 0,.int 1 0,.int 0 0,.int 0 0,.int 3 0,.ref 365,.bool true,.int 273 0,.ref 366,.none,.ref 367,.ref 368,.ref 369,.int 694 0,.int 225 0,.str (s "/claim/cut.py") 695]),Array.mk []⟩),
 (371,⟨.type "function",none,.func (f (mthD 10 3) (s "__check") (s "StringIO.__check") (.none) (.str (s "io") 286) (.ref 370)),Array.mk []⟩),
 (384,⟨.type "code",none,.fields (Array.mk [.str (s "__line") 704,.str (s "StringIO.__line") 705,.str (s "/claim/cut.py") 706,.int 233 0,.int 2 0,.int 0 0,.int 0 0,.int 3 0,.ref 379,.bool true,.int 273 0,.ref 380,.none,.ref 381,.ref 382,.ref 383,.int 716 0,.int 233 0,.str (s "/claim/cut.py") 717]),Array.mk []⟩),
 (385,⟨.type "function",none,.func (f (mthD 10 5) (s "__line") (s "StringIO.__line") (.none) (.str (s "io") 286) (.ref 384)),Array.mk []⟩),
 (431,⟨.type "code",none,.fields (Array.mk [.str (s "close") 759,.str (s "StringIO.close") 760,.str (s "/claim/cut.py") 761,.int 285 0,.int 1 0,.int 0 0,.int 0 0,.int 3 0,.ref 426,.bool true,.int 273 0,.ref 427,.none,.ref 428,.ref 429,.ref 430,.int 763 0,.int 285 0,.str (s "/claim/cut.py") 764]),Array.mk []⟩),
 (432,⟨.type "function",none,.func (f (mthD 10 11) (s "close") (s "StringIO.close") (.none) (.str (s "io") 286) (.ref 431)),Array.mk []⟩),
 (526,⟨.type "tuple",none,.seq (Array.mk [.int (-1) 863]) 0,Array.mk []⟩),
 (532,⟨.type "code",none,.fields (Array.mk [.str (s "read") 864,.str (s "StringIO.read") 865,.str (s "/claim/cut.py") 866,.int 347 0,.int 2 0,.int 2 0,.int 0 0,.int 3 0,.ref 527,.bool true,.int 273 0,.ref 528,.none,.ref 529,.ref 530,.ref 531,.int 871 0,.int 347 0,.str (s "/claim/cut.py") 872]),Array.mk []⟩),
 (533,⟨.type "function",none,.func (f (mthD 10 25) (s "read") (s "StringIO.read") (.ref 526) (.str (s "io") 286) (.ref 532)),Array.mk []⟩),
 (534,⟨.type "tuple",none,.seq (Array.mk [.int (-1) 875]) 0,Array.mk []⟩),
 (540,⟨.type "code",none,.fields (Array.mk [.str (s "readline") 876,.str (s "StringIO.readline") 877,.str (s "/claim/cut.py") 878,.int 361 0,.int 2 0,.int 2 0,.int 0 0,.int 3 0,.ref 535,.bool true,.int 273 0,.ref 536,.none,.ref 537,.ref 538,.ref 539,.int 881 0,.int 361 0,.str (s "/claim/cut.py") 882]),Array.mk []⟩),
 (541,⟨.type "function",none,.func (f (mthD 10 26) (s "readline") (s "StringIO.readline") (.ref 534) (.str (s "io") 286) (.ref 540)),Array.mk []⟩),
 (586,⟨.type "dict",none,.dict (Array.mk [e P "__module__" 663 (.str (s "_io") 668),e P "__firstlineno__" 667 (.int 201 666),e P "__init__" 680 (.ref 357),e P "_StringIO__translated" 689 (.ref 364),e P "_StringIO__check" 696 (.ref 371),e P "_StringIO__check_dot" 703 (.ref 378),e P "_StringIO__line" 718 (.ref 385),e P "closed" 726 (.ref 393),e P "line_buffering" 734 (.ref 401),e P "newlines" 742 (.ref 409),e P "encoding" 750 (.ref 417),e P "errors" 758 (.ref 425),e P "close" 765 (.ref 432),e P "__enter__" 772 (.ref 439),e P "__exit__" 780 (.ref 446),e P "readable" 787 (.ref 453),e P "writable" 794 (.ref 460),e P "seekable" 801 (.ref 467),e P "isatty" 808 (.ref 474),e P "flush" 815 (.ref 481),e P "fileno" 822 (.ref 488),e P "detach" 829 (.ref 495),e P "getvalue" 836 (.ref 502),e P "tell" 843 (.ref 509),e P "seek" 853 (.ref 517),e P "truncate" 861 (.ref 525),e P "read" 873 (.ref 533),e P "readline" 883 (.ref 541),e P "readlines" 893 (.ref 549),e P "__iter__" 900 (.ref 556),e P "__next__" 908 (.ref 563),e P "write" 920 (.ref 570),e P "writelines" 928 (.ref 577),e P "__repr__" 935 (.ref 584),e P "__static_attributes__" 939 (.ref 585),e P "__doc__" 940 (.none)]) 2,Array.mk []⟩),
 (587,⟨.type "type",none,.cls { name:=s "StringIO",bases:=[.ref 110],mro:=[.ref 587,.ref 110,.ref 83,.type "object"],ns:=586,qualname:=s "StringIO",hasDict:=true,slotNames:=[],subclasses:=[],abstract:=false,collection:=none,hasDel:=false:ClassData },Array.mk [(some (.ref 343)),none,(some (.str (s "StringIO") 656)),(some (.str (s "StringIO") 664)),(some (.none)),(some (.bool true))]⟩),
 (639,⟨.type "tuple",none,.seq (Array.mk [.none,.none,.bool false,.bool false]) 0,Array.mk []⟩),
 (645,⟨.type "code",none,.fields (Array.mk [.str (s "__init__") 1015,.str (s "shlex.__init__") 1016,.str (s "/claim/cut.py") 1017,.int 472 0,.int 5 0,.int 0 0,.int 0 0,.int 3 0,.ref 640,.bool true,.int 273 0,.ref 641,.none,.ref 642,.ref 643,.ref 644,.int 1024 0,.int 472 0,.str (s "/claim/cut.py") 1025]),Array.mk []⟩),
 (646,⟨.type "function",none,.func (f (mthD 19 0) (s "__init__") (s "shlex.__init__") (.ref 639) (.str (s "cpy313.shlex") 1001) (.ref 645)),Array.mk []⟩),
 (652,⟨.type "code",none,.fields (Array.mk [.str (s "punctuation_chars") 1027,.str (s "shlex.punctuation_chars") 1028,.str (s "/claim/cut.py") 1029,.int 513 0,.int 1 0,.int 0 0,.int 0 0,.int 3 0,.ref 647,.bool true,.int 273 0,.ref 648,.none,.ref 649,.ref 650,.ref 651,.int 1031 0,.int 513 0,.str (s "/claim/cut.py") 1032]),Array.mk []⟩),
 (653,⟨.type "function",none,.func (f (mthD 19 1) (s "punctuation_chars") (s "shlex.punctuation_chars") (.none) (.str (s "cpy313.shlex") 1001) (.ref 652)),Array.mk []⟩),
 (654,⟨.type "property",none,.fields (Array.mk [.ref 653,.none,.none,.none,.str (s "punctuation_chars") 1034,.bool false]),Array.mk []⟩),
 (660,⟨.type "code",none,.fields (Array.mk [.str (s "push_token") 1035,.str (s "shlex.push_token") 1036,.str (s "/claim/cut.py") 1037,.int 517 0,.int 2 0,.int 0 0,.int 0 0,.int 3 0,.ref 655,.bool true,.int 273 0,.ref 656,.none,.ref 657,.ref 658,.ref 659,.int 1040 0,.int 517 0,.str (s "/claim/cut.py") 1041]),Array.mk []⟩),
 (661,⟨.type "function",none,.func (f (mthD 19 2) (s "push_token") (s "shlex.push_token") (.none) (.str (s "cpy313.shlex") 1001) (.ref 660)),Array.mk []⟩),
 (662,⟨.type "tuple",none,.seq (Array.mk [.none]) 0,Array.mk []⟩),
 (668,⟨.type "code",none,.fields (Array.mk [.str (s "push_source") 1043,.str (s "shlex.push_source") 1044,.str (s "/claim/cut.py") 1045,.int 522 0,.int 3 0,.int 0 0,.int 0 0,.int 3 0,.ref 663,.bool true,.int 273 0,.ref 664,.none,.ref 665,.ref 666,.ref 667,.int 1049 0,.int 522 0,.str (s "/claim/cut.py") 1050]),Array.mk []⟩),
 (669,⟨.type "function",none,.func (f (mthD 19 3) (s "push_source") (s "shlex.push_source") (.ref 662) (.str (s "cpy313.shlex") 1001) (.ref 668)),Array.mk []⟩),
 (675,⟨.type "code",none,.fields (Array.mk [.str (s "pop_source") 1052,.str (s "shlex.pop_source") 1053,.str (s "/claim/cut.py") 1054,.int 535 0,.int 1 0,.int 0 0,.int 0 0,.int 3 0,.ref 670,.bool true,.int 273 0,.ref 671,.none,.ref 672,.ref 673,.ref 674,.int 1056 0,.int 535 0,.str (s "/claim/cut.py") 1057]),Array.mk []⟩),
 (676,⟨.type "function",none,.func (f (mthD 19 4) (s "pop_source") (s "shlex.pop_source") (.none) (.str (s "cpy313.shlex") 1001) (.ref 675)),Array.mk []⟩),
 (682,⟨.type "code",none,.fields (Array.mk [.str (s "get_token") 1059,.str (s "shlex.get_token") 1060,.str (s "/claim/cut.py") 1061,.int 542 0,.int 1 0,.int 0 0,.int 0 0,.int 3 0,.ref 677,.bool true,.int 273 0,.ref 678,.none,.ref 679,.ref 680,.ref 681,.int 1068 0,.int 542 0,.str (s "/claim/cut.py") 1069]),Array.mk []⟩),
 (683,⟨.type "function",none,.func (f (mthD 19 5) (s "get_token") (s "shlex.get_token") (.none) (.str (s "cpy313.shlex") 1001) (.ref 682)),Array.mk []⟩),
 (689,⟨.type "code",none,.fields (Array.mk [.str (s "read_token") 1071,.str (s "shlex.read_token") 1072,.str (s "/claim/cut.py") 1073,.int 569 0,.int 1 0,.int 0 0,.int 0 0,.int 3 0,.ref 684,.bool true,.int 273 0,.ref 685,.none,.ref 686,.ref 687,.ref 688,.int 1079 0,.int 569 0,.str (s "/claim/cut.py") 1080]),Array.mk []⟩),
 (690,⟨.type "function",none,.func (f (mthD 19 6) (s "read_token") (s "shlex.read_token") (.none) (.str (s "cpy313.shlex") 1001) (.ref 689)),Array.mk []⟩),
 (698,⟨.type "tuple",none,.seq (Array.mk [.none,.none]) 0,Array.mk []⟩),
 (704,⟨.type "code",none,.fields (Array.mk [.str (s "error_leader") 1090,.str (s "shlex.error_leader") 1091,.str (s "/claim/cut.py") 1092,.int 713 0,.int 3 0,.int 0 0,.int 0 0,.int 3 0,.ref 699,.bool true,.int 273 0,.ref 700,.none,.ref 701,.ref 702,.ref 703,.int 1096 0,.int 713 0,.str (s "/claim/cut.py") 1097]),Array.mk []⟩),
 (705,⟨.type "function",none,.func (f (mthD 19 8) (s "error_leader") (s "shlex.error_leader") (.ref 698) (.str (s "cpy313.shlex") 1001) (.ref 704)),Array.mk []⟩),
 (711,⟨.type "code",none,.fields (Array.mk [.str (s "__iter__") 1099,.str (s "shlex.__iter__") 1100,.str (s "/claim/cut.py") 1101,.int 720 0,.int 1 0,.int 0 0,.int 0 0,.int 3 0,.ref 706,.bool true,.int 273 0,.ref 707,.none,.ref 708,.ref 709,.ref 710,.int 1103 0,.int 720 0,.str (s "/claim/cut.py") 1104]),Array.mk []⟩),
 (712,⟨.type "function",none,.func (f (mthD 19 9) (s "__iter__") (s "shlex.__iter__") (.none) (.str (s "cpy313.shlex") 1001) (.ref 711)),Array.mk []⟩),
 (718,⟨.type "code",none,.fields (Array.mk [.str (s "__next__") 1106,.str (s "shlex.__next__") 1107,.str (s "/claim/cut.py") 1108,.int 723 0,.int 1 0,.int 0 0,.int 0 0,.int 3 0,.ref 713,.bool true,.int 273 0,.ref 714,.none,.ref 715,.ref 716,.ref 717,.int 1111 0,.int 723 0,.str (s "/claim/cut.py") 1112]),Array.mk []⟩),
 (719,⟨.type "function",none,.func (f (mthD 19 10) (s "__next__") (s "shlex.__next__") (.none) (.str (s "cpy313.shlex") 1001) (.ref 718)),Array.mk []⟩),
 (721,⟨.type "dict",none,.dict (Array.mk [e P "__module__" 1010 (.str (s "cpy313.shlex") 1001),e P "__firstlineno__" 1014 (.int 470 1013),e P "__init__" 1026 (.ref 646),e P "punctuation_chars" 1034 (.ref 654),e P "push_token" 1042 (.ref 661),e P "push_source" 1051 (.ref 669),e P "pop_source" 1058 (.ref 676),e P "get_token" 1070 (.ref 683),e P "read_token" 1081 (.ref 690),e P "sourcehook" 1089 (.ref 697),e P "error_leader" 1098 (.ref 705),e P "__iter__" 1105 (.ref 712),e P "__next__" 1113 (.ref 719),e P "__static_attributes__" 1134 (.ref 720),e P "__dict__" 1136 (.ref 723),e P "__weakref__" 1138 (.ref 724),e P "__doc__" 1139 (.none)]) 4,Array.mk []⟩),
 (722,⟨.type "type",none,.cls { name:=s "shlex",bases:=[.type "object"],mro:=[.ref 722,.type "object"],ns:=721,qualname:=s "shlex",hasDict:=true,slotNames:=[],subclasses:=[],abstract:=false,collection:=none,hasDel:=false:ClassData },Array.mk [none,none,(some (.str (s "shlex") 1003)),(some (.str (s "shlex") 1011)),(some (.builtin "object.__new__")),(some (.bool true))]⟩),
 (723,⟨.type "getset_descriptor",none,.fields (Array.mk [.str (s "__dict__") 1135,.ref 722,.builtin "function.__dict__",.builtin "function.__dict__#set"]),Array.mk []⟩),
 (724,⟨.type "getset_descriptor",none,.fields (Array.mk [.str (s "__weakref__") 1137,.ref 722,.builtin "ExceptionGroup.__weakref__",.none]),Array.mk []⟩),
 (727,⟨.type "tuple",none,.seq (Array.mk [.bool false,.bool true]) 0,Array.mk []⟩),
 (733,⟨.type "code",none,.fields (Array.mk [.str (s "split") 1142,.str (s "split") 1143,.str (s "/claim/cut.py") 1144,.int 728 0,.int 3 0,.int 0 0,.int 0 0,.int 3 0,.ref 728,.bool true,.int 273 0,.ref 729,.none,.ref 730,.ref 731,.ref 732,.int 1149 0,.int 728 0,.str (s "/claim/cut.py") 1150]),Array.mk []⟩),
 (734,⟨.type "function",none,.func (f (fnD 20) (s "split") (s "split") (.ref 727) (.str (s "cpy313.shlex") 1001) (.ref 733)),Array.mk []⟩),
 (740,⟨.type "code",none,.fields (Array.mk [.str (s "_law_sign") 1154,.str (s "_law_sign") 1155,.str (s "/claim/cut.py") 1156,.int 737 0,.int 1 0,.int 0 0,.int 0 0,.int 3 0,.ref 735,.bool true,.int 273 0,.ref 736,.none,.ref 737,.ref 738,.ref 739,.int 1159 0,.int 737 0,.str (s "/claim/cut.py") 1160]),Array.mk []⟩),
 (741,⟨.type "function",none,.func (f (fnD 22) (s "_law_sign") (s "_law_sign") (.none) (.str (s "law_ox0162_01") 1152) (.ref 740)),Array.mk []⟩),
 (747,⟨.type "code",none,.fields (Array.mk [.str (s "_law_kind") 1162,.str (s "_law_kind") 1163,.str (s "/claim/cut.py") 1164,.int 742 0,.int 5 0,.int 0 0,.int 0 0,.int 3 0,.ref 742,.bool true,.int 273 0,.ref 743,.none,.ref 744,.ref 745,.ref 746,.int 1170 0,.int 742 0,.str (s "/claim/cut.py") 1171]),Array.mk []⟩),
 (748,⟨.type "function",none,.func (f (fnD 23) (s "_law_kind") (s "_law_kind") (.none) (.str (s "law_ox0162_01") 1152) (.ref 747)),Array.mk []⟩),
 (754,⟨.type "code",none,.fields (Array.mk [.str (s "_law_next_line") 1173,.str (s "_law_next_line") 1174,.str (s "/claim/cut.py") 1175,.int 760 0,.int 2 0,.int 0 0,.int 0 0,.int 3 0,.ref 749,.bool true,.int 273 0,.ref 750,.none,.ref 751,.ref 752,.ref 753,.int 1179 0,.int 760 0,.str (s "/claim/cut.py") 1180]),Array.mk []⟩),
 (755,⟨.type "function",none,.func (f (fnD 24) (s "_law_next_line") (s "_law_next_line") (.none) (.str (s "law_ox0162_01") 1152) (.ref 754)),Array.mk []⟩),
 (761,⟨.type "code",none,.fields (Array.mk [.str (s "_law_quotation") 1182,.str (s "_law_quotation") 1183,.str (s "/claim/cut.py") 1184,.int 763 0,.int 2 0,.int 0 0,.int 0 0,.int 3 0,.ref 756,.bool true,.int 273 0,.ref 757,.none,.ref 758,.ref 759,.ref 760,.int 1190 0,.int 763 0,.str (s "/claim/cut.py") 1191]),Array.mk []⟩),
 (762,⟨.type "function",none,.func (f (fnD 25) (s "_law_quotation") (s "_law_quotation") (.none) (.str (s "law_ox0162_01") 1152) (.ref 761)),Array.mk []⟩),
 (768,⟨.type "code",none,.fields (Array.mk [.str (s "_law_token") 1193,.str (s "_law_token") 1194,.str (s "/claim/cut.py") 1195,.int 780 0,.int 6 0,.int 0 0,.int 0 0,.int 3 0,.ref 763,.bool true,.int 273 0,.ref 764,.none,.ref 765,.ref 766,.ref 767,.int 1207 0,.int 780 0,.str (s "/claim/cut.py") 1208]),Array.mk []⟩),
 (769,⟨.type "function",none,.func (f (fnD 26) (s "_law_token") (s "_law_token") (.none) (.str (s "law_ox0162_01") 1152) (.ref 768)),Array.mk []⟩),
 (775,⟨.type "code",none,.fields (Array.mk [.str (s "_law_tokens") 1210,.str (s "_law_tokens") 1211,.str (s "/claim/cut.py") 1212,.int 812 0,.int 5 0,.int 0 0,.int 0 0,.int 3 0,.ref 770,.bool true,.int 273 0,.ref 771,.none,.ref 772,.ref 773,.ref 774,.int 1222 0,.int 812 0,.str (s "/claim/cut.py") 1223]),Array.mk []⟩),
 (776,⟨.type "function",none,.func (f (fnD 27) (s "_law_tokens") (s "_law_tokens") (.none) (.str (s "law_ox0162_01") 1152) (.ref 775)),Array.mk []⟩),
 (782,⟨.type "code",none,.fields (Array.mk [.str (s "_law_leader") 1225,.str (s "_law_leader") 1226,.str (s "/claim/cut.py") 1227,.int 826 0,.int 3 0,.int 0 0,.int 0 0,.int 3 0,.ref 777,.bool true,.int 273 0,.ref 778,.none,.ref 779,.ref 780,.ref 781,.int 1232 0,.int 826 0,.str (s "/claim/cut.py") 1233]),Array.mk []⟩),
 (783,⟨.type "function",none,.func (f (fnD 28) (s "_law_leader") (s "_law_leader") (.none) (.str (s "law_ox0162_01") 1152) (.ref 782)),Array.mk []⟩),
 (787,⟨.type "code",none,.fields (Array.mk [.str (s "_law_told") 1235,.str (s "_law_told") 1236,.str (s "/claim/cut.py") 1237,.int 829 0,.int 4 0,.int 0 0,.int 0 0,.int 3 0,.ref 784,.bool true,.int 273 0,.ref 785,.none,.none,.none,.ref 786,.int 1238 0,.int 829 0,.str (s "/claim/cut.py") 1239]),Array.mk []⟩),
 (788,⟨.type "function",none,.func (f (fnD 29) (s "_law_told") (s "_law_told") (.none) (.str (s "law_ox0162_01") 1152) (.ref 787)),Array.mk []⟩),
 (792,⟨.type "code",none,.fields (Array.mk [.str (s "_law_read") 1241,.str (s "_law_read") 1242,.str (s "/claim/cut.py") 1243,.int 839 0,.int 4 0,.int 0 0,.int 0 0,.int 3 0,.ref 789,.bool true,.int 273 0,.ref 790,.none,.none,.none,.ref 791,.int 1244 0,.int 839 0,.str (s "/claim/cut.py") 1245]),Array.mk []⟩),
 (793,⟨.type "function",none,.func (f (fnD 30) (s "_law_read") (s "_law_read") (.none) (.str (s "law_ox0162_01") 1152) (.ref 792)),Array.mk []⟩),
 (799,⟨.type "code",none,.fields (Array.mk [.str (s "_law_words") 1247,.str (s "_law_words") 1248,.str (s "/claim/cut.py") 1249,.int 859 0,.int 3 0,.int 0 0,.int 0 0,.int 3 0,.ref 794,.bool true,.int 273 0,.ref 795,.none,.ref 796,.ref 797,.ref 798,.int 1253 0,.int 859 0,.str (s "/claim/cut.py") 1254]),Array.mk []⟩),
 (800,⟨.type "function",none,.func (f (fnD 31) (s "_law_words") (s "_law_words") (.none) (.str (s "law_ox0162_01") 1152) (.ref 799)),Array.mk []⟩),
 (804,⟨.type "code",none,.fields (Array.mk [.str (s "_law_words_told") 1256,.str (s "_law_words_told") 1257,.str (s "/claim/cut.py") 1258,.int 864 0,.int 3 0,.int 0 0,.int 0 0,.int 3 0,.ref 801,.bool true,.int 273 0,.ref 802,.none,.none,.none,.ref 803,.int 1259 0,.int 864 0,.str (s "/claim/cut.py") 1260]),Array.mk []⟩),
 (805,⟨.type "function",none,.func (f (fnD 32) (s "_law_words_told") (s "_law_words_told") (.none) (.str (s "law_ox0162_01") 1152) (.ref 804)),Array.mk []⟩),
 (809,⟨.type "code",none,.fields (Array.mk [.str (s "law") 1262,.str (s "law") 1263,.str (s "/claim/cut.py") 1264,.int 867 0,.int 1 0,.int 0 0,.int 0 0,.int 3 0,.ref 806,.bool true,.int 273 0,.ref 807,.none,.none,.none,.ref 808,.int 1265 0,.int 867 0,.str (s "/claim/cut.py") 1266]),Array.mk []⟩),
 (810,⟨.type "function",none,.func (f (fnD 33) (s "law") (s "law") (.none) (.str (s "law_ox0162_01") 1152) (.ref 809)),Array.mk []⟩)]
noncomputable def KA:LN:=[2,3,52,53,79,80,82,83,84,85,86,97,98,109,110,339,340,350,356,357,363,364,370,371,384,385,431,432,526,532,533,534,540,541,586,587,639,645,646,652,653,654,660,661,662,668,669,675,676,682,683,689,690,698,704,705,711,712,718,719,721,722,723,724,727,733,734,740,741,747,748,754,755,761,762,768,769,775,776,782,783,787,788,792,793,799,800,804,805,809,810]
noncomputable def q:Program:={ pw with main:={ pw.main with body:=pw.main.body.drop 33 } }
noncomputable def loose:List Str:=pw.boundNames.filter fun x=>!(x == Str.ofString "law")
end Mine
end
noncomputable section
open PySem PySem.W PyProof.Rows PySem.Calls
set_option backward.match.sparseCases false
namespace Mine
noncomputable def clsM (p:ClassData->Array (Option Value)->Bool)(sl:Array (Option Value)):Data->Bool
 | .cls cd=>p cd sl
 | _=>false
noncomputable def clsO (p:ClassData->Array (Option Value)->Bool):Option Obj->Bool
 | some o=>clsM p o.slots o.data
 | none=>false
noncomputable def clsTest (K:Frag)(C:Addr)(p:ClassData->Array (Option Value)->Bool):Bool:=clsO p (K.lookup C)
theorem UV {K:Frag}{C:Addr}{p:ClassData->Array (Option Value)->Bool}(h:clsTest K C p=true):∃ oc od cd sl,K.lookup C=some ⟨oc,od,.cls cd,sl⟩ /\ p cd sl=true:=by
 have h:clsO p (K.lookup C)=true:=h;generalize K.lookup C=o at h
 cases o with
 | none=>injection h
 | some o=>
  obtain ⟨oc,od,d,sl⟩:=o
  cases d with
  | cls cd=>exact ⟨_,_,_,_,rfl,h⟩
  | _=>injection h
noncomputable def headV (f:Nat):Value->Bool
 | .ref a=>Nat.beq a f
 | _=>false
noncomputable def headL (f:Nat):List Value->Bool
 | v :: _=>headV f v
 | []=>false
noncomputable def headTest (o:Option (List Value))(f:Nat):Bool:=match o with
 | some l=>headL f l
 | none=>false
theorem QU {o:Option (List Value)}{f:Nat}(h:headTest o f=true):∃ rest,o=some (.ref f :: rest):=by
 cases o with
 | none=>injection h
 | some l=>
  cases l with
  | nil=>injection h
  | cons v l=>
   cases v with
   | ref a=>rw [<-Nat.eq_of_beq_eq_true (show Nat.beq a f=true from h)];exact ⟨_,rfl⟩
   | _=>injection h
section
variable (P:Params)
theorem Jfh (k:Kd):N7 (KK P) k.addr k.names:=by
 cases k
 · exact ⟨by kernel_rfl!,by kernel_rfl!,by kernel_rfl!,by kernel_rfl!,by kernel_rfl!,by kernel_rfl!,by decide +kernel⟩
 · exact ⟨by kernel_rfl!,by kernel_rfl!,by kernel_rfl!,by kernel_rfl!,by kernel_rfl!,by kernel_rfl!,by decide +kernel⟩
theorem Jfn:XW (KK P) (Kd.addr .sio):=⟨let ⟨a,b,c,d,e,h⟩:=UV (K:=KK P) (C:=Kd.addr .sio) (p:=fun cd _=>!cd.abstract && !cd.hasDel) (by kernel_rfl!);⟨a,b,c,d,e,by simpa using (Bool.and_eq_true_iff.mp h).1,by simpa using (Bool.and_eq_true_iff.mp h).2⟩,fun M h X=>Looks.of_peek X (by kernel_rfl!),by kernel_rfl!,by kernel_rfl!⟩
theorem Jfl:Oh (KK P) "object" (nm [95,95,110,101,119,95,95]) (.builtin "object.__new__"):=⟨by kernel_rfl!,by kernel_rfl!,by kernel_rfl!,by kernel_rfl!,by kernel_rfl!,by kernel_rfl!⟩
theorem Jdn:M9 (KK P) (Kd.addr .lex) (nm [112,117,110,99,116,117,97,116,105,111,110,95,99,104,97,114,115]) 654 653:=⟨by kernel_rfl!,by kernel_rfl!,by kernel_rfl!,by kernel_rfl!,by kernel_rfl!,by kernel_rfl!,QU (by kernel_rfl!)⟩
inductive Mts (K:Frag)(C:Addr):List (Str × Nat)->Prop
 | nil:Mts K C []
 | cons {x:Str} {f:Nat} {l:List (Str × Nat)} (h1:findIn K (.ref C) x=some (some (.ref f))) (h2:typeIn K (.ref f)=some (.type "function")) (h3:keepIn K (.ref f)=true) (t:Mts K C l):Mts K C ((x,f) :: l)
theorem Mts.mem {K:Frag}{C:Addr}{x:Str}{f:Nat}:∀ {l:List (Str × Nat)},Mts K C l->(x,f) ∈ l->findIn K (.ref C) x=some (some (.ref f)) /\ typeIn K (.ref f)=some (.type "function") /\ keepIn K (.ref f)=true
 | _,.cons h1 h2 h3 t,hm=>by
  rcases List.mem_cons.mp hm with e | hm
  · cases e;exact ⟨h1,h2,h3⟩
  · exact t.mem hm
theorem Jfv (k:Kd):Mts (KK P) k.addr k.meths:=by
 cases k
 · repeat' first
    | exact Mts.nil
    | refine Mts.cons ?_ ?_ ?_ ?_
   all_goals kernel_rfl!
 · repeat' first
    | exact Mts.nil
    | refine Mts.cons ?_ ?_ ?_ ?_
   all_goals kernel_rfl!
theorem Jb7 (k:Kd)(x:Str)(f:Nat)(h:(x,f) ∈ k.meths):findIn (KK P) (.ref k.addr) x=some (some (.ref f)) /\ typeIn (KK P) (.ref f)=some (.type "function") /\ keepIn (KK P) (.ref f)=true:=(Jfv P k).mem h
theorem kOk:KOk (KK P):=by
 refine ⟨Jfh P,Jb7 P,fun k x p f h=>?_,Jfn P,Jfl P,fun k=>by cases k <;> decide +kernel,fun a h=>?_⟩
 · cases k
   · simp only [Kd.props,List.mem_cons,List.not_mem_nil,or_false,Prod.mk.injEq] at h;obtain ⟨rfl,rfl,rfl⟩:=h;exact Jdn P
   · cases h
 · rw [Mg] at h;simp only [clsAs,List.contains_eq_mem,List.mem_cons,List.not_mem_nil,or_false,decide_eq_true_eq] at h;rcases h with rfl | rfl <;> kernel_rfl!
end
noncomputable def FD (K:Frag)(a:Addr):FuncData:=match K.lookup a with
 | some ⟨_,_,.func fd,_⟩=>fd
 | _=>default
noncomputable def fnTest (K:Frag)(f:Addr)(names:List Str):Bool:=match K.lookup f with
 | some ⟨_,_,.func fd,_⟩=>codeIn K fd.code fd.qualname && (names.all fun x=>kindIs fd.scope.names isLocal x && !nameEq x (nm [95,95,100,101,98,117,103,95,95])) && (fd.scope.names.all fun x=>notCell x.2) && nodupB names && isFunK fd.scope.kind && !fd.scope.isCoroutine && !fd.scope.isGenerator && Nat.beq fd.globals mainGlobals && Nat.beq fd.builtins builtinsNs
 | _=>false
set_option tactic.hygienic true in
theorem Qh {K:Frag}{f:Addr}{body:List Stmt}{names:List Str}(h:fnTest K f names=true)(hb:(FD K f).body=.stmts body):O8 K f (FD K f) body names:=by
 unfold fnTest at h
 split at h
 · rename_i fd _ e
   have eF:FD K f=fd:=by unfold FD;rw [e]
   rw [eF] at hb ⊢;simp only [Bool.and_eq_true] at h;obtain ⟨⟨⟨⟨⟨⟨⟨⟨h1,h2⟩,h3⟩,h4⟩,h5⟩,h6⟩,h7⟩,h8⟩,h9⟩:=h;have h2:=List.all_eq_true.mp h2;refine ⟨⟨_,e,rfl⟩,hb,h1,List.all_eq_true.mpr fun x hx=>?_,List.all_eq_true.mpr fun x hx=>?_,J7 h4,?_,by simpa using h6,by simpa using h7,Nat.eq_of_beq_eq_true h8,Nat.eq_of_beq_eq_true h9⟩
   · obtain ⟨a,b⟩:=Bool.and_eq_true_iff.mp (h2 x hx);rw [K8 a,KC (by simpa using b)];rfl
   · have:=List.all_eq_true.mp h3 x hx;obtain ⟨n,k⟩:=x;cases k <;> first | rfl | cases this
   · generalize fd.scope.kind=k at h5;cases k <;> first | rfl | cases h5
 · injection h
inductive LH (c:Bool)(K:Frag)(r:Nat):List (Nat × Jc)->Prop
 | nil:LH c K r []
 | cons {a:Nat} {sp:Jc} {l:List (Nat × Jc)} (h:SpecOkC c K r (.val a) sp) (k:keepIn K (.ref a)=true) (t:LH c K r l):LH c K r ((a,sp) :: l)
abbrev SK (K:Frag)(r:Nat)(l:List (Nat × Jc)):Prop:=LH true K r l
theorem LH.mem {c:Bool}{K:Frag}{r:Nat}:∀ {l:List (Nat × Jc)},LH c K r l->∀ a sp,(a,sp) ∈ l->SpecOkC c K r (.val a) sp /\ keepIn K (.ref a)=true:=by
 intro l h
 induction h with
 | nil=>intro a sp hm;cases hm
 | cons h k t ih=>
  intro a sp hm;rcases List.mem_cons.mp hm with e | hm
  · cases e;exact ⟨h,k⟩
  · exact ih a sp hm
theorem Ja.mono {c:Bool}{K:Frag}{r r':Nat}{f:D}{sp:Jc}(hr:r <= r')(h:SpecOkC c K r f sp):SpecOkC c K r' f sp:=fun Γ hK h' hc=>h Γ hK (Nat.le_trans hr h') hc
theorem Ja.weak {c:Bool}{K:Frag}{r:Nat}{f:D}{sp:Jc}(h:SpecOkC false K r f sp):SpecOkC c K r f sp:=fun Γ hK hr _=>h Γ hK hr fun e=>(nomatch e)
noncomputable def noSpec:Jc:=fun _ _ _ _ _=>False
theorem Kf {c:Bool}{K:Frag}{r:Nat}{f:D}:SpecOkC c K r f noSpec:=fun _ _ _ _ _ _ _ _ _ _ _ h=>h.elim
theorem Jb {c:Bool}{K:Frag}{r:Nat}{f:D}:SpecCalOkC c K r f noSpec:=fun _ _ _ _ _ _ _ _ _ _ _ h=>h.elim
noncomputable def Xof (all:List (Str × D))(sc:Scope)(spec:List (Nat × Jc))(lst:Jc):X:=⟨localsOf sc.names,[],topsOf all sc.names,spec,lst,all,none,true,[]⟩
theorem Je2 {K:Frag}{r:Nat}{all:List (Str × D)}{sc:Scope}{spec:List (Nat × Jc)}{lst:Jc}(kok:KOk K)(ha:∀ x d,(x,d) ∈ all->Top K x d)(hs:SK K r spec)(hl:Jr K r (.bi .list) lst)(hk:sc.kind=.function):XOk K r sc (Xof all sc spec lst):=
 ⟨kok,fun x d h=>⟨(Jh h).2,ha _ _ (Jh h).1⟩,hs.mem,fun _ _ h=>(nomatch h),hl,ha,hk,rfl⟩
theorem Jg {K:Frag}{r:Nat}{f:Addr}{body:List Stmt}{all:List (Str × D)}{spec:List (Nat × Jc)}{lst:Jc}{n:Nat}{ps:List Pat}(sc:Scope)(kok:KOk K)(ha:∀ x d,(x,d) ∈ all->Top K x d)(hs:SK K r spec)(hl:Jr K r (.bi .list) lst)
 (hsc:(FD K f).scope=sc) (ht:fnTest K f (localsOf sc.names)=true) (hb:(FD K f).body=.stmts body) (hp:∀ p ∈ ps,PJ K (FD K f) p /\ localsOf sc.names=p.ps++(localsOf sc.names).drop p.ps.length):Ja K (r + 3) (.val f) (defW (Xof all sc spec lst) n body ps):=
 UQ (X:=Xof all sc spec lst) (Qh ht hb) (hsc ▸ Je2 kok ha hs hl (hsc ▸ (Qh ht hb).kind)) rfl hp
noncomputable def tops:List (Str × D):=[(s "len",.bi .len),(s "type",.bi .type),(s "int",.bi .int),(s "bool",.bi .bool),(s "str",.bi .str),(s "isinstance",.bi .isinstance),(s "deque",.bi .deque),(s "ValueError",.bi .ValueError),
 (s "StopIteration",.bi .StopIteration),(s "list",.bi .list),(s "object",.bi .object),(s "dict",.bi .dict),(s "chr",.bi .chr),(s "ord",.bi .ord),(s "sum",.bi .sum),
 (s "_index",.val 53),(s "BytesIO",.val 340),(s "StringIO",.val 587),(s "shlex",.val 722),(s "split",.val 734),(s "_law_sign",.val 741),(s "_law_kind",.val 748),(s "_law_next_line",.val 755),(s "_law_quotation",.val 762),(s "_law_token",.val 769),
 (s "_law_tokens",.val 776),(s "_law_leader",.val 783),(s "_law_told",.val 788),(s "_law_read",.val 793),(s "_law_words",.val 800),(s "_law_words_told",.val 805)]
section
variable (P:Params)
theorem Jei {x:Str}(h:nameEq x (nm [95,95,100,101,98,117,103,95,95])=false):(x == ("__debug__" : Str))=false:=KC h
inductive Uv (K:Frag):List (Str × D)->Prop
 | nil:Uv K []
 | cons {x:Str} {d:D} {l:List (Str × D)} (h:Top K x d) (t:Uv K l):Uv K ((x,d) :: l)
theorem Uv.mem {K:Frag}{x:Str}{d:D}:∀ {l:List (Str × D)},Uv K l->(x,d) ∈ l->Top K x d:=by
 intro l h
 induction h with
 | nil=>intro hm;cases hm
 | cons h t ih=>
  intro hm;rcases List.mem_cons.mp hm with e | hm
  · cases e;exact h
  · exact ih hm
theorem WE {K:Frag}{x:Str}{b:Bi}(h1:nsIn K mainGlobals x=some none)(h2:bootBuiltins x=some b.val)(h3:nameEq x (nm [95,95,110,97,109,101,95,95])=false)(h4:nameEq x (nm [95,95,100,101,98,117,103,95,95])=false):Top K x (.bi b):=
 .blt h1 h2 (fun e=>JG h3 (e.trans (by kernel_rfl))) (Jei h4)
theorem TC:Uv (KK P) tops:=by
 repeat' first
  | exact Uv.nil
  | refine Uv.cons ?_ ?_
 all_goals first
  | exact WE (by kernel_rfl!) (by kernel_rfl!) (by kernel_rfl!) (by kernel_rfl!)
  | exact .glb (by kernel_rfl!) (Jei (by kernel_rfl!))
  | exact .imp (by kernel_rfl!) (Jei (by kernel_rfl!))
theorem Jd (x:Str)(d:D)(h:(x,d) ∈ tops):Top (KK P) x d:=(TC P).mem h
end
section
variable (P:Params)
theorem Ji {K:Frag}{f:Addr}{p:Pat}{names:List Str}(h1:selOk (p.n + p.kn.length) p.sel=true)(h2:p.ps.length=p.sel.length)(h3:∀ S,allV p.n fun vs=>allV p.kn.length fun ks=>peek K S (bindArgs (FD K f) ⟨vs,p.kn.zip ks⟩)=some (p.ps.zip (selV (vs++ks) p.sel)))
 (h4:names=p.ps++names.drop p.ps.length):PJ K (FD K f) p /\ names=p.ps++names.drop p.ps.length:=⟨⟨h1,h2,h3⟩,h4⟩
noncomputable def pIndex:Pat:=⟨2,[],[s "n",s "what"],[.arg 0,.arg 1]⟩
noncomputable def sIndex:Jc:=defW (Xof tops (scoOf (fnD 4)) [] noSpec) 20 (bodOf (fnD 4)) [pIndex]
theorem U4:Ja (KK P) 3 (.val 53) sIndex:=
 Jg (r:=0) (scoOf (fnD 4)) (kOk P) (Jd P) .nil Jb (by kernel_rfl!) (by kernel_rfl!) (by kernel_rfl!) (by
  intro p hp;cases List.mem_singleton.mp hp;exact Ji rfl rfl (fun S v1 v2=>by show _=_;kernel_rfl!) (by kernel_rfl!))
noncomputable def pSelf:Pat:=⟨1,[],[s "self"],[.arg 0]⟩
noncomputable def sCheck:Jc:=defW (Xof tops (scoOf (mthD 10 3)) [] noSpec) 20 (bodOf (mthD 10 3)) [pSelf]
theorem Vf:Ja (KK P) 3 (.val 371) sCheck:=
 Jg (r:=0) (scoOf (mthD 10 3)) (kOk P) (Jd P) .nil Jb (by kernel_rfl!) (by kernel_rfl!) (by kernel_rfl!) (by
  intro p hp;cases List.mem_singleton.mp hp;exact Ji rfl rfl (fun S v1=>by show _=_;kernel_rfl!) (by kernel_rfl!))
noncomputable def pRead:Pat:=⟨2,[],[s "self",s "size"],[.arg 0,.arg 1]⟩
noncomputable def sRead:Jc:=defW (Xof tops (scoOf (mthD 10 25)) [(53,sIndex),(371,sCheck)] noSpec) 20 (bodOf (mthD 10 25)) [pRead]
theorem Jci:Ja (KK P) 6 (.val 533) sRead:=
 Jg (r:=3) (scoOf (mthD 10 25)) (kOk P) (Jd P) (.cons (U4 P) (by kernel_rfl!) (.cons (Vf P) (by kernel_rfl!) .nil)) Jb (by kernel_rfl!) (by kernel_rfl!) (by kernel_rfl!) (by
  intro p hp;cases List.mem_singleton.mp hp;exact Ji rfl rfl (fun S v1 v2=>by show _=_;kernel_rfl!) (by kernel_rfl!))
end
noncomputable def lstL (spN:Jc)(x l:Nat)(Ex:Ec->Led->Prop)(Q:D->Led->Prop):Nat->Led->Prop
 | 0,_=>False
 | n + 1,led=>spN [.ref x] [] led (fun c led'=>match c with
  | .stop=>Q (.ref l) led'
  | .value=>Ex .value led') fun d led'=>oL led' l fun ys=>szL ys.length (oI (led'.set l (.list (ys++[d]))) x fun k _ _=>tr (k.same .lex) (lstL spN x l Ex Q n (led'.set l (.list (ys++[d])))))
noncomputable def lstW (spN:Jc):Jc:=fun args kws led Ex Q=>l0 kws (l1 args fun a=>dR a fun i=>oI led i fun k _ _=>tr (k.same .lex) (∃ n,lstL spN i led.length Ex Q n (led++[.list []])))
section
variable {K:Frag}{fI fN:Addr}{spI spN:Jc}{r:Nat}
theorem Rk (io:LI K (Kd.addr .lex) fI fN)(hN:Ja K r (.val fN) spN){Γ:Cx}(hK:Γ.K=K)(hc:Mw Γ)(hr:r + 1 <= Γ.room){x l:Nat}{loc:Loc}{Ex:Ec->Led->Prop}{Q:D->Led->Prop}{Z₀:Zs}:∀ {n:Nat} {led:Led},lstL spN x l Ex Q n led ->
 LstD Γ (SE loc Ex) fN x l Z₀ (fun σ'=>SQ loc Q (.ref l) σ') n loc led
 | 0,_,h=>h
 | n + 1,led,h=>fun Γ' I Z z=>by
  have s:=hN Γ' (I.K.trans hK) (by rw [I.room];lia) (fun _=>I.handled.trans hc) _ _ _ _ _ loc Z h
  refine CalC.mono s (fun d σ' hq0=>?_) fun cls σ' hq1=>?_
  · refine E02 hq0 fun e q=>?_;refine E12 (oL_ q) fun ys e1 q=>?_;refine E02 (Wx q) fun hl q=>?_;refine E33 (oI_ q) fun k dx vals e2 e3 q=>?_;refine E02 (tr_ q) fun ek q=>?_;obtain rfl:k=.lex:=(Kd.same_eq ek).symm;refine ⟨ys,e1,hl,⟨_,dx,vals,e2,e3,hK ▸ io.nx,hK ▸ io.nxf⟩,?_⟩;rw [e];exact Rk io hN hK hc hr q
  · refine E02 hq1 fun e hq4=>?_;obtain ⟨c,e2,q⟩:=hq4
    cases c with
    | stop=>exact .inl ⟨e2,e,q⟩
    | value=>exact .inr ⟨e2,e,.value,e2,q⟩
theorem Uf (io:LI K (Kd.addr .lex) fI fN)(hI:Ja K r (.val fI) spI)(hN:Ja K r (.val fN) spN)(hsI:∀ x led Ex Q,Q (.ref x) led->spI [.ref x] [] led Ex Q):Jr K (r + 1) (.bi .list) (lstW spN):=by
 intro Γ hK hr hc args kws led Ex Q loc Z h;have hc:=hc rfl;refine E02 (l0_ h) fun hq3=>?_;obtain rfl:=hq3;intro h1;refine E12 (l1_ h1) fun a hq2=>?_;obtain rfl:=hq2;intro h2;refine E12 (dR_ h2) fun i hq1=>?_;obtain rfl:=hq1;intro h3;refine E33 (oI_ h3) fun k dx vals e1 e2 h4=>?_;refine E02 (tr_ h4) fun ek hq0=>?_;obtain ⟨n,h5⟩:=hq0;obtain rfl:k=.lex:=(Kd.same_eq ek).symm;have b1:=(gel e1);have b2:=(gel e2);refine Nf (by lia) e1 e2 (hK ▸ io) fun Γ' I Z' z=>?_
 have s:=hI Γ' (I.K.trans hK) (by rw [I.room];lia) (fun _=>I.handled.trans hc) [.ref i] [] (led++[.list []]) (fun _ _=>False) (fun d led'=>d=.ref i /\ led'=led++[.list []]) loc Z' (hsI _ _ _ _ ⟨rfl,rfl⟩)
 refine CalC.mono s (fun d σ' ⟨e,ed,el⟩=>⟨ed,by rw [el];simp,⟨dx,vals,?_,?_⟩,n,?_⟩) fun cls σ' ⟨_,_,_,q⟩=>q
 · rw [el,List.getElem?_append_left b1];exact e1
 · rw [el,List.getElem?_append_left b2];exact e2
 · rw [e,el];exact Rk io hN hK hc hr h5
end
noncomputable def mkW (k:Kd)(spI:Jc):Jc:=fun args kws led Ex Q=>spI (.ref (led.length + 1) :: args) kws (led++[.ns k (nones k),.inst k led.length]) Ex fun d led'=>dC d (Q (.ref (led.length + 1)) led') no1 no1 no1 no1 no1
theorem dN_ {d:D}{P:Prop}(h:dC d P no1 no1 no1 no1 no1):d=.none /\ P:=dC_ (R:=fun d=>d=.none /\ P) h (fun h=>⟨rfl,h⟩) (fun _=>False.elim) (fun _=>False.elim) (fun _=>False.elim) (fun _=>False.elim) fun _=>False.elim
section
variable {K:Frag}{r:Nat}{k:Kd}
theorem XL {fI:Addr}{spI:Jc}(kok:KOk K)(hm:makesIn K k.addr=true)(hi:findIn K (.ref k.addr) "__init__" = some (some (.ref fI)))(hf:typeIn K (.ref fI)=some (.type "function"))(hI:Ja K r (.val fI) spI):Ja K (r + 1) (.val k.addr) (mkW k spI):=by
 intro Γ hK hr hc args kws led Ex Q loc Z h;subst hK;refine Rp hm hi hf (by lia) (kok.len k) fun Γ' Z' I=>?_
 have s:=hI Γ' I.K (by rw [I.room];lia) (fun e=>I.handled.trans (hc e)) _ _ _ _ _ loc Z' h
 exact CalC.mono s (fun d σ' hz0=>by refine E02 hz0 fun e q=>?_;exact let ⟨a,b⟩:=dN_ q;⟨a,e,b⟩) fun cls σ' q=>q
noncomputable def mkNW (k:Kd)(spN spI:Jc):Jc:=fun args kws led Ex Q=>spN (.val k.addr :: args) kws led Ex fun d led'=>dR d fun x=>oC (nth led' x) no1 no1 (fun k' dx=>tr (k.same k') (spI (.ref x :: args) kws led' Ex fun d' led''=>dC d' (Q (.ref x) led'') no1 no1 no1 no1 no1)) (fun _ _=>False) no1
theorem SI {sm fN fI:Addr}{spN spI:Jc}(m:Tl K k.addr sm fN fI)(hN:Ja K r (.val fN) spN)(hI:Ja K r (.val fI) spI):Ja K (r + 1) (.val k.addr) (mkNW k spN spI):=by
 intro Γ hK hr hc args kws led Ex Q loc Z h;subst hK;refine Px m (by lia) fun Γ' I=>?_
 have s:=hN Γ' I.K (by rw [I.room];lia) (fun e=>I.handled.trans (hc e)) _ _ _ _ _ loc Z h
 refine CalC.mono s (fun d σ' hq0=>?_) fun cls σ' q=>q;refine E02 hq0 fun e q=>?_;obtain ⟨loc',led',Z'⟩:=σ';have e:loc'=loc:=e;subst e;refine E12 (dR_ q) fun x hq4=>?_;obtain rfl:=hq4;intro q1;refine oC_ q1 (fun _ _=>False.elim) (fun _ _=>False.elim) (fun k' dx e1 q=>?_) (fun _ _ _=>False.elim) fun _ _=>False.elim;refine E02 (tr_ q) fun ek q2=>?_;have ek:=Kd.same_eq ek;refine ⟨x,dx,rfl,ek ▸ Jq led' x ▸ e1,?_⟩;have s:=hI Γ' I.K (by rw [I.room];lia) (fun e=>I.handled.trans (hc e)) _ _ _ _ _ loc' Z' q2
 exact CalC.mono s (fun d σ' hz1=>by refine E02 hz1 fun e q=>?_;exact let ⟨a,b⟩:=dN_ q;⟨a,e,b⟩) fun cls σ' q=>q
noncomputable def defVW (X:X)(n:Nat)(body:List Stmt):Jc:=fun args kws led Ex Q=>l0 kws (l2 args fun d1 _=>∀ v1 v2,(run n X).xs body [some d1,some (.any v1),some (.any v2)] led (fun c _ led=>Ex c led) fun fl _ led=>Q fl.val led)
theorem Wu {f:Addr}{fd:FuncData}{body:List Stmt}{X:X}{n:Nat}{a b c:Str}(hn:X.names=[a,b,c])(F:O8 K f fd body [a,b,c])(h:XOk K r fd.scope X)(hc:X.cells=[])(hb:BindsW fd a b c):SpecOkC X.calm K (r + 3) (.val f) (defVW X n body):=by
 intro Γ hK hr hcalm args kws led Ex Q loc Z hq;subst hK;refine E02 (l0_ hq) fun hq3=>?_;obtain rfl:=hq3;intro h1;refine E22 (l2_ h1) fun d1 d2 hq2=>?_;obtain rfl:=hq2;intro h2;refine W3 F hb (by lia) fun Γ' Z' v1 v2 En=>?_
 have G:Good X Γ':=XOk.good (r:=r) (scope:=fd.scope) (En.K ▸ h) (En.names.trans hn.symm) En.scope (by rw [En.room];lia) (fun hc=>En.handled.trans (hcalm hc))
 have:=(LC n _ _ G).xs (Z:=Z') (h2 v1 v2) (fun x i hx=>by rw [hc] at hx;cases hx)
 exact Wp.exc (Wp.at_ this fun fl σ' q Z=>⟨rfl,q⟩) fun cls σ' q Z=>⟨rfl,q⟩
noncomputable def partW (sp:Jc):Jc:=fun args kws led Ex Q=>∃ (ρ:LN) (argsi:LD) (kwsi:List (Str × D)) (ledi:Led),args=rnL ρ led.length argsi /\ kws=kwsi.map (fun p=>(p.1,rnD ρ led.length p.2)) /\ ρ.Nodup /\ ledi.length=ρ.length /\
 (∀ (t j:Nat) (o:OD),ρ[t]?=some j->ledi[t]?=some o->led[j]?=some (rnOD ρ led.length o)) /\ sp argsi kwsi ledi (fun c led'=>Ex c (unf ρ led led')) fun d led'=>Q (rnD ρ led.length d) (unf ρ led led')
theorem Jt {c:Bool}{f:Addr}{sp:Jc}(h:SpecOkC c K r (.val f) sp):SpecOkC c K r (.val f) (partW sp):=by
 intro Γ hK hr hc args kws led Ex Q loc Z hq;refine E46 hq fun ρ argsi kwsi ledi hq0=>?_;clear hq;obtain rfl:=hq0;intro hq1;obtain rfl:=hq1;intro nd hl hs hq;refine Sp (σ:=⟨loc,led,Z⟩) ρ ledi nd hl hs fun loc' Z'=>CalC.mono (h Γ hK hr hc _ _ _ _ _ loc' Z' hq) (fun d σ' hz2=>by refine E02 hz2 fun e q=>?_;exact ⟨e,fun Z'=>⟨rfl,q⟩⟩) fun cls σ' ⟨e,c,e2,q⟩=>⟨e,fun Z'=>⟨rfl,c,e2,q⟩⟩
theorem Ja.imp {c:Bool}{f:D}{sp sp':Jc}(h:SpecOkC c K r f sp)(k:∀ args kws led Ex Q,sp' args kws led Ex Q->sp args kws led Ex Q):SpecOkC c K r f sp':=fun Γ hK hr hc args kws led Ex Q loc Z hq=>h Γ hK hr hc args kws led Ex Q loc Z (k _ _ _ _ _ hq)
end
section
variable (P:Params)
noncomputable def pTrans:Pat:=⟨2,[],[s "self",s "s"],[.arg 0,.arg 1]⟩
noncomputable def sTrans:Jc:=defW (Xof tops (scoOf (mthD 10 2)) [] noSpec) 20 (bodOf (mthD 10 2)) [pTrans]
theorem Zu:Ja (KK P) 3 (.val 364) sTrans:=
 Jg (r:=0) (scoOf (mthD 10 2)) (kOk P) (Jd P) .nil Jb (by kernel_rfl!) (by kernel_rfl!) (by kernel_rfl!) (by
  intro p hp;cases List.mem_singleton.mp hp;exact Ji rfl rfl (fun S v1 v2=>by show _=_;kernel_rfl!) (by kernel_rfl!))
noncomputable def pSInit:Pat:=⟨2,[],[s "self",s "initial_value",s "newline"],[.arg 0,.arg 1,.dflt (.str [10]) (.str (s "\n") 671) (Y3 (by kernel_rfl!) (by kernel_rfl!))]⟩
noncomputable def sSInit:Jc:=defW (Xof tops (scoOf (mthD 10 1)) [(364,sTrans)] noSpec) 20 (bodOf (mthD 10 1)) [pSInit]
theorem Jbw:Ja (KK P) 6 (.val 357) sSInit:=
 Jg (r:=3) (scoOf (mthD 10 1)) (kOk P) (Jd P) (.cons (Zu P) (by kernel_rfl!) .nil) Jb (by kernel_rfl!) (by kernel_rfl!) (by kernel_rfl!) (by
  intro p hp;cases List.mem_singleton.mp hp;exact Ji (by kernel_rfl!) rfl (fun S v1 v2=>by show _=_;kernel_rfl!) (by kernel_rfl!))
end
section
variable (P:Params)
theorem Jcs:Tl (KK P) (Kd.addr .sio) 84 80 357:=by
 refine ⟨?_,by kernel_rfl!,by kernel_rfl!,by kernel_rfl!,by kernel_rfl!,QU (by kernel_rfl!),by kernel_rfl!,by kernel_rfl!⟩
 refine E42 (UV (K:=KK P) (C:=Kd.addr .sio) (p:=fun cd sl=>(match (sl.toList[4]?).join with | some Value.none=>true | _=>false) && !cd.mro.isEmpty && cd.mro.any fun v=>match v with | .ref a=>Nat.beq a 587 | _=>false) (by kernel_rfl!)) fun a b c d e h=>?_
 simp only [Bool.and_eq_true] at h;refine E02 h fun hq0=>?_;clear h;refine E02 hq0 fun h1 h2=>?_;intro h3;refine ⟨a,b,c,d,e,?_,by simpa using h2,?_⟩
 · split at h1
   · assumption
   · cases h1
 · refine E12 (List.any_eq_true.mp h3) fun v hv hq=>?_
   split at hq
   · rw [Nat.eq_of_beq_eq_true hq] at hv;exact List.contains_iff_mem.mpr hv
   · cases hq
theorem Wc:BindsW (FD (KK P) 80) (s "cls") (s "args") (s "kwargs"):=by
 intro M A X Q v1 v2 sh h;have e:bindArgs (FD (KK P) 80) ⟨[v1,v2],[]⟩=(newTuple [v2] >>= fun t=>alloc { cls:=.type "dict",data:=.dict #[] } >>= fun d=>pure [(s "cls",v1),(s "args",t),(s "kwargs",.ref d)]):=by kernel_rfl!
 rw [e];refine wpAny_bind (wpAny_newTuple ?_);refine wpAny_bind (wpAny_alloc ?_);refine wpAny_pure ?_;have hz:(sh.heap.push { cls:=.type "tuple",data:=.seq [v2].toArray }).objs.size=sh.heap.objs.size + 1:=Heap.size_push ..;show Q [(s "cls",v1),(s "args",.ref sh.heap.objs.size),(s "kwargs",.ref (sh.heap.push { cls:=.type "tuple",data:=.seq [v2].toArray }).objs.size)] _;rw [hz];exact h
noncomputable def XNew:X:=Xof tops (scoOf (mthD 6 1)) [] noSpec
noncomputable def sNew:Jc:=defVW XNew 20 (bodOf (mthD 6 1))
theorem Jfo:Ja (KK P) 3 (.val 80) sNew:=by
 have F:O8 (KK P) 80 (FD (KK P) 80) (bodOf (mthD 6 1)) (localsOf (scoOf (mthD 6 1)).names):=Qh (by kernel_rfl!) (by kernel_rfl!)
 have e:localsOf (scoOf (mthD 6 1)).names=[s "cls",s "args",s "kwargs"]:=by kernel_rfl!
 have hsc:(FD (KK P) 80).scope=scoOf (mthD 6 1):=by kernel_rfl!
 exact Wu (X:=XNew) (r:=0) e (e ▸ F) (hsc ▸ Je2 (kOk P) (Jd P) .nil Jb (hsc ▸ F.kind)) rfl (Wc P)
noncomputable def sSio:Jc:=mkNW .sio sNew sSInit
theorem Je1:Ja (KK P) 7 (.val 587) sSio:=SI (k:=.sio) (Jcs P) (Ja.mono (by decide) (Jfo P)) (Jbw P)
end
section
variable (P:Params)
noncomputable def lexPs:List Str:=[s "self",s "instream",s "infile",s "posix",s "punctuation_chars"]
noncomputable def pL5:Pat:=⟨5,[],lexPs,[.arg 0,.arg 1,.arg 2,.arg 3,.arg 4]⟩
noncomputable def pL2:Pat:=⟨2,[s "posix"],lexPs,[.arg 0,.arg 1,.dflt .none .none fun _=>.none,.arg 2,.dflt (.bool false) (.bool false) fun _=>.bool false]⟩
noncomputable def sLInit:Jc:=defW (Xof tops (scoOf (mthD 19 0)) [(587,sSio)] noSpec) 30 (bodOf (mthD 19 0)) [pL5,pL2]
theorem XY:Ja (KK P) 10 (.val 646) sLInit:=
 Jg (r:=7) (scoOf (mthD 19 0)) (kOk P) (Jd P) (.cons (Je1 P) (by kernel_rfl!) .nil) Jb (by kernel_rfl!) (by kernel_rfl!) (by kernel_rfl!) (by
  intro p hp;rcases List.mem_cons.mp hp with rfl | hp
  · exact Ji (by kernel_rfl!) rfl (fun S v1 v2 v3 v4 v5=>by show _=_;kernel_rfl!) (by kernel_rfl!)
  · cases List.mem_singleton.mp hp;exact Ji (by kernel_rfl!) rfl (fun S v1 v2 k1=>by show _=_;kernel_rfl!) (by kernel_rfl!))
noncomputable def sLex:Jc:=mkW .lex sLInit
theorem Je9:Ja (KK P) 11 (.val 722) sLex:=XL (k:=.lex) (kOk P) (by kernel_rfl!) (by kernel_rfl!) (by kernel_rfl!) (XY P)
noncomputable def cs (x:String):LN:=(s x).cps.toList
noncomputable def wcN:LN:=cs "abcdfeghijklmnopqrstuvwxyzABCDEFGHIJKLMNOPQRSTUVWXYZ0123456789_"
end
section
variable (P:Params)
noncomputable def sPunct:Jc:=defW (Xof tops (scoOf (mthD 19 1)) [] noSpec) 20 (bodOf (mthD 19 1)) [pSelf]
theorem X5:Ja (KK P) 3 (.val 653) sPunct:=
 Jg (r:=0) (scoOf (mthD 19 1)) (kOk P) (Jd P) .nil Jb (by kernel_rfl!) (by kernel_rfl!) (by kernel_rfl!) (by
  intro p hp;cases List.mem_singleton.mp hp;exact Ji rfl rfl (fun S v1=>by show _=_;kernel_rfl!) (by kernel_rfl!))
theorem Jed:LI (KK P) (Kd.addr .lex) 712 719:=⟨by kernel_rfl!,by kernel_rfl!,by kernel_rfl!,by kernel_rfl!,by kernel_rfl!,by kernel_rfl!⟩
noncomputable def sIter:Jc:=defW (Xof tops (scoOf (mthD 19 9)) [] noSpec) 20 (bodOf (mthD 19 9)) [pSelf]
theorem Jdj:Ja (KK P) 3 (.val 712) sIter:=
 Jg (r:=0) (scoOf (mthD 19 9)) (kOk P) (Jd P) .nil Jb (by kernel_rfl!) (by kernel_rfl!) (by kernel_rfl!) (by
  intro p hp;cases List.mem_singleton.mp hp;exact Ji rfl rfl (fun S v1=>by show _=_;kernel_rfl!) (by kernel_rfl!))
theorem PH (x:Nat)(led:Led)(Ex:Ec->Led->Prop)(Q:D->Led->Prop)(h:Q (.ref x) led):sIter [.ref x] [] led Ex Q:=by
 have e:sIter [.ref x] [] led Ex Q=Q (.ref x) led:=by kernel_rfl!
 rw [e];exact h
end
end Mine
end
noncomputable section
open PySem PySem.W PyProof.Rows PySem.Calls
namespace Mine
noncomputable def ixN (c:Nat):LN->Option Nat
 | []=>none
 | d :: r=>ife (Nat.beq d c) (some 0) (match ixN c r with
  | some j=>some (j + 1)
  | none=>none)
theorem OL {c:Nat}:∀ {l:LN},ixN c l=none->∀ (j d:Nat),l[j]?=some d->d ≠ c
 | [],_,j,d,e=>by injection e
 | a :: r,h,j,d,e=>by
  unfold ixN at h
  cases q:Nat.beq a c with
  | true=>rw [q] at h;injection h
  | false=>
   rw [q] at h;have h:(match ixN c r with | some j=>some (j + 1) | none=>none)=none:=h
   cases q2:ixN c r with
   | some j=>rw [q2] at h;injection h
   | none=>cases j with
    | zero=>obtain rfl:=Option.some.inj e;exact Nat.ne_of_beq_eq_false q
    | succ j=>exact OL q2 j d e
theorem O3 {c:Nat}:∀ {l:LN} {k:Nat},ixN c l=some k->l[k]?=some c /\ ∀ (j d:Nat),j < k->l[j]?=some d->d ≠ c
 | [],_,h=>by injection h
 | a :: r,k,h=>by
  unfold ixN at h
  cases q:Nat.beq a c with
  | true=>rw [q] at h;obtain rfl:=Option.some.inj h;rw [Nat.eq_of_beq_eq_true q];exact ⟨rfl,fun j d hj=>absurd hj (Nat.not_lt_zero _)⟩
  | false=>
   rw [q] at h;have h:(match ixN c r with | some j=>some (j + 1) | none=>none)=some k:=h
   cases q2:ixN c r with
   | none=>rw [q2] at h;injection h
   | some k'=>
    rw [q2] at h;obtain rfl:=Option.some.inj h;obtain ⟨h1,h2⟩:=O3 q2;refine ⟨h1,fun j d hj e=>?_⟩
    cases j with
    | zero=>obtain rfl:=Option.some.inj e;exact Nat.ne_of_beq_eq_false q
    | succ j=>exact h2 j d (Nat.lt_of_succ_lt_succ hj) e
noncomputable def ixI (n:Nat):Option Nat->Int
 | some j=>Int.ofNat (n + j)
 | none=>-1
theorem MA (x:LN)(c n:Nat):findD x [c] (Int.ofNat n)=ixI n (ixN c (x.drop n)):=by
 have fi:PySem.fromIndex (st x).length (Int.ofNat n)=n:=by
  unfold PySem.fromIndex;have h:¬ (Int.ofNat n < 0):=Int.not_lt.mpr (Int.natCast_nonneg n);rw [if_neg h];show (max 0 (n:Int)).toNat=n
  lia
 have gd:∀ v,(st x).cps.getD v 0=x.getD v 0:=fun v=>by
  show (x.toArray).getD v 0=_;simp
 have hl:(st x).length=x.length:=Jw x;have sp:=StrLaws.find3_spec (st x) c (Int.ofNat n);rw [fi,hl] at sp;have ef:findD x [c] (Int.ofNat n)=Txt.find3 (st x) ⟨#[c]⟩ (Int.ofNat n):=rfl;rw [ef];have at_:∀ (j d:Nat),(x.drop n)[j]?=some d->n + j < x.length /\ x.getD (n + j) 0=d:=fun j d e=>by
  rw [List.getElem?_drop] at e;refine ⟨(gel e),?_⟩;rw [List.getD_eq_getElem?_getD,e];rfl
 cases q:ixN c (x.drop n) with
 | none=>
  rcases sp with ⟨h,_⟩ | ⟨k,h,h1,h2,h3,_⟩
  · exact h
  · have hk:(x.drop n)[k - n]?=some c:=by
     rw [List.getElem?_drop,show n + (k - n)=k by lia,List.getElem?_eq_getElem h2]
     rw [gd,List.getD_eq_getElem?_getD,List.getElem?_eq_getElem h2] at h3;exact congrArg some h3
    exact absurd rfl (OL q _ _ hk)
 | some j=>
  obtain ⟨e1,e2⟩:=O3 q;obtain ⟨b1,b2⟩:=at_ j c e1;rcases sp with ⟨h,h'⟩ | ⟨k,h,h1,h2,h3,h4⟩
  · exact absurd ((gd _).trans b2) (h' (n + j) (by lia) b1)
  · have:k=n + j:=by
     rcases Nat.lt_trichotomy k (n + j) with hlt | he | hgt
     · have hk:(x.drop n)[k - n]?=some c:=by
        rw [List.getElem?_drop,show n + (k - n)=k by lia,List.getElem?_eq_getElem h2]
        rw [gd,List.getD_eq_getElem?_getD,List.getElem?_eq_getElem h2] at h3;exact congrArg some h3
       exact absurd rfl (e2 (k - n) c (by lia) hk)
     · exact he
     · exact absurd ((gd _).trans b2) (h4 (n + j) (by lia) hgt)
    rw [h,this];rfl
noncomputable def nlR (l:LN):Nat:=match ixN 10 l with
 | some j=>j + 1
 | none=>l.length
section
variable (P:Params)
noncomputable def pLine:Pat:=⟨2,[],[s "self",s "limit"],[.arg 0,.arg 1]⟩
noncomputable def sLine:Jc:=defW (Xof tops (scoOf (mthD 10 5)) [] noSpec) 20 (bodOf (mthD 10 5)) [pLine]
theorem Jeo:Ja (KK P) 3 (.val 385) sLine:=
 Jg (r:=0) (scoOf (mthD 10 5)) (kOk P) (Jd P) .nil Jb (by kernel_rfl!) (by kernel_rfl!) (by kernel_rfl!) (by
  intro p hp;cases List.mem_singleton.mp hp;exact Ji rfl rfl (fun S v1 v2=>by show _=_;kernel_rfl!) (by kernel_rfl!))
noncomputable def pRl:Pat:=⟨1,[],[s "self",s "size"],[.arg 0,.dflt (.int (-1)) (.int (-1) 875) fun _=>.int _ _]⟩
noncomputable def sRl:Jc:=defW (Xof tops (scoOf (mthD 10 26)) [(53,sIndex),(371,sCheck),(385,sLine)] noSpec) 20 (bodOf (mthD 10 26)) [pRl]
theorem oRl:Ja (KK P) 6 (.val 541) sRl:=
 Jg (r:=3) (scoOf (mthD 10 26)) (kOk P) (Jd P) (.cons (U4 P) (by kernel_rfl!) (.cons (Vf P) (by kernel_rfl!) (.cons (Jeo P) (by kernel_rfl!) .nil))) Jb (by kernel_rfl!) (by kernel_rfl!) (by kernel_rfl!) (by
  intro p hp;cases List.mem_singleton.mp hp;exact Ji rfl rfl (fun S v1=>by show _=_;kernel_rfl!) (by kernel_rfl!))
noncomputable def sioL (buf:LN)(n:Int):Led:=[.ns .sio [some (.str buf),some (.int n),some (.str [10])],.inst .sio 0]
noncomputable def rlA (buf:LN)(n:Nat)(stop:Int)(Q:D->Led->Prop):Prop:=tr (leI 0 (Int.ofNat n)) (tr (leI 0 stop) (Q (.str (cut buf n stop.toNat)) (sioL buf stop)))
theorem Jd4 (buf:LN)(n:Nat)(Ex:Ec->Led->Prop)(Q:D->Led->Prop):sRl [.ref 1] [] (sioL buf (Int.ofNat n)) Ex Q =
 ife (leI (Int.ofNat buf.length) (Int.ofNat n)) (Q (.str []) (sioL buf (Int.ofNat n))) (tr (eqI (Int.ofNat buf.length) (Int.ofNat buf.length)) (ife (leI 0 (findD buf [10] (Int.ofNat n))) (rlA buf n (findD buf [10] (Int.ofNat n) + 1) Q) (rlA buf n (Int.ofNat buf.length) Q))):=by kernel_rfl!
end
structure Cfg where
 posix:Bool
 ws:Bool
 wc:LN
 cm:LN
 pc:LN
 inf:D
 fs:LD
structure LX where
 st:Option Nat
 tok:LN
 ln:Int
 pos:Nat
 pb:List (LN)
 pbc:Option Nat
 qd:Bool
 esc:Nat
 nc:Option (LN)
noncomputable def lc {α:Type}(l:LN)(n c:α):α:=match l with
 | []=>n
 | _ :: _=>c
noncomputable def and2 {α:Type}(a b:Bool)(x y:α):α:=ife a (ife b x y) y
theorem NZ {α β:Type}(K:β->α){b:Bool}{x y:β}{x' y':α}(hx:x'=K x)(hy:y'=K y):ife b x' y'=K (ife b x y):=by cases b <;> assumption
theorem Jer {α β:Type}(K:β->α){a b:Bool}{x y:β}{x' y':α}(hx:x'=K x)(hy:y'=K y):and2 a b x' y'=K (and2 a b x y):=NZ K (NZ K hx hy) hy
theorem lcK {α β:Type}(K:β->α){l:LN}{x y:β}{x' y':α}(hx:x'=K x)(hy:y'=K y):lc l x' y'=K (lc l x y):=by cases l <;> assumption
noncomputable def tokQ {α:Type}(cf:Cfg)(S:LX)(b k:α):α:=lc S.tok (ife cf.posix (ife S.qd b k) k) b
noncomputable def whites:LN:=[32,9,13,10]
noncomputable def quots:LN:=[39,34]
section
variable {α:Type}(cf:Cfg)(cont brk:LX->α)(err:α)(rs com1 com2:LX->α)
noncomputable def addT (S:LX)(c:Nat)(k:LX->α):α:=ife (Nat.ble (S.tok.length + 1) 16777216) (k { S with tok:=S.tok++[c] }) err
noncomputable def turnSp (S:LX)(c:Nat):α:=
 ife (has c whites) (tokQ cf S (brk S) (cont S)) <| ife (has c cf.cm) (com1 S) <|
 and2 cf.posix (has c [92]) (cont { S with esc:=97,st:=some c }) <|
 ife (has c cf.wc) (cont { S with tok:=[c],st:=some 97 }) <|
 ife (has c cf.pc) (cont { S with tok:=[c],st:=some 99 }) <|
 ife (has c quots) (ife cf.posix (cont { S with st:=some c }) (cont { S with tok:=[c],st:=some c })) <|
 ife cf.ws (cont { S with tok:=[c],st:=some 97 }) (brk { S with tok:=[c] })
noncomputable def turnQ (S:LX)(q c:Nat):α:=
 ife (lEqB [c] [q]) (ife cf.posix (cont { S with qd:=true,st:=some 97 }) (addT err { S with qd:=true } c fun S=>brk { S with st:=some 32 })) <|
 ife cf.posix (ife (has c [92]) (ife (has q [34]) (cont { S with qd:=true,esc:=q,st:=some c }) (addT err { S with qd:=true } c cont)) (addT err { S with qd:=true } c cont)) (addT err { S with qd:=true } c cont)
noncomputable def turnE (S:LX)(q c:Nat):α:=
 ife (has S.esc quots) (ife (!lEqB [c] [q]) (ife (!lEqB [c] [S.esc]) (addT err S q fun S=>addT err S c fun S=>cont { S with st:=some S.esc }) (addT err S c fun S=>cont { S with st:=some S.esc })) (addT err S c fun S=>cont { S with st:=some S.esc })) (addT err S c fun S=>cont { S with st:=some S.esc })
noncomputable def turnA (S:LX)(q c:Nat):α:=
 ife (has c whites) (tokQ cf S (brk { S with st:=some 32 }) (cont { S with st:=some 32 })) <| ife (has c cf.cm) (com2 S) <|
 ife (lEqB [q] [99]) (ife (has c cf.pc) (addT err S c cont) (ife (!has c whites) (lc cf.pc err (brk { S with pbc:=some c,st:=some 32 })) (brk { S with st:=some 32 }))) <|
 and2 cf.posix (has c quots) (cont { S with st:=some c }) <|
 and2 cf.posix (has c [92]) (cont { S with esc:=97,st:=some c }) <|
 ife (has c cf.wc) (addT err S c cont) <| ife (has c quots) (addT err S c cont) <|
 ife cf.ws (ife (!has c cf.pc) (addT err S c cont) (other S c)) (other S c)
where other (S:LX) (c:Nat):α:=lc cf.pc (ife (Nat.ble (S.pb.map D.str).length 100000) (tokQ cf S (brk { S with pb:=[c] :: S.pb,st:=some 32 }) (cont { S with pb:=[c] :: S.pb,st:=some 32 })) err) (tokQ cf S (brk { S with pbc:=some c,st:=some 32 }) (cont { S with pbc:=some c,st:=some 32 }))
noncomputable def turn1 (S:LX)(c:Nat):α:=match S.st with
 | none=>brk { S with tok:=[] }
 | some q=>ife (lEqB [q] [32]) (turnSp cf cont brk com1 S c) <| ife (has q quots) (turnQ cf cont brk err S q c) <| ife (has q [92]) (turnE cont err S q c) <|
  ife (ife (lEqB [q] [97]) true (ife (lEqB [q] [99]) true false)) (turnA cf cont brk err com2 S q c) (cont S)
noncomputable def turn (S:LX)(c:Nat):α:=ife (lEqB [c] [10]) (turn1 cf cont brk err com1 com2 { S with ln:=S.ln + 1 } c) (turn1 cf cont brk err com1 com2 S c)
noncomputable def turnEnd (S:LX):α:=match S.st with
 | none=>brk { S with tok:=[] }
 | some q=>ife (lEqB [q] [32]) (brk { S with st:=none }) <| ife (has q quots) (rs { S with qd:=true }) <| ife (has q [92]) (rs S) <|
  ife (ife (lEqB [q] [97]) true (ife (lEqB [q] [99]) true false)) (brk { S with st:=none }) (cont S)
noncomputable def turnAll (buf:LN)(S:LX):α:=match S.pbc with
 | some c=>turn cf cont brk err com1 com2 { S with pbc:=none,nc:=some [c] } c
 | none=>match buf.drop S.pos with
  | []=>turnEnd cont brk rs { S with nc:=some [] }
  | c :: _=>turn cf cont brk err com1 com2 { S with pos:=S.pos + 1,nc:=some [c] } c
end
end Mine
end
noncomputable section
open PySem PySem.W PyProof.Rows PySem.Calls
set_option backward.match.sparseCases false
namespace Mine
theorem Q9 (buf:LN)(n:Nat)(Ex:Ec->Led->Prop)(Q:D->Led->Prop):sRead [.ref 1,.int 1] [] (sioL buf (Int.ofNat n)) Ex Q =
 ife (leI (Int.ofNat buf.length) (Int.ofNat n)) (Q (.str []) (sioL buf (Int.ofNat n))) (ife (ltI (Int.ofNat (n + 1)) (Int.ofNat buf.length)) (tr (leI 0 (Int.ofNat n)) (tr (leI 0 (Int.ofNat (n + 1))) (Q (.str (cut buf n (n + 1))) (sioL buf (Int.ofNat (n + 1)))))) (tr (leI 0 (Int.ofNat n)) (tr (leI 0 (Int.ofNat buf.length)) (Q (.str (cut buf n buf.length)) (sioL buf (Int.ofNat buf.length)))))):=by kernel_rfl!
theorem Jp {α:Sort _}{b:Bool}{x y:α}(h:b=true):ife b x y=x:=by rw [h];rfl
theorem Je {α:Sort _}{b:Bool}{x y:α}(h:b=false):ife b x y=y:=by rw [h];rfl
theorem Ju {b:Bool}{P:Prop}(h:b=true)(p:P):tr b P:=by rw [h];exact p
theorem leN (a b:Nat):leI (Int.ofNat a) (Int.ofNat b)=decide (a <= b):=decide_eq_decide.mpr (Int.ofNat_le (m:=a) (n:=b))
theorem ltN (a b:Nat):ltI (Int.ofNat a) (Int.ofNat b)=decide (a < b):=decide_eq_decide.mpr (Int.ofNat_lt (n:=a) (m:=b))
theorem le0 (a:Nat):leI 0 (Int.ofNat a)=true:=decide_eq_true (Int.natCast_nonneg a)
theorem Sz {buf:LN}{n:Nat}{Ex:Ec->Led->Prop}{Q:D->Led->Prop}(e:buf.drop n=[])(h:Q (.str []) (sioL buf (Int.ofNat n))):sRead [.ref 1,.int 1] [] (sioL buf (Int.ofNat n)) Ex Q:=by
 rw [Q9,leN,Jp (decide_eq_true (List.drop_eq_nil_iff.mp e))];exact h
theorem P8 {buf r:LN}{n c:Nat}{Ex:Ec->Led->Prop}{Q:D->Led->Prop}(e:buf.drop n=c :: r)(h:Q (.str [c]) (sioL buf (Int.ofNat (n + 1)))):sRead [.ref 1,.int 1] [] (sioL buf (Int.ofNat n)) Ex Q:=by
 have hl:=congrArg List.length e;rw [List.length_drop,List.length_cons] at hl;have hl:n < buf.length:=by lia
 have ec:∀ m,n + 1 <= m->cut buf n m=(c :: r).take (m - n):=fun m _=>by unfold cut;rw [List.drop_take,e]
 rw [Q9,leN,ltN,Je (decide_eq_false (by lia))]
 by_cases h1:n + 1 < buf.length
 · rw [Jp (decide_eq_true h1)];refine Ju (le0 _) (Ju (le0 _) ?_);rw [ec _ (Nat.le_refl _),show n + 1 - n=1 by lia];exact h
 · rw [Je (decide_eq_false h1)];refine Ju (le0 _) (Ju (le0 _) ?_);have:buf.length=n + 1:=by lia
   rw [this,ec _ (Nat.le_refl _),show n + 1 - n=1 by lia];exact h
noncomputable def rd3 (vals:List (Option D))(k:LN->Nat->Prop):Prop:=lC vals False fun a r=>l2 r fun b c=>so a fun a=>so b fun b=>so c fun c=>dS a fun buf=>dI b fun i=>dS c fun nl=>tr (leI 0 i) (tr (lEqB nl [10]) (k buf i.toNat))
theorem Je7 {vals:List (Option D)}{k:LN->Nat->Prop}(h:rd3 vals k):∃ buf n,vals=[some (.str buf),some (.int (Int.ofNat n)),some (.str [10])] /\ k buf n:=by
 cases vals with
 | nil=>exact False.elim h
 | cons a r=>
  refine E22 (l2_ (show l2 r _ from h)) fun b c hq5=>?_;obtain rfl:=hq5;intro h
  refine E12 (so_ h) fun a hq4=>?_;obtain rfl:=hq4;intro h;refine E12 (so_ h) fun b hq3=>?_;obtain rfl:=hq3;intro h;refine E12 (so_ h) fun c hq2=>?_;obtain rfl:=hq2;intro h;refine dSe h fun buf h=>?_;refine dIe h fun i h=>?_;refine dSe h fun nl h=>?_;rw [Jn.mp (trB (trP h))];have e:Int.ofNat i.toNat=i:=Int.toNat_of_nonneg (of_decide_eq_true (trB h));exact ⟨buf,i.toNat,by rw [e],trP (trP h)⟩
noncomputable def hRd:Jc:=fun args kws led Ex Q=>l0 kws (l2 args fun a b=>dR a fun i=>dI b fun one=>tr (eqI one 1) (oI led i fun k dx vals=>tr (k.same .sio) (rd3 vals fun buf n=>match buf.drop n with
 | []=>Q (.str []) led
 | c :: _=>Q (.str [c]) (led.set dx (.ns .sio [some (.str buf),some (.int (Int.ofNat (n + 1))),some (.str [10])])))))
theorem WR (args:LD)(kws:List (Str × D))(led:Led)(Ex:Ec->Led->Prop)(Q:D->Led->Prop)(h:hRd args kws led Ex Q):partW sRead args kws led Ex Q:=by
 refine l0e h fun h1=>?_;refine l2e h1 fun a b h2=>?_;refine dRe h2 fun i h3=>?_;refine dIe h3 fun one h4=>?_;refine E02 (tr_ h4) fun e1 h5=>?_;obtain rfl:one=1:=of_decide_eq_true e1;refine E33 (oI_ h5) fun k dx vals g1 g2 h6=>?_;refine E02 (tr_ h6) fun ek h7=>?_;obtain rfl:k=.sio:=(Kd.same_eq ek).symm;refine E22 (Je7 h7) fun buf n hq1=>?_;obtain rfl:=hq1;intro h8;have ne:dx ≠ i:=fun q=>by rw [q,g1] at g2;cases g2
 have unf_eq:∀ vals',unf [dx,i] led [.ns .sio [some (.str buf),some (.int vals'),some (.str [10])],.inst .sio 0]=led.set dx (.ns .sio [some (.str buf),some (.int vals'),some (.str [10])]):=fun vals'=>by
  show (((led.set i (.inst .sio dx)).set dx _)++[])=_;rw [List.append_nil];have:led.set i (.inst .sio dx)=led:=by
   refine E11 (List.getElem?_eq_some_iff.mp g1) fun hl e=>?_;rw [<-e];exact List.set_getElem_self hl
  rw [this];rfl
 refine ⟨[dx,i],[.ref 1,.int 1],[],sioL buf (Int.ofNat n),rfl,rfl,by simp [ne],rfl,fun t j o x1 x2=>?_,?_⟩
 · match t,x1,x2 with
   | 0,x1,x2=>obtain rfl:=Option.some.inj x1;obtain rfl:=Option.some.inj x2;exact g2
   | 1,x1,x2=>obtain rfl:=Option.some.inj x1;obtain rfl:=Option.some.inj x2;exact g1
 · generalize e:buf.drop n=l at h8
   cases l with
   | nil=>
    refine Sz e ?_;show Q (.str []) (unf [dx,i] led _);unfold sioL;rw [unf_eq];have:led.set dx (.ns .sio [some (.str buf),some (.int (Int.ofNat n)),some (.str [10])])=led:=by
     refine E11 (List.getElem?_eq_some_iff.mp g2) fun hl e=>?_;rw [<-e];exact List.set_getElem_self hl
    rw [this];exact h8
   | cons c r=>
    refine P8 e ?_;show Q (.str [c]) (unf [dx,i] led _);unfold sioL;rw [unf_eq];exact h8
theorem Jbl (P:Params):Ja (KK P) 6 (.val 533) hRd:=Ja.imp (Jt (Jci P)) WR
theorem T7 {l:LN}(h:ixN 10 l=none):nlR l=l.length:=by unfold nlR;rw [h]
theorem TX {l:LN}{j:Nat}(h:ixN 10 l=some j):nlR l=j + 1:=by unfold nlR;rw [h]
theorem XZ {buf:LN}{n:Nat}{Ex:Ec->Led->Prop}{Q:D->Led->Prop}(h:Q (.str (cut buf n (n + nlR (buf.drop n)))) (sioL buf (Int.ofNat (n + nlR (buf.drop n))))):sRl [.ref 1] [] (sioL buf (Int.ofNat n)) Ex Q:=by
 rw [Jd4,leN]
 by_cases hl:buf.length <= n
 · rw [Jp (decide_eq_true hl)];have e:buf.drop n=[]:=List.drop_eq_nil_iff.mpr hl;have e2:cut buf n (n + nlR (buf.drop n))=[]:=by
    rw [e];unfold cut;exact List.drop_eq_nil_iff.mpr (Nat.le_trans (List.length_take_le ..) (Nat.le_refl _))
   rw [e2,e] at h;exact h
 · rw [Je (decide_eq_false hl)];refine Ju (decide_eq_true rfl) ?_;rw [MA]
   cases q:ixN 10 (buf.drop n) with
   | none=>
    rw [T7 q,List.length_drop,show n + (buf.length - n)=buf.length by lia] at h
    rw [Je (show leI 0 (ixI n none)=false from rfl)]
    exact Ju (le0 _) (Ju (le0 _) h)
   | some j=>
    rw [TX q] at h;rw [Jp (show leI 0 (ixI n (some j))=true from le0 _)]
    exact Ju (le0 _) (Ju (le0 (n + j + 1)) h)
noncomputable def hRl:Jc:=fun args kws led Ex Q=>l0 kws (l1 args fun a=>dR a fun i=>oI led i fun k dx vals=>tr (k.same .sio) (rd3 vals fun buf n=>
 Q (.str (cut buf n (n + nlR (buf.drop n)))) (led.set dx (.ns .sio [some (.str buf),some (.int (Int.ofNat (n + nlR (buf.drop n)))),some (.str [10])]))))
theorem VG (args:LD)(kws:List (Str × D))(led:Led)(Ex:Ec->Led->Prop)(Q:D->Led->Prop)(h:hRl args kws led Ex Q):partW sRl args kws led Ex Q:=by
 refine l0e h fun h1=>?_;refine l1e h1 fun a h2=>?_;refine dRe h2 fun i h3=>?_;refine E33 (oI_ h3) fun k dx vals g1 g2 h6=>?_;refine E02 (tr_ h6) fun ek h7=>?_;obtain rfl:k=.sio:=(Kd.same_eq ek).symm;refine E22 (Je7 h7) fun buf n hq0=>?_;obtain rfl:=hq0;intro h8;have ne:dx ≠ i:=fun q=>by rw [q,g1] at g2;cases g2
 have unf_eq:∀ vals',unf [dx,i] led [.ns .sio [some (.str buf),some (.int vals'),some (.str [10])],.inst .sio 0]=led.set dx (.ns .sio [some (.str buf),some (.int vals'),some (.str [10])]):=fun vals'=>by
  show (((led.set i (.inst .sio dx)).set dx _)++[])=_;rw [List.append_nil];have:led.set i (.inst .sio dx)=led:=by
   refine E11 (List.getElem?_eq_some_iff.mp g1) fun hl e=>?_;rw [<-e];exact List.set_getElem_self hl
  rw [this];rfl
 refine ⟨[dx,i],[.ref 1],[],sioL buf (Int.ofNat n),rfl,rfl,by simp [ne],rfl,fun t j o x1 x2=>?_,?_⟩
 · match t,x1,x2 with
   | 0,x1,x2=>obtain rfl:=Option.some.inj x1;obtain rfl:=Option.some.inj x2;exact g2
   | 1,x1,x2=>obtain rfl:=Option.some.inj x1;obtain rfl:=Option.some.inj x2;exact g1
 · refine XZ ?_;show Q (.str _) (unf [dx,i] led _);unfold sioL;rw [unf_eq];exact h8
theorem Jag (P:Params):Ja (KK P) 6 (.val 541) hRl:=Ja.imp (Jt (oRl P)) VG
noncomputable def eofD (posix:Bool):D:=match posix with
 | true=>.none
 | false=>.str []
noncomputable def stD:Option Nat->D
 | none=>.none
 | some q=>.str [q]
noncomputable def pbcL:Option Nat->LD
 | none=>[]
 | some c=>[.str [c]]
noncomputable def pcA:LN->Option D
 | []=>none
 | _ :: _=>some (.ref 6)
noncomputable def lexF (cf:Cfg)(S:LX):List (Option D):=
 [some (stD S.st),some (.str S.tok),some (.int 0),some (.bool cf.posix),some (.str whites),some (.str cf.cm),some (.str cf.wc),some (.str quots),some (.str [92]),some (.str [34]),some (.bool cf.ws),some (.ref 3),some (.int S.ln),some (.str cf.pc),pcA cf.pc,some (.ref 4),some (.ref 5),some (eofD cf.posix),some .none,some cf.inf]
noncomputable def pcL (pc:LN)(S:LX)(tl:Led):Led:=match pc with
 | []=>tl
 | _ :: _=>.deque (pbcL S.pbc) :: tl
noncomputable def LL (cf:Cfg)(buf:LN)(S:LX)(tl:Led):Led:=
 .ns .lex (lexF cf S) :: .inst .lex 0 :: .ns .sio [some (.str buf),some (.int (Int.ofNat S.pos)),some (.str [10])] :: .inst .sio 2 :: .deque (S.pb.map .str) :: .deque cf.fs :: pcL cf.pc S tl
noncomputable def locR (S:LX):Loc:=[some (.ref 1),some (.bool S.qd),some (.str [S.esc]),S.nc.map .str,none]
noncomputable def XRT:X:=Xof tops (scoOf (mthD 19 6)) [(533,hRd),(541,hRl),(653,sPunct)] noSpec
noncomputable def rtB:List Stmt:=bodOf (mthD 19 6)
noncomputable def whParts:Stmt->Expr × List Stmt
 | .While t b _ _=>(t,b)
 | _=>(.Constant .none 0 default,[])
noncomputable def rtW:Expr × List Stmt:=whParts (stAt rtB 2)
noncomputable def rtLoop (k:Nat)(Ex:QE)(Q:QF)(n:Nat)(loc:Loc)(led:Led):Prop:=whW (run 37 XRT) k rtW.1 rtW.2 [] Ex Q n loc led
noncomputable def rtCont (cf:Cfg)(buf:LN)(tl:Led)(k:Nat)(Ex:QE)(Q:QF)(n:Nat)(S:LX):Prop:=∃ led',Tidy k (locR S) (LL cf buf S tl) led' /\ rtLoop k Ex Q n (locR S) led'
noncomputable def rtBrk (cf:Cfg)(buf:LN)(tl:Led)(Q:QF)(S:LX):Prop:=Q .next (locR S) (LL cf buf S tl)
noncomputable def rtRs (cf:Cfg)(buf:LN)(tl:Led)(Ex:QE)(S:LX):Prop:=Ex .value (locR S) (LL cf buf S tl)
noncomputable def adv (buf:LN)(S:LX):LX:={ S with pos:=S.pos + nlR (buf.drop S.pos),ln:=S.ln + 1 }
noncomputable def com1W {α:Type}(buf:LN)(cont:LX->α)(S:LX):α:=cont (adv buf S)
noncomputable def com2W {α:Type}(cf:Cfg)(buf:LN)(cont brk:LX->α)(S:LX):α:=ife cf.posix (tokQ cf (adv buf S) (brk { adv buf S with st:=some 32 }) (cont { adv buf S with st:=some 32 })) (cont (adv buf S))
noncomputable def rtAll (cf:Cfg)(buf:LN)(tl:Led)(k:Nat)(Ex:QE)(Q:QF)(n:Nat)(S:LX):Prop:=turnAll cf (rtCont cf buf tl k Ex Q n) (rtBrk cf buf tl Q) False (rtRs cf buf tl Ex) (com1W buf (rtCont cf buf tl k Ex Q n)) (com2W cf buf (rtCont cf buf tl k Ex Q n) (rtBrk cf buf tl Q)) buf S
section
variable (p w:Bool)(wc cm buf:LN)(tl:Led)(k:Nat)(Ex:QE)(Q:QF)(n:Nat)(tok:LN)(ln:Int)(pos:Nat)(pb:List (LN))(qd:Bool)(esc:Nat)(nc:Option (LN))(q c:Nat)(x:Nat)(xs:LN)(inf:D)(fs:LD)
theorem Yp:rtLoop k Ex Q (n + 1) (locR ⟨some q,tok,ln,pos,pb,none,qd,esc,nc⟩) (LL ⟨p,w,wc,cm,[],inf,fs⟩ buf ⟨some q,tok,ln,pos,pb,none,qd,esc,nc⟩ tl)=rtAll ⟨p,w,wc,cm,[],inf,fs⟩ buf tl k Ex Q n ⟨some q,tok,ln,pos,pb,none,qd,esc,nc⟩:=by kernel_rfl!
theorem YQ:rtLoop k Ex Q (n + 1) (locR ⟨none,tok,ln,pos,pb,none,qd,esc,nc⟩) (LL ⟨p,w,wc,cm,[],inf,fs⟩ buf ⟨none,tok,ln,pos,pb,none,qd,esc,nc⟩ tl)=rtAll ⟨p,w,wc,cm,[],inf,fs⟩ buf tl k Ex Q n ⟨none,tok,ln,pos,pb,none,qd,esc,nc⟩:=by kernel_rfl!
theorem Jbp:rtLoop k Ex Q (n + 1) (locR ⟨some q,tok,ln,pos,pb,none,qd,esc,nc⟩) (LL ⟨p,w,wc,cm,x :: xs,inf,fs⟩ buf ⟨some q,tok,ln,pos,pb,none,qd,esc,nc⟩ tl)=rtAll ⟨p,w,wc,cm,x :: xs,inf,fs⟩ buf tl k Ex Q n ⟨some q,tok,ln,pos,pb,none,qd,esc,nc⟩:=by kernel_rfl!
theorem Jbo:rtLoop k Ex Q (n + 1) (locR ⟨none,tok,ln,pos,pb,none,qd,esc,nc⟩) (LL ⟨p,w,wc,cm,x :: xs,inf,fs⟩ buf ⟨none,tok,ln,pos,pb,none,qd,esc,nc⟩ tl)=rtAll ⟨p,w,wc,cm,x :: xs,inf,fs⟩ buf tl k Ex Q n ⟨none,tok,ln,pos,pb,none,qd,esc,nc⟩:=by kernel_rfl!
theorem ZO:rtLoop k Ex Q (n + 1) (locR ⟨some q,tok,ln,pos,pb,some c,qd,esc,nc⟩) (LL ⟨p,w,wc,cm,x :: xs,inf,fs⟩ buf ⟨some q,tok,ln,pos,pb,some c,qd,esc,nc⟩ tl)=rtAll ⟨p,w,wc,cm,x :: xs,inf,fs⟩ buf tl k Ex Q n ⟨some q,tok,ln,pos,pb,some c,qd,esc,nc⟩:=by kernel_rfl!
theorem Ja0:rtLoop k Ex Q (n + 1) (locR ⟨none,tok,ln,pos,pb,some c,qd,esc,nc⟩) (LL ⟨p,w,wc,cm,x :: xs,inf,fs⟩ buf ⟨none,tok,ln,pos,pb,some c,qd,esc,nc⟩ tl)=rtAll ⟨p,w,wc,cm,x :: xs,inf,fs⟩ buf tl k Ex Q n ⟨none,tok,ln,pos,pb,some c,qd,esc,nc⟩:=by kernel_rfl!
end
theorem NW (cf:Cfg)(buf:LN)(tl:Led)(k:Nat)(Ex:QE)(Q:QF)(n:Nat)(S:LX)(h:cf.pc=[]->S.pbc=none):rtLoop k Ex Q (n + 1) (locR S) (LL cf buf S tl)=rtAll cf buf tl k Ex Q n S:=by
 obtain ⟨p,w,wc,cm,pc,inf,fs⟩:=cf;obtain ⟨st,tok,ln,pos,pb,pbc,qd,esc,nc⟩:=S
 cases pc with
 | nil=>obtain rfl:pbc=none:=h rfl;cases st with | none=>exact YQ .. | some q=>exact Yp ..
 | cons x xs=>cases pbc with
  | none=>cases st with | none=>exact Jbo .. | some q=>exact Jbp ..
  | some c=>cases st with | none=>exact Ja0 .. | some q=>exact ZO ..
inductive Res where
 | cont (S:LX)
 | brk (S:LX)
 | err
 | rs (S:LX)
section
variable {β:Type}(c b r:LX->β)(e:β)
noncomputable def Res.el:Res->β
 | .cont S=>c S
 | .brk S=>b S
 | .err=>e
 | .rs S=>r S
theorem Lq (x:Bool)(u v:Res):Res.el c b r e (ife x u v)=ife x (Res.el c b r e u) (Res.el c b r e v):=by cases x <;> rfl
theorem Jas (x:LN)(u v:Res):Res.el c b r e (lc x u v)=lc x (Res.el c b r e u) (Res.el c b r e v):=by cases x <;> rfl
variable (cf:Cfg)(buf:LN)
theorem Vr (S:LX)(s:Nat)(k:LX->Res):Res.el c b r e (addT .err S s k)=addT e S s fun S=>Res.el c b r e (k S):=Lq ..
theorem OW (k1 k2:LX->Res)(S:LX)(s:Nat):Res.el c b r e (turn1 cf .cont .brk .err k1 k2 S s)=turn1 cf c b e (fun S=>Res.el c b r e (k1 S)) (fun S=>Res.el c b r e (k2 S)) S s:=by
 unfold turn1
 cases S.st with
 | none=>rfl
 | some q=>
  simp only [turnSp,turnQ,turnE,turnA,turnA.other,tokQ,and2,Lq,Jas,Vr];rfl
theorem Qn (k1 k2:LX->Res)(S:LX)(s:Nat):Res.el c b r e (turn cf .cont .brk .err k1 k2 S s)=turn cf c b e (fun S=>Res.el c b r e (k1 S)) (fun S=>Res.el c b r e (k2 S)) S s:=by
 unfold turn;rw [Lq,OW,OW]
theorem PD (S:LX):Res.el c b r e (turnEnd .cont .brk .rs S)=turnEnd c b r S:=by
 unfold turnEnd
 cases S.st with
 | none=>rfl
 | some q=>simp only [Lq];rfl
theorem Vl (S:LX):Res.el c b r e (com2W cf buf .cont .brk S)=com2W cf buf c b S:=by
 unfold com2W tokQ;rw [Lq,Jas,Lq,Lq];rfl
noncomputable def tRes (S:LX):Res:=turnAll cf .cont .brk .err .rs (com1W buf .cont) (com2W cf buf .cont .brk) buf S
theorem Qs (S:LX):Res.el c b r e (tRes cf buf S)=turnAll cf c b e r (com1W buf c) (com2W cf buf c b) buf S:=by
 have e2:(fun S=>Res.el c b r e (com2W cf buf .cont .brk S))=com2W cf buf c b:=funext fun S=>Vl c b r e cf buf S;unfold tRes turnAll
 cases S.pbc with
 | some s=>dsimp only;rw [Qn,e2];rfl
 | none=>
  dsimp only
  cases buf.drop S.pos with
  | nil=>exact PD ..
  | cons s _=>dsimp only;rw [Qn,e2];rfl
end
noncomputable def LX.ok (cf:Cfg)(S:LX):Prop:=cf.pc=[]->S.pbc=none
inductive RT (cf:Cfg)(buf:LN):LX->Bool->LX->Prop
 | brk {S S':LX} (g:S.ok cf) (h:tRes cf buf S=.brk S'):RT cf buf S true S'
 | rs {S S':LX} (g:S.ok cf) (h:tRes cf buf S=.rs S'):RT cf buf S false S'
 | cont {S S' S'':LX} {b:Bool} (g:S.ok cf) (h:tRes cf buf S=.cont S') (r:RT cf buf S' b S''):RT cf buf S b S''
theorem X2 {cf:Cfg}{buf:LN}{tl:Led}{k:Nat}{Ex:QE}{Q:QF}{S S':LX}{b:Bool}(h:RT cf buf S b S')(q:ife b (rtBrk cf buf tl Q S') (rtRs cf buf tl Ex S')):∃ n,rtLoop k Ex Q n (locR S) (LL cf buf S tl):=by
 induction h with
 | brk g h=>
  refine ⟨1,?_⟩;rw [NW _ _ _ _ _ _ _ _ g];unfold rtAll;rw [<-Qs,h];exact q
 | rs g h=>
  refine ⟨1,?_⟩;rw [NW _ _ _ _ _ _ _ _ g];unfold rtAll;rw [<-Qs,h];exact q
 | cont g h r ih=>
  refine E11 (ih q) fun n ih=>?_;refine ⟨n + 1,?_⟩;rw [NW _ _ _ _ _ _ _ _ g];unfold rtAll;rw [<-Qs,h];exact ⟨_,.inl rfl,ih⟩
noncomputable def LX.start (S:LX):LX:={ S with qd:=false,esc:=32,nc:=none }
noncomputable def LX.stop (S:LX):LX:={ S with tok:=[] }
noncomputable def resD (p qd:Bool)(tok:LN):D:=ife p (ife qd (.str tok) (ife (lEqB tok []) .none (.str tok))) (.str tok)
noncomputable def sRT2:Jc:=defW XRT 40 rtB [pSelf]
noncomputable def rtFin (Q:D->Led->Prop)(Ex:Ec->Led->Prop):QF:=seqW (run 37 XRT) (rtB.drop 3) (fun c _ led=>Ex c led) fun fl _ led=>Q fl.val led
theorem Jet (cf:Cfg)(buf:LN)(S:LX)(tl:Led)(Ex:Ec->Led->Prop)(Q:D->Led->Prop):sRT2 [.ref 1] [] (LL cf buf S tl) Ex Q=∃ n,rtLoop (LL cf buf S.start tl).length (fun c _ led=>Ex c led) (rtFin Q Ex) n (locR S.start) (LL cf buf S.start tl):=by kernel_rfl!
theorem Vq (p w:Bool)(wc cm pc:LN)(inf:D)(fs:LD)(buf:LN)(tl:Led)(st:Option Nat)(tok:LN)(ln:Int)(pos:Nat)(pb:List (LN))(pbc:Option Nat)(qd:Bool)(esc:Nat)(nc:Option (LN))(Ex:Ec->Led->Prop)(Q:D->Led->Prop) :
 rtBrk ⟨p,w,wc,cm,pc,inf,fs⟩ buf tl (rtFin Q Ex) ⟨st,tok,ln,pos,pb,pbc,qd,esc,nc⟩ =
 ife p (ife qd (Q (.str tok) (LL ⟨p,w,wc,cm,pc,inf,fs⟩ buf ⟨st,[],ln,pos,pb,pbc,qd,esc,nc⟩ tl)) (ife (lEqB tok []) (Q .none (LL ⟨p,w,wc,cm,pc,inf,fs⟩ buf ⟨st,[],ln,pos,pb,pbc,qd,esc,nc⟩ tl)) (Q (.str tok) (LL ⟨p,w,wc,cm,pc,inf,fs⟩ buf ⟨st,[],ln,pos,pb,pbc,qd,esc,nc⟩ tl)))) (Q (.str tok) (LL ⟨p,w,wc,cm,pc,inf,fs⟩ buf ⟨st,[],ln,pos,pb,pbc,qd,esc,nc⟩ tl)):=by kernel_rfl!
theorem YT {cf:Cfg}{buf:LN}{tl:Led}{S:LX}{Ex:Ec->Led->Prop}{Q:D->Led->Prop}(h:Q (resD cf.posix S.qd S.tok) (LL cf buf S.stop tl)):rtBrk cf buf tl (rtFin Q Ex) S:=by
 obtain ⟨p,w,wc,cm,pc,inf,fs⟩:=cf;obtain ⟨st,tok,ln,pos,pb,pbc,qd,esc,nc⟩:=S;rw [Vq];unfold resD at h;dsimp only at h
 cases p with
 | false=>exact h
 | true=>cases qd with
  | true=>exact h
  | false=>generalize lEqB tok []=b at h ⊢;cases b <;> exact h
noncomputable def hRT:Jc:=fun args kws led Ex Q=>args=[.ref 1] /\ kws=[] /\ ∃ cf buf S tl b S',led=LL cf buf S tl /\ RT cf buf S.start b S' /\ ife b (Q (resD cf.posix S'.qd S'.tok) (LL cf buf S'.stop tl)) (Ex .value (LL cf buf S' tl))
theorem OR (P:Params):Ja (KK P) 9 (.val 690) hRT:=by
 have h:Ja (KK P) 9 (.val 690) sRT2:=
  Jg (r:=6) (scoOf (mthD 19 6)) (kOk P) (Jd P) (.cons (Jbl P) (by kernel_rfl!) (.cons (Jag P) (by kernel_rfl!) (.cons (Ja.mono (by decide) (X5 P)) (by kernel_rfl!) .nil))) Jb (by kernel_rfl!) (by kernel_rfl!) (by kernel_rfl!) (by
   intro p hp;cases List.mem_singleton.mp hp;exact Ji rfl rfl (fun S v1=>by show _=_;kernel_rfl!) (by kernel_rfl!))
 refine Ja.imp h fun args kws led Ex Q hq=>?_;refine E03 hq fun e1 e2 hq0=>?_;refine E63 hq0 fun cf buf S tl b S' e3 r q=>?_;subst e1 e2 e3;rw [Jet];refine X2 r ?_
 cases b with
 | true=>exact YT q
 | false=>exact q
noncomputable def oneR (a:LD)(l:Led)(b:Bool)(d:D)(l':Led):Jc:=fun args kws led Ex Q=>args=a /\ kws=[] /\ led=l /\ ife b (Q d l') (Ex .value l')
noncomputable def oneS (a:LD)(l:Led)(d:D)(l':Led):Jc:=fun args kws led Ex Q=>args=a /\ kws=[] /\ led=l /\ Q d l'
noncomputable def oneE (a:LD)(l:Led)(l':Led):Jc:=fun args kws led Ex Q=>args=a /\ kws=[] /\ led=l /\ Ex .value l'
noncomputable def XGT (rt:Jc):X:=Xof tops (scoOf (mthD 19 5)) [(690,rt)] noSpec
noncomputable def sGT (rt:Jc):Jc:=defW (XGT rt) 40 (bodOf (mthD 19 5)) [pSelf]
noncomputable def gtW:Expr × List Stmt:=whParts (stAt (bodOf (mthD 19 5)) 3)
section
variable (p w:Bool)(wc cm pc buf:LN)(inf:D)(fs:LD)(tl:Led)(Ex:Ec->Led->Prop)(Q:D->Led->Prop)(st:Option Nat)(tok:LN)(ln:Int)(pos:Nat)(pb:List (LN))(pbc:Option Nat)(qd:Bool)(esc:Nat)(nc:Option (LN))(x y:LN)(xs:List (LN))(n:Nat)
theorem Ja6 (rt:Jc):sGT rt [.ref 1] [] (LL ⟨p,w,wc,cm,pc,inf,fs⟩ buf ⟨st,tok,ln,pos,x :: xs,pbc,qd,esc,nc⟩ tl) Ex Q=tr (Nat.ble (xs.length + 1) 100000) (tr (Nat.ble xs.length 100000) (Q (.str x) (LL ⟨p,w,wc,cm,pc,inf,fs⟩ buf ⟨st,tok,ln,pos,xs,pbc,qd,esc,nc⟩ tl))):=by
 have:sGT rt [.ref 1] [] (LL ⟨p,w,wc,cm,pc,inf,fs⟩ buf ⟨st,tok,ln,pos,x :: xs,pbc,qd,esc,nc⟩ tl) Ex Q=tr (Nat.ble ((xs.map D.str).length + 1) 100000) (tr (Nat.ble (xs.map D.str).length 100000) (Q (.str x) (LL ⟨p,w,wc,cm,pc,inf,fs⟩ buf ⟨st,tok,ln,pos,xs,pbc,qd,esc,nc⟩ tl))):=by kernel_rfl!
 rw [this,List.length_map]
noncomputable def gtFin (rt:Jc)(d:D)(k n:Nat)(led:Led):Prop:=
 whW (run 36 (XGT rt)) k gtW.1 gtW.2 [] (fun c _ led=>Ex c led) (seqW (run 36 (XGT rt)) ((bodOf (mthD 19 5)).drop 4) (fun c _ led=>Ex c led) fun fl _ led=>Q fl.val led) n [some (.ref 1),none,some d,none,none,none] led
theorem VC (d:D)(l:Led)(S':LX):sGT (oneS [.ref 1] l d (LL ⟨p,w,wc,cm,pc,inf,fs⟩ buf S' tl)) [.ref 1] [] (LL ⟨p,w,wc,cm,pc,inf,fs⟩ buf ⟨st,tok,ln,pos,[],pbc,qd,esc,nc⟩ tl) Ex Q =
 ([D.ref 1]=[D.ref 1] /\ ([]:List (Str × D))=[] /\ LL ⟨p,w,wc,cm,pc,inf,fs⟩ buf ⟨st,tok,ln,pos,[],pbc,qd,esc,nc⟩ tl=l /\ ∃ n,gtFin Ex Q (oneS [.ref 1] l d (LL ⟨p,w,wc,cm,pc,inf,fs⟩ buf S' tl)) d (LL ⟨p,w,wc,cm,pc,inf,fs⟩ buf S' tl).length n (LL ⟨p,w,wc,cm,pc,inf,fs⟩ buf S' tl)):=by kernel_rfl!
theorem ZL (l:Led)(S':LX):sGT (oneE [.ref 1] l (LL ⟨p,w,wc,cm,pc,inf,fs⟩ buf S' tl)) [.ref 1] [] (LL ⟨p,w,wc,cm,pc,inf,fs⟩ buf ⟨st,tok,ln,pos,[],pbc,qd,esc,nc⟩ tl) Ex Q =
 ([D.ref 1]=[D.ref 1] /\ ([]:List (Str × D))=[] /\ LL ⟨p,w,wc,cm,pc,inf,fs⟩ buf ⟨st,tok,ln,pos,[],pbc,qd,esc,nc⟩ tl=l /\ Ex .value (LL ⟨p,w,wc,cm,pc,inf,fs⟩ buf S' tl)):=by kernel_rfl!
theorem YU (rt:Jc)(k:Nat):gtFin Ex Q rt (.str x) k 1 (LL ⟨true,w,wc,cm,pc,inf,fs⟩ buf ⟨st,tok,ln,pos,pb,pbc,qd,esc,nc⟩ tl)=Q (.str x) (LL ⟨true,w,wc,cm,pc,inf,fs⟩ buf ⟨st,tok,ln,pos,pb,pbc,qd,esc,nc⟩ tl):=by kernel_rfl!
theorem VF (rt:Jc)(k:Nat):gtFin Ex Q rt .none k 1 (LL ⟨true,w,wc,cm,pc,inf,[]⟩ buf ⟨st,tok,ln,pos,pb,pbc,qd,esc,nc⟩ tl)=Q .none (LL ⟨true,w,wc,cm,pc,inf,[]⟩ buf ⟨st,tok,ln,pos,pb,pbc,qd,esc,nc⟩ tl):=by kernel_rfl!
theorem W7 (rt:Jc)(k c:Nat):gtFin Ex Q rt (.str (c :: x)) k 1 (LL ⟨false,w,wc,cm,pc,inf,fs⟩ buf ⟨st,tok,ln,pos,pb,pbc,qd,esc,nc⟩ tl)=Q (.str (c :: x)) (LL ⟨false,w,wc,cm,pc,inf,fs⟩ buf ⟨st,tok,ln,pos,pb,pbc,qd,esc,nc⟩ tl):=by kernel_rfl!
theorem Xi (rt:Jc)(k:Nat):gtFin Ex Q rt (.str []) k 1 (LL ⟨false,w,wc,cm,pc,inf,[]⟩ buf ⟨st,tok,ln,pos,pb,pbc,qd,esc,nc⟩ tl)=Q (.str []) (LL ⟨false,w,wc,cm,pc,inf,[]⟩ buf ⟨st,tok,ln,pos,pb,pbc,qd,esc,nc⟩ tl):=by kernel_rfl!
end
noncomputable def tokOk (p:Bool)(d:D):Prop:=match d with
 | .none=>p=true
 | .str _=>True
 | _=>False
theorem Yl {cf:Cfg}{buf:LN}{S:LX}{tl:Led}{Ex:Ec->Led->Prop}{Q:D->Led->Prop}{rt:Jc}{d:D}{k:Nat}(hf:cf.fs=[])(h:tokOk cf.posix d)(q:Q d (LL cf buf S tl)):gtFin Ex Q rt d k 1 (LL cf buf S tl):=by
 obtain ⟨p,w,wc,cm,pc,inf,fs⟩:=cf;obtain ⟨st,tok,ln,pos,pb,pbc,qd,esc,nc⟩:=S;obtain rfl:fs=[]:=hf
 cases d with
 | none=>cases p with
  | true=>rw [VF];exact q
  | false=>injection h
 | str x=>cases p with
  | true=>rw [YU];exact q
  | false=>cases x with
   | nil=>rw [Xi];exact q
   | cons c x=>rw [W7];exact q
 | _=>exact h.elim
theorem Lw (p qd:Bool)(tok:LN):tokOk p (resD p qd tok):=by
 unfold resD
 cases p with
 | false=>exact trivial
 | true=>cases qd with
  | true=>exact trivial
  | false=>generalize lEqB tok []=b;cases b <;> first | exact trivial | rfl
inductive GT (cf:Cfg)(buf:LN):LX->Option D->LX->Prop
 | pop {S:LX} {x:LN} {xs:List (LN)} (h:S.pb=x :: xs) (hl:xs.length < 1000):GT cf buf S (some (.str x)) { S with pb:=xs }
 | read {S S':LX} (h:S.pb=[]) (r:RT cf buf S.start true S'):GT cf buf S (some (resD cf.posix S'.qd S'.tok)) S'.stop
 | rs {S S':LX} (h:S.pb=[]) (r:RT cf buf S.start false S'):GT cf buf S none S'
noncomputable def gtQ (Ex:Ec->Led->Prop)(Q:D->Led->Prop)(o:Option D)(led:Led):Prop:=match o with
 | some d=>Q d led
 | none=>Ex .value led
theorem Wn (P:Params){rt:Jc}(h:Ja (KK P) 9 (.val 690) rt):Ja (KK P) 12 (.val 683) (sGT rt):=
 Jg (r:=9) (scoOf (mthD 19 5)) (kOk P) (Jd P) (.cons h (by kernel_rfl!) .nil) Jb (by kernel_rfl!) (by kernel_rfl!) (by kernel_rfl!) (by
  intro p hp;cases List.mem_singleton.mp hp;exact Ji rfl rfl (fun S v1=>by show _=_;kernel_rfl!) (by kernel_rfl!))
noncomputable def hG0:Jc:=fun args kws led Ex Q=>args=[.ref 1] /\ kws=[] /\ ∃ cf buf S tl o S',led=LL cf buf S tl /\ cf.fs=[] /\ GT cf buf S o S' /\ gtQ Ex Q o (LL cf buf S' tl)
theorem Uu (P:Params):Ja (KK P) 12 (.val 683) hG0:=by
 intro Γ hK hr hc args kws led Ex Q loc Z hq;obtain ⟨e1,e2,cf,buf,S,tl,o,S',e3,hf,g,q⟩:=hq;subst e1 e2 e3
 cases g with
 | @pop x xs h hl=>
  refine Wn P (Kf) Γ hK hr hc _ _ _ Ex Q loc Z ?_;obtain ⟨p,w,wc,cm,pc,inf,fs⟩:=cf;obtain ⟨st,tok,ln,pos,pb,pbc,qd,esc,nc⟩:=S;obtain rfl:pb=x :: xs:=h;rw [Ja6];exact Ju (Nat.ble_eq_true_of_le (by lia)) (Ju (Nat.ble_eq_true_of_le (by lia)) q)
 | @read S' h r=>
  refine Wn P (rt:=oneS [.ref 1] (LL cf buf S tl) (resD cf.posix S'.qd S'.tok) (LL cf buf S'.stop tl)) ?_ Γ hK hr hc _ _ _ Ex Q loc Z ?_
  · exact Ja.imp (OR P) fun args kws led Ex Q ⟨e1,e2,e3,q⟩=>⟨e1,e2,cf,buf,S,tl,true,S',e3,r,q⟩
  · have hf:=Yl (buf:=buf) (tl:=tl) (Ex:=Ex) (rt:=oneS [.ref 1] (LL cf buf S tl) (resD cf.posix S'.qd S'.tok) (LL cf buf S'.stop tl)) (k:=(LL cf buf S'.stop tl).length) hf (Lw cf.posix S'.qd S'.tok) q;obtain ⟨p,w,wc,cm,pc,inf,fs⟩:=cf;obtain ⟨st,tok,ln,pos,pb,pbc,qd,esc,nc⟩:=S;obtain rfl:pb=[]:=h;rw [VC];exact ⟨rfl,rfl,rfl,1,hf⟩
 | rs h r=>
  refine Wn P (rt:=oneE [.ref 1] (LL cf buf S tl) (LL cf buf S' tl)) ?_ Γ hK hr hc _ _ _ Ex Q loc Z ?_
  · exact Ja.imp (OR P) fun args kws led Ex Q ⟨e1,e2,e3,q⟩=>⟨e1,e2,cf,buf,S,tl,false,S',e3,r,q⟩
  · obtain ⟨p,w,wc,cm,pc,inf,fs⟩:=cf;obtain ⟨st,tok,ln,pos,pb,pbc,qd,esc,nc⟩:=S;obtain rfl:pb=[]:=h;rw [ZL];exact ⟨rfl,rfl,rfl,q⟩
end Mine
end
noncomputable section
open PySem PySem.W PyProof.Rows PySem.Calls
namespace Mine
section
variable (P:Params)
noncomputable def sClose:Jc:=defW (Xof tops (scoOf (mthD 10 11)) [] noSpec) 20 (bodOf (mthD 10 11)) [pSelf]
theorem ZT:Ja (KK P) 3 (.val 432) sClose:=
 Jg (r:=0) (scoOf (mthD 10 11)) (kOk P) (Jd P) .nil Jb (by kernel_rfl!) (by kernel_rfl!) (by kernel_rfl!) (by
  intro p hp;cases List.mem_singleton.mp hp;exact Ji rfl rfl (fun S v1=>by show _=_;kernel_rfl!) (by kernel_rfl!))
noncomputable def sPop:Jc:=defW (Xof tops (scoOf (mthD 19 4)) [(432,sClose)] noSpec) 20 (bodOf (mthD 19 4)) [pSelf]
theorem Jft:Ja (KK P) 6 (.val 676) sPop:=
 Jg (r:=3) (scoOf (mthD 19 4)) (kOk P) (Jd P) (.cons (ZT P) (by kernel_rfl!) .nil) Jb (by kernel_rfl!) (by kernel_rfl!) (by kernel_rfl!) (by
  intro p hp;cases List.mem_singleton.mp hp;exact Ji rfl rfl (fun S v1=>by show _=_;kernel_rfl!) (by kernel_rfl!))
end
noncomputable def lexK (k:Nat)(cf:Cfg)(S:LX):List (Option D):=
 [some (stD S.st),some (.str S.tok),some (.int 0),some (.bool cf.posix),some (.str whites),some (.str cf.cm),some (.str cf.wc),some (.str quots),some (.str [92]),some (.str [34]),some (.bool cf.ws),some (.ref k),some (.int S.ln),some (.str cf.pc),pcA cf.pc,some (.ref 4),some (.ref 5),some (eofD cf.posix),some .none,some cf.inf]
noncomputable def uIx:LN->Nat
 | []=>6
 | _ :: _=>7
noncomputable def NU (cf:Cfg)(buf:LN)(S:LX)(lbuf lname:LN)(tl:Led):Led:=
 .ns .lex (lexK (uIx cf.pc + 1) cf S) :: .inst .lex 0 :: .ns .sio [some (.str lbuf),some (.int 0),some (.str [10])] :: .inst .sio 2 :: .deque (S.pb.map .str) :: .deque [.tup [.str lname,.ref 3,.int 1]] :: pcL cf.pc S (.ns .sio [some (.str buf),some (.int (Int.ofNat S.pos)),some (.str [10])] :: .inst .sio (uIx cf.pc) :: tl)
noncomputable def cfL (cf:Cfg)(lname:LN):Cfg:={ cf with inf:=.str lname,fs:=[] }
noncomputable def closedU (cf:Cfg)(u:Nat)(tl:Led):Led:=.ns .sio [some .none,some (.int (Int.ofNat u)),some (.str [10])] :: .inst .sio (uIx cf.pc) :: tl
noncomputable def popS (S:LX):LX:={ S with st:=some 32,ln:=1,pos:=0 }
noncomputable def XGU (rt gt:Jc):X:=Xof tops (scoOf (mthD 19 5)) [(690,rt),(676,sPop),(683,gt)] noSpec
noncomputable def sGU (rt gt:Jc):Jc:=defW (XGU rt gt) 40 (bodOf (mthD 19 5)) [pSelf]
noncomputable def guFin (Ex:Ec->Led->Prop)(Q:D->Led->Prop)(rt gt:Jc)(d:D)(k n:Nat)(led:Led):Prop:=
 whW (run 36 (XGU rt gt)) k gtW.1 gtW.2 [] (fun c _ led=>Ex c led) (seqW (run 36 (XGU rt gt)) ((bodOf (mthD 19 5)).drop 4) (fun c _ led=>Ex c led) fun fl _ led=>Q fl.val led) n [some (.ref 1),none,some d,none,none,none] led
section
variable (p w:Bool)(wc cm buf lbuf lname:LN)(inf:D)(fs:LD)(tl:Led)(Ex:Ec->Led->Prop)(Q:D->Led->Prop)(st:Option Nat)(tok:LN)(ln:Int)(pos:Nat)(pb:List (LN))(pbc:Option Nat)(qd:Bool)(esc:Nat)(nc:Option (LN))(x y:LN)(xs:List (LN))(n a:Nat)(m:LN)(d:D)(l l2 l2':Led)(S':LX)
theorem XC (rt gt:Jc):sGU rt gt [.ref 1] [] (NU ⟨p,w,wc,cm,[],inf,fs⟩ buf ⟨st,tok,ln,pos,x :: xs,pbc,qd,esc,nc⟩ lbuf lname tl) Ex Q=tr (Nat.ble ((xs.map D.str).length + 1) 100000) (tr (Nat.ble (xs.map D.str).length 100000) (Q (.str x) (NU ⟨p,w,wc,cm,[],inf,fs⟩ buf ⟨st,tok,ln,pos,xs,pbc,qd,esc,nc⟩ lbuf lname tl))):=by kernel_rfl!
theorem Xm (rt gt:Jc):sGU rt gt [.ref 1] [] (NU ⟨p,w,wc,cm,a :: m,inf,fs⟩ buf ⟨st,tok,ln,pos,x :: xs,pbc,qd,esc,nc⟩ lbuf lname tl) Ex Q=tr (Nat.ble ((xs.map D.str).length + 1) 100000) (tr (Nat.ble (xs.map D.str).length 100000) (Q (.str x) (NU ⟨p,w,wc,cm,a :: m,inf,fs⟩ buf ⟨st,tok,ln,pos,xs,pbc,qd,esc,nc⟩ lbuf lname tl))):=by kernel_rfl!
theorem Sx (gt:Jc):sGU (oneS [.ref 1] l d (NU ⟨p,w,wc,cm,[],inf,fs⟩ buf S' lbuf lname tl)) gt [.ref 1] [] (NU ⟨p,w,wc,cm,[],inf,fs⟩ buf ⟨st,tok,ln,pos,[],pbc,qd,esc,nc⟩ lbuf lname tl) Ex Q =
 ([D.ref 1]=[D.ref 1] /\ ([]:List (Str × D))=[] /\ NU ⟨p,w,wc,cm,[],inf,fs⟩ buf ⟨st,tok,ln,pos,[],pbc,qd,esc,nc⟩ lbuf lname tl=l /\ ∃ n,guFin Ex Q (oneS [.ref 1] l d (NU ⟨p,w,wc,cm,[],inf,fs⟩ buf S' lbuf lname tl)) gt d (NU ⟨p,w,wc,cm,[],inf,fs⟩ buf S' lbuf lname tl).length n (NU ⟨p,w,wc,cm,[],inf,fs⟩ buf S' lbuf lname tl)):=by kernel_rfl!
theorem Th (gt:Jc):sGU (oneS [.ref 1] l d (NU ⟨p,w,wc,cm,a :: m,inf,fs⟩ buf S' lbuf lname tl)) gt [.ref 1] [] (NU ⟨p,w,wc,cm,a :: m,inf,fs⟩ buf ⟨st,tok,ln,pos,[],pbc,qd,esc,nc⟩ lbuf lname tl) Ex Q =
 ([D.ref 1]=[D.ref 1] /\ ([]:List (Str × D))=[] /\ NU ⟨p,w,wc,cm,a :: m,inf,fs⟩ buf ⟨st,tok,ln,pos,[],pbc,qd,esc,nc⟩ lbuf lname tl=l /\ ∃ n,guFin Ex Q (oneS [.ref 1] l d (NU ⟨p,w,wc,cm,a :: m,inf,fs⟩ buf S' lbuf lname tl)) gt d (NU ⟨p,w,wc,cm,a :: m,inf,fs⟩ buf S' lbuf lname tl).length n (NU ⟨p,w,wc,cm,a :: m,inf,fs⟩ buf S' lbuf lname tl)):=by kernel_rfl!
theorem Xc (gt:Jc):sGU (oneE [.ref 1] l l2) gt [.ref 1] [] (NU ⟨p,w,wc,cm,[],inf,fs⟩ buf ⟨st,tok,ln,pos,[],pbc,qd,esc,nc⟩ lbuf lname tl) Ex Q =
 ([D.ref 1]=[D.ref 1] /\ ([]:List (Str × D))=[] /\ NU ⟨p,w,wc,cm,[],inf,fs⟩ buf ⟨st,tok,ln,pos,[],pbc,qd,esc,nc⟩ lbuf lname tl=l /\ Ex .value l2):=by kernel_rfl!
theorem We (gt:Jc):sGU (oneE [.ref 1] l l2) gt [.ref 1] [] (NU ⟨p,w,wc,cm,a :: m,inf,fs⟩ buf ⟨st,tok,ln,pos,[],pbc,qd,esc,nc⟩ lbuf lname tl) Ex Q =
 ([D.ref 1]=[D.ref 1] /\ ([]:List (Str × D))=[] /\ NU ⟨p,w,wc,cm,a :: m,inf,fs⟩ buf ⟨st,tok,ln,pos,[],pbc,qd,esc,nc⟩ lbuf lname tl=l /\ Ex .value l2):=by kernel_rfl!
theorem V8 (rt gt:Jc)(pc:LN)(k:Nat):guFin Ex Q rt gt (.str x) k 1 (NU ⟨true,w,wc,cm,pc,inf,fs⟩ buf ⟨st,tok,ln,pos,pb,pbc,qd,esc,nc⟩ lbuf lname tl)=Q (.str x) (NU ⟨true,w,wc,cm,pc,inf,fs⟩ buf ⟨st,tok,ln,pos,pb,pbc,qd,esc,nc⟩ lbuf lname tl):=by kernel_rfl!
theorem VO (rt gt:Jc)(pc:LN)(k:Nat):guFin Ex Q rt gt (.str (a :: x)) k 1 (NU ⟨false,w,wc,cm,pc,inf,fs⟩ buf ⟨st,tok,ln,pos,pb,pbc,qd,esc,nc⟩ lbuf lname tl)=Q (.str (a :: x)) (NU ⟨false,w,wc,cm,pc,inf,fs⟩ buf ⟨st,tok,ln,pos,pb,pbc,qd,esc,nc⟩ lbuf lname tl):=by kernel_rfl!
noncomputable def guNext (rt gt:Jc)(k:Nat):D->Led->Prop:=fun d led=>∃ led',Tidy k [some (.ref 1),none,some d,none,none,none] led led' /\ guFin Ex Q rt gt d k 1 led'
theorem Jbq (rt gt:Jc)(k:Nat):guFin Ex Q rt gt .none k 2 (NU ⟨true,w,wc,cm,[],inf,fs⟩ buf ⟨st,tok,ln,pos,pb,pbc,qd,esc,nc⟩ lbuf lname tl)=gt [.ref 1] [] (LL (cfL ⟨true,w,wc,cm,[],inf,fs⟩ lname) lbuf (popS ⟨st,tok,ln,pos,pb,pbc,qd,esc,nc⟩) (closedU ⟨true,w,wc,cm,[],inf,fs⟩ pos tl)) Ex (guNext Ex Q rt gt k):=by kernel_rfl!
theorem Y4 (rt gt:Jc)(k:Nat):guFin Ex Q rt gt .none k 2 (NU ⟨true,w,wc,cm,a :: m,inf,fs⟩ buf ⟨st,tok,ln,pos,pb,pbc,qd,esc,nc⟩ lbuf lname tl)=gt [.ref 1] [] (LL (cfL ⟨true,w,wc,cm,a :: m,inf,fs⟩ lname) lbuf (popS ⟨st,tok,ln,pos,pb,pbc,qd,esc,nc⟩) (closedU ⟨true,w,wc,cm,a :: m,inf,fs⟩ pos tl)) Ex (guNext Ex Q rt gt k):=by kernel_rfl!
theorem Jbb (rt gt:Jc)(k:Nat):guFin Ex Q rt gt (.str []) k 2 (NU ⟨false,w,wc,cm,[],inf,fs⟩ buf ⟨st,tok,ln,pos,pb,pbc,qd,esc,nc⟩ lbuf lname tl)=gt [.ref 1] [] (LL (cfL ⟨false,w,wc,cm,[],inf,fs⟩ lname) lbuf (popS ⟨st,tok,ln,pos,pb,pbc,qd,esc,nc⟩) (closedU ⟨false,w,wc,cm,[],inf,fs⟩ pos tl)) Ex (guNext Ex Q rt gt k):=by kernel_rfl!
theorem Zg (rt gt:Jc)(k:Nat):guFin Ex Q rt gt (.str []) k 2 (NU ⟨false,w,wc,cm,a :: m,inf,fs⟩ buf ⟨st,tok,ln,pos,pb,pbc,qd,esc,nc⟩ lbuf lname tl)=gt [.ref 1] [] (LL (cfL ⟨false,w,wc,cm,a :: m,inf,fs⟩ lname) lbuf (popS ⟨st,tok,ln,pos,pb,pbc,qd,esc,nc⟩) (closedU ⟨false,w,wc,cm,a :: m,inf,fs⟩ pos tl)) Ex (guNext Ex Q rt gt k):=by kernel_rfl!
theorem Jdo (rt gt:Jc)(pc:LN)(k:Nat):guFin Ex Q rt gt (.str x) k 1 (LL ⟨true,w,wc,cm,pc,inf,[]⟩ buf ⟨st,tok,ln,pos,pb,pbc,qd,esc,nc⟩ tl)=Q (.str x) (LL ⟨true,w,wc,cm,pc,inf,[]⟩ buf ⟨st,tok,ln,pos,pb,pbc,qd,esc,nc⟩ tl):=by kernel_rfl!
theorem Jcv (rt gt:Jc)(pc:LN)(k:Nat):guFin Ex Q rt gt .none k 1 (LL ⟨true,w,wc,cm,pc,inf,[]⟩ buf ⟨st,tok,ln,pos,pb,pbc,qd,esc,nc⟩ tl)=Q .none (LL ⟨true,w,wc,cm,pc,inf,[]⟩ buf ⟨st,tok,ln,pos,pb,pbc,qd,esc,nc⟩ tl):=by kernel_rfl!
theorem Jc5 (rt gt:Jc)(pc:LN)(k:Nat):guFin Ex Q rt gt (.str (a :: x)) k 1 (LL ⟨false,w,wc,cm,pc,inf,[]⟩ buf ⟨st,tok,ln,pos,pb,pbc,qd,esc,nc⟩ tl)=Q (.str (a :: x)) (LL ⟨false,w,wc,cm,pc,inf,[]⟩ buf ⟨st,tok,ln,pos,pb,pbc,qd,esc,nc⟩ tl):=by kernel_rfl!
theorem Jcp (rt gt:Jc)(pc:LN)(k:Nat):guFin Ex Q rt gt (.str []) k 1 (LL ⟨false,w,wc,cm,pc,inf,[]⟩ buf ⟨st,tok,ln,pos,pb,pbc,qd,esc,nc⟩ tl)=Q (.str []) (LL ⟨false,w,wc,cm,pc,inf,[]⟩ buf ⟨st,tok,ln,pos,pb,pbc,qd,esc,nc⟩ tl):=by kernel_rfl!
end
theorem Nw (ρ:LN)(n:Nat):∀ (l:LD),(∀ d ∈ l,rnD ρ n d=d)->rnL ρ n l=l
 | [],_=>rfl
 | d :: l,h=>by
  show rnD ρ n d :: rnL ρ n l=_;rw [h d (.head _),Nw ρ n l fun d hd=>h d (.tail _ hd)]
noncomputable def sts (W:List (LN)):LD:=W.map .str
theorem Ku (ρ:LN)(n:Nat)(l:List (LN)):rnL ρ n (sts l)=sts l:=Nw _ _ _ fun d hd=>by obtain ⟨x,_,rfl⟩:=List.mem_map.mp hd;rfl
theorem KZ (W:List (LN)):(sts W).length=W.length:=List.length_map ..
noncomputable def cfV (cf:Cfg)(lname:LN):Cfg:={ cf with fs:=[.tup [.str lname,.ref (uIx cf.pc + 1),.int 1]] }
noncomputable def tlV (cf:Cfg)(lbuf:LN):Led:=[.ns .sio [some (.str lbuf),some (.int 0),some (.str [10])],.inst .sio (uIx cf.pc)]
theorem Rl {ρ:LN}{led l:Led}(e:ρ.map (fun j=>led[j]?)=l.map some){t j:Nat}{o:OD}(x1:ρ[t]?=some j)(h1:l[t]?=some o):led[j]?=some o:=by
 have h:=congrArg (fun l=>l[t]?) e;rw [List.getElem?_map,List.getElem?_map,x1,h1] at h;exact Option.some.inj h
section
variable (p w:Bool)(wc cm buf lbuf lname:LN)(infs:LN)(fs:LD)(tl:Led)(S S':LX)(n a:Nat)(m:LN)
theorem Q3 (ρ:LN)(o:Option Nat):rnL ρ n (pbcL o)=pbcL o:=by cases o <;> rfl
theorem OG (ρ:LN)(o:Option Nat):rnD ρ n (stD o)=stD o:=by cases o <;> rfl
theorem Pf (ρ:LN):rnD ρ n (eofD p)=eofD p:=by cases p <;> rfl
theorem UI:(LL (cfV ⟨p,w,wc,cm,[],.str infs,fs⟩ lname) buf S (tlV ⟨p,w,wc,cm,[],.str infs,fs⟩ lbuf)).map (rnOD [0,1,6,7,4,5,2,3] n) =
 [.ns .lex (lexK 7 ⟨p,w,wc,cm,[],.str infs,fs⟩ S),.inst .lex 0,.ns .sio [some (.str buf),some (.int (Int.ofNat S.pos)),some (.str [10])],.inst .sio 6,.deque (sts S.pb),.deque [.tup [.str lname,.ref 3,.int 1]],.ns .sio [some (.str lbuf),some (.int 0),some (.str [10])],.inst .sio 2]:=by
 have e:(LL (cfV ⟨p,w,wc,cm,[],.str infs,fs⟩ lname) buf S (tlV ⟨p,w,wc,cm,[],.str infs,fs⟩ lbuf)).map (rnOD [0,1,6,7,4,5,2,3] n) =
  [.ns .lex (some (rnD [0,1,6,7,4,5,2,3] n (stD S.st)) :: some (.str S.tok) :: some (.int 0) :: some (.bool p) :: some (.str whites) :: some (.str cm) :: some (.str wc) :: some (.str quots) :: some (.str [92]) :: some (.str [34]) :: some (.bool w) :: some (.ref 7) :: some (.int S.ln) :: some (.str []) :: none :: some (.ref 4) :: some (.ref 5) :: some (rnD [0,1,6,7,4,5,2,3] n (eofD p)) :: some .none :: [some (.str infs)]),.inst .lex 0,.ns .sio [some (.str buf),some (.int (Int.ofNat S.pos)),some (.str [10])],.inst .sio 6,.deque (rnL [0,1,6,7,4,5,2,3] n (sts S.pb)),.deque [.tup [.str lname,.ref 3,.int 1]],.ns .sio [some (.str lbuf),some (.int 0),some (.str [10])],.inst .sio 2]:=by kernel_rfl!
 rw [e,Ku,OG,Pf];rfl
theorem Vg:(LL (cfV ⟨p,w,wc,cm,a :: m,.str infs,fs⟩ lname) buf S (tlV ⟨p,w,wc,cm,a :: m,.str infs,fs⟩ lbuf)).map (rnOD [0,1,7,8,4,5,6,2,3] n) =
 [.ns .lex (lexK 8 ⟨p,w,wc,cm,a :: m,.str infs,fs⟩ S),.inst .lex 0,.ns .sio [some (.str buf),some (.int (Int.ofNat S.pos)),some (.str [10])],.inst .sio 7,.deque (sts S.pb),.deque [.tup [.str lname,.ref 3,.int 1]],.deque (pbcL S.pbc),.ns .sio [some (.str lbuf),some (.int 0),some (.str [10])],.inst .sio 2]:=by
 have e:(LL (cfV ⟨p,w,wc,cm,a :: m,.str infs,fs⟩ lname) buf S (tlV ⟨p,w,wc,cm,a :: m,.str infs,fs⟩ lbuf)).map (rnOD [0,1,7,8,4,5,6,2,3] n) =
  [.ns .lex (some (rnD [0,1,7,8,4,5,6,2,3] n (stD S.st)) :: some (.str S.tok) :: some (.int 0) :: some (.bool p) :: some (.str whites) :: some (.str cm) :: some (.str wc) :: some (.str quots) :: some (.str [92]) :: some (.str [34]) :: some (.bool w) :: some (.ref 8) :: some (.int S.ln) :: some (.str (a :: m)) :: some (.ref 6) :: some (.ref 4) :: some (.ref 5) :: some (rnD [0,1,7,8,4,5,6,2,3] n (eofD p)) :: some .none :: [some (.str infs)]),.inst .lex 0,.ns .sio [some (.str buf),some (.int (Int.ofNat S.pos)),some (.str [10])],.inst .sio 7,.deque (rnL [0,1,7,8,4,5,6,2,3] n (sts S.pb)),.deque [.tup [.str lname,.ref 3,.int 1]],.deque (rnL [0,1,7,8,4,5,6,2,3] n (pbcL S.pbc)),.ns .sio [some (.str lbuf),some (.int 0),some (.str [10])],.inst .sio 2]:=by kernel_rfl!
 rw [e,Ku,OG,Pf,Q3];rfl
end
section
variable {p w:Bool}{wc cm buf lbuf lname:LN}{infs:LN}{fs:LD}{tl:Led}{S S':LX}{a:Nat}{m:LN}
theorem Ql:unf [0,1,6,7,4,5,2,3] (NU ⟨p,w,wc,cm,[],.str infs,fs⟩ buf S lbuf lname tl) (LL (cfV ⟨p,w,wc,cm,[],.str infs,fs⟩ lname) buf S' (tlV ⟨p,w,wc,cm,[],.str infs,fs⟩ lbuf))=NU ⟨p,w,wc,cm,[],.str infs,fs⟩ buf S' lbuf lname tl:=by
 have e:unf [0,1,6,7,4,5,2,3] (NU ⟨p,w,wc,cm,[],.str infs,fs⟩ buf S lbuf lname tl) (LL (cfV ⟨p,w,wc,cm,[],.str infs,fs⟩ lname) buf S' (tlV ⟨p,w,wc,cm,[],.str infs,fs⟩ lbuf)) =
  putAll (NU ⟨p,w,wc,cm,[],.str infs,fs⟩ buf S lbuf lname tl) [0,1,6,7,4,5,2,3] ((LL (cfV ⟨p,w,wc,cm,[],.str infs,fs⟩ lname) buf S' (tlV ⟨p,w,wc,cm,[],.str infs,fs⟩ lbuf)).map (rnOD [0,1,6,7,4,5,2,3] (NU ⟨p,w,wc,cm,[],.str infs,fs⟩ buf S lbuf lname tl).length))++[]:=by kernel_rfl!
 rw [e,UI,List.append_nil];kernel_rfl!
theorem Ri:unf [0,1,7,8,4,5,6,2,3] (NU ⟨p,w,wc,cm,a :: m,.str infs,fs⟩ buf S lbuf lname tl) (LL (cfV ⟨p,w,wc,cm,a :: m,.str infs,fs⟩ lname) buf S' (tlV ⟨p,w,wc,cm,a :: m,.str infs,fs⟩ lbuf))=NU ⟨p,w,wc,cm,a :: m,.str infs,fs⟩ buf S' lbuf lname tl:=by
 have e:unf [0,1,7,8,4,5,6,2,3] (NU ⟨p,w,wc,cm,a :: m,.str infs,fs⟩ buf S lbuf lname tl) (LL (cfV ⟨p,w,wc,cm,a :: m,.str infs,fs⟩ lname) buf S' (tlV ⟨p,w,wc,cm,a :: m,.str infs,fs⟩ lbuf)) =
  putAll (NU ⟨p,w,wc,cm,a :: m,.str infs,fs⟩ buf S lbuf lname tl) [0,1,7,8,4,5,6,2,3] ((LL (cfV ⟨p,w,wc,cm,a :: m,.str infs,fs⟩ lname) buf S' (tlV ⟨p,w,wc,cm,a :: m,.str infs,fs⟩ lbuf)).map (rnOD [0,1,7,8,4,5,6,2,3] (NU ⟨p,w,wc,cm,a :: m,.str infs,fs⟩ buf S lbuf lname tl).length))++[]:=by kernel_rfl!
 rw [e,Vg,List.append_nil];kernel_rfl!
theorem Jao (P:Params){b:Bool}(r:RT (cfV ⟨p,w,wc,cm,[],.str infs,fs⟩ lname) buf S.start b S'):Ja (KK P) 9 (.val 690) (oneR [.ref 1] (NU ⟨p,w,wc,cm,[],.str infs,fs⟩ buf S lbuf lname tl) b (resD p S'.qd S'.tok) (NU ⟨p,w,wc,cm,[],.str infs,fs⟩ buf (ife b S'.stop S') lbuf lname tl)):=by
 refine Ja.imp (Jt (OR P)) fun args kws led Ex Q hq=>?_;obtain ⟨e1,e2,e3,q⟩:=hq;subst e1 e2 e3;refine ⟨[0,1,6,7,4,5,2,3],[.ref 1],[],LL (cfV ⟨p,w,wc,cm,[],.str infs,fs⟩ lname) buf S (tlV ⟨p,w,wc,cm,[],.str infs,fs⟩ lbuf),rfl,rfl,by decide,rfl,fun t j o x1 x2=>?_,rfl,rfl,_,buf,S,_,b,S',rfl,r,?_⟩
 · have h1:((LL (cfV ⟨p,w,wc,cm,[],.str infs,fs⟩ lname) buf S (tlV ⟨p,w,wc,cm,[],.str infs,fs⟩ lbuf)).map (rnOD [0,1,6,7,4,5,2,3] (NU ⟨p,w,wc,cm,[],.str infs,fs⟩ buf S lbuf lname tl).length))[t]?=some (rnOD [0,1,6,7,4,5,2,3] (NU ⟨p,w,wc,cm,[],.str infs,fs⟩ buf S lbuf lname tl).length o):=by rw [List.getElem?_map,x2];rfl
   rw [UI] at h1;exact Rl rfl x1 h1
 · cases b with
   | true=>
    have q:Q (resD p S'.qd S'.tok) (NU ⟨p,w,wc,cm,[],.str infs,fs⟩ buf S'.stop lbuf lname tl):=q;show Q (rnD _ _ (resD p S'.qd S'.tok)) (unf _ _ _);rw [Ql];have e:∀ n,rnD [0,1,6,7,4,5,2,3] n (resD p S'.qd S'.tok)=resD p S'.qd S'.tok:=fun n=>by
     unfold resD;generalize lEqB S'.tok []=c;cases p <;> cases S'.qd <;> cases c <;> rfl
    rw [e];exact q
   | false=>
    have q:Ex .value (NU ⟨p,w,wc,cm,[],.str infs,fs⟩ buf S' lbuf lname tl):=q;show Ex .value (unf _ _ _);rw [Ql];exact q
theorem ZE (P:Params){b:Bool}(r:RT (cfV ⟨p,w,wc,cm,a :: m,.str infs,fs⟩ lname) buf S.start b S'):Ja (KK P) 9 (.val 690) (oneR [.ref 1] (NU ⟨p,w,wc,cm,a :: m,.str infs,fs⟩ buf S lbuf lname tl) b (resD p S'.qd S'.tok) (NU ⟨p,w,wc,cm,a :: m,.str infs,fs⟩ buf (ife b S'.stop S') lbuf lname tl)):=by
 refine Ja.imp (Jt (OR P)) fun args kws led Ex Q hq=>?_;obtain ⟨e1,e2,e3,q⟩:=hq;subst e1 e2 e3;refine ⟨[0,1,7,8,4,5,6,2,3],[.ref 1],[],LL (cfV ⟨p,w,wc,cm,a :: m,.str infs,fs⟩ lname) buf S (tlV ⟨p,w,wc,cm,a :: m,.str infs,fs⟩ lbuf),rfl,rfl,by decide,rfl,fun t j o x1 x2=>?_,rfl,rfl,_,buf,S,_,b,S',rfl,r,?_⟩
 · have h1:((LL (cfV ⟨p,w,wc,cm,a :: m,.str infs,fs⟩ lname) buf S (tlV ⟨p,w,wc,cm,a :: m,.str infs,fs⟩ lbuf)).map (rnOD [0,1,7,8,4,5,6,2,3] (NU ⟨p,w,wc,cm,a :: m,.str infs,fs⟩ buf S lbuf lname tl).length))[t]?=some (rnOD [0,1,7,8,4,5,6,2,3] (NU ⟨p,w,wc,cm,a :: m,.str infs,fs⟩ buf S lbuf lname tl).length o):=by rw [List.getElem?_map,x2];rfl
   rw [Vg] at h1;exact Rl rfl x1 h1
 · cases b with
   | true=>
    have q:Q (resD p S'.qd S'.tok) (NU ⟨p,w,wc,cm,a :: m,.str infs,fs⟩ buf S'.stop lbuf lname tl):=q;show Q (rnD _ _ (resD p S'.qd S'.tok)) (unf _ _ _);rw [Ri];have e:∀ n,rnD [0,1,7,8,4,5,6,2,3] n (resD p S'.qd S'.tok)=resD p S'.qd S'.tok:=fun n=>by
     unfold resD;generalize lEqB S'.tok []=c;cases p <;> cases S'.qd <;> cases c <;> rfl
    rw [e];exact q
   | false=>
    have q:Ex .value (NU ⟨p,w,wc,cm,a :: m,.str infs,fs⟩ buf S' lbuf lname tl):=q;show Ex .value (unf _ _ _);rw [Ri];exact q
end
noncomputable def isEof (p:Bool)(d:D):Bool:=match d with
 | .none=>true
 | .str []=>!p
 | _=>false
inductive Ph where
 | up (S:LX)
 | lo (u:Nat) (S:LX)
structure Two where
 cf:Cfg
 infs:LN
 ubuf:LN
 lbuf:LN
 lname:LN
 ok:cf.inf=.str infs
noncomputable def Ph.led (T:Two)(tl:Led):Ph->Led
 | .up S=>NU T.cf T.ubuf S T.lbuf T.lname tl
 | .lo u S=>LL (cfL T.cf T.lname) T.lbuf S (closedU T.cf u tl)
inductive GU (T:Two):Ph->Option D->Ph->Prop
 | uPop {S:LX} {x:LN} {xs:List (LN)} (h:S.pb=x :: xs) (hl:xs.length < 1000):GU T (.up S) (some (.str x)) (.up { S with pb:=xs })
 | uRead {S S':LX} (h:S.pb=[]) (r:RT (cfV T.cf T.lname) T.ubuf S.start true S') (e:isEof T.cf.posix (resD T.cf.posix S'.qd S'.tok)=false):GU T (.up S) (some (resD T.cf.posix S'.qd S'.tok)) (.up S'.stop)
 | uRs {S S':LX} (h:S.pb=[]) (r:RT (cfV T.cf T.lname) T.ubuf S.start false S'):GU T (.up S) none (.up S')
 | uEof {S S' S'':LX} {o:Option D} (h:S.pb=[]) (r:RT (cfV T.cf T.lname) T.ubuf S.start true S') (e:isEof T.cf.posix (resD T.cf.posix S'.qd S'.tok)=true) (g:GT (cfL T.cf T.lname) T.lbuf (popS S'.stop) o S''):GU T (.up S) o (.lo S'.pos S'')
 | lo {u:Nat} {S S':LX} {o:Option D} (g:GT (cfL T.cf T.lname) T.lbuf S o S'):GU T (.lo u S) o (.lo u S')
noncomputable def hG:Jc:=fun args kws led Ex Q=>args=[.ref 1] /\ kws=[] /\ ∃ T tl ph o ph',led=Ph.led T tl ph /\ GU T ph o ph' /\ gtQ Ex Q o (Ph.led T tl ph')
theorem GT.tok {cf:Cfg}{buf:LN}{S S':LX}{d:D}(h:GT cf buf S (some d) S'):tokOk cf.posix d:=by
 generalize e:some d=o at h
 cases h with
 | pop=>obtain rfl:=Option.some.inj e;exact trivial
 | read=>obtain rfl:=Option.some.inj e;exact Lw ..
 | rs=>injection e
theorem oGU (P:Params){rt gt:Jc}(h:Ja (KK P) 9 (.val 690) rt)(h2:Ja (KK P) 12 (.val 683) gt):Ja (KK P) 15 (.val 683) (sGU rt gt):=
 Jg (r:=12) (scoOf (mthD 19 5)) (kOk P) (Jd P) (.cons (Ja.mono (by decide) h) (by kernel_rfl!) (.cons (Ja.mono (by decide) (Jft P)) (by kernel_rfl!) (.cons h2 (by kernel_rfl!) .nil))) Jb (by kernel_rfl!) (by kernel_rfl!) (by kernel_rfl!) (by
  intro p hp;cases List.mem_singleton.mp hp;exact Ji rfl rfl (fun S v1=>by show _=_;kernel_rfl!) (by kernel_rfl!))
section
variable {cf:Cfg}{infs buf lbuf lname:LN}{tl:Led}{S S':LX}{Ex:Ec->Led->Prop}{Q:D->Led->Prop}
theorem XO (P:Params)(hi:cf.inf=.str infs){b:Bool}(r:RT (cfV cf lname) buf S.start b S'):Ja (KK P) 9 (.val 690) (oneR [.ref 1] (NU cf buf S lbuf lname tl) b (resD cf.posix S'.qd S'.tok) (NU cf buf (ife b S'.stop S') lbuf lname tl)):=by
 obtain ⟨p,w,wc,cm,pc,inf,fs⟩:=cf;obtain rfl:inf=.str infs:=hi
 cases pc with
 | nil=>exact Jao P r
 | cons a m=>exact ZE P r
theorem Y9 {rt gt:Jc}{x:LN}{xs:List (LN)}(h:S.pb=x :: xs)(hl:xs.length < 1000)(q:Q (.str x) (NU cf buf { S with pb:=xs } lbuf lname tl)):sGU rt gt [.ref 1] [] (NU cf buf S lbuf lname tl) Ex Q:=by
 obtain ⟨p,w,wc,cm,pc,inf,fs⟩:=cf;obtain ⟨st,tok,ln,pos,pb,pbc,qd,esc,nc⟩:=S;obtain rfl:pb=x :: xs:=h;have k:tr (Nat.ble ((xs.map D.str).length + 1) 100000) (tr (Nat.ble (xs.map D.str).length 100000) (Q (.str x) (NU ⟨p,w,wc,cm,pc,inf,fs⟩ buf ⟨st,tok,ln,pos,xs,pbc,qd,esc,nc⟩ lbuf lname tl))):=by
  rw [List.length_map];exact Ju (Nat.ble_eq_true_of_le (by lia)) (Ju (Nat.ble_eq_true_of_le (by lia)) q)
 cases pc with
 | nil=>exact (XC ..).symm ▸ k
 | cons a m=>exact (Xm ..).symm ▸ k
theorem RJ {gt:Jc}{d:D}(h:S.pb=[]){n:Nat}(q:guFin Ex Q (oneS [.ref 1] (NU cf buf S lbuf lname tl) d (NU cf buf S' lbuf lname tl)) gt d (NU cf buf S' lbuf lname tl).length n (NU cf buf S' lbuf lname tl)):sGU (oneS [.ref 1] (NU cf buf S lbuf lname tl) d (NU cf buf S' lbuf lname tl)) gt [.ref 1] [] (NU cf buf S lbuf lname tl) Ex Q:=by
 obtain ⟨p,w,wc,cm,pc,inf,fs⟩:=cf;obtain ⟨st,tok,ln,pos,pb,pbc,qd,esc,nc⟩:=S;obtain rfl:pb=[]:=h
 cases pc with
 | nil=>rw [Sx];exact ⟨rfl,rfl,rfl,n,q⟩
 | cons a m=>rw [Th];exact ⟨rfl,rfl,rfl,n,q⟩
theorem Jbv {gt:Jc}{l2:Led}(h:S.pb=[])(q:Ex .value l2):sGU (oneE [.ref 1] (NU cf buf S lbuf lname tl) l2) gt [.ref 1] [] (NU cf buf S lbuf lname tl) Ex Q:=by
 obtain ⟨p,w,wc,cm,pc,inf,fs⟩:=cf;obtain ⟨st,tok,ln,pos,pb,pbc,qd,esc,nc⟩:=S;obtain rfl:pb=[]:=h
 cases pc with
 | nil=>rw [Xc];exact ⟨rfl,rfl,rfl,q⟩
 | cons a m=>rw [We];exact ⟨rfl,rfl,rfl,q⟩
theorem Jal {rt gt:Jc}{d:D}{k:Nat}(ht:tokOk cf.posix d)(he:isEof cf.posix d=false)(q:Q d (NU cf buf S lbuf lname tl)):guFin Ex Q rt gt d k 1 (NU cf buf S lbuf lname tl):=by
 obtain ⟨p,w,wc,cm,pc,inf,fs⟩:=cf;obtain ⟨st,tok,ln,pos,pb,pbc,qd,esc,nc⟩:=S
 cases d with
 | str x=>cases p with
  | true=>rw [V8];exact q
  | false=>cases x with
   | nil=>injection he
   | cons a x=>rw [VO];exact q
 | none=>injection he
 | _=>exact ht.elim
theorem Yb {rt gt:Jc}{d:D}{k:Nat}(ht:tokOk cf.posix d)(he:isEof cf.posix d=true)(q:gt [.ref 1] [] (LL (cfL cf lname) lbuf (popS S) (closedU cf S.pos tl)) Ex (guNext Ex Q rt gt k)):guFin Ex Q rt gt d k 2 (NU cf buf S lbuf lname tl):=by
 obtain ⟨p,w,wc,cm,pc,inf,fs⟩:=cf;obtain ⟨st,tok,ln,pos,pb,pbc,qd,esc,nc⟩:=S
 cases d with
 | none=>cases p with
  | false=>injection ht
  | true=>cases pc with
   | nil=>rw [Jbq];exact q
   | cons a m=>rw [Y4];exact q
 | str x=>cases x with
  | cons a x=>injection he
  | nil=>cases p with
   | true=>injection he
   | false=>cases pc with
    | nil=>rw [Jbb];exact q
    | cons a m=>rw [Zg];exact q
 | _=>exact ht.elim
theorem Jaw {rt gt:Jc}{d:D}{k:Nat}(hf:cf.fs=[])(ht:tokOk cf.posix d)(q:Q d (LL cf buf S tl)):guFin Ex Q rt gt d k 1 (LL cf buf S tl):=by
 obtain ⟨p,w,wc,cm,pc,inf,fs⟩:=cf;obtain ⟨st,tok,ln,pos,pb,pbc,qd,esc,nc⟩:=S;obtain rfl:fs=[]:=hf
 cases d with
 | none=>cases p with
  | true=>rw [Jcv];exact q
  | false=>injection ht
 | str x=>cases p with
  | true=>rw [Jdo];exact q
  | false=>cases x with
   | nil=>rw [Jcp];exact q
   | cons a x=>rw [Jc5];exact q
 | _=>exact ht.elim
end
theorem Jdc (P:Params){cf:Cfg}{buf:LN}{S S':LX}{tl:Led}{o:Option D}(hf:cf.fs=[])(g:GT cf buf S o S'):Ja (KK P) 12 (.val 683) (fun args kws led Ex Q=>args=[.ref 1] /\ kws=[] /\ led=LL cf buf S tl /\ gtQ Ex Q o (LL cf buf S' tl)):=
 Ja.imp (Uu P) fun args kws led Ex Q ⟨e1,e2,e3,q⟩=>⟨e1,e2,cf,buf,S,tl,o,S',e3,hf,g,q⟩
theorem Jek (P:Params):Ja (KK P) 15 (.val 683) hG:=by
 intro Γ hK hr hc args kws led Ex Q loc Z hq;obtain ⟨e1,e2,T,tl,ph,o,ph',e3,g,q⟩:=hq;subst e1 e2 e3
 cases g with
 | uPop h hl=>exact oGU P Kf Kf Γ hK hr hc _ _ _ Ex Q loc Z (Y9 h hl q)
 | @uRead S S' h r e=>
  refine oGU P (rt:=oneS [.ref 1] (NU T.cf T.ubuf S T.lbuf T.lname tl) (resD T.cf.posix S'.qd S'.tok) (NU T.cf T.ubuf S'.stop T.lbuf T.lname tl)) (Ja.imp (XO P T.ok r) fun args kws led Ex Q q=>q) Kf Γ hK hr hc _ _ _ Ex Q loc Z ?_;exact RJ h (n:=1) (Jal (Lw ..) e q)
 | @uRs S S' h r=>
  refine oGU P (rt:=oneE [.ref 1] (NU T.cf T.ubuf S T.lbuf T.lname tl) (NU T.cf T.ubuf S' T.lbuf T.lname tl)) (Ja.imp (XO P T.ok r) fun args kws led Ex Q q=>q) Kf Γ hK hr hc _ _ _ Ex Q loc Z ?_;exact Jbv h q
 | @uEof S S' S'' o h r e g=>
  refine oGU P (rt:=oneS [.ref 1] (NU T.cf T.ubuf S T.lbuf T.lname tl) (resD T.cf.posix S'.qd S'.tok) (NU T.cf T.ubuf S'.stop T.lbuf T.lname tl)) (Ja.imp (XO P T.ok r) fun args kws led Ex Q q=>q) (Jdc P (tl:=closedU T.cf S'.pos tl) rfl g) Γ hK hr hc _ _ _ Ex Q loc Z ?_;refine RJ h (n:=2) (Yb (Lw ..) e ⟨rfl,rfl,rfl,?_⟩)
  cases o with
  | none=>exact q
  | some d=>exact ⟨_,.inl rfl,Jaw rfl g.tok q⟩
 | lo g=>exact Ja.mono (by decide) (Uu P) Γ hK hr hc _ _ _ Ex Q loc Z ⟨rfl,rfl,_,_,_,_,_,_,rfl,rfl,g,q⟩
end Mine
end
noncomputable section
open PySem PySem.W PyProof.Rows PySem.Calls
set_option backward.match.sparseCases false
namespace Mine
noncomputable def XNx (gt:Jc):X:=Xof tops (scoOf (mthD 19 10)) [(683,gt)] noSpec
noncomputable def sNx (gt:Jc):Jc:=defW (XNx gt) 40 (bodOf (mthD 19 10)) [pSelf]
theorem oNx (P:Params){gt:Jc}(h:Ja (KK P) 12 (.val 683) gt):Ja (KK P) 15 (.val 719) (sNx gt):=
 Jg (r:=12) (scoOf (mthD 19 10)) (kOk P) (Jd P) (.cons h (by kernel_rfl!) .nil) Jb (by kernel_rfl!) (by kernel_rfl!) (by kernel_rfl!) (by
  intro p hp;cases List.mem_singleton.mp hp;exact Ji rfl rfl (fun S v1=>by show _=_;kernel_rfl!) (by kernel_rfl!))
theorem Jf1 (P:Params){nx:Jc}(h:Ja (KK P) 15 (.val 719) nx):Jr (KK P) 16 (.bi .list) (lstW nx):=Uf (r:=15) (Jed P) (Ja.mono (by decide) (Jdj P)) h PH
section
variable (p w:Bool)(wc cm pc buf:LN)(inf:D)(fs:LD)(tl:Led)(Ex:Ec->Led->Prop)(Q:D->Led->Prop)(x:LN)(c:Nat)(S S':LX)(l l2:Led)
theorem Jax:sNx (oneS [.ref 1] l (.str x) (LL ⟨true,w,wc,cm,pc,inf,fs⟩ buf S' tl)) [.ref 1] [] (LL ⟨true,w,wc,cm,pc,inf,fs⟩ buf S tl) Ex Q=([D.ref 1]=[D.ref 1] /\ ([]:List (Str × D))=[] /\ LL ⟨true,w,wc,cm,pc,inf,fs⟩ buf S tl=l /\ Q (.str x) (LL ⟨true,w,wc,cm,pc,inf,fs⟩ buf S' tl)):=by kernel_rfl!
theorem Wt:sNx (oneS [.ref 1] l (.str (c :: x)) (LL ⟨false,w,wc,cm,pc,inf,fs⟩ buf S' tl)) [.ref 1] [] (LL ⟨false,w,wc,cm,pc,inf,fs⟩ buf S tl) Ex Q=([D.ref 1]=[D.ref 1] /\ ([]:List (Str × D))=[] /\ LL ⟨false,w,wc,cm,pc,inf,fs⟩ buf S tl=l /\ Q (.str (c :: x)) (LL ⟨false,w,wc,cm,pc,inf,fs⟩ buf S' tl)):=by kernel_rfl!
theorem VB:sNx (oneS [.ref 1] l .none (LL ⟨true,w,wc,cm,pc,inf,fs⟩ buf S' tl)) [.ref 1] [] (LL ⟨true,w,wc,cm,pc,inf,fs⟩ buf S tl) Ex Q=([D.ref 1]=[D.ref 1] /\ ([]:List (Str × D))=[] /\ LL ⟨true,w,wc,cm,pc,inf,fs⟩ buf S tl=l /\ Ex .stop (LL ⟨true,w,wc,cm,pc,inf,fs⟩ buf S' tl)):=by kernel_rfl!
theorem Xq:sNx (oneS [.ref 1] l (.str []) (LL ⟨false,w,wc,cm,pc,inf,fs⟩ buf S' tl)) [.ref 1] [] (LL ⟨false,w,wc,cm,pc,inf,fs⟩ buf S tl) Ex Q=([D.ref 1]=[D.ref 1] /\ ([]:List (Str × D))=[] /\ LL ⟨false,w,wc,cm,pc,inf,fs⟩ buf S tl=l /\ Ex .stop (LL ⟨false,w,wc,cm,pc,inf,fs⟩ buf S' tl)):=by kernel_rfl!
theorem Zo:sNx (oneE [.ref 1] l l2) [.ref 1] [] (LL ⟨p,w,wc,cm,pc,inf,fs⟩ buf S tl) Ex Q=([D.ref 1]=[D.ref 1] /\ ([]:List (Str × D))=[] /\ LL ⟨p,w,wc,cm,pc,inf,fs⟩ buf S tl=l /\ Ex .value l2):=by kernel_rfl!
end
noncomputable def nxQ (p:Bool)(Ex:Ec->Led->Prop)(Q:D->Led->Prop)(o:Option D)(led:Led):Prop:=match o with
 | some d=>ife (isEof p d) (Ex .stop led) (Q d led)
 | none=>Ex .value led
noncomputable def hNx:Jc:=fun args kws led Ex Q=>args=[.ref 1] /\ kws=[] /\ ∃ cf buf S tl o S',led=LL cf buf S tl /\ cf.fs=[] /\ GT cf buf S o S' /\ nxQ cf.posix Ex Q o (LL cf buf S' tl)
theorem YL (P:Params):Ja (KK P) 15 (.val 719) hNx:=by
 intro Γ hK hr hc args kws led Ex Q loc Z hq;obtain ⟨e1,e2,cf,buf,S,tl,o,S',e3,hf,g,q⟩:=hq;subst e1 e2 e3
 cases o with
 | none=>
  refine oNx P (gt:=oneE [.ref 1] (LL cf buf S tl) (LL cf buf S' tl)) (Ja.imp (Jdc P (tl:=tl) hf g) fun args kws led Ex Q q=>q) Γ hK hr hc _ _ _ Ex Q loc Z ?_;obtain ⟨p,w,wc,cm,pc,inf,fs⟩:=cf;rw [Zo];exact ⟨rfl,rfl,rfl,q⟩
 | some d=>
  refine oNx P (gt:=oneS [.ref 1] (LL cf buf S tl) d (LL cf buf S' tl)) (Ja.imp (Jdc P (tl:=tl) hf g) fun args kws led Ex Q q=>q) Γ hK hr hc _ _ _ Ex Q loc Z ?_;have ht:=g.tok;obtain ⟨p,w,wc,cm,pc,inf,fs⟩:=cf
  cases d with
  | none=>cases p with
   | true=>rw [VB];exact ⟨rfl,rfl,rfl,q⟩
   | false=>injection ht
  | str x=>cases p with
   | true=>
    rw [Jax];refine ⟨rfl,rfl,rfl,?_⟩;cases x <;> exact q
   | false=>cases x with
    | nil=>rw [Xq];exact ⟨rfl,rfl,rfl,q⟩
    | cons c x=>rw [Wt];exact ⟨rfl,rfl,rfl,q⟩
  | _=>exact ht.elim
inductive Lx (cf:Cfg)(buf:LN):LX->Bool->List (LN)->LX->Prop
 | eof {S:LX} {d:D} {S':LX} (g:GT cf buf S (some d) S') (h:isEof cf.posix d=true):Lx cf buf S true [] S'
 | rs {S S':LX} (g:GT cf buf S none S'):Lx cf buf S false [] S'
 | tok {S:LX} {x:LN} {S':LX} {b:Bool} {ts:List (LN)} {S'':LX} (g:GT cf buf S (some (.str x)) S') (h:isEof cf.posix (.str x)=false) (r:Lx cf buf S' b ts S''):Lx cf buf S b (x :: ts) S''
theorem Nz (cf:Cfg)(buf:LN)(S:LX)(tl tl':Led):LL cf buf S tl++tl'=LL cf buf S (tl++tl'):=by
 obtain ⟨p,w,wc,cm,pc,inf,fs⟩:=cf;cases pc <;> rfl
theorem U2 (cf:Cfg)(buf buf':LN)(S S':LX)(tl tl':Led)(h:tl.length=tl'.length):(LL cf buf S tl).length=(LL cf buf' S' tl').length:=by
 obtain ⟨p,w,wc,cm,pc,inf,fs⟩:=cf;cases pc <;> simp [LL,pcL,h]
theorem Jb0 (cf:Cfg)(buf:LN)(S S0:LX)(tl:Led)(o:OD):nth (LL cf buf S (tl++[o])) (LL cf buf S0 tl).length=some o:=by
 rw [Jq,<-Nz,U2 cf buf buf S0 S tl tl rfl,List.getElem?_append_right (Nat.le_refl _),Nat.sub_self];rfl
theorem Ja3 (cf:Cfg)(buf:LN)(S S0:LX)(tl:Led)(o o':OD):(LL cf buf S (tl++[o])).set (LL cf buf S0 tl).length o'=LL cf buf S (tl++[o']):=by
 rw [<-Nz,<-Nz,U2 cf buf buf S0 S tl tl rfl,List.set_append_right _ _ (Nat.le_refl _),Nat.sub_self];rfl
theorem VR {cf:Cfg}(hf:cf.fs=[]){buf:LN}{S S' S0:LX}{b:Bool}{ts:List (LN)}{tl:Led}{Ex:Ec->Led->Prop}{Q:D->Led->Prop}(h:Lx cf buf S b ts S'):∀ (ys:LD),ys.length + ts.length <= 100000 ->
 ife b (Q (.ref (LL cf buf S0 tl).length) (LL cf buf S' (tl++[.list (ys++ts.map .str)]))) (Ex .value (LL cf buf S' (tl++[.list (ys++ts.map .str)])))->∃ n,lstL hNx 1 (LL cf buf S0 tl).length Ex Q n (LL cf buf S (tl++[.list ys])):=by
 induction h with
 | @eof S d S' g h=>
  intro ys hl q;refine ⟨1,rfl,rfl,cf,buf,S,tl++[.list ys],some d,S',rfl,hf,g,?_⟩;show ife (isEof cf.posix d) _ _;rw [h];rw [List.map_nil,List.append_nil] at q;exact q
 | @rs S S' g=>
  intro ys hl q;refine ⟨1,rfl,rfl,cf,buf,S,tl++[.list ys],none,S',rfl,hf,g,?_⟩;rw [List.map_nil,List.append_nil] at q;exact q
 | @tok S x S' b ts S'' g h r ih=>
  intro ys hl q;rw [List.length_cons] at hl;obtain ⟨n,ih⟩:=ih (ys++[.str x]) (by rw [List.length_append,List.length_singleton];lia) (by rw [List.append_assoc];exact q)
  refine ⟨n + 1,rfl,rfl,cf,buf,S,tl++[.list ys],some (.str x),S',rfl,hf,g,?_⟩;show ife (isEof cf.posix (.str x)) _ _;rw [h];show oL (LL cf buf S' (tl++[.list ys])) (LL cf buf S0 tl).length _;unfold oL;rw [Jb0];show szL ys.length (oI (List.set (LL cf buf S' (tl++[.list ys])) (LL cf buf S0 tl).length (.list (ys++[.str x]))) 1 fun k _ _=>tr (k.same .lex) (lstL hNx 1 (LL cf buf S0 tl).length Ex Q n (List.set (LL cf buf S' (tl++[.list ys])) (LL cf buf S0 tl).length (.list (ys++[.str x])))));rw [Ja3];exact Ju (Nat.ble_eq_true_of_le (by lia)) ih
theorem Jr.imp {K:Frag}{r:Nat}{f:D}{sp sp':Jc}(h:Jr K r f sp)(k:∀ args kws led Ex Q,sp' args kws led Ex Q->sp args kws led Ex Q):Jr K r f sp':=fun Γ hK hr hc args kws led Ex Q loc Z hq=>h Γ hK hr hc args kws led Ex Q loc Z (k _ _ _ _ _ hq)
noncomputable def hLst:Jc:=fun args kws led Ex Q=>args=[.ref 1] /\ kws=[] /\ ∃ cf buf S tl b ts S',led=LL cf buf S tl /\ cf.fs=[] /\ Lx cf buf S b ts S' /\ ts.length <= 100000 /\
 ife b (Q (.ref (LL cf buf S tl).length) (LL cf buf S' (tl++[.list (ts.map .str)]))) (Ex .value (LL cf buf S' (tl++[.list (ts.map .str)])))
theorem Xr (P:Params):Jr (KK P) 16 (.bi .list) hLst:=by
 refine Jr.imp (Jf1 P (YL P)) fun args kws led Ex Q hq=>?_;obtain ⟨e1,e2,cf,buf,S,tl,b,ts,S',e3,hf,h,hl,q⟩:=hq;subst e1 e2 e3;have:=VR (S0:=S) (tl:=tl) (Ex:=Ex) (Q:=Q) hf h [] (by simpa using hl) (by rw [List.nil_append];exact q)
 rw [<-Nz] at this;exact this
noncomputable def latin:LN:=cs "ßàáâãäåæçèéêëìíîïðñòóôõöøùúûüýþÿÀÁÂÃÄÅÆÇÈÉÊËÌÍÎÏÐÑÒÓÔÕÖØÙÚÛÜÝÞ"
noncomputable def wcB (p:Bool):LN:=ife p (wcN++latin) wcN
noncomputable def S0:LX:=⟨some 32,[],1,0,[],none,false,32,none⟩
noncomputable def cfS (p c:Bool):Cfg:=⟨p,true,wcB p,ife c [35] [],[],.none,[]⟩
noncomputable def pSplit:Pat:=⟨3,[],[s "s",s "comments",s "posix"],[.arg 0,.arg 1,.arg 2]⟩
noncomputable def XSpl (lst:Jc):X:=Xof tops (scoOf (fnD 20)) [(722,sLex)] lst
noncomputable def sSpl (lst:Jc):Jc:=defW (XSpl lst) 40 (bodOf (fnD 20)) [pSplit]
noncomputable def lstOne (cf:Cfg)(l:LN)(b:Bool)(S:LX)(ts:List (LN)):Jc:=oneR [.ref 1] (LL cf l S0 []) b (.ref (LL cf l S0 []).length) (LL cf l S [.list (sts ts)])
noncomputable def spK (cf:Cfg)(l:LN)(b:Bool)(S:LX)(ts:List (LN))(Ex:Ec->Led->Prop)(Q:D->Led->Prop):Prop:=[D.ref 1]=[D.ref 1] /\ ([]:List (Str × D))=[] /\ LL cf l S0 []=LL cf l S0 [] /\ ife b (Q (.ref (LL cf l S0 []).length) (LL cf l S [.list (sts ts)])) (Ex .value (LL cf l S [.list (sts ts)]))
section
variable (l:LN)(b:Bool)(S:LX)(ts:List (LN))(Ex:Ec->Led->Prop)(Q:D->Led->Prop)
theorem Jct:sSpl (lstOne (cfS false false) l b S ts) [.str l,.bool false,.bool false] [] [] Ex Q=(Value->Value->spK (cfS false false) l b S ts Ex Q):=by kernel_rfl!
theorem Jde:sSpl (lstOne (cfS false true) l b S ts) [.str l,.bool true,.bool false] [] [] Ex Q=(Value->Value->spK (cfS false true) l b S ts Ex Q):=by kernel_rfl!
theorem Jcw:sSpl (lstOne (cfS true false) l b S ts) [.str l,.bool false,.bool true] [] [] Ex Q=(Value->Value->spK (cfS true false) l b S ts Ex Q):=by kernel_rfl!
theorem Jck:sSpl (lstOne (cfS true true) l b S ts) [.str l,.bool true,.bool true] [] [] Ex Q=(Value->Value->spK (cfS true true) l b S ts Ex Q):=by kernel_rfl!
end
theorem Yy {l:LN}{p c b:Bool}{S:LX}{ts:List (LN)}{Ex:Ec->Led->Prop}{Q:D->Led->Prop}(q:ife b (Q (.ref (LL (cfS p c) l S0 []).length) (LL (cfS p c) l S [.list (sts ts)])) (Ex .value (LL (cfS p c) l S [.list (sts ts)]))) :
 sSpl (lstOne (cfS p c) l b S ts) [.str l,.bool c,.bool p] [] [] Ex Q:=by
 have k:spK (cfS p c) l b S ts Ex Q:=⟨rfl,rfl,rfl,q⟩
 cases p with
 | false=>cases c with
  | false=>exact (Jct l b S ts Ex Q).symm ▸ fun _ _=>k
  | true=>exact (Jde l b S ts Ex Q).symm ▸ fun _ _=>k
 | true=>cases c with
  | false=>exact (Jcw l b S ts Ex Q).symm ▸ fun _ _=>k
  | true=>exact (Jck l b S ts Ex Q).symm ▸ fun _ _=>k
noncomputable def dB (d:D)(k:Bool->Prop):Prop:=dC d False k no1 no1 no1 no1
theorem dB_ {d:D}{k:Bool->Prop}(h:dB d k):∃ b,d=.bool b /\ k b:=dC_ (R:=fun d=>∃ b,d=.bool b /\ k b) h False.elim (fun b h=>⟨b,rfl,h⟩) (fun _=>False.elim) (fun _=>False.elim) (fun _=>False.elim) fun _=>False.elim
noncomputable def allO:Nat->(Led->Prop)->Prop
 | 0,P=>P []
 | n + 1,P=>∀ o,allO n fun l=>P (o :: l)
theorem Vv {n:Nat}:∀ {P:Led->Prop},allO n P->∀ l,l.length=n->P l:=by
 induction n with
 | zero=>intro P h l e;rw [List.eq_nil_of_length_eq_zero e];exact h
 | succ n ih=>
  intro P h l e
  cases l with
  | nil=>injection e
  | cons o l=>exact ih (h o) l (Nat.succ.inj e)
noncomputable def l3 (l:LD)(k:D->D->D->Prop):Prop:=lC l False fun a r=>l2 r (k a)
theorem l3_ {l:LD}{k:D->D->D->Prop}(h:l3 l k):∃ a b c,l=[a,b,c] /\ k a b c:=
 lC_ (R:=fun l=>∃ a b c,l=[a,b,c] /\ k a b c) h False.elim fun a r h=>let ⟨b,c,e,h⟩:=l2_ h;⟨a,b,c,by rw [e],h⟩
@[elab_as_elim] theorem lCe {α:Type}{l:List α}{c:α->List α->Prop}{R:List α->Prop}(h:lC l False c)(f:∀ a r,c a r->R (a :: r)):R l:=by cases l with | nil=>exact h.elim | cons a r=>exact f a r h
@[elab_as_elim] theorem l3x {l:LD}{k:D->D->D->Prop}{R:LD->Prop}(h:l3 l k)(f:∀ a b c,k a b c->R [a,b,c]):R l:=(l3_ h).elim fun a h=>h.elim fun b h=>h.elim fun c h=>h.1 ▸ f a b c h.2
@[elab_as_elim] theorem dBx {d:D}{k:Bool->Prop}{R:D->Prop}(h:dB d k)(f:∀ b,k b->R (.bool b)):R d:=(dB_ h).elim fun b h=>h.1 ▸ f b h.2
theorem Vh {cf:Cfg}{l:LN}{S:LX}{led:Led}{W:List (LN)}{n:Nat}{P:Led->Prop}(hn:(LL cf l S []).length=n)(h:allO n fun g=>P (led++(g++[.list (sts W)]))):P (unf [] led (LL cf l S [.list (sts W)])):=by
 have q:=Vv h ((LL cf l S []).map (rnOD [] led.length)) (by rw [List.length_map,hn])
 have e2:unf [] led (LL cf l S [OD.list (sts W)])=led++((LL cf l S []).map (rnOD [] led.length)++[OD.list (sts W)]):=by
  rw [show LL cf l S [OD.list (sts W)]=LL cf l S []++[OD.list (sts W)] from (Nz cf l S [] _).symm]
  show led++((LL cf l S []++[OD.list (sts W)]).map (rnOD [] led.length))=_;rw [List.map_append];have:([OD.list (sts W)]:Led).map (rnOD [] led.length)=[OD.list (sts W)]:=by
   show [OD.list (rnL _ _ _)]=_;rw [Ku]
  rw [this]
 rw [e2];exact q
noncomputable def spS:Jc:=fun args kws led Ex Q=>l0 kws (l3 args fun a b c=>dS a fun l=>dB b fun k=>dB c fun p=>∃ b ts,(∃ S,Lx (cfS p k) l S0 b ts S) /\ ts.length <= 100000 /\
 allO 6 fun g=>ife b (Q (.ref (led.length + 6)) (led++(g++[.list (sts ts)]))) (Ex .value (led++(g++[.list (sts ts)]))))
theorem Zn (P:Params):Ja (KK P) 19 (.val 734) spS:=by
 intro Γ hK hr hc args kws led Ex Q loc Z h;refine l0e h fun h1=>?_;refine l3x h1 fun a b c h2=>?_;refine dSe h2 fun l h2=>?_;refine dBx h2 fun c h3=>?_;refine dBx h3 fun p h4=>?_;refine E23 h4 fun b ts hq0=>?_;clear h4;obtain ⟨S,hx⟩:=hq0;intro hl h5
 clear h h1 h2 h3
 have sp:Ja (KK P) 19 (.val 734) (sSpl (lstOne (cfS p c) l b S ts)):=
  Jg (r:=16) (scoOf (fnD 20)) (kOk P) (Jd P) (.cons (Ja.mono (by decide) (Je9 P)) (by kernel_rfl!) .nil)
   (Jr.imp (Xr P) fun args kws led Ex Q hz0=>by refine E04 hz0 fun e1 e2 e3 q=>?_;exact ⟨e1,e2,cfS p c,l,S0,[],b,ts,S,e3,rfl,hx,hl,q⟩) (by kernel_rfl!) (by kernel_rfl!) (by kernel_rfl!) (by
   intro p hp;cases List.mem_singleton.mp hp;exact Ji rfl rfl (fun S v1 v2 v3=>by show _=_;kernel_rfl!) (by kernel_rfl!))
 refine Jt sp Γ hK hr hc _ _ _ Ex Q loc Z ⟨[],[.str l,.bool c,.bool p],[],[],rfl,rfl,.nil,rfl,fun t j o x1 _=>by simp at x1,Yy ?_⟩
 cases b with
 | true=>exact Vh (P:=fun led'=>Q (.ref (led.length + 6)) led') (n:=6) rfl h5
 | false=>exact Vh (P:=fun led'=>Ex .value led') (n:=6) rfl h5
noncomputable def pLw:Pat:=⟨3,[],[s "text",s "hush",s "posix"],[.arg 0,.arg 1,.arg 2]⟩
noncomputable def sLw:Jc:=defW (Xof tops (scoOf (fnD 31)) [(734,spS)] noSpec) 40 (bodOf (fnD 31)) [pLw]
noncomputable def lwE (Q:D->Led->Prop):Ec->Led->Prop:=fun c led=>match c with
 | .value=>Q .none led
 | .stop=>False
theorem Jd5 (l h:LN)(p:Bool)(led:Led)(Ex:Ec->Led->Prop)(Q:D->Led->Prop):sLw [.str l,.str h,.bool p] [] led Ex Q=spS [.str l,.bool (lEqB h [35]),.bool p] [] led (lwE Q) Q:=by kernel_rfl!
noncomputable def lwS:Jc:=fun args kws led Ex Q=>l0 kws (l3 args fun a b c=>dS a fun l=>dS b fun h=>dB c fun p=>∃ b ts,(∃ S,Lx (cfS p (lEqB h [35])) l S0 b ts S) /\ ts.length <= 100000 /\
 allO 6 fun g=>Q (ife b (.ref (led.length + 6)) .none) (led++(g++[.list (sts ts)])))
theorem Jay (P:Params):Ja (KK P) 22 (.val 800) lwS:=by
 have sp:Ja (KK P) 22 (.val 800) sLw:=Jg (r:=19) (scoOf (fnD 31)) (kOk P) (Jd P) (.cons (Zn P) (by kernel_rfl!) .nil) Jb (by kernel_rfl!) (by kernel_rfl!) (by kernel_rfl!) (by
  intro p hp;cases List.mem_singleton.mp hp;exact Ji rfl rfl (fun S v1 v2 v3=>by show _=_;kernel_rfl!) (by kernel_rfl!))
 refine Ja.imp sp fun args kws led Ex Q h=>?_;refine l0e h fun h1=>?_;refine l3x h1 fun a b c h2=>?_;refine dSe h2 fun l h3=>?_;refine dSe h3 fun x h5=>?_;refine dBx h5 fun p hh=>?_;refine E23 hh fun b ts hx hl h4=>?_;show sLw _ _ _ _ _;rw [Jd5];refine ⟨b,ts,hx,hl,?_⟩;cases b <;> exact h4
noncomputable def isCellK:NameKind->Bool
 | .cell=>true
 | _=>false
set_option tactic.hygienic true in
theorem Of {sc:List (Str × NameKind)}{x:Str}(h:kindIs sc isCellK x=true):sc.lookup x=some .cell:=by
 unfold kindIs at h;rw [JJ] at h
 split at h
 · rename_i k e;cases k <;> first | exact e | cases h
 · injection h
noncomputable def fnTestC (K:Frag)(f:Addr)(names cells:List Str):Bool:=match K.lookup f with
 | some ⟨_,_,.func fd,_⟩=>codeIn K fd.code fd.qualname && (names.all fun x=>kindIs fd.scope.names isLocal x && !nameEq x (nm [95,95,100,101,98,117,103,95,95])) && (cells.all fun x=>kindIs fd.scope.names isCellK x && !nameEq x (nm [95,95,100,101,98,117,103,95,95])) && nodupB names && nodupB cells && isFunK fd.scope.kind && !fd.scope.isCoroutine && !fd.scope.isGenerator && Nat.beq fd.globals mainGlobals && Nat.beq fd.builtins builtinsNs && fd.closure.isEmpty
 | _=>false
set_option tactic.hygienic true in
theorem UT {K:Frag}{f:Addr}{body:List Stmt}{names cells:List Str}(h:fnTestC K f names cells=true)(hb:(FD K f).body=.stmts body)(hc:(cellsFrom 0 (FD K f).scope.names []).map (·.1)=cells):Lj K f (FD K f) body names cells:=by
 unfold fnTestC at h
 split at h
 · rename_i fd _ e
   have eF:FD K f=fd:=by unfold FD;rw [e]
   rw [eF] at hb hc ⊢;simp only [Bool.and_eq_true] at h;obtain ⟨⟨⟨⟨⟨⟨⟨⟨⟨⟨h1,h2⟩,h3⟩,h4⟩,h5⟩,h6⟩,h7⟩,h8⟩,h9⟩,ha⟩,hcl⟩:=h;have h2:=List.all_eq_true.mp h2;have h3:=List.all_eq_true.mp h3;refine ⟨⟨_,e,rfl⟩,hb,h1,List.all_eq_true.mpr fun x hx=>?_,hc,List.all_eq_true.mpr fun x hx=>?_,by simpa using hcl,J7 h4,J7 h5,?_,by simpa using h7,by simpa using h8,Nat.eq_of_beq_eq_true h9,Nat.eq_of_beq_eq_true ha⟩
   · obtain ⟨a,b⟩:=Bool.and_eq_true_iff.mp (h2 x hx);rw [K8 a,KC (by simpa using b)];rfl
   · obtain ⟨a,b⟩:=Bool.and_eq_true_iff.mp (h3 x hx);rw [Of a,KC (by simpa using b)];rfl
   · generalize fd.scope.kind=k at h6;cases k <;> first | rfl | cases h6
 · injection h
section
variable {K:Frag}{r:Nat}
noncomputable def defCW (X:X)(n:Nat)(body:List Stmt)(m:Nat):Jc:=fun args kws led Ex Q=>led=[] /\ kws=[] /\ args.length=m /\ (run n X).xs body (args.map some++(X.names.drop m).map fun _=>none) (X.cells.map fun _=>.cell none) (fun c _ led=>Ex c led) fun fl _ led=>Q fl.val led
theorem Wa {f:Addr}{fd:FuncData}{body:List Stmt}{X:X}{n m:Nat}{ps:List Str}(F:Lj K f fd body X.names (X.cells.map (·.1)))(h:XOk K r fd.scope X)(hi:X.cells.map (·.2)=List.range X.cells.length)(hn:X.names=ps++X.names.drop m)(hp:ps.length=m)
 (hb:allV m fun vs=>bindArgs fd ⟨vs,[]⟩=pure (ps.zip vs)):SpecOkC X.calm K (r + 3) (.val f) (defCW X n body m):=by
 intro Γ hK hr hcalm args kws led Ex Q loc Z ⟨e1,e2,hl,q⟩;subst hK e1 e2;refine VK F (fun vs hv=>NN hb vs (hv.trans hl)) (hp.trans hl.symm) hn (by lia) fun Γ' Z' cs En e1 e2=>?_
 have G:Good X Γ':=XOk.good (r:=r) (scope:=fd.scope) (En.K ▸ h) En.names En.scope (by rw [En.room];lia) (fun hc=>En.handled.trans (hcalm hc))
 have hcs:cs.map (fun _=>OD.cell none)=X.cells.map fun _=>.cell none:=by
  have:=congrArg (List.map fun _=>OD.cell none) e1;rw [List.map_map,List.map_map] at this;exact this
 have c:Cl X Γ' Z':=fun x i hx=>by
  obtain ⟨j,hj⟩:=List.mem_iff_getElem?.mp hx;have h2:(X.cells.map (·.2))[j]?=some i:=by rw [List.getElem?_map,hj];rfl
  have hlt:j < X.cells.length:=(gel hj);rw [hi,List.getElem?_range hlt] at h2;have h2:j=i:=Option.some.inj h2;have h3:(cs.map (·.1))[j]?=some x:=by rw [e1,List.getElem?_map,hj];rfl
  rw [List.getElem?_map] at h3;obtain ⟨p,hp,rfl⟩:=Option.map_eq_some_iff.mp h3;obtain ⟨a,b⟩:=e2 j p hp;rw [show ([]:Led).length + j=j from Nat.zero_add j] at b
  exact ⟨p.2,a,h2 ▸ b⟩
 have:=(LC n _ _ G).xs (Z:=Z') q c;show XS Γ' _ body ⟨_,[]++cs.map (fun _=>.cell none),Z'⟩ _;rw [hcs];exact Wp.exc (Wp.at_ this fun fl σ' q Z=>⟨rfl,q⟩) fun cls σ' q Z=>⟨rfl,q⟩
end
noncomputable def XofC (all:List (Str × D))(sc:Scope)(spec:List (Nat × Jc))(lst:Jc)(cells:List (Str × Nat))(sb:List (Nat × Jc)):X:=⟨localsOf sc.names,cells,topsOf all sc.names,spec,lst,all,none,true,sb⟩
theorem OC {K:Frag}{r:Nat}{f:Addr}{body:List Stmt}{all:List (Str × D)}{spec sb:List (Nat × Jc)}{lst:Jc}{cells:List (Str × Nat)}{n m:Nat}{ps:List Str}(sc:Scope)(kok:KOk K)(ha:∀ x d,(x,d) ∈ all->Top K x d)(hs:SK K r spec)(hsb:LH false K r sb)(hl:Jr K r (.bi .list) lst)
 (hsc:(FD K f).scope=sc) (ht:fnTestC K f (localsOf sc.names) (cells.map (·.1))=true) (hb:(FD K f).body=.stmts body) (hcl:(cellsFrom 0 sc.names []).map (·.1)=cells.map (·.1)) (hi:cells.map (·.2)=List.range cells.length) (hn:localsOf sc.names=ps++(localsOf sc.names).drop m) (hp:ps.length=m)
 (hbd:allV m fun vs=>bindArgs (FD K f) ⟨vs,[]⟩=pure (ps.zip vs)):Ja K (r + 3) (.val f) (defCW (XofC all sc spec lst cells sb) n body m):=
 have F:=UT ht hb (hsc.symm ▸ hcl)
 Wa (X:=XofC all sc spec lst cells sb) F (hsc.symm ▸ ⟨kok,fun x d h=>⟨(Jh h).2,ha _ _ (Jh h).1⟩,hs.mem,hsb.mem,hl,ha,hsc ▸ F.kind,rfl⟩) hi hn hp hbd
noncomputable def XofB (all:List (Str × D))(sc:Scope):X:=⟨localsOf sc.names,[],topsOf all sc.names,[],noSpec,all,none,false,[]⟩
theorem Ug {K:Frag}{r:Nat}{f:Addr}{body:List Stmt}{all:List (Str × D)}{n:Nat}{ps:List Pat}(sc:Scope)(kok:KOk K)(ha:∀ x d,(x,d) ∈ all->Top K x d)
 (hsc:(FD K f).scope=sc) (ht:fnTest K f (localsOf sc.names)=true) (hb:(FD K f).body=.stmts body) (hp:∀ p ∈ ps,PJ K (FD K f) p /\ localsOf sc.names=p.ps++(localsOf sc.names).drop p.ps.length):SpecOkC false K (r + 3) (.val f) (defW (XofB all sc) n body ps):=
 UQ (X:=XofB all sc) (Qh ht hb) (hsc.symm ▸ ⟨kok,fun x d h=>⟨(Jh h).2,ha _ _ (Jh h).1⟩,fun _ _ h=>(nomatch h),fun _ _ h=>(nomatch h),Jb,ha,hsc ▸ (Qh ht hb).kind,rfl⟩) rfl hp
section
variable (P:Params)
noncomputable def sPs:Jc:=defW (Xof tops (scoOf (mthD 19 3)) [(587,sSio)] noSpec) 30 (bodOf (mthD 19 3)) [⟨3,[],[s "self",s "newstream",s "newfile"],[.arg 0,.arg 1,.arg 2]⟩]
theorem oPs:Ja (KK P) 10 (.val 669) sPs:=
 Jg (r:=7) (scoOf (mthD 19 3)) (kOk P) (Jd P) (.cons (Je1 P) (by kernel_rfl!) .nil) Jb (by kernel_rfl!) (by kernel_rfl!) (by kernel_rfl!) (by
  intro p hp;cases List.mem_singleton.mp hp;exact Ji rfl rfl (fun S v1 v2 v3=>by show _=_;kernel_rfl!) (by kernel_rfl!))
noncomputable def sPt:Jc:=defW (Xof tops (scoOf (mthD 19 2)) [] noSpec) 30 (bodOf (mthD 19 2)) [⟨2,[],[s "self",s "tok"],[.arg 0,.arg 1]⟩]
theorem oPt:Ja (KK P) 3 (.val 661) sPt:=
 Jg (r:=0) (scoOf (mthD 19 2)) (kOk P) (Jd P) .nil Jb (by kernel_rfl!) (by kernel_rfl!) (by kernel_rfl!) (by
  intro p hp;cases List.mem_singleton.mp hp;exact Ji rfl rfl (fun S v1 v2=>by show _=_;kernel_rfl!) (by kernel_rfl!))
noncomputable def sEl:Jc:=defW (XofB tops (scoOf (mthD 19 8))) 30 (bodOf (mthD 19 8)) [⟨1,[],[s "self",s "infile",s "lineno"],[.arg 0,.dflt .none .none fun _=>.none,.dflt .none .none fun _=>.none]⟩]
theorem oEl:SpecOkC false (KK P) 3 (.val 705) sEl:=
 Ug (r:=0) (scoOf (mthD 19 8)) (kOk P) (Jd P) (by kernel_rfl!) (by kernel_rfl!) (by kernel_rfl!) (by
  intro p hp;cases List.mem_singleton.mp hp;exact Ji (by kernel_rfl!) rfl (fun S v1=>by show _=_;kernel_rfl!) (by kernel_rfl!))
end
noncomputable def XRd (gt el pt:Jc):X:=XofC tops (scoOf (fnD 30)) [(722,sLex),(669,sPs),(683,gt),(705,el),(661,pt)] noSpec [(s "lexer",0)] [(705,el)]
noncomputable def sRd (gt el pt:Jc):Jc:=defCW (XRd gt el pt) 40 (bodOf (fnD 30)) 4
theorem oRd (P:Params){gt el pt:Jc}(h1:Ja (KK P) 19 (.val 683) gt)(h2:SpecOkC false (KK P) 19 (.val 705) el)(h3:Ja (KK P) 19 (.val 661) pt):Ja (KK P) 22 (.val 793) (sRd gt el pt):=
 OC (r:=19) (ps:=[s "lower",s "upper",s "posix",s "given"]) (scoOf (fnD 30)) (kOk P) (Jd P)
  (.cons (Ja.mono (by decide) (Je9 P)) (by kernel_rfl!) (.cons (Ja.mono (by decide) (oPs P)) (by kernel_rfl!) (.cons h1 (by kernel_rfl!) (.cons (Ja.weak h2) (by kernel_rfl!) (.cons h3 (by kernel_rfl!) .nil)))))
  (.cons h2 (by kernel_rfl!) .nil) Jb (by kernel_rfl!) (by kernel_rfl!) (by kernel_rfl!) (by kernel_rfl!) (by kernel_rfl!) (by kernel_rfl!) rfl (fun v1 v2 v3 v4=>by show _=_;kernel_rfl!)
noncomputable def rdP:Expr × List Stmt:=whParts (stAt (bodOf (fnD 30)) 5)
noncomputable def tryOf:Stmt->List Stmt × List Stmt
 | .Try b hs _ _ _=>(b,match hs with
  | [.ExceptHandler _ _ s _]=>s
  | _=>[])
 | _=>([],[])
noncomputable def rdT:List Stmt × List Stmt:=tryOf (stAt rdP.2 0)
theorem V4 (X:X)(loc:Loc)(led:Led)(E1:QE)(Q1:QF):(run 34 X).xs [] loc led E1 Q1=Q1 .next loc led:=by kernel_rfl!
noncomputable def elP (ok:Led->LN->Prop):Jc:=fun args kws led Ex Q=>args=[.ref 2] /\ kws=[] /\ ∃ m,ok led m /\ Q (.str m) led
section
variable (gt el pt:Jc)(Ex:Ec->Led->Prop)(Q:D->Led->Prop)(k:Nat)
noncomputable def rdEnd:QF:=seqW (run 34 (XRd gt el pt)) ((bodOf (fnD 30)).drop 6) (fun c _ led=>Ex c led) fun fl _ led=>Q fl.val led
noncomputable def rdW (n:Nat)(loc:Loc)(led:Led):Prop:=whW (run 34 (XRd gt el pt)) k rdP.1 rdP.2 [] (fun c _ led=>Ex c led) (rdEnd gt el pt Ex Q) n loc led
noncomputable def rdAgain (n:Nat)(loc:Loc)(led:Led):Prop:=∃ led',Tidy k loc led led' /\ rdW gt el pt Ex Q k n loc led'
noncomputable def rdQ0 (n:Nat):QF:=seqW (run 33 (XRd gt el pt)) [] (fun c _ led=>Ex c led) (loopW (rdAgain gt el pt Ex Q k n) (rdEnd gt el pt Ex Q))
noncomputable def rdEx1 (n:Nat):QE:=catchW (run 33 (XRd gt el pt).busy) rdT.2 (rdQ0 gt el pt Ex Q k n)
noncomputable def rdQ1 (n:Nat):QF:=tryK (run 33 (XRd gt el pt)) [] (fun c _ led=>Ex c led) (rdQ0 gt el pt Ex Q k n)
noncomputable def rdB (n:Nat)(loc:Loc)(led:Led):Prop:=seqW (run 32 (XRd gt el pt)) (rdT.1.drop 1) (rdEx1 gt el pt Ex Q k n) (rdQ1 gt el pt Ex Q k n) .next loc led
noncomputable def rdK (n:Nat):Bool->Loc->Led->Prop:=fun b loc led=>ife b ((run 34 (XRd gt el pt)).xs rdP.2 loc led (fun c _ led=>Ex c led) (loopW (rdAgain gt el pt Ex Q k n) (rdEnd gt el pt Ex Q))) ((run 34 (XRd gt el pt)).xs [] loc led (fun c _ led=>Ex c led) (rdEnd gt el pt Ex Q))
theorem Jbt (n:Nat)(loc:Loc)(led:Led):rdW gt el pt Ex Q k (n + 1) loc led=(run 34 (XRd gt el pt)).ts rdP.1 loc led (fun c _ led=>Ex c led) (rdK gt el pt Ex Q k n):=by kernel_rfl!
theorem Jcx (n:Nat)(loc:Loc)(led:Led):rdK gt el pt Ex Q k n false loc led=rdEnd gt el pt Ex Q .next loc led:=V4 (XRd gt el pt) loc led _ (rdEnd gt el pt Ex Q)
end
noncomputable def nsV (v:Nat->Option D)(e:D):List (Option D):=[v 0,v 1,v 2,v 3,v 4,v 5,v 6,v 7,v 8,v 9,v 10,v 11,v 12,v 13,v 14,v 15,v 16,some e,v 18,v 19]
noncomputable def rdLoc (l u:LN)(p gv:D)(R:Nat)(ends:Int)(t:Option D):Loc:=[some (.str l),some (.str u),some p,some gv,some (.ref R),some (.ref (R + 1)),some (.int ends),t]
section
variable (gt pt:Jc)(ok:Led->LN->Prop)(Ex:Ec->Led->Prop)(Q:D->Led->Prop)(k n:Nat)(l u:LN)(p gv:D)(ends:Int)(t:Option D)(a b c d f g h:OD)(v:Nat->Option D)(e:D)(rows toks:LD)(x:LN)(y:Nat)
theorem Te (E1:QE)(K:Bool->Loc->Led->Prop):(run 34 (XRd gt (elP ok) pt)).ts rdP.1 (rdLoc l u p gv 9 ends t) [.cell (some (.ref 2)),.ns .lex (nsV v e),.inst .lex 1,a,b,c,d,f,g,.list rows,.list toks] E1 K=ife (ltI ends 2) (szL rows.length (K (ltI (Int.ofNat rows.length) 60) (rdLoc l u p gv 9 ends t) [.cell (some (.ref 2)),.ns .lex (nsV v e),.inst .lex 1,a,b,c,d,f,g,.list rows,.list toks])) (K false (rdLoc l u p gv 9 ends t) [.cell (some (.ref 2)),.ns .lex (nsV v e),.inst .lex 1,a,b,c,d,f,g,.list rows,.list toks]):=by kernel_rfl!
theorem SZ:rdK gt (elP ok) pt Ex Q k n true (rdLoc l u p gv 9 ends t) [.cell (some (.ref 2)),.ns .lex (nsV v e),.inst .lex 1,a,b,c,d,f,g,.list rows,.list toks]=gt [.ref 2] [] [.cell (some (.ref 2)),.ns .lex (nsV v e),.inst .lex 1,a,b,c,d,f,g,.list rows,.list toks] (fun ec led=>rdEx1 gt (elP ok) pt Ex Q k n ec (rdLoc l u p gv 9 ends t) led) (fun d led=>rdB gt (elP ok) pt Ex Q k n (rdLoc l u p gv 9 ends (some d)) led):=by kernel_rfl!
theorem ST (E1:QE)(K:Bool->Loc->Led->Prop):(run 34 (XRd gt (elP ok) pt)).ts rdP.1 (rdLoc l u p gv 10 ends t) [.cell (some (.ref 2)),.ns .lex (nsV v e),.inst .lex 1,a,b,c,d,f,g,h,.list rows,.list toks] E1 K=ife (ltI ends 2) (szL rows.length (K (ltI (Int.ofNat rows.length) 60) (rdLoc l u p gv 10 ends t) [.cell (some (.ref 2)),.ns .lex (nsV v e),.inst .lex 1,a,b,c,d,f,g,h,.list rows,.list toks])) (K false (rdLoc l u p gv 10 ends t) [.cell (some (.ref 2)),.ns .lex (nsV v e),.inst .lex 1,a,b,c,d,f,g,h,.list rows,.list toks]):=by kernel_rfl!
theorem SG:rdK gt (elP ok) pt Ex Q k n true (rdLoc l u p gv 10 ends t) [.cell (some (.ref 2)),.ns .lex (nsV v e),.inst .lex 1,a,b,c,d,f,g,h,.list rows,.list toks]=gt [.ref 2] [] [.cell (some (.ref 2)),.ns .lex (nsV v e),.inst .lex 1,a,b,c,d,f,g,h,.list rows,.list toks] (fun ec led=>rdEx1 gt (elP ok) pt Ex Q k n ec (rdLoc l u p gv 10 ends t) led) (fun d led=>rdB gt (elP ok) pt Ex Q k n (rdLoc l u p gv 10 ends (some d)) led):=by kernel_rfl!
theorem Tb:rdB gt (elP ok) pt Ex Q k n (rdLoc l u p gv 9 ends (some (.str x))) [.cell (some (.ref 2)),.ns .lex (nsV v .none),.inst .lex 1,a,b,c,d,f,g,.list rows,.list toks]=([D.ref 2]=[D.ref 2] /\ ([]:List (Str × D))=[] /\ ∃ m,ok [.cell (some (.ref 2)),.ns .lex (nsV v .none),.inst .lex 1,a,b,c,d,f,g,.list rows,.list toks] m /\ szL rows.length (szL toks.length (rdAgain gt (elP ok) pt Ex Q k n (rdLoc l u p gv 9 ends (some (.str x))) [.cell (some (.ref 2)),.ns .lex (nsV v .none),.inst .lex 1,a,b,c,d,f,g,.list (rows++[.tup [.str x,.str m]]),.list (toks++[.str x])]))):=by kernel_rfl!
theorem SP:rdB gt (elP ok) pt Ex Q k n (rdLoc l u p gv 9 ends (some (.str (y :: x)))) [.cell (some (.ref 2)),.ns .lex (nsV v (.str [])),.inst .lex 1,a,b,c,d,f,g,.list rows,.list toks]=([D.ref 2]=[D.ref 2] /\ ([]:List (Str × D))=[] /\ ∃ m,ok [.cell (some (.ref 2)),.ns .lex (nsV v (.str [])),.inst .lex 1,a,b,c,d,f,g,.list rows,.list toks] m /\ szL rows.length (szL toks.length (rdAgain gt (elP ok) pt Ex Q k n (rdLoc l u p gv 9 ends (some (.str (y :: x)))) [.cell (some (.ref 2)),.ns .lex (nsV v (.str [])),.inst .lex 1,a,b,c,d,f,g,.list (rows++[.tup [.str (y :: x),.str m]]),.list (toks++[.str (y :: x)])]))):=by kernel_rfl!
theorem Ue:rdB gt (elP ok) pt Ex Q k n (rdLoc l u p gv 9 ends (some (.none))) [.cell (some (.ref 2)),.ns .lex (nsV v .none),.inst .lex 1,a,b,c,d,f,g,.list rows,.list toks]=([D.ref 2]=[D.ref 2] /\ ([]:List (Str × D))=[] /\ ∃ m,ok [.cell (some (.ref 2)),.ns .lex (nsV v .none),.inst .lex 1,a,b,c,d,f,g,.list rows,.list toks] m /\ szL rows.length (rdAgain gt (elP ok) pt Ex Q k n (rdLoc l u p gv 9 (ends + 1) (some (.none))) [.cell (some (.ref 2)),.ns .lex (nsV v .none),.inst .lex 1,a,b,c,d,f,g,.list (rows++[.tup [.none,.str m]]),.list toks])):=by kernel_rfl!
theorem TP:rdB gt (elP ok) pt Ex Q k n (rdLoc l u p gv 9 ends (some (.str []))) [.cell (some (.ref 2)),.ns .lex (nsV v (.str [])),.inst .lex 1,a,b,c,d,f,g,.list rows,.list toks]=([D.ref 2]=[D.ref 2] /\ ([]:List (Str × D))=[] /\ ∃ m,ok [.cell (some (.ref 2)),.ns .lex (nsV v (.str [])),.inst .lex 1,a,b,c,d,f,g,.list rows,.list toks] m /\ szL rows.length (rdAgain gt (elP ok) pt Ex Q k n (rdLoc l u p gv 9 (ends + 1) (some (.str []))) [.cell (some (.ref 2)),.ns .lex (nsV v (.str [])),.inst .lex 1,a,b,c,d,f,g,.list (rows++[.tup [.str [],.str m]]),.list toks])):=by kernel_rfl!
theorem VY:rdEx1 gt (elP ok) pt Ex Q k n .value (rdLoc l u p gv 9 ends t) [.cell (some (.ref 2)),.ns .lex (nsV v e),.inst .lex 1,a,b,c,d,f,g,.list rows,.list toks]=([D.ref 2]=[D.ref 2] /\ ([]:List (Str × D))=[] /\ ∃ m,ok [.cell (some (.ref 2)),.ns .lex (nsV v e),.inst .lex 1,a,b,c,d,f,g,.list rows,.list toks] m /\ szL rows.length (rdAgain gt (elP ok) pt Ex Q k n (rdLoc l u p gv 9 (ends + 1) t) [.cell (some (.ref 2)),.ns .lex (nsV v e),.inst .lex 1,a,b,c,d,f,g,.list (rows++[.tup [.str m]]),.list toks])):=by kernel_rfl!
theorem Uj:rdB gt (elP ok) pt Ex Q k n (rdLoc l u p gv 10 ends (some (.str x))) [.cell (some (.ref 2)),.ns .lex (nsV v .none),.inst .lex 1,a,b,c,d,f,g,h,.list rows,.list toks]=([D.ref 2]=[D.ref 2] /\ ([]:List (Str × D))=[] /\ ∃ m,ok [.cell (some (.ref 2)),.ns .lex (nsV v .none),.inst .lex 1,a,b,c,d,f,g,h,.list rows,.list toks] m /\ szL rows.length (szL toks.length (rdAgain gt (elP ok) pt Ex Q k n (rdLoc l u p gv 10 ends (some (.str x))) [.cell (some (.ref 2)),.ns .lex (nsV v .none),.inst .lex 1,a,b,c,d,f,g,h,.list (rows++[.tup [.str x,.str m]]),.list (toks++[.str x])]))):=by kernel_rfl!
theorem Tz:rdB gt (elP ok) pt Ex Q k n (rdLoc l u p gv 10 ends (some (.str (y :: x)))) [.cell (some (.ref 2)),.ns .lex (nsV v (.str [])),.inst .lex 1,a,b,c,d,f,g,h,.list rows,.list toks]=([D.ref 2]=[D.ref 2] /\ ([]:List (Str × D))=[] /\ ∃ m,ok [.cell (some (.ref 2)),.ns .lex (nsV v (.str [])),.inst .lex 1,a,b,c,d,f,g,h,.list rows,.list toks] m /\ szL rows.length (szL toks.length (rdAgain gt (elP ok) pt Ex Q k n (rdLoc l u p gv 10 ends (some (.str (y :: x)))) [.cell (some (.ref 2)),.ns .lex (nsV v (.str [])),.inst .lex 1,a,b,c,d,f,g,h,.list (rows++[.tup [.str (y :: x),.str m]]),.list (toks++[.str (y :: x)])]))):=by kernel_rfl!
theorem Sf:rdB gt (elP ok) pt Ex Q k n (rdLoc l u p gv 10 ends (some (.none))) [.cell (some (.ref 2)),.ns .lex (nsV v .none),.inst .lex 1,a,b,c,d,f,g,h,.list rows,.list toks]=([D.ref 2]=[D.ref 2] /\ ([]:List (Str × D))=[] /\ ∃ m,ok [.cell (some (.ref 2)),.ns .lex (nsV v .none),.inst .lex 1,a,b,c,d,f,g,h,.list rows,.list toks] m /\ szL rows.length (rdAgain gt (elP ok) pt Ex Q k n (rdLoc l u p gv 10 (ends + 1) (some (.none))) [.cell (some (.ref 2)),.ns .lex (nsV v .none),.inst .lex 1,a,b,c,d,f,g,h,.list (rows++[.tup [.none,.str m]]),.list toks])):=by kernel_rfl!
theorem TQ:rdB gt (elP ok) pt Ex Q k n (rdLoc l u p gv 10 ends (some (.str []))) [.cell (some (.ref 2)),.ns .lex (nsV v (.str [])),.inst .lex 1,a,b,c,d,f,g,h,.list rows,.list toks]=([D.ref 2]=[D.ref 2] /\ ([]:List (Str × D))=[] /\ ∃ m,ok [.cell (some (.ref 2)),.ns .lex (nsV v (.str [])),.inst .lex 1,a,b,c,d,f,g,h,.list rows,.list toks] m /\ szL rows.length (rdAgain gt (elP ok) pt Ex Q k n (rdLoc l u p gv 10 (ends + 1) (some (.str []))) [.cell (some (.ref 2)),.ns .lex (nsV v (.str [])),.inst .lex 1,a,b,c,d,f,g,h,.list (rows++[.tup [.str [],.str m]]),.list toks])):=by kernel_rfl!
theorem WP:rdEx1 gt (elP ok) pt Ex Q k n .value (rdLoc l u p gv 10 ends t) [.cell (some (.ref 2)),.ns .lex (nsV v e),.inst .lex 1,a,b,c,d,f,g,h,.list rows,.list toks]=([D.ref 2]=[D.ref 2] /\ ([]:List (Str × D))=[] /\ ∃ m,ok [.cell (some (.ref 2)),.ns .lex (nsV v e),.inst .lex 1,a,b,c,d,f,g,h,.list rows,.list toks] m /\ szL rows.length (rdAgain gt (elP ok) pt Ex Q k n (rdLoc l u p gv 10 (ends + 1) t) [.cell (some (.ref 2)),.ns .lex (nsV v e),.inst .lex 1,a,b,c,d,f,g,h,.list (rows++[.tup [.str m]]),.list toks])):=by kernel_rfl!
end
noncomputable def pcR:LN->Option D
 | []=>none
 | _ :: _=>some (.ref 7)
noncomputable def lexR (k:Nat)(cf:Cfg)(S:LX):List (Option D):=
 [some (stD S.st),some (.str S.tok),some (.int 0),some (.bool cf.posix),some (.str whites),some (.str cf.cm),some (.str cf.wc),some (.str quots),some (.str [92]),some (.str [34]),some (.bool cf.ws),some (.ref k),some (.int S.ln),some (.str cf.pc),pcR cf.pc,some (.ref 5),some (.ref 6),some (eofD cf.posix),some .none,some cf.inf]
noncomputable def RU (cf:Cfg)(buf:LN)(S:LX)(lbuf lname:LN)(tl:Led):Led:=
 .ns .lex (lexR (uIx cf.pc + 2) cf S) :: .inst .lex 1 :: .ns .sio [some (.str lbuf),some (.int 0),some (.str [10])] :: .inst .sio 3 :: .deque (sts S.pb) :: .deque [.tup [.str lname,.ref 4,.int 1]] :: pcL cf.pc S (.ns .sio [some (.str buf),some (.int (Int.ofNat S.pos)),some (.str [10])] :: .inst .sio (uIx cf.pc + 1) :: tl)
noncomputable def RO (cf:Cfg)(u:Nat)(S:LX)(lbuf lname:LN)(tl:Led):Led:=
 .ns .lex (lexR 4 (cfL cf lname) S) :: .inst .lex 1 :: .ns .sio [some (.str lbuf),some (.int (Int.ofNat S.pos)),some (.str [10])] :: .inst .sio 3 :: .deque (sts S.pb) :: .deque [] :: pcL cf.pc S (.ns .sio [some .none,some (.int (Int.ofNat u)),some (.str [10])] :: .inst .sio (uIx cf.pc + 1) :: tl)
noncomputable def Ph.hd (T:Two)(tl:Led):Ph->Led
 | .up S=>RU T.cf T.ubuf S T.lbuf T.lname tl
 | .lo u S=>RO T.cf u S T.lbuf T.lname tl
noncomputable def RL (T:Two)(ph:Ph)(tl:Led):Led:=.cell (some (.ref 2)) :: ph.hd T tl
noncomputable def rR:LN->LN
 | []=>[1,2,3,4,5,6,7,8]
 | _ :: _=>[1,2,3,4,5,6,7,8,9]
section
variable (p w:Bool)(wc cm buf lbuf lname:LN)(infs:LN)(fs:LD)(tl:Led)(S S':LX)(n a u:Nat)(m:LN)
theorem OX (k:Nat):rnOD [1,2,3,4,5,6,7,8] n (.ns .lex (lexK k ⟨p,w,wc,cm,[],.str infs,fs⟩ S))=.ns .lex (some (stD S.st) :: some (.str S.tok) :: some (.int 0) :: some (.bool p) :: some (.str whites) :: some (.str cm) :: some (.str wc) :: some (.str quots) :: some (.str [92]) :: some (.str [34]) :: some (.bool w) :: some (rnD [1,2,3,4,5,6,7,8] n (.ref k)) :: some (.int S.ln) :: some (.str []) :: none :: some (.ref 5) :: some (.ref 6) :: some (eofD p) :: some .none :: some (.str infs) :: []):=by
 have e:rnOD [1,2,3,4,5,6,7,8] n (.ns .lex (lexK k ⟨p,w,wc,cm,[],.str infs,fs⟩ S))=.ns .lex (some (rnD [1,2,3,4,5,6,7,8] n (stD S.st)) :: some (.str S.tok) :: some (.int 0) :: some (.bool p) :: some (.str whites) :: some (.str cm) :: some (.str wc) :: some (.str quots) :: some (.str [92]) :: some (.str [34]) :: some (.bool w) :: some (rnD [1,2,3,4,5,6,7,8] n (.ref k)) :: some (.int S.ln) :: some (.str []) :: none :: some (.ref 5) :: some (.ref 6) :: some (rnD [1,2,3,4,5,6,7,8] n (eofD p)) :: some .none :: some (.str infs) :: []):=by kernel_rfl!
 rw [e,OG,Pf]
theorem OM (k:Nat):rnOD [1,2,3,4,5,6,7,8,9] n (.ns .lex (lexK k ⟨p,w,wc,cm,a :: m,.str infs,fs⟩ S))=.ns .lex (some (stD S.st) :: some (.str S.tok) :: some (.int 0) :: some (.bool p) :: some (.str whites) :: some (.str cm) :: some (.str wc) :: some (.str quots) :: some (.str [92]) :: some (.str [34]) :: some (.bool w) :: some (rnD [1,2,3,4,5,6,7,8,9] n (.ref k)) :: some (.int S.ln) :: some (.str (a :: m)) :: some (.ref 7) :: some (.ref 5) :: some (.ref 6) :: some (eofD p) :: some .none :: some (.str infs) :: []):=by
 have e:rnOD [1,2,3,4,5,6,7,8,9] n (.ns .lex (lexK k ⟨p,w,wc,cm,a :: m,.str infs,fs⟩ S))=.ns .lex (some (rnD [1,2,3,4,5,6,7,8,9] n (stD S.st)) :: some (.str S.tok) :: some (.int 0) :: some (.bool p) :: some (.str whites) :: some (.str cm) :: some (.str wc) :: some (.str quots) :: some (.str [92]) :: some (.str [34]) :: some (.bool w) :: some (rnD [1,2,3,4,5,6,7,8,9] n (.ref k)) :: some (.int S.ln) :: some (.str (a :: m)) :: some (.ref 7) :: some (.ref 5) :: some (.ref 6) :: some (rnD [1,2,3,4,5,6,7,8,9] n (eofD p)) :: some .none :: some (.str infs) :: []):=by kernel_rfl!
 rw [e,OG,Pf]
theorem Jee (T:Two):(Ph.led T [] (.up S)).map (rnOD (rR T.cf.pc) n)=Ph.hd T [] (.up S):=by
 obtain ⟨⟨p,w,wc,cm,pc,inf,fs⟩,infs,ubuf,lbuf,lname,ok⟩:=T;obtain rfl:inf=.str infs:=ok
 cases pc with
 | nil=>
  show rnOD [1,2,3,4,5,6,7,8] n (.ns .lex (lexK 7 ⟨p,w,wc,cm,[],.str infs,fs⟩ S)) :: .inst .lex 1 :: .ns .sio [some (.str lbuf),some (.int 0),some (.str [10])] :: .inst .sio 3 :: .deque (rnL [1,2,3,4,5,6,7,8] n (sts S.pb)) :: _=_;rw [OX,Ku];rfl
 | cons a m=>
  show rnOD [1,2,3,4,5,6,7,8,9] n (.ns .lex (lexK 8 ⟨p,w,wc,cm,a :: m,.str infs,fs⟩ S)) :: .inst .lex 1 :: .ns .sio [some (.str lbuf),some (.int 0),some (.str [10])] :: .inst .sio 3 :: .deque (rnL [1,2,3,4,5,6,7,8,9] n (sts S.pb)) :: .deque _ :: .deque (rnL [1,2,3,4,5,6,7,8,9] n (pbcL S.pbc)) :: _=_;rw [OM,Ku,Q3];rfl
theorem Jdt (T:Two):(Ph.led T [] (.lo u S)).map (rnOD (rR T.cf.pc) n)=Ph.hd T [] (.lo u S):=by
 obtain ⟨⟨p,w,wc,cm,pc,inf,fs⟩,infs,ubuf,lbuf,lname,ok⟩:=T
 cases pc with
 | nil=>
  show rnOD [1,2,3,4,5,6,7,8] n (.ns .lex (lexK 3 ⟨p,w,wc,cm,[],.str lname,[]⟩ S)) :: .inst .lex 1 :: .ns .sio [some (.str lbuf),some (.int (Int.ofNat S.pos)),some (.str [10])] :: .inst .sio 3 :: .deque (rnL [1,2,3,4,5,6,7,8] n (sts S.pb)) :: _=_;rw [OX,Ku];rfl
 | cons a m=>
  show rnOD [1,2,3,4,5,6,7,8,9] n (.ns .lex (lexK 3 ⟨p,w,wc,cm,a :: m,.str lname,[]⟩ S)) :: .inst .lex 1 :: .ns .sio [some (.str lbuf),some (.int (Int.ofNat S.pos)),some (.str [10])] :: .inst .sio 3 :: .deque (rnL [1,2,3,4,5,6,7,8,9] n (sts S.pb)) :: .deque _ :: .deque (rnL [1,2,3,4,5,6,7,8,9] n (pbcL S.pbc)) :: _=_;rw [OM,Ku,Q3];rfl
theorem Zz (T:Two)(ph:Ph):(ph.led T []).map (rnOD (rR T.cf.pc) n)=ph.hd T []:=by
 cases ph with
 | up S=>exact Jee S n T
 | lo u S=>exact Jdt S n u T
theorem J8 (T:Two)(ph:Ph):ph.hd T tl=ph.hd T []++tl /\ (ph.hd T []).length=(rR T.cf.pc).length /\ (ph.led T []).length=(rR T.cf.pc).length:=by
 obtain ⟨⟨p,w,wc,cm,pc,inf,fs⟩,infs,ubuf,lbuf,lname,ok⟩:=T;cases ph <;> cases pc <;> exact ⟨rfl,rfl,rfl⟩
theorem OO:∀ (l1 l2 pre:Led),l1.length=l2.length->putAll (pre++(l1++tl)) (List.range' pre.length l1.length) l2=pre++(l2++tl)
 | [],[],pre,_=>rfl
 | a :: l1,b :: l2,pre,h=>by
  have ih:=OO l1 l2 (pre++[a]) (Nat.succ.inj h);rw [List.append_assoc,List.length_append,List.append_assoc] at ih;show (putAll (pre++([a]++(l1++tl))) (List.range' (pre.length + [a].length) l1.length) l2).set pre.length b=_;rw [ih,List.set_append_right _ _ (Nat.le_refl _),Nat.sub_self];rfl
theorem Jbs {pc:LN}{o:OD}{l1 l2:Led}(h1:l1.length=(rR pc).length)(h2:l2.length=(rR pc).length):putAll (o :: (l1++tl)) (rR pc) l2=o :: (l2++tl):=by
 have e:rR pc=List.range' 1 l1.length:=by rw [h1];cases pc <;> rfl
 rw [e];exact OO tl l1 l2 [o] (h1.trans h2.symm)
theorem US (T:Two)(ph ph':Ph):unf (rR T.cf.pc) (RL T ph tl) (ph'.led T [])=RL T ph' tl:=by
 have hl:=(J8 [] T ph').2.2;show putAll _ _ (List.map _ (List.take _ _))++List.map _ (List.drop _ _)=_;rw [<-hl,List.take_length,List.drop_length,Zz,List.map_nil,List.append_nil];unfold RL;rw [(J8 tl T ph).1,(J8 tl T ph').1,Jbs tl (J8 [] T ph).2.1 (J8 [] T ph').2.1]
end
theorem GU.tok {T:Two}{ph ph':Ph}{d:D}(h:GU T ph (some d) ph'):tokOk T.cf.posix d:=by
 generalize e:some d=o at h
 cases h with
 | uPop=>obtain rfl:=Option.some.inj e;exact trivial
 | uRead=>obtain rfl:=Option.some.inj e;exact Lw ..
 | uRs=>injection e
 | uEof h r e' g=>subst e;exact g.tok
 | lo g=>subst e;exact g.tok
theorem ZV (pc:LN):(rR pc).Nodup /\ ∀ (t j:Nat),(rR pc)[t]?=some j->j=t + 1:=by
 have e:rR pc=List.range' 1 (rR pc).length:=by cases pc <;> rfl
 rw [e];refine ⟨List.nodup_range',fun t j h=>?_⟩;refine E11 (List.getElem?_eq_some_iff.mp h) fun _ h=>?_;rw [<-h,List.getElem_range'];lia
noncomputable def hGR:Jc:=fun args kws led Ex Q=>args=[.ref 2] /\ kws=[] /\ ∃ T tl ph o ph',led=RL T ph tl /\ GU T ph o ph' /\ gtQ Ex Q o (RL T ph' tl)
theorem Jae (P:Params):Ja (KK P) 15 (.val 683) hGR:=by
 refine Ja.imp (Jt (Jek P)) fun args kws led Ex Q hq=>?_;refine E03 hq fun e1 e2 hq0=>?_;refine E53 hq0 fun T tl ph o ph' e3 g q=>?_;subst e1 e2 e3;have hf:=J8 tl T ph;refine ⟨rR T.cf.pc,[.ref 1],[],ph.led T [],?_,rfl,(ZV _).1,hf.2.2,fun t j o x1 x2=>?_,rfl,rfl,T,[],ph,o,ph',rfl,g,?_⟩
 · have:∀ n,rnL (rR T.cf.pc) n [.ref 1]=[.ref 2]:=fun n=>by cases T.cf.pc <;> rfl
   rw [this]
 · obtain rfl:=(ZV _).2 t j x1;have h1:((ph.led T []).map (rnOD (rR T.cf.pc) (RL T ph tl).length))[t]?=some (rnOD (rR T.cf.pc) (RL T ph tl).length o):=by rw [List.getElem?_map,x2];rfl
   rw [Zz] at h1;show (ph.hd T tl)[t]?=_;rw [hf.1,List.getElem?_append_left (gel h1)];exact h1
 · cases o with
   | none=>
    show Ex .value (unf _ _ _);rw [US];exact q
   | some d=>
    show Q (rnD _ _ d) (unf _ _ _);rw [US];have ht:=g.tok
    cases d with
    | none=>exact q
    | str=>exact q
    | _=>exact ht.elim
noncomputable def forPs:Stmt->Expr × List Stmt × List Stmt
 | .For t _ b o _=>(t,b,o)
 | _=>(.Constant .none 0 default,[],[])
noncomputable def rdFs:Expr × List Stmt × List Stmt:=forPs (stAt (bodOf (fnD 30)) 6)
noncomputable def retOf:Stmt->Expr
 | .Return (some e) _=>e
 | _=>.Constant .none 0 default
noncomputable def tupAt:Expr->Nat->Expr
 | .Tuple es _ _,i=>match nth es i with
  | some e=>e
  | none=>.Constant .none 0 default
 | _,_=>.Constant .none 0 default
noncomputable def compE:Expr->Expr
 | .ListComp e _ _ _=>e
 | _=>.Constant .none 0 default
noncomputable def compG:Expr->Comprehension
 | .ListComp _ (g :: _) _ _=>g
 | _=>⟨.Constant .none 0 default,.Constant .none 0 default,[],0⟩
noncomputable def compS:Expr->Scope
 | .ListComp _ _ sc _=>sc
 | _=>default
noncomputable def rdCe:Expr:=tupAt (retOf (stAt (bodOf (fnD 30)) 7)) 1
section
variable (gt el pt:Jc)(ok:Led->LN->Prop)(Ex:Ec->Led->Prop)(Q:D->Led->Prop)
noncomputable def rdRet:QF:=seqW (run 33 (XRd gt el pt)) ((bodOf (fnD 30)).drop 7) (fun c _ led=>Ex c led) fun fl _ led=>Q fl.val led
noncomputable def rdF (k:Nat)(tr:LD)(xs:LD)(loc:Loc)(led:Led):Prop:=forL (XRd gt el pt) (run 33 (XRd gt el pt)) true (k + 1) (fun led=>led[k]?=some (.list tr)) rdFs.1 rdFs.2.1 rdFs.2.2 (fun c _ led=>Ex c led) (rdRet gt el pt Ex Q) xs loc led
noncomputable def rdX:X:=compX (XRd gt el pt) (compS rdCe) [(s "lexer",0)]
noncomputable def rdC (r:Nat)(toks:LD)(K:Led->Prop)(xs:LD)(loc:Loc)(led:Led):Prop:=compL (rdX gt el pt) (run 30 (rdX gt el pt)) true (r + 4) (r + 3) (fun led=>led[r + 1]?=some (.list toks)) (compG rdCe).target (compG rdCe).ifs (compE rdCe) K xs loc led
end
section
variable (gt pt:Jc)(ok:Led->LN->Prop)(Ex:Ec->Led->Prop)(Q:D->Led->Prop)(K:Led->Prop)(l u:LN)(p gv:D)(ends:Int)(t:Option D)(a b c d f g h:OD)(v:Nat->Option D)(e y:D)(rows toks rt ys:LD)(xs:LD)
theorem Xw:rdEnd gt (elP ok) pt Ex Q .next (rdLoc l u p gv 9 ends t) [.cell (some (.ref 2)),.ns .lex (nsV v e),.inst .lex 1,a,b,c,d,f,g,.list rows,.list toks]=szL toks.length (nth [.cell (some (.ref 2)),.ns .lex (nsV v e),.inst .lex 1,a,b,c,d,f,g,.list rows,.list toks] 10=some (.list toks) /\ (([.cell (some (.ref 2)),.ns .lex (nsV v e),.inst .lex 1,a,b,c,d,f,g,.list rows,.list toks]:Led)++[.list toks.reverse])[11]?=some (.list toks.reverse) /\ rdF gt (elP ok) pt Ex Q 11 toks.reverse toks.reverse (rdLoc l u p gv 9 ends t) ([.cell (some (.ref 2)),.ns .lex (nsV v e),.inst .lex 1,a,b,c,d,f,g,.list rows,.list toks]++[.list toks.reverse])):=by kernel_rfl!
theorem T5:rdF gt (elP ok) pt Ex Q 11 rt (y :: xs) (rdLoc l u p gv 9 ends t) [.cell (some (.ref 2)),.ns .lex (nsV v e),.inst .lex 1,a,b,c,d,f,g,.list rows,.list toks,.list rt]=pt [.ref 2,y] [] [.cell (some (.ref 2)),.ns .lex (nsV v e),.inst .lex 1,a,b,c,d,f,g,.list rows,.list toks,.list rt] Ex (fun _ led=>∃ led',Tidy 12 (rdLoc l u p gv 9 ends (some y)) led led' /\ led'[11]?=some (.list rt) /\ rdF gt (elP ok) pt Ex Q 11 rt xs (rdLoc l u p gv 9 ends (some y)) led'):=by kernel_rfl!
theorem PY:rdF gt (elP ok) pt Ex Q 11 rt [] (rdLoc l u p gv 9 ends t) [.cell (some (.ref 2)),.ns .lex (nsV v e),.inst .lex 1,a,b,c,d,f,g,.list rows,.list toks,.list rt]=(([.cell (some (.ref 2)),.ns .lex (nsV v e),.inst .lex 1,a,b,c,d,f,g,.list rows,.list toks,.list rt,.list []]:Led)[10]?=some (.list toks) /\ rdC gt (elP ok) pt 9 toks (fun led=>Q (.tup [.ref 9,.ref 12]) led) toks [none,none] [.cell (some (.ref 2)),.ns .lex (nsV v e),.inst .lex 1,a,b,c,d,f,g,.list rows,.list toks,.list rt,.list []]):=by kernel_rfl!
theorem XM:rdC gt (elP ok) pt 9 toks K (y :: xs) [none,t] [.cell (some (.ref 2)),.ns .lex (nsV v e),.inst .lex 1,a,b,c,d,f,g,.list rows,.list toks,.list rt,.list ys]=gt [.ref 2] [] [.cell (some (.ref 2)),.ns .lex (nsV v e),.inst .lex 1,a,b,c,d,f,g,.list rows,.list toks,.list rt,.list ys] (fun _ _=>False) (fun d led=>oL led 12 fun ys=>szL ys.length (∃ led',Tidy 13 [none,some y] (led.set 12 (.list (ys++[d]))) led' /\ led'[10]?=some (.list toks) /\ rdC gt (elP ok) pt 9 toks K xs [none,some y] led')):=by kernel_rfl!
theorem WQ:rdEnd gt (elP ok) pt Ex Q .next (rdLoc l u p gv 10 ends t) [.cell (some (.ref 2)),.ns .lex (nsV v e),.inst .lex 1,a,b,c,d,f,g,h,.list rows,.list toks]=szL toks.length (nth [.cell (some (.ref 2)),.ns .lex (nsV v e),.inst .lex 1,a,b,c,d,f,g,h,.list rows,.list toks] 11=some (.list toks) /\ (([.cell (some (.ref 2)),.ns .lex (nsV v e),.inst .lex 1,a,b,c,d,f,g,h,.list rows,.list toks]:Led)++[.list toks.reverse])[12]?=some (.list toks.reverse) /\ rdF gt (elP ok) pt Ex Q 12 toks.reverse toks.reverse (rdLoc l u p gv 10 ends t) ([.cell (some (.ref 2)),.ns .lex (nsV v e),.inst .lex 1,a,b,c,d,f,g,h,.list rows,.list toks]++[.list toks.reverse])):=by kernel_rfl!
theorem So:rdF gt (elP ok) pt Ex Q 12 rt (y :: xs) (rdLoc l u p gv 10 ends t) [.cell (some (.ref 2)),.ns .lex (nsV v e),.inst .lex 1,a,b,c,d,f,g,h,.list rows,.list toks,.list rt]=pt [.ref 2,y] [] [.cell (some (.ref 2)),.ns .lex (nsV v e),.inst .lex 1,a,b,c,d,f,g,h,.list rows,.list toks,.list rt] Ex (fun _ led=>∃ led',Tidy 13 (rdLoc l u p gv 10 ends (some y)) led led' /\ led'[12]?=some (.list rt) /\ rdF gt (elP ok) pt Ex Q 12 rt xs (rdLoc l u p gv 10 ends (some y)) led'):=by kernel_rfl!
theorem PM:rdF gt (elP ok) pt Ex Q 12 rt [] (rdLoc l u p gv 10 ends t) [.cell (some (.ref 2)),.ns .lex (nsV v e),.inst .lex 1,a,b,c,d,f,g,h,.list rows,.list toks,.list rt]=(([.cell (some (.ref 2)),.ns .lex (nsV v e),.inst .lex 1,a,b,c,d,f,g,h,.list rows,.list toks,.list rt,.list []]:Led)[11]?=some (.list toks) /\ rdC gt (elP ok) pt 10 toks (fun led=>Q (.tup [.ref 10,.ref 13]) led) toks [none,none] [.cell (some (.ref 2)),.ns .lex (nsV v e),.inst .lex 1,a,b,c,d,f,g,h,.list rows,.list toks,.list rt,.list []]):=by kernel_rfl!
theorem Xu:rdC gt (elP ok) pt 10 toks K (y :: xs) [none,t] [.cell (some (.ref 2)),.ns .lex (nsV v e),.inst .lex 1,a,b,c,d,f,g,h,.list rows,.list toks,.list rt,.list ys]=gt [.ref 2] [] [.cell (some (.ref 2)),.ns .lex (nsV v e),.inst .lex 1,a,b,c,d,f,g,h,.list rows,.list toks,.list rt,.list ys] (fun _ _=>False) (fun d led=>oL led 13 fun ys=>szL ys.length (∃ led',Tidy 14 [none,some y] (led.set 13 (.list (ys++[d]))) led' /\ led'[11]?=some (.list toks) /\ rdC gt (elP ok) pt 10 toks K xs [none,some y] led')):=by kernel_rfl!
end
theorem Vt (gt el pt:Jc)(r:Nat)(toks:LD)(K:Led->Prop)(loc:Loc)(led:Led):rdC gt el pt r toks K [] loc led=K led:=by kernel_rfl!
inductive Pm where
 | no | yes | own
noncomputable def Pm.given:Pm->D
 | .no=>.bool false
 | .yes=>.bool true
 | .own=>.str (cs ";a+=")
noncomputable def Pm.pc:Pm->LN
 | .no=>[]
 | .yes=>cs "();<>|&"
 | .own=>cs ";a+="
noncomputable def wcR (p:Bool):LN->LN
 | []=>wcB p
 | a :: m=>outOf (a :: m) (wcB p++cs "~-./*?=")
noncomputable def cfR (p:Bool)(m:Pm):Cfg:=⟨p,false,wcR p m.pc,[35],m.pc,.str (cs "upper"),[]⟩
noncomputable def TT (p:Bool)(m:Pm)(l u:LN):Two:=⟨cfR p m,cs "upper",u,l,cs "lower",rfl⟩
noncomputable def rIx:Pm->Nat
 | .no=>9
 | _=>10
section
variable (gt pt:Jc)(ok:Led->LN->Prop)(Ex:Ec->Led->Prop)(Q:D->Led->Prop)(l u:LN)
noncomputable def rdIn (p:Bool)(m:Pm):Prop:=∃ n,rdW gt (elP ok) pt Ex Q (RL (TT p m l u) (.up S0) [.list [],.list []]).length n (rdLoc l u (.bool p) m.given (rIx m) 0 none) (RL (TT p m l u) (.up S0) [.list [],.list []])
theorem ZH:sRd gt (elP ok) pt [.str l,.str u,.bool false,Pm.given .no] [] [] Ex Q=(([]:Led)=[] /\ ([]:List (Str × D))=[] /\ 4=4 /\ (Value->Value->Value->Value->rdIn gt pt ok Ex Q l u false .no)):=by kernel_rfl!
theorem ZM:sRd gt (elP ok) pt [.str l,.str u,.bool true,Pm.given .no] [] [] Ex Q=(([]:Led)=[] /\ ([]:List (Str × D))=[] /\ 4=4 /\ (Value->Value->Value->Value->rdIn gt pt ok Ex Q l u true .no)):=by kernel_rfl!
theorem YN:sRd gt (elP ok) pt [.str l,.str u,.bool false,Pm.given .yes] [] [] Ex Q=(([]:Led)=[] /\ ([]:List (Str × D))=[] /\ 4=4 /\ (Value->Value->∀ v:Value,(some (D.any v)=some (D.any v)) /\ (Value->Value->rdIn gt pt ok Ex Q l u false .yes))):=by kernel_rfl!
theorem Jbn:sRd gt (elP ok) pt [.str l,.str u,.bool true,Pm.given .yes] [] [] Ex Q=(([]:Led)=[] /\ ([]:List (Str × D))=[] /\ 4=4 /\ (Value->Value->∀ v:Value,(some (D.any v)=some (D.any v)) /\ (Value->Value->rdIn gt pt ok Ex Q l u true .yes))):=by kernel_rfl!
theorem Zh:sRd gt (elP ok) pt [.str l,.str u,.bool false,Pm.given .own] [] [] Ex Q=(([]:Led)=[] /\ ([]:List (Str × D))=[] /\ 4=4 /\ (Value->Value->∀ v:Value,(some (D.any v)=some (D.any v)) /\ (Value->Value->rdIn gt pt ok Ex Q l u false .own))):=by kernel_rfl!
theorem ZA:sRd gt (elP ok) pt [.str l,.str u,.bool true,Pm.given .own] [] [] Ex Q=(([]:Led)=[] /\ ([]:List (Str × D))=[] /\ 4=4 /\ (Value->Value->∀ v:Value,(some (D.any v)=some (D.any v)) /\ (Value->Value->rdIn gt pt ok Ex Q l u true .own))):=by kernel_rfl!
end
section
variable (o a b:OD)(v:Nat->Option D)(tl:Led)(Ex:Ec->Led->Prop)(Q:D->Led->Prop)(n x:LN)(i:Int)(d:D)(ds:LD)
theorem Jec:sEl [.ref 2] [] (o :: .ns .lex [v 0,v 1,v 2,v 3,v 4,v 5,v 6,v 7,v 8,v 9,v 10,v 11,some (.int i),v 13,v 14,v 15,v 16,v 17,v 18,some (.str n)] :: .inst .lex 1 :: tl) Ex Q=tr (leI 0 i) (tr (ltI i 10000000000) (szL n.length (Q (.str (pctD n i)) (o :: .ns .lex [v 0,v 1,v 2,v 3,v 4,v 5,v 6,v 7,v 8,v 9,v 10,v 11,some (.int i),v 13,v 14,v 15,v 16,v 17,v 18,some (.str n)] :: .inst .lex 1 :: tl)))):=by kernel_rfl!
theorem Jbm:sPt [.ref 2,d] [] (o :: .ns .lex [v 0,v 1,some (.int 0),v 3,v 4,v 5,v 6,v 7,v 8,v 9,v 10,v 11,v 12,v 13,v 14,some (.ref 5),v 16,v 17,v 18,v 19] :: .inst .lex 1 :: a :: b :: .deque ds :: tl) Ex Q=szL ds.length (Q .none (o :: .ns .lex [v 0,v 1,some (.int 0),v 3,v 4,v 5,v 6,v 7,v 8,v 9,v 10,v 11,v 12,v 13,v 14,some (.ref 5),v 16,v 17,v 18,v 19] :: .inst .lex 1 :: a :: b :: .deque (d :: ds) :: tl)):=by kernel_rfl!
end
noncomputable def Ph.ln:Ph->Int
 | .up S=>S.ln
 | .lo _ S=>S.ln
noncomputable def Ph.pb:Ph->List (LN)
 | .up S=>S.pb
 | .lo _ S=>S.pb
noncomputable def Ph.setPb (x:List (LN)):Ph->Ph
 | .up S=>.up { S with pb:=x }
 | .lo u S=>.lo u { S with pb:=x }
noncomputable def Ph.name (T:Two):Ph->LN
 | .up _=>T.infs
 | .lo _ _=>T.lname
structure OkM (T:Two)(ph:Ph)(m:LN):Prop where
 eq:m=pctD (ph.name T) ph.ln
 ge:0 <= ph.ln
 lt:ph.ln < 10000000000
 len:(ph.name T).length <= 100000
noncomputable def okE (led:Led)(m:LN):Prop:=∃ T ph tl,led=RL T ph tl /\ OkM T ph m
theorem VA (T:Two)(ph:Ph)(tl:Led):∃ (o:OD) (v:Nat->Option D) (tl':Led),RL T ph tl=o :: .ns .lex [v 0,v 1,v 2,v 3,v 4,v 5,v 6,v 7,v 8,v 9,v 10,v 11,some (.int ph.ln),v 13,v 14,v 15,v 16,v 17,v 18,some (.str (ph.name T))] :: .inst .lex 1 :: tl':=by
 cases ph with
 | up S=>
  obtain ⟨⟨p,w,wc,cm,pc,inf,fs⟩,infs,ubuf,lbuf,lname,ok⟩:=T;obtain rfl:inf=.str infs:=ok;exact ⟨_,fun i=>(nth (lexR (uIx pc + 2) ⟨p,w,wc,cm,pc,.str infs,fs⟩ S) i).getD none,_,rfl⟩
 | lo u S=>exact ⟨_,fun i=>(nth (lexR 4 (cfL T.cf T.lname) S) i).getD none,_,rfl⟩
theorem Jc4 (P:Params):SpecOkC false (KK P) 3 (.val 705) (elP okE):=by
 refine Ja.imp (oEl P) fun args kws led Ex Q hq=>?_;refine E03 hq fun e1 e2 hq0=>?_;refine E12 hq0 fun m hq1=>?_;clear hq0;refine E32 hq1 fun T ph tl e3 h=>?_;intro q;obtain ⟨rfl,h1,h2,h3⟩:=h;subst e1 e2 e3;refine E31 (VA T ph tl) fun o v tl' e=>?_;rw [e] at q ⊢;rw [Jec];exact Ju (decide_eq_true h1) (Ju (decide_eq_true h2) (Jf.mpr ⟨h3,q⟩))
noncomputable def hPt:Jc:=fun args kws led Ex Q=>∃ T ph tl x,args=[.ref 2,.str x] /\ kws=[] /\ led=RL T ph tl /\ ph.pb.length <= 1000 /\ Q .none (RL T (ph.setPb (x :: ph.pb)) tl)
theorem Jch (P:Params):Ja (KK P) 3 (.val 661) hPt:=by
 refine Ja.imp (oPt P) fun args kws led Ex Q hq=>?_;refine E45 hq fun T ph tl x e1 e2 e3 h q=>?_;subst e1 e2 e3
 cases ph with
 | up S=>
  refine (Jbm _ _ _ (fun i=>(nth (lexR (uIx T.cf.pc + 2) T.cf S) i).getD none) _ Ex Q (.str x) (sts S.pb)).symm ▸ ?_;exact Jf.mpr ⟨by rw [KZ];have:S.pb.length <= 1000:=h;lia,q⟩
 | lo u S=>
  refine (Jbm _ _ _ (fun i=>(nth (lexR 4 (cfL T.cf T.lname) S) i).getD none) _ Ex Q (.str x) (sts S.pb)).symm ▸ ?_;exact Jf.mpr ⟨by rw [KZ];have:S.pb.length <= 1000:=h;lia,q⟩
noncomputable def rI:LN->Nat
 | []=>9
 | _ :: _=>10
noncomputable def fm (mid:Led)(v:Nat->Option D)(e:D)(tl:Led):Led:=.cell (some (.ref 2)) :: .ns .lex (nsV v e) :: .inst .lex 1 :: (mid++tl)
structure RE (R:Nat)(mid:Led):Prop where
 len:mid.length + 3=R
 test:∀ (l u:LN) (p gv:D) (ends:Int) (t:Option D) (v:Nat->Option D) (e:D) (rows toks:LD) (E1:QE) (K:Bool->Loc->Led->Prop),(run 34 (XRd hGR (elP okE) hPt)).ts rdP.1 (rdLoc l u p gv R ends t) (fm mid v e [.list rows,.list toks]) E1 K=ife (ltI ends 2) (szL rows.length (K (ltI (Int.ofNat rows.length) 60) (rdLoc l u p gv R ends t) (fm mid v e [.list rows,.list toks]))) (K false (rdLoc l u p gv R ends t) (fm mid v e [.list rows,.list toks]))
 body:∀ (Ex:Ec->Led->Prop) (Q:D->Led->Prop) (k n:Nat) (l u:LN) (p gv:D) (ends:Int) (t:Option D) (v:Nat->Option D) (e:D) (rows toks:LD),rdK hGR (elP okE) hPt Ex Q k n true (rdLoc l u p gv R ends t) (fm mid v e [.list rows,.list toks])=hGR [.ref 2] [] (fm mid v e [.list rows,.list toks]) (fun ec led=>rdEx1 hGR (elP okE) hPt Ex Q k n ec (rdLoc l u p gv R ends t) led) (fun d led=>rdB hGR (elP okE) hPt Ex Q k n (rdLoc l u p gv R ends (some d)) led)
 tokT:∀ (Ex:Ec->Led->Prop) (Q:D->Led->Prop) (k n:Nat) (l u:LN) (p gv:D) (ends:Int) (v:Nat->Option D) (rows toks:LD) (x:LN),rdB hGR (elP okE) hPt Ex Q k n (rdLoc l u p gv R ends (some (.str x))) (fm mid v .none [.list rows,.list toks])=([D.ref 2]=[D.ref 2] /\ ([]:List (Str × D))=[] /\ ∃ m,okE (fm mid v .none [.list rows,.list toks]) m /\ szL rows.length (szL toks.length (rdAgain hGR (elP okE) hPt Ex Q k n (rdLoc l u p gv R ends (some (.str x))) (fm mid v .none [.list (rows++[.tup [.str x,.str m]]),.list (toks++[.str x])]))))
 tokF:∀ (Ex:Ec->Led->Prop) (Q:D->Led->Prop) (k n:Nat) (l u:LN) (p gv:D) (ends:Int) (v:Nat->Option D) (rows toks:LD) (x:LN) (y:Nat),rdB hGR (elP okE) hPt Ex Q k n (rdLoc l u p gv R ends (some (.str (y :: x)))) (fm mid v (.str []) [.list rows,.list toks])=([D.ref 2]=[D.ref 2] /\ ([]:List (Str × D))=[] /\ ∃ m,okE (fm mid v (.str []) [.list rows,.list toks]) m /\ szL rows.length (szL toks.length (rdAgain hGR (elP okE) hPt Ex Q k n (rdLoc l u p gv R ends (some (.str (y :: x)))) (fm mid v (.str []) [.list (rows++[.tup [.str (y :: x),.str m]]),.list (toks++[.str (y :: x)])]))))
 eofT:∀ (Ex:Ec->Led->Prop) (Q:D->Led->Prop) (k n:Nat) (l u:LN) (p gv:D) (ends:Int) (v:Nat->Option D) (rows toks:LD),rdB hGR (elP okE) hPt Ex Q k n (rdLoc l u p gv R ends (some .none)) (fm mid v .none [.list rows,.list toks])=([D.ref 2]=[D.ref 2] /\ ([]:List (Str × D))=[] /\ ∃ m,okE (fm mid v .none [.list rows,.list toks]) m /\ szL rows.length (rdAgain hGR (elP okE) hPt Ex Q k n (rdLoc l u p gv R (ends + 1) (some .none)) (fm mid v .none [.list (rows++[.tup [.none,.str m]]),.list toks])))
 eofF:∀ (Ex:Ec->Led->Prop) (Q:D->Led->Prop) (k n:Nat) (l u:LN) (p gv:D) (ends:Int) (v:Nat->Option D) (rows toks:LD),rdB hGR (elP okE) hPt Ex Q k n (rdLoc l u p gv R ends (some (.str []))) (fm mid v (.str []) [.list rows,.list toks])=([D.ref 2]=[D.ref 2] /\ ([]:List (Str × D))=[] /\ ∃ m,okE (fm mid v (.str []) [.list rows,.list toks]) m /\ szL rows.length (rdAgain hGR (elP okE) hPt Ex Q k n (rdLoc l u p gv R (ends + 1) (some (.str []))) (fm mid v (.str []) [.list (rows++[.tup [(.str []),.str m]]),.list toks])))
 refu:∀ (Ex:Ec->Led->Prop) (Q:D->Led->Prop) (k n:Nat) (l u:LN) (p gv:D) (ends:Int) (v:Nat->Option D) (rows toks:LD) (t:Option D) (e:D),rdEx1 hGR (elP okE) hPt Ex Q k n .value (rdLoc l u p gv R ends t) (fm mid v e [.list rows,.list toks])=([D.ref 2]=[D.ref 2] /\ ([]:List (Str × D))=[] /\ ∃ m,okE (fm mid v e [.list rows,.list toks]) m /\ szL rows.length (rdAgain hGR (elP okE) hPt Ex Q k n (rdLoc l u p gv R (ends + 1) t) (fm mid v e [.list (rows++[.tup [.str m]]),.list toks])))
 endd:∀ (Ex:Ec->Led->Prop) (Q:D->Led->Prop) (l u:LN) (p gv:D) (ends:Int) (t:Option D) (v:Nat->Option D) (e:D) (rows toks:LD),rdEnd hGR (elP okE) hPt Ex Q .next (rdLoc l u p gv R ends t) (fm mid v e [.list rows,.list toks])=szL toks.length (nth (fm mid v e [.list rows,.list toks]) (R + 1)=some (.list toks) /\ (fm mid v e [.list rows,.list toks,.list toks.reverse])[R + 2]?=some (.list toks.reverse) /\ rdF hGR (elP okE) hPt Ex Q (R + 2) toks.reverse toks.reverse (rdLoc l u p gv R ends t) (fm mid v e [.list rows,.list toks,.list toks.reverse]))
 push:∀ (Ex:Ec->Led->Prop) (Q:D->Led->Prop) (l u:LN) (p gv:D) (ends:Int) (t:Option D) (v:Nat->Option D) (e:D) (rows toks:LD) (rt xs:LD) (y:D),rdF hGR (elP okE) hPt Ex Q (R + 2) rt (y :: xs) (rdLoc l u p gv R ends t) (fm mid v e [.list rows,.list toks,.list rt])=hPt [.ref 2,y] [] (fm mid v e [.list rows,.list toks,.list rt]) Ex (fun _ led=>∃ led',Tidy (R + 3) (rdLoc l u p gv R ends (some y)) led led' /\ led'[R + 2]?=some (.list rt) /\ rdF hGR (elP okE) hPt Ex Q (R + 2) rt xs (rdLoc l u p gv R ends (some y)) led')
 pushed:∀ (Ex:Ec->Led->Prop) (Q:D->Led->Prop) (l u:LN) (p gv:D) (ends:Int) (t:Option D) (v:Nat->Option D) (e:D) (rows toks:LD) (rt:LD),rdF hGR (elP okE) hPt Ex Q (R + 2) rt [] (rdLoc l u p gv R ends t) (fm mid v e [.list rows,.list toks,.list rt])=((fm mid v e [.list rows,.list toks,.list rt,.list []])[R + 1]?=some (.list toks) /\ rdC hGR (elP okE) hPt R toks (fun led=>Q (.tup [.ref R,.ref (R + 3)]) led) toks [none,none] (fm mid v e [.list rows,.list toks,.list rt,.list []]))
 get:∀ (K:Led->Prop) (t:Option D) (v:Nat->Option D) (e y:D) (rows toks rt ys xs:LD),rdC hGR (elP okE) hPt R toks K (y :: xs) [none,t] (fm mid v e [.list rows,.list toks,.list rt,.list ys])=hGR [.ref 2] [] (fm mid v e [.list rows,.list toks,.list rt,.list ys]) (fun _ _=>False) (fun d led=>oL led (R + 3) fun ys=>szL ys.length (∃ led',Tidy (R + 4) [none,some y] (led.set (R + 3) (.list (ys++[d]))) led' /\ led'[R + 1]?=some (.list toks) /\ rdC hGR (elP okE) hPt R toks K xs [none,some y] led'))
theorem PI {mid:Led}{v:Nat->Option D}{e:D}{tl:Led}{R k:Nat}(h:mid.length + 3=R):(fm mid v e tl)[R + k]?=tl[k]?:=by
 show (.cell (some (.ref 2)) :: .ns .lex (nsV v e) :: .inst .lex 1 :: (mid++tl):Led)[R + k]?=_;rw [<-h,show mid.length + 3 + k=mid.length + k + 1 + 1 + 1 by lia,List.getElem?_cons_succ,List.getElem?_cons_succ,List.getElem?_cons_succ,List.getElem?_append_right (Nat.le_add_right _ _),Nat.add_sub_cancel_left]
theorem UF {mid:Led}{v:Nat->Option D}{e:D}{tl:Led}{R k:Nat}{x:OD}(h:mid.length + 3=R):(fm mid v e tl).set (R + k) x=fm mid v e (tl.set k x):=by
 show List.set (.cell (some (.ref 2)) :: .ns .lex (nsV v e) :: .inst .lex 1 :: (mid++tl):Led) (R + k) x=_;rw [<-h,show mid.length + 3 + k=mid.length + k + 1 + 1 + 1 by lia,List.set_cons_succ,List.set_cons_succ,List.set_cons_succ,List.set_append_right _ _ (Nat.le_add_right _ _),Nat.add_sub_cancel_left];rfl
theorem Jdh {led:Led}{i:Nat}{xs:LD}{k:LD->Prop}(h:led[i]?=some (.list xs))(q:k xs):oL led i k:=by unfold oL;rw [Jq,h];exact q
theorem Je5 (a b c d f g:OD):RE 9 [a,b,c,d,f,g]:=⟨rfl,fun _ _ _ _ _ _ _ _ _ _ _ _=>Te ..,fun _ _ _ _ _ _ _ _ _ _ _ _ _ _=>SZ ..,fun _ _ _ _ _ _ _ _ _ _ _ _ _=>Tb ..,fun _ _ _ _ _ _ _ _ _ _ _ _ _ _=>SP ..,fun _ _ _ _ _ _ _ _ _ _ _ _=>Ue ..,fun _ _ _ _ _ _ _ _ _ _ _ _=>TP ..,fun _ _ _ _ _ _ _ _ _ _ _ _ _ _=>VY ..,fun _ _ _ _ _ _ _ _ _ _ _ _=>Xw ..,fun _ _ _ _ _ _ _ _ _ _ _ _ _ _ _=>T5 ..,fun _ _ _ _ _ _ _ _ _ _ _ _ _=>PY ..,fun _ _ _ _ _ _ _ _ _ _=>XM ..⟩
theorem Je4 (a b c d f g j:OD):RE 10 [a,b,c,d,f,g,j]:=⟨rfl,fun _ _ _ _ _ _ _ _ _ _ _ _=>ST ..,fun _ _ _ _ _ _ _ _ _ _ _ _ _ _=>SG ..,fun _ _ _ _ _ _ _ _ _ _ _ _ _=>Uj ..,fun _ _ _ _ _ _ _ _ _ _ _ _ _ _=>Tz ..,fun _ _ _ _ _ _ _ _ _ _ _ _=>Sf ..,fun _ _ _ _ _ _ _ _ _ _ _ _=>TQ ..,fun _ _ _ _ _ _ _ _ _ _ _ _ _ _=>WP ..,fun _ _ _ _ _ _ _ _ _ _ _ _=>WQ ..,fun _ _ _ _ _ _ _ _ _ _ _ _ _ _ _=>So ..,fun _ _ _ _ _ _ _ _ _ _ _ _ _=>PM ..,fun _ _ _ _ _ _ _ _ _ _=>Xu ..⟩
theorem JM (T:Two)(ph:Ph):∃ mid v,RE (rI T.cf.pc) mid /\ ∀ tl,RL T ph tl=fm mid v (eofD T.cf.posix) tl:=by
 obtain ⟨⟨p,w,wc,cm,pc,inf,fs⟩,infs,ubuf,lbuf,lname,ok⟩:=T
 cases pc with
 | nil=>
  cases ph with
  | up S=>exact ⟨[_,_,_,_,_,_],fun i=>(nth (lexR (uIx [] + 2) ⟨p,w,wc,cm,[],inf,fs⟩ S) i).getD none,Je5 ..,fun tl=>rfl⟩
  | lo u S=>exact ⟨[_,_,_,_,_,_],fun i=>(nth (lexR 4 (cfL ⟨p,w,wc,cm,[],inf,fs⟩ lname) S) i).getD none,Je5 ..,fun tl=>rfl⟩
 | cons z zs=>
  cases ph with
  | up S=>exact ⟨[_,_,_,_,_,_,_],fun i=>(nth (lexR (uIx (z :: zs) + 2) ⟨p,w,wc,cm,z :: zs,inf,fs⟩ S) i).getD none,Je4 ..,fun tl=>rfl⟩
  | lo u S=>exact ⟨[_,_,_,_,_,_,_],fun i=>(nth (lexR 4 (cfL ⟨p,w,wc,cm,z :: zs,inf,fs⟩ lname) S) i).getD none,Je4 ..,fun tl=>rfl⟩
section
variable {T:Two}
section
variable {Ex:Ec->Led->Prop}{Q:D->Led->Prop}{k n:Nat}{l u:LN}{p gv:D}{ends:Int}{t:Option D}{rows toks:LD}{ph ph':Ph}
theorem WN {o:Option D}(he:ends < 2)(hr:rows.length < 60)(gu:GU T ph o ph')(h:gtQ (fun ec led=>rdEx1 hGR (elP okE) hPt Ex Q k n ec (rdLoc l u p gv (rI T.cf.pc) ends t) led) (fun d led=>rdB hGR (elP okE) hPt Ex Q k n (rdLoc l u p gv (rI T.cf.pc) ends (some d)) led) o (RL T ph' [.list rows,.list toks])):rdW hGR (elP okE) hPt Ex Q k (n + 1) (rdLoc l u p gv (rI T.cf.pc) ends t) (RL T ph [.list rows,.list toks]):=by
 refine E22 (JM T ph) fun mid v re e=>?_;rw [Jbt,e,re.test,Jp (show ltI ends 2=true from decide_eq_true he)]
 refine Jf.mpr ⟨by lia,?_⟩
 rw [show ltI (Int.ofNat rows.length) 60=true from decide_eq_true ((Int.ofNat_lt (n:=rows.length) (m:=60)).mpr hr),re.body]
 exact ⟨rfl,rfl,T,_,ph,o,ph',(e _).symm,gu,h⟩
theorem Y5 {x m:LN}(he:ends < 2)(hr:rows.length < 60)(ht:toks.length <= 60)(gu:GU T ph (some (.str x)) ph')(hx:isEof T.cf.posix (.str x)=false)(hm:OkM T ph' m)(h:rdW hGR (elP okE) hPt Ex Q k n (rdLoc l u p gv (rI T.cf.pc) ends (some (.str x))) (RL T ph' [.list (rows++[.tup [.str x,.str m]]),.list (toks++[.str x])])):rdW hGR (elP okE) hPt Ex Q k (n + 1) (rdLoc l u p gv (rI T.cf.pc) ends t) (RL T ph [.list rows,.list toks]):=by
 refine WN he hr gu ?_;refine E22 (JM T ph') fun mid v re e=>?_;show rdB _ _ _ _ _ _ _ _ _;rw [e];rw [e] at h;have ho:=(e [.list rows,.list toks]).symm
 cases hp:T.cf.posix with
 | true=>
  rw [hp] at ho h;rw [show eofD true=.none from rfl] at ho h ⊢
  rw [re.tokT];exact ⟨rfl,rfl,m,⟨T,ph',_,ho,hm⟩,Jf.mpr ⟨by lia,Jf.mpr ⟨by lia,_,.inl rfl,h⟩⟩⟩
 | false=>
  rw [hp] at ho h hx;rw [show eofD false=.str [] from rfl] at ho h ⊢
  cases x with
  | nil=>injection hx
  | cons y x=>
   rw [re.tokF];exact ⟨rfl,rfl,m,⟨T,ph',_,ho,hm⟩,Jf.mpr ⟨by lia,Jf.mpr ⟨by lia,_,.inl rfl,h⟩⟩⟩
theorem UL {m:LN}(he:ends < 2)(hr:rows.length < 60)(gu:GU T ph (some (eofD T.cf.posix)) ph')(hm:OkM T ph' m)(h:rdW hGR (elP okE) hPt Ex Q k n (rdLoc l u p gv (rI T.cf.pc) (ends + 1) (some (eofD T.cf.posix))) (RL T ph' [.list (rows++[.tup [eofD T.cf.posix,.str m]]),.list toks])):rdW hGR (elP okE) hPt Ex Q k (n + 1) (rdLoc l u p gv (rI T.cf.pc) ends t) (RL T ph [.list rows,.list toks]):=by
 refine WN he hr gu ?_;refine E22 (JM T ph') fun mid v re e=>?_;show rdB _ _ _ _ _ _ _ _ _;rw [e];rw [e] at h;have ho:=(e [.list rows,.list toks]).symm
 cases hp:T.cf.posix with
 | true=>
  rw [hp] at ho h;rw [show eofD true=.none from rfl] at ho h ⊢
  rw [re.eofT];exact ⟨rfl,rfl,m,⟨T,ph',_,ho,hm⟩,Jf.mpr ⟨by lia,_,.inl rfl,h⟩⟩
 | false=>
  rw [hp] at ho h;rw [show eofD false=.str [] from rfl] at ho h ⊢
  rw [re.eofF];exact ⟨rfl,rfl,m,⟨T,ph',_,ho,hm⟩,Jf.mpr ⟨by lia,_,.inl rfl,h⟩⟩
theorem Jbu {m:LN}(he:ends < 2)(hr:rows.length < 60)(gu:GU T ph none ph')(hm:OkM T ph' m)(h:rdW hGR (elP okE) hPt Ex Q k n (rdLoc l u p gv (rI T.cf.pc) (ends + 1) t) (RL T ph' [.list (rows++[.tup [.str m]]),.list toks])):rdW hGR (elP okE) hPt Ex Q k (n + 1) (rdLoc l u p gv (rI T.cf.pc) ends t) (RL T ph [.list rows,.list toks]):=by
 refine WN he hr gu ?_;refine E22 (JM T ph') fun mid v re e=>?_;show rdEx1 _ _ _ _ _ _ _ _ _ _;rw [e,re.refu];rw [e] at h;exact ⟨rfl,rfl,m,⟨T,ph',_,(e _).symm,hm⟩,Jf.mpr ⟨by lia,_,.inl rfl,h⟩⟩
theorem RI (he:¬ ends < 2)(hr:rows.length < 100)(h:rdEnd hGR (elP okE) hPt Ex Q .next (rdLoc l u p gv (rI T.cf.pc) ends t) (RL T ph [.list rows,.list toks])):rdW hGR (elP okE) hPt Ex Q k 1 (rdLoc l u p gv (rI T.cf.pc) ends t) (RL T ph [.list rows,.list toks]):=by
 refine E22 (JM T ph) fun mid v re e=>?_;rw [Jbt,e,re.test,Je (show ltI ends 2=false from decide_eq_false he),Jcx]
 rw [e] at h;exact h
theorem V2 {rt:LD}(W:List (LN)):∀ {ph:Ph} {t:Option D},W.length + ph.pb.length <= 1000->(∀ t,rdF hGR (elP okE) hPt Ex Q (rI T.cf.pc + 2) rt [] (rdLoc l u p gv (rI T.cf.pc) ends t) (RL T (ph.setPb (W.reverse++ph.pb)) [.list rows,.list toks,.list rt]))->rdF hGR (elP okE) hPt Ex Q (rI T.cf.pc + 2) rt (sts W) (rdLoc l u p gv (rI T.cf.pc) ends t) (RL T ph [.list rows,.list toks,.list rt]):=by
 induction W with
 | nil=>
  intro ph t _ h;have e:ph.setPb ([].reverse++ph.pb)=ph:=by cases ph <;> rfl
  have h:=h t;rw [e] at h;exact h
 | cons x W ih=>
  intro ph t hl h;rw [List.length_cons] at hl;refine E22 (JM T ph) fun mid v re e=>?_;have e2:(ph.setPb (x :: ph.pb)).pb=x :: ph.pb:=by cases ph <;> rfl
  have e3:∀ y,(ph.setPb (x :: ph.pb)).setPb y=ph.setPb y:=fun y=>by cases ph <;> rfl
  have key:=ih (ph:=ph.setPb (x :: ph.pb)) (t:=some (.str x)) (by rw [e2,List.length_cons];lia) (fun t=>by rw [e2,e3];have h:=h t;rw [List.reverse_cons,List.append_assoc] at h;exact h)
  have kp:(RL T (ph.setPb (x :: ph.pb)) [.list rows,.list toks,.list rt])[rI T.cf.pc + 2]?=some (.list rt):=by
   refine E22 (JM T (ph.setPb (x :: ph.pb))) fun mid' v' re' e'=>?_;rw [e'];exact PI (k:=2) re'.len
  have es:sts (x :: W)=.str x :: sts W:=rfl;rw [es,e,re.push];exact ⟨T,ph,[.list rows,.list toks,.list rt],x,rfl,rfl,(e _).symm,by lia,_,.inl rfl,kp,key⟩
theorem O2 {K:Led->Prop}{rt:LD}:∀ (W:List (LN)) {ph:Ph} {ys:LD} {t:Option D},ph.pb=W->W.length < 1000->ys.length + W.length <= 1000->K (RL T (ph.setPb []) [.list rows,.list toks,.list rt,.list (ys++sts W)])->rdC hGR (elP okE) hPt (rI T.cf.pc) toks K (sts W) [none,t] (RL T ph [.list rows,.list toks,.list rt,.list ys])
 | [],ph,ys,t,e,_,_,h=>by
  show rdC _ _ _ _ _ _ [] _ _;rw [Vt];have:ph.setPb []=ph:=by cases ph <;> (rw [<-e];rfl)
  rw [this] at h;have e2:ys++sts []=ys:=List.append_nil _;rw [e2] at h;exact h
 | x :: W,ph,ys,t,e0,hl,hy,h=>by
  rw [List.length_cons] at hl hy;refine E22 (JM T ph) fun mid v re e=>?_;show rdC _ _ _ _ _ _ (.str x :: sts W) _ _;rw [e,re.get];refine ⟨rfl,rfl,T,[.list rows,.list toks,.list rt,.list ys],ph,some (.str x),ph.setPb W,(e _).symm,?_,?_⟩
  · cases ph with
    | up S=>exact .uPop e0 (by lia)
    | lo u S=>exact .lo (.pop e0 (by lia))
  · show oL _ _ _;refine E22 (JM T (ph.setPb W)) fun mid' v' re' e'=>?_;rw [e'];refine Jdh (PI (k:=3) re'.len) (Jf.mpr ⟨by lia,_,.inl rfl,?_,?_⟩)
    · rw [UF re'.len];exact PI (k:=1) re'.len
    rw [UF re'.len];have:=O2 (K:=K) (rt:=rt) W (ph:=ph.setPb W) (ys:=ys++[.str x]) (t:=some (.str x)) (by cases ph <;> rfl) (by lia) (by rw [List.length_append,List.length_singleton];lia) (by
     have e3:(ph.setPb W).setPb []=ph.setPb []:=by cases ph <;> rfl
     rw [e3,List.append_assoc];exact h)
    rw [e'] at this;exact this
end
end
inductive Ch (T:Two):Ph->List (LN × LN)->Ph->Prop
 | nil {ph:Ph}:Ch T ph [] ph
 | cons {ph ph' ph'':Ph} {x m:LN} {l:List (LN × LN)} (g:GU T ph (some (.str x)) ph') (h:isEof T.cf.posix (.str x)=false) (k:OkM T ph' m) (r:Ch T ph' l ph''):Ch T ph ((x,m) :: l) ph''
structure En (T:Two)(ph:Ph)(b:Bool)(m1 m2:LN)(ph2:Ph):Prop where
 mid:∃ ph1,GU T ph (ife b (some (eofD T.cf.posix)) none) ph1 /\ OkM T ph1 m1 /\ GU T ph1 (ife b (some (eofD T.cf.posix)) none) ph2
 ok:OkM T ph2 m2
 pb:ph2.pb=[]
noncomputable def rowT (p:LN × LN):D:=.tup [.str p.1,.str p.2]
noncomputable def rowE (T:Two)(b:Bool)(m:LN):D:=ife b (.tup [eofD T.cf.posix,.str m]) (.tup [.str m])
noncomputable def rowsD (T:Two)(tks:List (LN × LN))(b:Bool)(m1 m2:LN):LD:=tks.map rowT++[rowE T b m1,rowE T b m2]
section
variable {T:Two}{Ex:Ec->Led->Prop}{Q:D->Led->Prop}{k:Nat}{l u:LN}{p gv:D}
theorem Tw {ph ph':Ph}{tks:List (LN × LN)}(c:Ch T ph tks ph'):∀ {rows toks:LD} {t:Option D},rows.length + tks.length <= 58->toks.length + tks.length <= 58->(∀ t,∃ n,rdW hGR (elP okE) hPt Ex Q k n (rdLoc l u p gv (rI T.cf.pc) 0 t) (RL T ph' [.list (rows++tks.map rowT),.list (toks++sts (tks.map (·.1)))]))->∃ n,rdW hGR (elP okE) hPt Ex Q k n (rdLoc l u p gv (rI T.cf.pc) 0 t) (RL T ph [.list rows,.list toks]):=by
 induction c with
 | nil=>
  intro rows toks t h1 h2 h;have h:=h t;rw [List.map_nil,List.append_nil] at h;have e:toks++sts (List.map (·.1) ([]:List (LN × LN)))=toks:=List.append_nil _;rw [e] at h;exact h
 | @cons ph ph' ph'' x m tks g hx k r ih=>
  intro rows toks t h1 h2 h;rw [List.length_cons] at h1 h2;obtain ⟨n,hn⟩:=ih (rows:=rows++[.tup [.str x,.str m]]) (toks:=toks++[.str x]) (t:=some (.str x)) (by rw [List.length_append,List.length_singleton];lia) (by rw [List.length_append,List.length_singleton];lia) fun t=>by
   rw [List.append_assoc,List.append_assoc];exact h t
  exact ⟨n + 1,Y5 (by decide) (by lia) (by lia) g hx k hn⟩
theorem UU {ph:Ph}{W:List (LN)}{rows:LD}{ends:Int}{t:Option D}(hb:ph.pb=[])(hl:W.length <= 60)(q:Q (.tup [.ref (rI T.cf.pc),.ref (rI T.cf.pc + 3)]) (RL T ph [.list rows,.list (sts W),.list (sts W).reverse,.list (sts W)])):rdEnd hGR (elP okE) hPt Ex Q .next (rdLoc l u p gv (rI T.cf.pc) ends t) (RL T ph [.list rows,.list (sts W)]):=by
 refine E22 (JM T ph) fun mid v re e=>?_;rw [e,re.endd];refine Jf.mpr ⟨by rw [KZ];lia,(Jq _ _).trans (PI (k:=1) re.len),PI (k:=2) re.len,?_⟩
 have er:(sts W).reverse=sts W.reverse:=by unfold sts;rw [List.map_reverse]
 have key:rdF hGR (elP okE) hPt Ex Q (rI T.cf.pc + 2) (sts W).reverse (sts W.reverse) (rdLoc l u p gv (rI T.cf.pc) ends t) (RL T ph [.list rows,.list (sts W),.list (sts W).reverse]):=by
  refine V2 W.reverse (by rw [hb,List.length_reverse,List.length_nil];lia) fun t=>?_
  rw [hb,List.append_nil,List.reverse_reverse];refine E22 (JM T (ph.setPb W)) fun mid v re e=>?_;rw [e,re.pushed];refine ⟨PI (k:=1) re.len,?_⟩;rw [<-e];refine O2 W (by cases ph <;> rfl) (by lia) (by rw [List.length_nil];lia) ?_
  have e2:(ph.setPb W).setPb []=ph:=by cases ph <;> (rw [<-hb];rfl)
  rw [e2,List.nil_append];exact q
 rw [<-er,e] at key;exact key
theorem YJ {ph ph2:Ph}{tks:List (LN × LN)}{b:Bool}{m1 m2:LN}(c:Ch T (.up S0) tks ph)(h:En T ph b m1 m2 ph2)(hl:tks.length <= 50)(q:Q (.tup [.ref (rI T.cf.pc),.ref (rI T.cf.pc + 3)]) (RL T ph2 [.list (rowsD T tks b m1 m2),.list (sts (tks.map (·.1))),.list (sts (tks.map (·.1))).reverse,.list (sts (tks.map (·.1)))])) :
 ∃ n,rdW hGR (elP okE) hPt Ex Q k n (rdLoc l u p gv (rI T.cf.pc) 0 none) (RL T (.up S0) [.list [],.list []]):=by
 have hm:(tks.map (·.1)).length <= 50:=by rw [List.length_map];exact hl
 have hm2:(tks.map rowT).length <= 50:=by rw [List.length_map];exact hl
 refine Tw c (by rw [List.length_nil];lia) (by rw [List.length_nil];lia) fun t=>?_
 rw [List.nil_append,List.nil_append];refine E13 (h.mid) fun ph1 g1 k1 g2=>?_
 cases b with
 | true=>
  refine ⟨2 + 1,UL (by decide) (by lia) g1 k1 (UL (by decide) (by rw [List.length_append,List.length_singleton];lia) g2 h.ok (RI (by decide) (by rw [List.length_append,List.length_append,List.length_singleton,List.length_singleton];lia) (UU h.pb (by lia) ?_)))⟩
  rw [List.append_assoc];exact q
 | false=>
  refine ⟨2 + 1,Jbu (by decide) (by lia) g1 k1 (Jbu (by decide) (by rw [List.length_append,List.length_singleton];lia) g2 h.ok (RI (by decide) (by rw [List.length_append,List.length_append,List.length_singleton,List.length_singleton];lia) (UU h.pb (by lia) ?_)))⟩
  rw [List.append_assoc];exact q
end
theorem UW:Pm.pc .own=59 :: [97,43,61]:=by kernel_rfl!
theorem U0:Pm.pc .yes=40 :: [41,59,60,62,124,38]:=by kernel_rfl!
theorem Zl (m:Pm):rI m.pc=rIx m:=by
 cases m with
 | no=>rfl
 | yes=>show rI (Pm.pc .yes)=10;rw [U0];rfl
 | own=>show rI (Pm.pc .own)=10;rw [UW];rfl
theorem Jcl {p:Bool}{m:Pm}{l u:LN}{Ex:Ec->Led->Prop}{Q:D->Led->Prop}{ph ph2:Ph}{tks:List (LN × LN)}{b:Bool}{m1 m2:LN}(c:Ch (TT p m l u) (.up S0) tks ph)(h:En (TT p m l u) ph b m1 m2 ph2)(hl:tks.length <= 50)
 (q:Q (.tup [.ref (rIx m),.ref (rIx m + 3)]) (RL (TT p m l u) ph2 [.list (rowsD (TT p m l u) tks b m1 m2),.list (sts (tks.map (·.1))),.list (sts (tks.map (·.1))).reverse,.list (sts (tks.map (·.1)))])):sRd hGR (elP okE) hPt [.str l,.str u,.bool p,m.given] [] [] Ex Q:=by
 have q0:=YJ (Ex:=Ex) (k:=(RL (TT p m l u) (.up S0) [.list [],.list []]).length) (l:=l) (u:=u) (p:=.bool p) (gv:=m.given) (T:=TT p m l u) c h hl (by rw [show rI (TT p m l u).cf.pc=rIx m from Zl m];exact q)
 rw [show rI (TT p m l u).cf.pc=rIx m from Zl m] at q0
 have key:rdIn hGR hPt okE Ex Q l u p m:=q0
 cases m with
 | no=>
  cases p with
  | false=>rw [ZH];exact ⟨rfl,rfl,rfl,fun _ _ _ _=>key⟩
  | true=>rw [ZM];exact ⟨rfl,rfl,rfl,fun _ _ _ _=>key⟩
 | yes=>
  cases p with
  | false=>rw [YN];exact ⟨rfl,rfl,rfl,fun _ _ v=>⟨rfl,fun _ _=>key⟩⟩
  | true=>rw [Jbn];exact ⟨rfl,rfl,rfl,fun _ _ v=>⟨rfl,fun _ _=>key⟩⟩
 | own=>
  cases p with
  | false=>rw [Zh];exact ⟨rfl,rfl,rfl,fun _ _ v=>⟨rfl,fun _ _=>key⟩⟩
  | true=>rw [ZA];exact ⟨rfl,rfl,rfl,fun _ _ v=>⟨rfl,fun _ _=>key⟩⟩
noncomputable def hRead:Jc:=fun args kws led Ex Q=>∃ p m l u tks ph b m1 m2 ph2,args=[.str l,.str u,.bool p,m.given] /\ kws=[] /\ Ch (TT p m l u) (.up S0) tks ph /\ En (TT p m l u) ph b m1 m2 ph2 /\ tks.length <= 50 /\
 ∀ g:Led,g.length=rIx m->Q (.tup [.ref (led.length + rIx m),.ref (led.length + rIx m + 3)]) (led++(g++[.list (rowsD (TT p m l u) tks b m1 m2),.list (sts (tks.map (·.1))),.list (sts (tks.map (·.1))).reverse,.list (sts (tks.map (·.1)))]))
theorem Jab (ρ:LN)(n:Nat)(T:Two)(tks:List (LN × LN))(b:Bool)(m1 m2:LN):rnL ρ n (rowsD T tks b m1 m2)=rowsD T tks b m1 m2:=by
 refine Nw _ _ _ fun d hd=>?_;rcases List.mem_append.mp hd with h | h
 · refine E12 (List.mem_map.mp h) fun x _ hq0=>?_;obtain rfl:=hq0;rfl
 · have key:∀ m,rnD ρ n (rowE T b m)=rowE T b m:=fun m=>by
    unfold rowE
    cases b with
    | false=>rfl
    | true=>cases T.cf.posix <;> rfl
   rcases List.mem_cons.mp h with rfl | h
   · exact key _
   · rw [List.mem_singleton.mp h];exact key _
theorem SB (P:Params):Ja (KK P) 22 (.val 793) hRead:=by
 refine Ja.imp (Jt (oRd P (Ja.mono (by decide) (Jae P)) (Ja.mono (by decide) (Jc4 P)) (Ja.mono (by decide) (Jch P)))) fun args kws led Ex Q hq=>?_
 obtain ⟨p,m,l,u,tks,ph,b,m1,m2,ph2,e1,e2,c,h,hl,q⟩:=hq;subst e1 e2;refine ⟨[],[.str l,.str u,.bool p,m.given],[],[],?_,rfl,.nil,rfl,fun t j o x1 _=>by simp at x1,Jcl c h hl ?_⟩
 · cases m <;> rfl
 · have e:∀ n,(RL (TT p m l u) ph2 [OD.list (rowsD (TT p m l u) tks b m1 m2),.list (sts (tks.map (·.1))),.list (sts (tks.map (·.1))).reverse,.list (sts (tks.map (·.1)))]).map (rnOD [] n)=(RL (TT p m l u) ph2 []).map (rnOD [] n)++[OD.list (rowsD (TT p m l u) tks b m1 m2),.list (sts (tks.map (·.1))),.list (sts (tks.map (·.1))).reverse,.list (sts (tks.map (·.1)))]:=fun n=>by
    show (OD.cell _ :: (ph2.hd _ _)).map _=(OD.cell _ :: (ph2.hd _ _)).map _++_;rw [(J8 _ _ ph2).1,<-List.cons_append,List.map_append]
    congr 1
    show [OD.list (rnL _ _ _),OD.list (rnL _ _ _),OD.list (rnL _ _ _),OD.list (rnL _ _ _)]=_;have er:(sts (tks.map (·.1))).reverse=sts (tks.map (·.1)).reverse:=by unfold sts;rw [List.map_reverse]
    rw [Jab,er,Ku,Ku]
   have hlen:∀ n,((RL (TT p m l u) ph2 []).map (rnOD [] n)).length=rIx m:=fun n=>by
    rw [List.length_map];show ((ph2.hd _ _).length + 1)=_;rw [(J8 [] _ ph2).2.1]
    cases m with
    | no=>rfl
    | yes=>show (rR (Pm.pc .yes)).length + 1=_;rw [U0];rfl
    | own=>show (rR (Pm.pc .own)).length + 1=_;rw [UW];rfl
   show Q (.tup [.ref (led.length + rIx m),.ref (led.length + (rIx m + 3))]) (led++List.map _ _);rw [show ([]:LN).length=0 from rfl,List.drop_zero,e,<-Nat.add_assoc]
   exact q _ (hlen _)
inductive Kn where
 | white | remark | run | quote | escape | word | lone
noncomputable def Kn.nm:Kn->LN
 | .white=>cs "white"
 | .remark=>cs "remark"
 | .run=>cs "run"
 | .quote=>cs "quote"
 | .escape=>cs "escape"
 | .word=>cs "word"
 | .lone=>cs "lone"
noncomputable def rng {α:Type}(a b c:Nat)(y n:α):α:=ife (!ltS [c] [a]) (ife (!ltS [b] [c]) y n) n
noncomputable def lat {α:Type}(c:Nat)(y n:α):α:=ife (leI 192 (Int.ofNat c)) (ife (leI (Int.ofNat c) 255) (ife (!(ife (eqI 215 (Int.ofNat c)) true (ife (eqI 247 (Int.ofNat c)) true false))) y n) n) n
section
variable {α:Type}(p w:Bool)(h m:LN)(c:Nat)(K:Kn->α)
noncomputable def kT3:α:=lc m (K .lone) (ife (has c (cs "~-./*?=")) (K .word) (K .lone))
noncomputable def kT2:α:=ife p (lat c (K .word) (kT3 m c K)) (kT3 m c K)
noncomputable def kT1:α:=ife w (K .word) <| ife (lEqB [c] [95]) (K .word) <| rng 97 122 c (K .word) <| rng 65 90 c (K .word) <| rng 48 57 c (K .word) <| kT2 p m c K
noncomputable def kT:α:=ife (has c whites) (K .white) <| ife (has c h) (K .remark) <| ife (has c m) (K .run) <| ife (has c quots) (K .quote) <| and2 p (lEqB [c] [92]) (K .escape) <| kT1 p w m c K
end
noncomputable def kn (p w:Bool)(h m:LN)(c:Nat):Kn:=kT p w h m c id
theorem Jcf {α β:Type}(K:β->α){a b c:Nat}{x y:β}{x' y':α}(hx:x'=K x)(hy:y'=K y):rng a b c x' y'=K (rng a b c x y):=NZ K (NZ K hx hy) hy
theorem Jfs {α β:Type}(K:β->α){c:Nat}{x y:β}{x' y':α}(hx:x'=K x)(hy:y'=K y):lat c x' y'=K (lat c x y):=NZ K (NZ K (NZ K hx hy) hy) hy
theorem Vi {α:Type}(m:LN)(c:Nat)(K:Kn->α):kT3 m c K=K (kT3 m c id):=lcK K rfl (NZ K rfl rfl)
theorem Zq {α:Type}(p:Bool)(m:LN)(c:Nat)(K:Kn->α):kT2 p m c K=K (kT2 p m c id):=NZ K (Jfs K rfl (Vi m c K)) (Vi m c K)
theorem Jav {α:Type}(p w:Bool)(m:LN)(c:Nat)(K:Kn->α):kT1 p w m c K=K (kT1 p w m c id):=NZ K rfl (NZ K rfl (Jcf K rfl (Jcf K rfl (Jcf K rfl (Zq p m c K)))))
theorem Jcu {α:Type}(p w:Bool)(h m:LN)(c:Nat)(K:Kn->α):kT p w h m c K=K (kn p w h m c):=NZ K rfl (NZ K rfl (NZ K rfl (NZ K rfl (Jer K rfl (Jav p w m c K)))))
section
variable (P:Params)
noncomputable def sKind:Jc:=defW (Xof tops (scoOf (fnD 23)) [] noSpec) 40 (bodOf (fnD 23)) [⟨5,[],[s "sign",s "posix",s "white_only",s "hush",s "marks"],[.arg 0,.arg 1,.arg 2,.arg 3,.arg 4]⟩]
theorem Jc3:Ja (KK P) 3 (.val 748) sKind:=
 Jg (r:=0) (scoOf (fnD 23)) (kOk P) (Jd P) .nil Jb (by kernel_rfl!) (by kernel_rfl!) (by kernel_rfl!) (by
  intro p hp;cases List.mem_singleton.mp hp;exact Ji rfl rfl (fun S v1 v2 v3 v4 v5=>by show _=_;kernel_rfl!) (by kernel_rfl!))
noncomputable def sNl:Jc:=defW (Xof tops (scoOf (fnD 24)) [] noSpec) 40 (bodOf (fnD 24)) [⟨2,[],[s "text",s "at"],[.arg 0,.arg 1]⟩]
theorem oNl:Ja (KK P) 3 (.val 755) sNl:=
 Jg (r:=0) (scoOf (fnD 24)) (kOk P) (Jd P) .nil Jb (by kernel_rfl!) (by kernel_rfl!) (by kernel_rfl!) (by
  intro p hp;cases List.mem_singleton.mp hp;exact Ji rfl rfl (fun S v1 v2=>by show _=_;kernel_rfl!) (by kernel_rfl!))
noncomputable def sLead:Jc:=defW (Xof tops (scoOf (fnD 28)) [] noSpec) 40 (bodOf (fnD 28)) [⟨3,[],[s "name",s "text",s "at"],[.arg 0,.arg 1,.arg 2]⟩]
theorem Jen:Ja (KK P) 3 (.val 783) sLead:=
 Jg (r:=0) (scoOf (fnD 28)) (kOk P) (Jd P) .nil Jb (by kernel_rfl!) (by kernel_rfl!) (by kernel_rfl!) (by
  intro p hp;cases List.mem_singleton.mp hp;exact Ji rfl rfl (fun S v1 v2 v3=>by show _=_;kernel_rfl!) (by kernel_rfl!))
end
section
variable (p w:Bool)(h m t nmx:LN)(c n:Nat)(led:Led)(Ex:Ec->Led->Prop)(Q:D->Led->Prop)
theorem Wo:sKind [.str [c],.bool p,.bool w,.str h,.str m] [] led Ex Q=kT p w h m c fun k=>Q (.str k.nm) led:=by kernel_rfl!
theorem Jcq:sNl [.str t,.int (Int.ofNat n)] [] led Ex Q=ife (ltI (findD t [10] (Int.ofNat n)) 0) (Q (.int (Int.ofNat t.length + 1)) led) (Q (.int (findD t [10] (Int.ofNat n) + 1)) led):=by kernel_rfl!
end
end Mine
end
noncomputable section
open PySem PySem.W PyProof.Rows PySem.Calls
open PySem.Builtin PySem.Builtin.Str
set_option backward.match.sparseCases false
namespace Mine
noncomputable def hdTo (a:Nat):List (LN)->List (LN)
 | p :: r=>(a :: p) :: r
 | []=>[]
noncomputable def spl (c:Nat):LN->List (LN)
 | []=>[[]]
 | a :: l=>if a=c then [] :: spl c l else hdTo a (spl c l)
noncomputable def glue (z:LN):List (LN)->LN
 | []=>[]
 | [p]=>p
 | p :: q :: r=>p++z++glue z (q :: r)
theorem Us (c:Nat)(l:LN):spl c (c :: l)=[] :: spl c l:=if_pos rfl
theorem NO {c a:Nat}(h:a ≠ c)(l:LN):spl c (a :: l)=hdTo a (spl c l):=if_neg h
theorem Pe {c:Nat}:∀ {p:LN},c ∉ p->spl c p=[p]
 | [],_=>rfl
 | a :: p,h=>by have h1:a ≠ c:=fun e=>h (e ▸ .head _);rw [NO h1,Pe fun hm=>h (.tail _ hm)];rfl
theorem QM {c:Nat}:∀ {p:LN} (l:LN),c ∉ p->spl c (p++c :: l)=p :: spl c l
 | [],l,_=>Us c l
 | a :: p,l,h=>by
  show spl c (a :: (p++c :: l))=_;have h1:a ≠ c:=fun e=>h (e ▸ .head _);rw [NO h1,QM l fun hm=>h (.tail _ hm)];rfl
theorem O9 {c:Nat}:∀ {ps:List (LN)},ps ≠ []->(∀ p ∈ ps,c ∉ p)->spl c (glue [c] ps)=ps
 | [],h,_=>absurd rfl h
 | [p],_,h=>Pe (h p (.head _))
 | p :: q :: r,_,h=>by
  show spl c (p++[c]++glue [c] (q :: r))=_;rw [List.append_assoc];show spl c (p++c :: glue [c] (q :: r))=_;rw [QM _ (h p (.head _)),O9 (by simp) fun x hx=>h x (.tail _ hx)]
theorem LW (z:LN):∀ ps:List Str,(Str.join (st z) ps).cps.toList=glue z (ps.map fun p=>p.cps.toList)
 | []=>rfl
 | [p]=>rfl
 | p :: q :: r=>by
  show ((p++st z++Str.join (st z) (q :: r):Str)).cps.toList=_;rw [Str.cps_append,Str.cps_append,Array.toList_append,Array.toList_append,LW z (q :: r)];simp [glue]
theorem Qd (x:LN)(c:Nat):(StrLaws.partsFrom (st x) (st [c]).length 0 (occurrences (st x) (st [c]) 0 (st x).length ((st x).length + 1))).map (fun p=>p.cps.toList)=spl c x:=by
 refine E12 (StrLaws.occ_tight (st x) (st [c]) (Nat.le_refl 1)) fun f hG hn=>?_;have h1:=StrLaws.parts_free (st x) c _ 0 f hG hn;refine E11 (StrLaws.occ_chain (st x) (st [c]) ((st x).length + 1)) fun f' h=>?_;have h2:=congrArg (fun s:Str=>s.cps.toList) ((StrLaws.join_partsFrom (st x) (st [c]) _ 0 f' h).trans (StrLaws.sub_whole _));dsimp only at h2;rw [LW] at h2;refine E21 (StrLaws.partsFrom_ne (st x) (st [c]).length 0 (occurrences (st x) (st [c]) 0 (st x).length ((st x).length + 1))) fun p r e'=>?_;have:=O9 (c:=c) (ps:=(StrLaws.partsFrom (st x) (st [c]).length 0 (occurrences (st x) (st [c]) 0 (st x).length ((st x).length + 1))).map (fun p=>p.cps.toList)) (by rw [e'];simp) (fun p hp=>by
  refine E12 (List.mem_map.mp hp) fun q hq hq0=>?_;obtain rfl:=hq0;exact h1 q hq)
 rw [h2] at this;exact this.symm
theorem Sr (a:Nat):∀ l,(hdTo a l).length=l.length
 | []=>rfl
 | _ :: _=>rfl
theorem N6 (c:Nat):∀ l,(spl c l).length=l.count c + 1
 | []=>rfl
 | a :: l=>by
  by_cases h:a=c
  · subst h;rw [Us,List.length_cons,N6,List.count_cons_self]
  · rw [NO h,Sr,N6,List.count_cons_of_ne h]
theorem KI (x:Str)(w:Nat):∀ (cuts:LN) (a:Nat),(StrLaws.partsFrom x w a cuts).length=cuts.length + 1
 | [],_=>rfl
 | _ :: r,_=>congrArg Nat.succ (KI x w r _)
theorem Oz (x:LN)(c:Nat):countD x [c]=(x.count c:Nat):=by
 have h:=congrArg List.length (Qd x c);rw [List.length_map,KI,N6] at h;unfold countD Txt.count;rw [Nat.succ.inj h]
theorem TU (ts:List (LN)):joinD [] ts=ts.flatten:=by
 unfold joinD Txt.join;rw [StrLaws.glued_eq_join,LW,List.map_map];have:(fun p:Str=>p.cps.toList) ∘ st=_root_.id:=by funext x;simp
 rw [this,List.map_id];have key:∀ l:List (LN),glue [] l=l.flatten:=by
  intro l
  induction l with
  | nil=>rfl
  | cons p l ih=>cases l with
   | nil=>simp [glue]
   | cons q r=>
    show p++[]++glue [] (q :: r)=_;rw [ih];simp
 exact key ts
end Mine
end
noncomputable section
open PySem PySem.W PyProof.Rows PySem.Calls
set_option backward.match.sparseCases false
namespace Mine
noncomputable def lead3 (nm:LN)(line:Int)(Q:D->Prop):Prop:=tr (leI 0 line) (tr (ltI line 10000000000) (sz (([34]++nm++[34,44,32,108,105,110,101,32]).length + (intT line).length) (sz (([34]++nm++[34,44,32,108,105,110,101,32]++intT line).length + 2) (Q (.str ([34]++nm++[34,44,32,108,105,110,101,32]++intT line++[58,32]))))))
noncomputable def leadK (nm:LN)(line:Int)(Q:D->Prop):Prop:=sz (1 + nm.length) (sz (([34]++nm).length + 8) (lead3 nm line Q))
noncomputable def valOf:Stmt->Expr
 | .Assign _ v _=>v
 | .Return (some v) _=>v
 | _=>.Constant .none 0 default
noncomputable def XLd:X:=Xof tops (scoOf (fnD 28)) [] noSpec
noncomputable def ldX (Ex:Ec->Led->Prop)(Q:D->Led->Prop)(loc:Loc)(led:Led):Prop:=(run 39 XLd).xs ((bodOf (fnD 28)).drop 1) loc led (fun c _ led=>Ex c led) fun fl _ led=>Q fl.val led
noncomputable def XQ:X:=Xof tops (scoOf (fnD 25)) [] noSpec
noncomputable def sQt:Jc:=defW XQ 40 (bodOf (fnD 25)) [⟨2,[],[s "text",s "at"],[.arg 0,.arg 1]⟩]
noncomputable def lqP:Expr × List Stmt:=whParts (stAt (bodOf (fnD 25)) 3)
section
variable (k:Nat)(Ex:Ec->Led->Prop)(Q:D->Led->Prop)
noncomputable def lqL (n:Nat)(loc:Loc)(led:Led):Prop:=whW (run 36 XQ) k lqP.1 lqP.2 [] (fun c _ led=>Ex c led) (seqW (run 36 XQ) ((bodOf (fnD 25)).drop 4) (fun c _ led=>Ex c led) fun fl _ led=>Q fl.val led) n loc led
noncomputable def lqA (n:Nat)(loc:Loc)(led:Led):Prop:=∃ led',Tidy k loc led led' /\ lqL k Ex Q n loc led'
noncomputable def qNo:D:=.tup [.str [],.int (-1)]
noncomputable def lqLoc (t:LN)(n q:Nat)(part:LN)(two:Option D):Loc:=[some (.str t),some (.int (Int.ofNat n)),some (.str [q]),some (.str part),two]
noncomputable def lqD (j:Nat)(t:LN)(n q:Nat)(part two:LN)(led:Led):Prop:=tr (leI 0 (Int.ofNat n)) (so (nth t n) fun c=>sz (part.length + 1) (lqA k Ex Q j (lqLoc t (n + 1) q (part++[c]) (some (.str two))) led))
noncomputable def lqC (j:Nat)(t:LN)(n q:Nat)(part two:LN)(led:Led):Prop:=ife (lEqB [q] [34]) (ife (lEqB two [92]) (Q qNo led) (lqD k Ex Q j t n q part two led)) (lqD k Ex Q j t n q part two led)
noncomputable def lqB (j:Nat)(t:LN)(n q:Nat)(part two:LN)(led:Led):Prop:=ife (lEqB [q] [34]) (so (anyS two [.str [92,92],.str [92,34]]) fun b=>ife b (so (nth two 1) fun d=>sz (part.length + 1) (lqA k Ex Q j (lqLoc t (n + 2) q (part++[d]) (some (.str two))) led)) (lqC k Ex Q j t n q part two led)) (lqC k Ex Q j t n q part two led)
end
section
variable (k j:Nat)(Ex:Ec->Led->Prop)(Q:D->Led->Prop)(t nmx part:LN)(n q:Nat)(led:Led)(two:Option D)
theorem Yh:sLead [.str nmx,.str t,.int (Int.ofNat n)] [] led Ex Q=(run 39 XLd).ev (valOf (stAt (bodOf (fnD 28)) 0)) [some (.str nmx),some (.str t),some (.int (Int.ofNat n)),none] led (fun c _ led=>Ex c led) fun d loc led=>storeW XLd (s "line") d loc led fun loc led=>ldX Ex Q loc led:=by kernel_rfl!
theorem Jah (Qv:QD)(o:Option D):(run 39 XLd).ev (valOf (stAt (bodOf (fnD 28)) 0)) [some (.str nmx),some (.str t),some (.int (Int.ofNat n)),o] led (fun c _ led=>Ex c led) Qv=tr (leI 0 (Int.ofNat n)) (ife (ltI (Int.ofNat t.length) (Int.ofNat n)) (Qv (.int (1 + countD (cut t 0 n) [10] + 1)) [some (.str nmx),some (.str t),some (.int (Int.ofNat n)),o] led) (Qv (.int (1 + countD (cut t 0 n) [10] + 0)) [some (.str nmx),some (.str t),some (.int (Int.ofNat n)),o] led)):=by kernel_rfl!
theorem Jar (a b c o:Option D)(d:D)(K:Loc->Led->Prop):storeW XLd (s "line") d [a,b,c,o] led K=K [a,b,c,some d] led:=by kernel_rfl!
theorem Jam (i:Int):ldX Ex Q [some (.str nmx),some (.str t),some (.int (Int.ofNat n)),some (.int i)] led=leadK nmx i fun d=>Q d led:=by kernel_rfl!
theorem Jca:sQt [.str t,.int (Int.ofNat n)] [] led Ex Q=tr (leI 0 (Int.ofNat n)) (so (nth t n) fun c=>∃ j,lqL led.length Ex Q j (lqLoc t (n + 1) c [] none) led):=by kernel_rfl!
theorem P6:lqL k Ex Q (j + 1) (lqLoc t n q part two) led=ife (ltI (Int.ofNat n) (Int.ofNat t.length)) (tr (leI 0 (Int.ofNat n)) (so (nth t n) fun c=>ife (lEqB [c] [q]) (Q (.tup [.str part,.int (Int.ofNat (n + 1))]) led) (tr (leI 0 (Int.ofNat n)) (tr (leI 0 (Int.ofNat (n + 2))) (lqB k Ex Q j t n q part (cut t n (n + 2)) led))))) (Q qNo led):=by kernel_rfl!
end
noncomputable def lnAt (t:LN)(n:Nat):Int:=Int.ofNat (1 + (t.take n).count 10 + (if t.length < n then 1 else 0))
theorem VW (t:LN)(n:Nat):lnAt t n <= Int.ofNat (2 + t.length):=by
 have h1:(t.take n).count 10 <= (t.take n).length:=List.count_le_length;have h2:(t.take n).length <= t.length:=by rw [List.length_take];lia
 refine Int.ofNat_le.mpr ?_
 split <;> lia
theorem RG (t:LN)(n:Nat):0 <= lnAt t n:=Int.natCast_nonneg _
theorem L8 {t:LN}(n:Nat)(h:t.length <= 1000):lnAt t n < 10000000000:=Int.lt_of_le_of_lt (VW t n) (by show (Int.ofNat _) < (Int.ofNat 10000000000);exact Int.ofNat_lt.mpr (by lia))
theorem S8 {nmx:LN}{i:Int}{Q:D->Prop}(h1:nmx.length <= 1000)(h2:0 <= i)(h3:i < 10000000000)(q:Q (.str (pctD nmx i))):leadK nmx i Q:=by
 have hi:=MO h2 h3;refine Kt.mpr ⟨by lia,Kt.mpr ⟨by rw [List.length_append,List.length_singleton];lia,Ju (decide_eq_true h2) (Ju (decide_eq_true h3) (Kt.mpr ⟨?_,Kt.mpr ⟨?_,?_⟩⟩))⟩⟩
 · simp only [List.length_append,List.length_cons,List.length_nil];lia
 · simp only [List.length_append,List.length_cons,List.length_nil];lia
 · unfold pctD at q;rw [List.append_assoc,List.append_assoc,List.append_assoc];exact q
theorem Vm {nmx t:LN}{n:Nat}{led:Led}{Ex:Ec->Led->Prop}{Q:D->Led->Prop}(h1:nmx.length <= 1000)(h2:t.length <= 1000)(q:Q (.str (pctD nmx (lnAt t n))) led):sLead [.str nmx,.str t,.int (Int.ofNat n)] [] led Ex Q:=by
 rw [Yh,Jah];refine Ju (le0 _) ?_;have hc:cut t 0 n=t.take n:=by unfold cut;rfl
 have key:∀ i:Int,i=lnAt t n->storeW XLd (s "line") (.int i) [some (.str nmx),some (.str t),some (.int (Int.ofNat n)),none] led (fun loc led=>ldX Ex Q loc led):=fun i e=>by
  subst e;rw [Jar,Jam];exact S8 h1 (RG _ _) (L8 n h2) q
 rw [ltN]
 by_cases hl:t.length < n
 · rw [Jp (decide_eq_true hl)];refine key _ ?_;unfold lnAt;rw [if_pos hl,hc,Oz];rfl
 · rw [Je (decide_eq_false hl)];refine key _ ?_;unfold lnAt;rw [if_neg hl,hc,Oz];rfl
noncomputable def addQ (c k:Nat):Option (LN × Nat)->Option (LN × Nat)
 | some sj=>some (c :: sj.1,sj.2 + k)
 | none=>none
noncomputable def qt (q:Nat):LN->Option (LN × Nat)
 | []=>none
 | [c]=>ife (Nat.beq c q) (some ([],1)) none
 | c :: d :: r=>ife (Nat.beq c q) (some ([],1)) (ife (Nat.beq q 34) (ife (Nat.beq c 92) (ife (has d [92,34]) (addQ d 2 (qt q r)) (addQ c 1 (qt q (d :: r)))) (addQ c 1 (qt q (d :: r)))) (addQ c 1 (qt q (d :: r))))
theorem Kc {t r:LN}{n c:Nat}(h:t.drop n=c :: r):nth t n=some c:=by
 rw [Jq];have:=congrArg (fun l=>l[0]?) h
 simpa using this
theorem J1 {t r:LN}{n c:Nat}(h:t.drop n=c :: r):n < t.length:=by
 have:=congrArg List.length h;rw [List.length_drop,List.length_cons] at this;lia
theorem Jk {t r:LN}{n c:Nat}(h:t.drop n=c :: r):t.drop (n + 1)=r:=by
 rw [<-List.drop_drop,h];rfl
theorem UA {t r:LN}{n c k:Nat}(h:t.drop n=c :: r):cut t n (n + k)=(c :: r).take k:=by
 unfold cut;rw [List.drop_take,h,show n + k - n=k by lia]
theorem Rh (a b:Nat):lEqB [a] [b]=Nat.beq a b:=by
 cases h:Nat.beq a b with
 | true=>rw [Nat.eq_of_beq_eq_true h];exact Jn.mpr rfl
 | false=>
  cases h2:lEqB [a] [b] with
  | false=>rfl
  | true=>have:=Jn.mp h2;cases this;rw [Nat.beq_refl] at h;cases h
noncomputable def qOut (Q:D->Led->Prop)(led:Led)(n:Nat)(part:LN)(o:Option (LN × Nat)):Prop:=alt o (fun sj=>Q (.tup [.str (part++sj.1),.int (Int.ofNat (n + sj.2))]) led) (Q qNo led)
theorem OK {Q:D->Led->Prop}{led:Led}{n c k:Nat}{part:LN}{o:Option (LN × Nat)}(h:qOut Q led n part (addQ c k o)):qOut Q led (n + k) (part++[c]) o:=by
 cases o with
 | none=>exact h
 | some sj=>
  have h:Q (.tup [.str (part++c :: sj.1),.int (Int.ofNat (n + (sj.2 + k)))]) led:=h;show Q (.tup [.str (part++[c]++sj.1),.int (Int.ofNat (n + k + sj.2))]) led;rw [List.append_assoc,show n + k + sj.2=n + (sj.2 + k) by lia];exact h
theorem UC {k j:Nat}{Ex:Ec->Led->Prop}{Q:D->Led->Prop}{t part:LN}{n q:Nat}{led:Led}{two:Option D}(h:t.drop n=[])(h1:Q qNo led):lqL k Ex Q (j + 1) (lqLoc t n q part two) led:=by
 rw [P6,ltN,Je (decide_eq_false (by have:=List.drop_eq_nil_iff.mp h;lia))];exact h1
theorem QT {k j:Nat}{Ex:Ec->Led->Prop}{Q:D->Led->Prop}{t part r:LN}{n q c:Nat}{led:Led}{two:Option D}(h:t.drop n=c :: r)(h1:ife (Nat.beq c q) (Q (.tup [.str part,.int (Int.ofNat (n + 1))]) led) (lqB k Ex Q j t n q part ((c :: r).take 2) led)):lqL k Ex Q (j + 1) (lqLoc t n q part two) led:=by
 rw [P6,ltN,Jp (decide_eq_true (J1 h)),Kc h];refine Ju (le0 _) ?_;show ife (lEqB [c] [q]) _ _;rw [Rh];rw [UA h];have e:∀ X:Prop,tr (leI 0 (Int.ofNat n)) (tr (leI 0 (Int.ofNat (n + 2))) X)=X:=fun X=>by rw [le0,le0];rfl
 rw [e];exact h1
theorem UH {k j:Nat}{Ex:Ec->Led->Prop}{Q:D->Led->Prop}{t part two r:LN}{n q c:Nat}{led:Led}(h:t.drop n=c :: r)(hl:part.length <= 1000)(h1:lqL k Ex Q j (lqLoc t (n + 1) q (part++[c]) (some (.str two))) led):lqD k Ex Q j t n q part two led:=by
 refine Ju (le0 _) ?_;rw [Kc h];exact Kt.mpr ⟨by lia,_,.inl rfl,h1⟩
theorem Pb (x y z:LN):anyS x [.str y,.str z]=some (ife (lEqB x y) true (lEqB x z)):=by
 show some (match lEqB x y with | true=>true | false=>match lEqB x z with | true=>true | false=>false)=_
 cases lEqB x y <;> cases lEqB x z <;> rfl
theorem Jey (a b c d:Nat):lEqB [a,b] [c,d]=(Nat.beq a c && Nat.beq b d):=by
 cases h2:lEqB [a,b] [c,d] with
 | true=>have:=Jn.mp h2;cases this;rw [Nat.beq_refl,Nat.beq_refl];rfl
 | false=>
  cases h:(Nat.beq a c && Nat.beq b d) with
  | false=>rfl
  | true=>
   obtain ⟨e1,e2⟩:=Bool.and_eq_true_iff.mp h;rw [Nat.eq_of_beq_eq_true e1,Nat.eq_of_beq_eq_true e2] at h2;rw [Jn.mpr rfl] at h2;injection h2
theorem Yd {k j:Nat}{Ex:Ec->Led->Prop}{Q:D->Led->Prop}{t part r:LN}{n q c d:Nat}{led:Led}(h:t.drop n=c :: d :: r)(hl:part.length <= 1000)
 (h1:ife (Nat.beq q 34) (ife (Nat.beq c 92) (ife (has d [92,34]) (lqL k Ex Q j (lqLoc t (n + 2) q (part++[d]) (some (.str [c,d]))) led) (lqL k Ex Q j (lqLoc t (n + 1) q (part++[c]) (some (.str [c,d]))) led)) (lqL k Ex Q j (lqLoc t (n + 1) q (part++[c]) (some (.str [c,d]))) led)) (lqL k Ex Q j (lqLoc t (n + 1) q (part++[c]) (some (.str [c,d]))) led)):lqB k Ex Q j t n q part [c,d] led:=by
 have hC:lqL k Ex Q j (lqLoc t (n + 1) q (part++[c]) (some (.str [c,d]))) led->lqC k Ex Q j t n q part [c,d] led:=fun x=>by
  unfold lqC;have:lEqB [c,d] [92]=false:=by
   cases e:lEqB [c,d] [92] with
   | false=>rfl
   | true=>have:=Jn.mp e;cases this
  rw [this];have:=UH (two:=[c,d]) h hl x;cases lEqB [q] [34] <;> exact this
 unfold lqB;rw [Rh]
 cases hq:Nat.beq q 34 with
 | false=>rw [hq] at h1;exact hC h1
 | true=>
  rw [hq] at h1;refine (show ∀ {x y:Prop},x->ife true x y from fun h=>h) ?_
  rw [Pb,Jey,Jey];have e:ife (Nat.beq c 92 && Nat.beq d 92) true (Nat.beq c 92 && Nat.beq d 34)=(Nat.beq c 92 && has d [92,34]):=by
   show _=(Nat.beq c 92 && ife (Nat.beq d 92) true (ife (Nat.beq d 34) true false));cases Nat.beq c 92 <;> cases Nat.beq d 92 <;> cases Nat.beq d 34 <;> rfl
  rw [e];show ife (Nat.beq c 92 && has d [92,34]) _ _
  cases hc:Nat.beq c 92 with
  | false=>rw [hc] at h1;exact hC h1
  | true=>
   rw [hc] at h1
   cases hd:has d [92,34] with
   | false=>rw [hd] at h1;exact hC h1
   | true=>rw [hd] at h1;exact Kt.mpr ⟨by lia,_,.inl rfl,h1⟩
theorem Ry {j1:Nat->Prop}{b:Bool}{x y:Prop}{x' y':Nat->Prop}(h:ife b x y)(hx:x->∃ j,x' j)(hy:y->∃ j,y' j):∃ j,ife b (x' j) (y' j):=by
 cases b with
 | true=>obtain ⟨j,h⟩:=hx h;exact ⟨j,h⟩
 | false=>obtain ⟨j,h⟩:=hy h;exact ⟨j,h⟩
theorem Jaq {α:Type}{b:Bool}{x y:α}{P:α->Prop}(h:P (ife b x y)):ife b (P x) (P y):=by cases b <;> exact h
theorem Rc {k:Nat}{Ex:Ec->Led->Prop}{Q:D->Led->Prop}{t:LN}{q:Nat}{led:Led}:∀ (r:LN) {n:Nat} {part:LN} {two:Option D},t.drop n=r->part.length + r.length <= 1000->qOut Q led n part (qt q r)->∃ j,lqL k Ex Q j (lqLoc t n q part two) led
 | [],n,part,two,h,hl,o=>⟨1,UC h o⟩
 | [c],n,part,two,h,hl,o=>by
  rw [List.length_singleton] at hl;have o:ife (Nat.beq c q) (Q (.tup [.str (part++[]),.int (Int.ofNat (n + 1))]) led) (Q qNo led):=Jaq (P:=qOut Q led n part) o;rw [List.append_nil] at o;refine ⟨2,QT h ?_⟩
  cases hc:Nat.beq c q with
  | true=>rw [hc] at o;exact o
  | false=>
   rw [hc] at o;have o:Q qNo led:=o;have h2:=UC (k:=k) (j:=0) (Ex:=Ex) (q:=q) (part:=part++[c]) (two:=some (.str [c])) (Jk h) o;have hD:=UH (two:=[c]) h (by lia) h2
   show lqB _ _ _ _ _ _ _ _ [c] _;have hC:lqC k Ex Q 1 t n q part [c] led:=by
    unfold lqC
    cases lEqB [q] [34] with
    | false=>exact hD
    | true=>cases lEqB [c] [92] with
     | true=>exact o
     | false=>exact hD
   unfold lqB;rw [Pb];have e:∀ a b,lEqB [c] [a,b]=false:=fun a b=>by
    cases e:lEqB [c] [a,b] with
    | false=>rfl
    | true=>have:=Jn.mp e;cases this
   rw [e,e];cases lEqB [q] [34] <;> exact hC
 | c :: d :: r,n,part,two,h,hl,o=>by
  rw [List.length_cons,List.length_cons] at hl;have h':=Jk h;have h'':=Jk h';have i1:qOut Q led n part (addQ c 1 (qt q (d :: r)))->∃ j,lqL k Ex Q j (lqLoc t (n + 1) q (part++[c]) (some (.str [c,d]))) led:=fun o=>Rc (d :: r) h' (by rw [List.length_append,List.length_singleton,List.length_cons];lia) (OK o)
  have i2:qOut Q led n part (addQ d 2 (qt q r))->∃ j,lqL k Ex Q j (lqLoc t (n + 2) q (part++[d]) (some (.str [c,d]))) led:=fun o=>Rc r h'' (by rw [List.length_append,List.length_singleton];lia) (OK o)
  have o1:=Jaq (P:=qOut Q led n part) o
  cases hc:Nat.beq c q with
  | true=>
   rw [hc] at o1;have o1:Q (.tup [.str (part++[]),.int (Int.ofNat (n + 1))]) led:=o1;rw [List.append_nil] at o1;exact ⟨1,QT h (by rw [hc];exact o1)⟩
  | false=>
   rw [hc] at o1;obtain ⟨j,hj⟩:=Ry (j1:=fun _=>True) (Jaq (P:=qOut Q led n part) o1) (fun o2=>Ry (j1:=fun _=>True) (Jaq (P:=qOut Q led n part) o2) (fun o3=>Ry (j1:=fun _=>True) (Jaq (P:=qOut Q led n part) o3) i2 i1) i1) i1;exact ⟨j + 1,QT h (by rw [hc];exact Yd h (by lia) hj)⟩
noncomputable def kSp (f:Bool->Bool->LN->LN->Nat->LN):Jc:=fun args kws led Ex Q=>l0 kws (lC args False fun a r=>lC r False fun b r=>l3 r fun c d e=>dS a fun s=>l1 s fun ch=>dB b fun p=>dB c fun w=>dS d fun h=>dS e fun m=>Q (.str (f p w h m ch)) led)
noncomputable def nlSp (g:LN->Nat->Nat):Jc:=fun args kws led Ex Q=>l0 kws (l2 args fun a b=>dS a fun t=>dI b fun i=>tr (leI 0 i) (Q (.int (Int.ofNat (g t i.toNat))) led))
noncomputable def qSp (g:LN->Nat->Option (LN × Nat)):Jc:=fun args kws led Ex Q=>l0 kws (l2 args fun a b=>dS a fun t=>dI b fun i=>tr (leI 0 i) (tr (Nat.ble t.length 1000) (tr (ltI i (Int.ofNat t.length)) (alt (g t i.toNat) (fun sj=>Q (.tup [.str sj.1,.int (Int.ofNat sj.2)]) led) (Q qNo led)))))
section
variable (f:Bool->Bool->LN->LN->Nat->LN)(g:LN->Nat->Nat)(qq:LN->Nat->Option (LN × Nat))
noncomputable def XTk:X:=Xof tops (scoOf (fnD 26)) [(748,kSp f),(755,nlSp g),(762,qSp qq)] noSpec
noncomputable def sTk:Jc:=defW (XTk f g qq) 40 (bodOf (fnD 26)) [⟨6,[],[s "text",s "at",s "posix",s "white_only",s "hush",s "marks"],[.arg 0,.arg 1,.arg 2,.arg 3,.arg 4,.arg 5]⟩]
noncomputable def tkP:Expr × List Stmt:=whParts (stAt (bodOf (fnD 26)) 4)
section
variable (k:Nat)(Ex:Ec->Led->Prop)(Q:D->Led->Prop)
noncomputable def tkL (n:Nat)(loc:Loc)(led:Led):Prop:=whW (run 35 (XTk f g qq)) k tkP.1 tkP.2 [] (fun c _ led=>Ex c led) (seqW (run 35 (XTk f g qq)) ((bodOf (fnD 26)).drop 5) (fun c _ led=>Ex c led) fun fl _ led=>Q fl.val led) n loc led
noncomputable def tkA (n:Nat)(loc:Loc)(led:Led):Prop:=∃ led',Tidy k loc led led' /\ tkL f g qq k Ex Q n loc led'
noncomputable def tkLoc (t:LN)(n:Nat)(p w:Bool)(h m F:LN)(cl:Option D)(tok:LN)(kd pt:Option D):Loc:=[some (.str t),some (.int (Int.ofNat n)),some (.bool p),some (.bool w),some (.str h),some (.str m),some (.str F),cl,some (.str tok),kd,pt]
variable (t:LN)(n:Nat)(p w:Bool)(h m F:LN)(cl:Option D)(tok:LN)(pt:Option D)(led:Led)(j:Nat)
noncomputable def tkAdd (kk:LN):Prop:=tr (leI 0 (Int.ofNat n)) (so (nth t n) fun c=>sz (tok.length + 1) (tkA f g qq k Ex Q j (tkLoc t (n + 1) p w h m F cl (tok++[c]) (some (.str kk)) pt) led))
noncomputable def tkEsc (kk:LN):Prop:=ife (eqI (Int.ofNat (n + 1)) (Int.ofNat t.length)) (Q qNo led) (tr (leI 0 (Int.ofNat (n + 1))) (so (nth t (n + 1)) fun d=>sz (tok.length + 1) (tkA f g qq k Ex Q j (tkLoc t (n + 2) p w h m F cl (tok++[d]) (some (.str kk)) pt) led)))
noncomputable def tkQt (kk:LN):Prop:=tr (leI 0 (Int.ofNat n)) (tr (Nat.ble t.length 1000) (tr (ltI (Int.ofNat n) (Int.ofNat t.length)) (alt (qq t n) (fun sj=>ife (ltI (Int.ofNat sj.2) 0) (Q qNo led) (sz (tok.length + sj.1.length) (tkA f g qq k Ex Q j (tkLoc t sj.2 p w h m F cl (tok++sj.1) (some (.str kk)) (some (.str sj.1))) led))) (Q qNo led))))
noncomputable def tkNext (kk:LN):Prop:=ife (lEqB kk (cs "escape")) (tkEsc f g qq k Ex Q t n p w h m F cl tok pt led j kk) (ife (lEqB kk (cs "quote")) (ife p (tkQt f g qq k Ex Q t n p w h m F cl tok led j kk) (tkAdd f g qq k Ex Q t n p w h m F cl tok pt led j kk)) (tkAdd f g qq k Ex Q t n p w h m F cl tok pt led j kk))
noncomputable def tkRet:Prop:=Q (.tup [.str tok,.int (Int.ofNat n)]) led
noncomputable def tkRem (kk:LN):Prop:=tr (leI 0 (Int.ofNat n)) (ife p (tkRet Q (g t n) tok led) (tkA f g qq k Ex Q j (tkLoc t (g t n) p w h m F cl tok (some (.str kk)) pt) led))
noncomputable def tkKind (kk:LN):Prop:=ife (lEqB kk (cs "white")) (tkRet Q (n + 1) tok led) (ife (lEqB kk (cs "remark")) (tkRem f g qq k Ex Q t n p w h m F cl tok pt led j kk) (ife (lEqB kk (cs "lone")) (tkRet Q n tok led) (ife (ife (lEqB kk (cs "run")) (!(lEqB F (cs "run"))) (lEqB F (cs "run"))) (tkRet Q n tok led) (tkNext f g qq k Ex Q t n p w h m F cl tok pt led j kk))))
end
section
variable (k j:Nat)(Ex:Ec->Led->Prop)(Q:D->Led->Prop)(t tok h m F:LN)(n:Nat)(p w:Bool)(led:Led)(cl kd pt:Option D)
noncomputable def tkLoop (c:Nat):Prop:=∃ j,tkL f g qq led.length Ex Q j (tkLoc t n p w h m (f p w h m c) none [] none none) led
noncomputable def tkFind (i:Int):Prop:=ife (ltI 0 i) (tr (leI 0 (Int.ofNat n)) (tr (leI 0 (i + 1)) (Q (.tup [.str (cut t n (i + 1).toNat),.int (i + 1)]) led))) (Q qNo led)
noncomputable def tkQ1:Prop:=tr (leI 0 (Int.ofNat n)) (so (nth t n) fun c=>tkFind Q t n led (findD t [c] (Int.ofNat (n + 1))))
theorem RB:tkL f g qq k Ex Q (j + 1) (tkLoc t n p w h m F cl tok kd pt) led=ife (ltI (Int.ofNat n) (Int.ofNat t.length)) (tr (leI 0 (Int.ofNat n)) (so (nth t n) fun c=>tkKind f g qq k Ex Q t n p w h m F cl tok pt led j (f p w h m c))) (tkRet Q n tok led):=by kernel_rfl!
theorem Jev:sTk f g qq [.str t,.int (Int.ofNat n),.bool p,.bool w,.str h,.str m] [] led Ex Q=tr (leI 0 (Int.ofNat n)) (so (nth t n) fun c=>ife (lEqB (f p w h m c) (cs "lone")) (tr (leI 0 (Int.ofNat n)) (so (nth t n) fun c=>Q (.tup [.str [c],.int (Int.ofNat (n + 1))]) led)) (ife (lEqB (f p w h m c) (cs "quote")) (ife p (tkLoop f g qq Ex Q t h m n p w led c) (tkQ1 Q t n led)) (tkLoop f g qq Ex Q t h m n p w led c))):=by kernel_rfl!
end
end
noncomputable def nlc (r:LN):Nat:=match ixN 10 r with
 | some j=>j + 1
 | none=>r.length + 1
noncomputable def app (x:LN)(k:Nat):Option (LN × Nat)->Option (LN × Nat)
 | some sj=>some (x++sj.1,sj.2 + k)
 | none=>none
noncomputable def Kn.isRun:Kn->Bool
 | .run=>true
 | _=>false
noncomputable def Kn.inTok:Kn->Bool
 | .white=>false
 | .remark=>false
 | .lone=>false
 | _=>true
noncomputable def plainT (p f:Bool):Kn->Prop
 | .word=>f=false
 | .run=>f=true
 | .quote=>p=false /\ f=false
 | _=>False
inductive TB (kd:Nat->Kn)(p f:Bool):LN->Option (LN × Nat)->Prop
 | nil:TB kd p f [] (some ([],0))
 | white {c:Nat} {r:LN} (h:kd c=.white):TB kd p f (c :: r) (some ([],1))
 | remP {c:Nat} {r:LN} (h:kd c=.remark) (hp:p=true):TB kd p f (c :: r) (some ([],nlc (c :: r)))
 | remN {c:Nat} {r:LN} {o:Option (LN × Nat)} (h:kd c=.remark) (hp:p=false) (b:TB kd p f ((c :: r).drop (nlc (c :: r))) o):TB kd p f (c :: r) (app [] (nlc (c :: r)) o)
 | lone {c:Nat} {r:LN} (h:kd c=.lone):TB kd p f (c :: r) (some ([],0))
 | turn {c:Nat} {r:LN} (h:(kd c).inTok=true) (ne:(kd c).isRun ≠ f):TB kd p f (c :: r) (some ([],0))
 | escE {c:Nat} (h:kd c=.escape) (hf:f=false):TB kd p f [c] none
 | esc {c d:Nat} {r:LN} {o:Option (LN × Nat)} (h:kd c=.escape) (hf:f=false) (b:TB kd p f r o):TB kd p f (c :: d :: r) (app [d] 2 o)
 | qtE {c:Nat} {r:LN} (h:kd c=.quote) (hp:p=true) (hf:f=false) (e:qt c r=none):TB kd p f (c :: r) none
 | qt {c:Nat} {r x:LN} {j:Nat} {o:Option (LN × Nat)} (h:kd c=.quote) (hp:p=true) (hf:f=false) (e:qt c r=some (x,j)) (b:TB kd p f (r.drop j) o):TB kd p f (c :: r) (app x (j + 1) o)
 | add {c:Nat} {r:LN} {o:Option (LN × Nat)} (h:plainT p f (kd c)) (b:TB kd p f r o):TB kd p f (c :: r) (app [c] 1 o)
noncomputable def quN (c:Nat)(r:LN):Option (LN × Nat):=match ixN c r with
 | some j=>some (c :: r.take (j + 1),j + 2)
 | none=>none
inductive TK (kd:Nat->Kn)(p:Bool):LN->Option (LN × Nat)->Prop
 | lone {c:Nat} {r:LN} (h:kd c=.lone):TK kd p (c :: r) (some ([c],1))
 | quN {c:Nat} {r:LN} (h:kd c=.quote) (hp:p=false):TK kd p (c :: r) (quN c r)
 | go {c:Nat} {r:LN} {o:Option (LN × Nat)} (h:(kd c).inTok=true) (hq:kd c=.quote->p=true) (b:TB kd p (kd c).isRun (c :: r) o):TK kd p (c :: r) o
theorem M0 (r:LN):0 < nlc r:=by unfold nlc;split <;> lia
theorem Nr (kd:Nat->Kn)(p f:Bool):∀ (n:Nat) (r:LN),r.length <= n->∃ o,TB kd p f r o
 | _,[],_=>⟨_,.nil⟩
 | 0,_ :: _,h=>absurd h (by simp)
 | n + 1,c :: r,h=>by
  rw [List.length_cons] at h;have hr:r.length <= n:=by lia
  have rec1:=Nr kd p f n r hr;have turn:(kd c).inTok=true->(kd c).isRun ≠ f->∃ o,TB kd p f (c :: r) o:=fun h1 h2=>⟨_,.turn h1 h2⟩;have pl:plainT p f (kd c)->∃ o,TB kd p f (c :: r) o:=fun h1=>let ⟨o,h⟩:=rec1;⟨_,.add h1 h⟩
  cases k:kd c with
  | white=>exact ⟨_,.white k⟩
  | lone=>exact ⟨_,.lone k⟩
  | remark=>
   cases p with
   | true=>exact ⟨_,.remP k rfl⟩
   | false=>
    obtain ⟨o,h2⟩:=Nr kd false f n ((c :: r).drop (nlc (c :: r))) (by
     have:=M0 (c :: r);rw [List.length_drop,List.length_cons];lia)
    exact ⟨_,.remN k rfl h2⟩
  | run=>
   cases f with
   | true=>exact pl (by rw [k];exact rfl)
   | false=>exact turn (by rw [k];rfl) (by rw [k];exact Bool.noConfusion)
  | word=>
   cases f with
   | true=>exact turn (by rw [k];rfl) (by rw [k];exact Bool.noConfusion)
   | false=>exact pl (by rw [k];exact rfl)
  | escape=>
   cases f with
   | true=>exact turn (by rw [k];rfl) (by rw [k];exact Bool.noConfusion)
   | false=>cases r with
    | nil=>exact ⟨_,.escE k rfl⟩
    | cons d r=>refine E11 (Nr kd p false n r (by rw [List.length_cons] at hr;lia)) fun o h2=>?_;exact ⟨_,.esc k rfl h2⟩
  | quote=>
   cases f with
   | true=>exact turn (by rw [k];rfl) (by rw [k];exact Bool.noConfusion)
   | false=>cases p with
    | false=>exact pl (by rw [k];exact ⟨rfl,rfl⟩)
    | true=>cases e:qt c r with
     | none=>exact ⟨_,.qtE k rfl rfl e⟩
     | some sj=>refine E11 (Nr kd true false n (r.drop sj.2) (by rw [List.length_drop];lia)) fun o h2=>?_;exact ⟨_,.qt k rfl rfl e h2⟩
theorem ZQ (kd:Nat->Kn)(p:Bool)(c:Nat)(r:LN)(h1:kd c ≠ .white)(h2:kd c ≠ .remark):∃ o,TK kd p (c :: r) o:=by
 have go:(kd c).inTok=true->(kd c=.quote->p=true)->∃ o,TK kd p (c :: r) o:=fun a b=>let ⟨o,h⟩:=Nr kd p (kd c).isRun _ (c :: r) (Nat.le_refl _);⟨o,.go a b h⟩
 cases k:kd c with
 | white=>exact absurd k h1
 | remark=>exact absurd k h2
 | lone=>exact ⟨_,.lone k⟩
 | quote=>cases p with
  | false=>exact ⟨_,.quN k rfl⟩
  | true=>exact go (by rw [k];rfl) fun _=>rfl
 | run=>exact go (by rw [k];rfl) fun e=>by rw [k] at e;injection e
 | escape=>exact go (by rw [k];rfl) fun e=>by rw [k] at e;injection e
 | word=>exact go (by rw [k];rfl) fun e=>by rw [k] at e;injection e
noncomputable def fK (p w:Bool)(h m:LN)(c:Nat):LN:=(kn p w h m c).nm
noncomputable def gN (t:LN)(n:Nat):Nat:=match ixN 10 (t.drop n) with
 | some j=>n + j + 1
 | none=>t.length + 1
theorem Tk {t r:LN}{n c:Nat}(e:t.drop n=c :: r):gN t n=n + nlc (c :: r):=by
 have hl:=congrArg List.length e;rw [List.length_drop,List.length_cons] at hl;unfold gN nlc;rw [e]
 cases ixN 10 (c :: r) with
 | some j=>rfl
 | none=>show t.length + 1=n + (r.length + 1 + 1);lia
noncomputable def qA (t:LN)(n:Nat):Option (LN × Nat):=match t.drop n with
 | []=>none
 | q :: r=>match qt q r with
  | some sj=>some (sj.1,n + 1 + sj.2)
  | none=>none
noncomputable def tOut (Q:D->Led->Prop)(led:Led)(n:Nat)(tok:LN)(o:Option (LN × Nat)):Prop:=alt o (fun sj=>Q (.tup [.str (tok++sj.1),.int (Int.ofNat (n + sj.2))]) led) (Q qNo led)
theorem Lg {Q:D->Led->Prop}{led:Led}{n k:Nat}{tok x:LN}{o:Option (LN × Nat)}(h:tOut Q led n tok (app x k o)):tOut Q led (n + k) (tok++x) o:=by
 cases o with
 | none=>exact h
 | some sj=>
  have h:Q (.tup [.str (tok++(x++sj.1)),.int (Int.ofNat (n + (sj.2 + k)))]) led:=h;show Q (.tup [.str (tok++x++sj.1),.int (Int.ofNat (n + k + sj.2))]) led;rw [List.append_assoc,show n + k + sj.2=n + (sj.2 + k) by lia];exact h
section
variable {k j:Nat}{Ex:Ec->Led->Prop}{Q:D->Led->Prop}{t tok h m F:LN}{n:Nat}{p w:Bool}{led:Led}{cl kd pt:Option D}
theorem TJ (q:tkRet Q (n + 1) tok led):tkKind fK gN qA k Ex Q t n p w h m F cl tok pt led j (Kn.nm .white):=(show tkKind fK gN qA k Ex Q t n p w h m F cl tok pt led j (Kn.nm .white)=tkRet Q (n + 1) tok led by kernel_rfl!).mpr q
theorem NC (q:tkRem fK gN qA k Ex Q t n p w h m F cl tok pt led j (Kn.nm .remark)):tkKind fK gN qA k Ex Q t n p w h m F cl tok pt led j (Kn.nm .remark):=(show tkKind fK gN qA k Ex Q t n p w h m F cl tok pt led j (Kn.nm .remark)=tkRem fK gN qA k Ex Q t n p w h m F cl tok pt led j (Kn.nm .remark) by kernel_rfl!).mpr q
theorem XT (q:tkRet Q n tok led):tkKind fK gN qA k Ex Q t n p w h m F cl tok pt led j (Kn.nm .lone):=(show tkKind fK gN qA k Ex Q t n p w h m F cl tok pt led j (Kn.nm .lone)=tkRet Q n tok led by kernel_rfl!).mpr q
theorem Jez (q:ife (!(lEqB F (cs "run"))) (tkRet Q n tok led) (tkAdd fK gN qA k Ex Q t n p w h m F cl tok pt led j (Kn.nm .run))):tkKind fK gN qA k Ex Q t n p w h m F cl tok pt led j (Kn.nm .run):=(show tkKind fK gN qA k Ex Q t n p w h m F cl tok pt led j (Kn.nm .run)=ife (!(lEqB F (cs "run"))) (tkRet Q n tok led) (tkAdd fK gN qA k Ex Q t n p w h m F cl tok pt led j (Kn.nm .run)) by kernel_rfl!).mpr q
theorem Jex (q:ife (lEqB F (cs "run")) (tkRet Q n tok led) (tkEsc fK gN qA k Ex Q t n p w h m F cl tok pt led j (Kn.nm .escape))):tkKind fK gN qA k Ex Q t n p w h m F cl tok pt led j (Kn.nm .escape):=(show tkKind fK gN qA k Ex Q t n p w h m F cl tok pt led j (Kn.nm .escape)=ife (lEqB F (cs "run")) (tkRet Q n tok led) (tkEsc fK gN qA k Ex Q t n p w h m F cl tok pt led j (Kn.nm .escape)) by kernel_rfl!).mpr q
theorem Jb1 (q:ife (lEqB F (cs "run")) (tkRet Q n tok led) (ife p (tkQt fK gN qA k Ex Q t n p w h m F cl tok led j (Kn.nm .quote)) (tkAdd fK gN qA k Ex Q t n p w h m F cl tok pt led j (Kn.nm .quote)))):tkKind fK gN qA k Ex Q t n p w h m F cl tok pt led j (Kn.nm .quote):=(show tkKind fK gN qA k Ex Q t n p w h m F cl tok pt led j (Kn.nm .quote)=ife (lEqB F (cs "run")) (tkRet Q n tok led) (ife p (tkQt fK gN qA k Ex Q t n p w h m F cl tok led j (Kn.nm .quote)) (tkAdd fK gN qA k Ex Q t n p w h m F cl tok pt led j (Kn.nm .quote))) by kernel_rfl!).mpr q
theorem Je3 (q:ife (lEqB F (cs "run")) (tkRet Q n tok led) (tkAdd fK gN qA k Ex Q t n p w h m F cl tok pt led j (Kn.nm .word))):tkKind fK gN qA k Ex Q t n p w h m F cl tok pt led j (Kn.nm .word):=(show tkKind fK gN qA k Ex Q t n p w h m F cl tok pt led j (Kn.nm .word)=ife (lEqB F (cs "run")) (tkRet Q n tok led) (tkAdd fK gN qA k Ex Q t n p w h m F cl tok pt led j (Kn.nm .word)) by kernel_rfl!).mpr q
theorem Vo {K:Kn}{f:Bool}(hF:lEqB F (cs "run")=f)(h1:K.inTok=true)(h2:K.isRun ≠ f)(q:tkRet Q n tok led):tkKind fK gN qA k Ex Q t n p w h m F cl tok pt led j K.nm:=by
 cases K with
 | run=>exact Jez (by rw [Jp (by rw [hF];cases f with | false=>rfl | true=>exact absurd rfl h2)];exact q)
 | escape=>exact Jex (by rw [Jp (by rw [hF];cases f with | true=>rfl | false=>exact absurd rfl h2)];exact q)
 | quote=>exact Jb1 (by rw [Jp (by rw [hF];cases f with | true=>rfl | false=>exact absurd rfl h2)];exact q)
 | word=>exact Je3 (by rw [Jp (by rw [hF];cases f with | true=>rfl | false=>exact absurd rfl h2)];exact q)
 | _=>injection h1
theorem Jbf {K:Kn}{f:Bool}(hF:lEqB F (cs "run")=f)(h1:plainT p f K)(q:tkAdd fK gN qA k Ex Q t n p w h m F cl tok pt led j K.nm):tkKind fK gN qA k Ex Q t n p w h m F cl tok pt led j K.nm:=by
 cases K with
 | run=>exact Jez (by rw [Je (by rw [hF,show f=true from h1];rfl)];exact q)
 | quote=>exact Jb1 (by rw [Je (hF.trans h1.2),Je h1.1];exact q)
 | word=>exact Je3 (by rw [Je (hF.trans h1)];exact q)
 | _=>exact h1.elim
theorem Uz (hF:lEqB F (cs "run")=false)(q:tkEsc fK gN qA k Ex Q t n p w h m F cl tok pt led j (Kn.nm .escape)):tkKind fK gN qA k Ex Q t n p w h m F cl tok pt led j (Kn.nm .escape):=Jex (by rw [Je hF];exact q)
theorem Y1 (hF:lEqB F (cs "run")=false)(hp:p=true)(q:tkQt fK gN qA k Ex Q t n p w h m F cl tok led j (Kn.nm .quote)):tkKind fK gN qA k Ex Q t n p w h m F cl tok pt led j (Kn.nm .quote):=Jb1 (by rw [Je hF,Jp hp];exact q)
theorem JW {c:Nat}{r:LN}{K:Kn}(e:t.drop n=c :: r)(hk:kn p w h m c=K)(q:tkKind fK gN qA k Ex Q t n p w h m F cl tok pt led j K.nm):tkL fK gN qA k Ex Q (j + 1) (tkLoc t n p w h m F cl tok kd pt) led:=by
 rw [RB,ltN,Jp (decide_eq_true (J1 e)),Kc e];refine Ju (le0 _) ?_;subst hk;exact q
theorem Yx {c:Nat}{r kk:LN}(e:t.drop n=c :: r)(hl:tok.length <= 1000)(q:tkL fK gN qA k Ex Q j (tkLoc t (n + 1) p w h m F cl (tok++[c]) (some (.str kk)) pt) led):tkAdd fK gN qA k Ex Q t n p w h m F cl tok pt led j kk:=by
 refine Ju (le0 _) ?_;rw [Kc e];exact Kt.mpr ⟨by lia,_,.inl rfl,q⟩
theorem OB {q:Nat}:∀ {r x:LN} {j:Nat},qt q r=some (x,j)->x.length + 1 <= j /\ j <= r.length
 | [],x,j,h=>by injection h
 | [c],x,j,h=>by
  unfold qt at h
  cases e:Nat.beq c q with
  | true=>rw [e] at h;cases h;exact ⟨Nat.le_refl _,Nat.le_refl _⟩
  | false=>rw [e] at h;injection h
 | c :: d :: r,x,j,h=>by
  unfold qt at h;have k1:addQ c 1 (qt q (d :: r))=some (x,j)->x.length + 1 <= j /\ j <= (c :: d :: r).length:=fun h=>by
   cases e:qt q (d :: r) with
   | none=>rw [e] at h;injection h
   | some sj=>
    rw [e] at h;cases h;have:=OB e;rw [List.length_cons,List.length_cons];lia
  have k2:addQ d 2 (qt q r)=some (x,j)->x.length + 1 <= j /\ j <= (c :: d :: r).length:=fun h=>by
   cases e:qt q r with
   | none=>rw [e] at h;injection h
   | some sj=>
    rw [e] at h;cases h;have:=OB e;rw [List.length_cons,List.length_cons,List.length_cons];lia
  cases e1:Nat.beq c q <;> rw [e1] at h
  · cases e2:Nat.beq q 34 <;> rw [e2] at h
    · exact k1 h
    · cases e3:Nat.beq c 92 <;> rw [e3] at h
      · exact k1 h
      · cases e4:has d [92,34] <;> rw [e4] at h
        · exact k1 h
        · exact k2 h
  · cases h;rw [List.length_cons];exact ⟨Nat.le_refl _,by lia⟩
theorem O5 {α:Type}{a:α}{k:α->Prop}{n:Prop}(h:k a):alt (some a) k n:=h
theorem Jbh {f:Bool}(hF:lEqB F (cs "run")=f)(ht:t.length <= 1000){r:LN}{o:Option (LN × Nat)}(b:TB (kn p w h m) p f r o):∀ {n:Nat} {tok:LN} {kd pt:Option D},t.drop n=r->tok.length + r.length <= 1000->tOut Q led n tok o->∃ j,tkL fK gN qA k Ex Q j (tkLoc t n p w h m F cl tok kd pt) led:=by
 induction b with
 | nil=>
  intro n tok kd pt e hl q;refine ⟨1,?_⟩;rw [RB,ltN,Je (decide_eq_false (by have:=List.drop_eq_nil_iff.mp e;lia))]
  have q:Q (.tup [.str (tok++[]),.int (Int.ofNat n)]) led:=q;rw [List.append_nil] at q;exact q
 | white k=>
  intro n tok kd pt e hl q;refine ⟨1,JW e k ?_⟩;refine TJ ?_;have q:Q (.tup [.str (tok++[]),.int (Int.ofNat (n + 1))]) led:=q;rw [List.append_nil] at q;exact q
 | @remP c r k hp=>
  intro n tok kd pt e hl q;refine ⟨1,JW e k ?_⟩;refine NC ?_;subst hp;refine Ju (le0 _) ?_;have q:Q (.tup [.str (tok++[]),.int (Int.ofNat (n + nlc (c :: r)))]) led:=q;rw [List.append_nil] at q;show Q (.tup [.str tok,.int (Int.ofNat (gN t n))]) led;rw [Tk e];exact q
 | @remN c r o k hp b ih=>
  intro n tok kd pt e hl q;subst hp;have hd:t.drop (gN t n)=(c :: r).drop (nlc (c :: r)):=by rw [Tk e,<-List.drop_drop,e]
  have hp:=M0 (c :: r);obtain ⟨j,hj⟩:=ih (n:=gN t n) (tok:=tok) (kd:=some (.str (Kn.nm .remark))) (pt:=pt) hd (by rw [List.length_drop];lia) (by
   have:=Lg q;rw [List.append_nil] at this;rw [Tk e];exact this)
  refine ⟨j + 1,JW e k ?_⟩;refine NC ?_;exact Ju (le0 _) ⟨_,.inl rfl,hj⟩
 | lone k=>
  intro n tok kd pt e hl q;refine ⟨1,JW e k ?_⟩;refine XT ?_;have q:Q (.tup [.str (tok++[]),.int (Int.ofNat n)]) led:=q;rw [List.append_nil] at q;exact q
 | @turn c r k ne=>
  intro n tok kd pt e hl q;refine ⟨1,JW e rfl ?_⟩;refine Vo hF k ne ?_;have q:Q (.tup [.str (tok++[]),.int (Int.ofNat n)]) led:=q;rw [List.append_nil] at q;exact q
 | @escE c k hf=>
  intro n tok kd pt e hl q;refine ⟨1,JW e k ?_⟩;refine Uz (hF.trans hf) ?_;have:=Jk e;have h1:=J1 e;have h2:=List.drop_eq_nil_iff.mp this;show ife (eqI (Int.ofNat (n + 1)) (Int.ofNat t.length)) _ _;rw [Jp (show eqI (Int.ofNat (n + 1)) (Int.ofNat t.length)=true from decide_eq_true (congrArg Int.ofNat (by lia)))];exact q
 | @esc c d r o k hf b ih=>
  intro n tok kd pt e hl q;have e1:=Jk e;have e2:=Jk e1;rw [List.length_cons,List.length_cons] at hl;refine E11 (ih (n:=n + 2) (tok:=tok++[d]) (kd:=some (.str (Kn.nm .escape))) (pt:=pt) e2 (by rw [List.length_append,List.length_singleton];lia) (Lg q)) fun j hj=>?_
  refine ⟨j + 1,JW e k ?_⟩;refine Uz (hF.trans hf) ?_;have h1:=J1 e1;show ife (eqI (Int.ofNat (n + 1)) (Int.ofNat t.length)) _ _;rw [Je (show eqI (Int.ofNat (n + 1)) (Int.ofNat t.length)=false from decide_eq_false fun q=>by have:=Int.ofNat.inj q;lia),Kc e1]
  exact Ju (le0 _) (Kt.mpr ⟨by lia,_,.inl rfl,hj⟩)
 | @qtE c r k hp hf e0=>
  intro n tok kd pt e hl q;refine ⟨1,JW e k ?_⟩;refine Y1 (hF.trans hf) hp ?_;subst hp;show tkQt fK gN qA _ Ex Q t n true w h m F cl tok led _ _;unfold tkQt;refine Ju (le0 _) (Ju (Nat.ble_eq_true_of_le ht) (Ju (by rw [ltN];exact decide_eq_true (J1 e)) ?_))
  have:qA t n=none:=by unfold qA;rw [e];dsimp only;rw [e0]
  rw [this];exact q
 | @qt c r x i o k hp hf e0 b ih=>
  intro n tok kd pt e hl q;have e1:=Jk e;rw [List.length_cons] at hl;have hq:=OB e0;obtain ⟨j,hj⟩:=ih (n:=n + 1 + i) (tok:=tok++x) (kd:=some (.str (Kn.nm .quote))) (pt:=some (.str x)) (by rw [<-List.drop_drop,e1]) (by rw [List.length_append,List.length_drop];lia) (by
   have:=Lg q;rw [show n + 1 + i=n + (i + 1) by lia];exact this)
  refine ⟨j + 1,JW e k ?_⟩;refine Y1 (hF.trans hf) hp ?_;subst hp;show tkQt fK gN qA _ Ex Q t n true w h m F cl tok led _ _;unfold tkQt;refine Ju (le0 _) (Ju (Nat.ble_eq_true_of_le ht) (Ju (by rw [ltN];exact decide_eq_true (J1 e)) ?_))
  have:qA t n=some (x,n + 1 + i):=by unfold qA;rw [e];dsimp only;rw [e0]
  rw [this];refine O5 ?_;dsimp only;rw [Je (show ltI (Int.ofNat (n + 1 + i)) 0=false from decide_eq_false (Int.not_lt.mpr (Int.natCast_nonneg _)))]
  show sz (tok.length + x.length) (tkA _ _ _ _ _ _ _ _ _);exact Kt.mpr ⟨by lia,_,.inl rfl,hj⟩
 | @add c r o h1 b ih=>
  intro n tok kd pt e hl q;rw [List.length_cons] at hl;refine E11 (ih (n:=n + 1) (tok:=tok++[c]) (kd:=some (.str (kn p w h m c).nm)) (pt:=pt) (Jk e) (by rw [List.length_append,List.length_singleton];lia) (Lg q)) fun j hj=>?_
  refine ⟨j + 1,JW e rfl ?_⟩;exact Jbf hF h1 (Yx e (by lia) hj)
end
noncomputable def tkSpR (R:LN->Nat->Bool->Bool->LN->LN->Option (LN × Nat)->Prop):Jc:=fun args kws led Ex Q=>l0 kws (lC args False fun a r=>lC r False fun b r=>lC r False fun c r=>l3 r fun d e f=>dS a fun t=>dI b fun i=>dB c fun p=>dB d fun w=>dS e fun h=>dS f fun m=>tr (leI 0 i) (tr (Nat.ble t.length 1000) (∃ o,R t i.toNat p w h m o /\ alt o (fun sj=>Q (.tup [.str sj.1,.int (Int.ofNat sj.2)]) led) (Q qNo led))))
section
variable (f:Bool->Bool->LN->LN->Nat->LN)(g:LN->Nat->Nat)(R:LN->Nat->Bool->Bool->LN->LN->Option (LN × Nat)->Prop)
noncomputable def XTs:X:=Xof tops (scoOf (fnD 27)) [(748,kSp f),(755,nlSp g),(769,tkSpR R)] noSpec
noncomputable def sTs:Jc:=defW (XTs f g R) 40 (bodOf (fnD 27)) [⟨5,[],[s "text",s "posix",s "white_only",s "hush",s "marks"],[.arg 0,.arg 1,.arg 2,.arg 3,.arg 4]⟩]
noncomputable def tsP:Expr × List Stmt:=whParts (stAt (bodOf (fnD 27)) 2)
section
variable (k:Nat)(Ex:Ec->Led->Prop)(Q:D->Led->Prop)
noncomputable def tsL (n:Nat)(loc:Loc)(led:Led):Prop:=whW (run 37 (XTs f g R)) k tsP.1 tsP.2 [] (fun c _ led=>Ex c led) (seqW (run 37 (XTs f g R)) ((bodOf (fnD 27)).drop 3) (fun c _ led=>Ex c led) fun fl _ led=>Q fl.val led) n loc led
noncomputable def tsA (n:Nat)(loc:Loc)(led:Led):Prop:=∃ led',Tidy k loc led led' /\ tsL f g R k Ex Q n loc led'
noncomputable def tsLoc (t:LN)(p w:Bool)(h m:LN)(i:Int)(kd tk:Option D):Loc:=[some (.str t),some (.bool p),some (.bool w),some (.str h),some (.str m),some (.ref 0),some (.int i),kd,tk]
variable (t:LN)(n:Nat)(p w:Bool)(h m:LN)(kd tk:Option D)(ys:LD)(j:Nat)
noncomputable def tsTok (kk:LN):Prop:=tr (leI 0 (Int.ofNat n)) (tr (Nat.ble t.length 1000) (∃ o,R t n p w h m o /\ alt o (fun sj=>ife (leI 0 (Int.ofNat sj.2)) (szL ys.length (tsA f g R k Ex Q j (tsLoc t p w h m (Int.ofNat sj.2) (some (.str kk)) (some (.str sj.1))) [.list (ys++[.tup [.str sj.1,.int (Int.ofNat sj.2)]])])) (tsA f g R k Ex Q j (tsLoc t p w h m (Int.ofNat sj.2) (some (.str kk)) (some (.str sj.1))) [.list ys])) (tsA f g R k Ex Q j (tsLoc t p w h m (-1) (some (.str kk)) (some (.str []))) [.list ys])))
noncomputable def tsKind (kk:LN):Prop:=ife (lEqB kk (cs "white")) (tsA f g R k Ex Q j (tsLoc t p w h m (Int.ofNat (n + 1)) (some (.str kk)) tk) [.list ys]) (ife (lEqB kk (cs "remark")) (tr (leI 0 (Int.ofNat n)) (tsA f g R k Ex Q j (tsLoc t p w h m (Int.ofNat (g t n)) (some (.str kk)) tk) [.list ys])) (tsTok f g R k Ex Q t n p w h m ys j kk))
noncomputable def tsRet (i:Int):Prop:=Q (.tup [.ref 0,.int i]) [.list ys]
end
section
variable (k j:Nat)(Ex:Ec->Led->Prop)(Q:D->Led->Prop)(t h m:LN)(n:Nat)(p w:Bool)(ys:LD)(kd tk:Option D)
theorem P9:tsL f g R k Ex Q (j + 1) (tsLoc t p w h m (Int.ofNat n) kd tk) [.list ys]=ife (leI 0 (Int.ofNat n)) (ife (ltI (Int.ofNat n) (Int.ofNat t.length)) (tr (leI 0 (Int.ofNat n)) (so (nth t n) fun c=>tsKind f g R k Ex Q t n p w h m tk ys j (f p w h m c))) (tsRet Q ys (Int.ofNat n))) (tsRet Q ys (Int.ofNat n)):=by kernel_rfl!
theorem YV:tsL f g R k Ex Q (j + 1) (tsLoc t p w h m (-1) kd tk) [.list ys]=tsRet Q ys (-1):=by kernel_rfl!
theorem Jby:sTs f g R [.str t,.bool p,.bool w,.str h,.str m] [] [] Ex Q=∃ j,tsL f g R 1 Ex Q j (tsLoc t p w h m (Int.ofNat 0) none none) [.list []]:=by kernel_rfl!
end
end
theorem Jac (P:Params):Ja (KK P) 3 (.val 748) (kSp fK):=by
 refine Ja.imp (Jc3 P) fun args kws led Ex Q h=>?_;refine l0e h fun h=>?_;refine lCe h fun a r h=>?_;refine lCe h fun b r h=>?_;refine l3x h fun c d e h=>?_;refine dSe h fun x h=>?_;refine l1e h fun ch h=>?_;refine dBx h fun p h=>?_;refine dBx h fun w h=>?_;refine dSe h fun hh h=>?_;refine dSe h fun m h=>?_;show sKind _ _ _ _ _;rw [Wo,Jcu p w hh m ch fun k=>Q (.str k.nm) led];exact h
theorem UM (P:Params):Ja (KK P) 3 (.val 755) (nlSp gN):=by
 refine Ja.imp (oNl P) fun args kws led Ex Q h=>?_;refine l0e h fun h=>?_;refine l2e h fun a b h=>?_;refine dSe h fun t h=>?_;refine dIe h fun i h=>?_;refine E02 (tr_ h) fun hi h=>?_;have hi:0 <= i:=of_decide_eq_true hi;refine E11 (Int.eq_ofNat_of_zero_le hi) fun n hq5=>?_;obtain rfl:=hq5;show sNl [.str t,.int (Int.ofNat n)] _ _ _ _;have h:Q (.int (Int.ofNat (gN t n))) led:=h;rw [Jcq,MA];unfold gN at h
 cases e:ixN 10 (t.drop n) with
 | none=>rw [e] at h;exact h
 | some j=>
  rw [e] at h;rw [Je (show ltI (ixI n (some j)) 0=false from decide_eq_false (Int.not_lt.mpr (Int.natCast_nonneg _)))]
  exact h
section
variable (P:Params)
theorem oQt:Ja (KK P) 3 (.val 762) sQt:=
 Jg (r:=0) (scoOf (fnD 25)) (kOk P) (Jd P) .nil Jb (by kernel_rfl!) (by kernel_rfl!) (by kernel_rfl!) (by
  intro p hp;cases List.mem_singleton.mp hp;exact Ji rfl rfl (fun S v1 v2=>by show _=_;kernel_rfl!) (by kernel_rfl!))
end
theorem Jcn {t:LN}{n c:Nat}{r:LN}(e:t.drop n=c :: r):qA t n=match qt c r with
 | some sj=>some (sj.1,n + 1 + sj.2)
 | none=>none:=by unfold qA;rw [e] <;> rfl
theorem Jd3 (P:Params):Ja (KK P) 3 (.val 762) (qSp qA):=by
 refine Ja.imp (oQt P) fun args kws led Ex Q h=>?_;refine l0e h fun h=>?_;refine l2e h fun a b h=>?_;refine dSe h fun t h=>?_;refine dIe h fun i h=>?_;refine E02 (tr_ h) fun hi h=>?_;refine E02 (tr_ h) fun ht h=>?_;refine E02 (tr_ h) fun hl h=>?_;have hi:0 <= i:=of_decide_eq_true hi;refine E11 (Int.eq_ofNat_of_zero_le hi) fun n hq4=>?_;obtain rfl:=hq4;have hl:Int.ofNat n < Int.ofNat t.length:=of_decide_eq_true hl;have hl:n < t.length:=Int.ofNat_lt.mp hl;have ht:=Nat.le_of_ble_eq_true ht;show sQt [.str t,.int (Int.ofNat n)] _ _ _ _;have h:alt (qA t n) (fun sj=>Q (.tup [.str sj.1,.int (Int.ofNat sj.2)]) led) (Q qNo led):=h;obtain ⟨c,r,e⟩:∃ c r,t.drop n=c :: r:=by
  cases e:t.drop n with
  | nil=>have:=List.drop_eq_nil_iff.mp e;lia
  | cons c r=>exact ⟨c,r,rfl⟩
 have hr:=congrArg List.length e;rw [List.length_drop,List.length_cons] at hr;rw [Jca,Kc e];refine Ju (le0 _) ?_;show ∃ j,lqL _ _ _ _ _ _;rw [Jcn e] at h;refine Rc r (Jk e) (by rw [List.length_nil];lia) ?_
 cases e2:qt c r with
 | none=>rw [e2] at h;exact h
 | some sj=>rw [e2] at h;exact h
noncomputable def Kn.isLone:Kn->Bool
 | .lone=>true
 | _=>false
noncomputable def Kn.isQuote:Kn->Bool
 | .quote=>true
 | _=>false
theorem Ob (K:Kn):lEqB K.nm (cs "lone")=K.isLone:=by cases K <;> kernel_rfl!
theorem OU (K:Kn):lEqB K.nm (cs "quote")=K.isQuote:=by cases K <;> kernel_rfl!
theorem Zr (K:Kn):lEqB K.nm (cs "run")=K.isRun:=by cases K <;> kernel_rfl!
noncomputable def offN (n:Nat):Option (LN × Nat)->Option (LN × Nat)
 | some sj=>some (sj.1,n + sj.2)
 | none=>none
noncomputable def RTk (t:LN)(n:Nat)(p w:Bool)(h m:LN)(o:Option (LN × Nat)):Prop:=∃ o',TK (kn p w h m) p (t.drop n) o' /\ o=offN n o'
theorem Jdi {Ex:Ec->Led->Prop}{Q:D->Led->Prop}{t h m:LN}{n:Nat}{p w:Bool}{led:Led}{r:LN}{o:Option (LN × Nat)}(k:TK (kn p w h m) p r o)(e:t.drop n=r)(ht:t.length <= 1000)(q:tOut Q led n [] o):sTk fK gN qA [.str t,.int (Int.ofNat n),.bool p,.bool w,.str h,.str m] [] led Ex Q:=by
 have hr:=congrArg List.length e;rw [List.length_drop] at hr;rw [Jev];refine Ju (le0 _) ?_
 cases k with
 | @lone c r k=>
  rw [Kc e];show ife (lEqB (kn p w h m c).nm _) _ _;rw [k,Jp (Ob .lone)];exact Ju (le0 _) q
 | @quN c r k hp=>
  subst hp;rw [Kc e];show ife (lEqB (kn false w h m c).nm _) _ _;rw [k,Je (Ob .quote)];show ife (lEqB (kn false w h m c).nm _) _ _;rw [k,Jp (OU .quote)];show tkQ1 _ _ _ _;unfold tkQ1;rw [Kc e];refine Ju (le0 _) ?_;show tkFind _ _ _ _ _;rw [MA,Jk e];unfold tkFind;unfold quN at q
  cases e2:ixN c r with
  | none=>rw [e2] at q;exact q
  | some j=>
   rw [e2] at q;rw [Jp (show ltI 0 (ixI (n + 1) (some j))=true from decide_eq_true (by show (Int.ofNat 0) < Int.ofNat (n + 1 + j);exact Int.ofNat_lt.mpr (by lia)))]
   refine Ju (le0 _) (Ju (show leI 0 (Int.ofNat (n + 1 + j + 1))=true from le0 _) ?_)
   show Q (.tup [.str (cut t n (n + 1 + j + 1)),.int (Int.ofNat (n + 1 + j + 1))]) led;rw [show n + 1 + j + 1=n + (j + 2) by lia,UA e]
   exact q
 | @go c r _ k hq b=>
  rw [Kc e];rw [List.length_cons] at hr;show ife (lEqB (kn p w h m c).nm _) _ _;have loop:tkLoop fK gN qA Ex Q t h m n p w led c:=Jbh (f:=(kn p w h m c).isRun) (Zr _) ht b e (by rw [List.length_nil,List.length_cons];lia) q
  rw [Ob];have h1:(kn p w h m c).isLone=false:=by generalize kn p w h m c=K at k;cases K <;> first | rfl | cases k
  rw [h1];show ife (lEqB (kn p w h m c).nm _) _ _;rw [OU]
  cases h2:(kn p w h m c).isQuote with
  | false=>exact loop
  | true=>
   have:kn p w h m c=.quote:=by generalize kn p w h m c=K at h2;cases K <;> first | rfl | cases h2
   rw [hq this] at loop ⊢;exact loop
theorem Ym (P:Params):Ja (KK P) 6 (.val 769) (tkSpR RTk):=by
 have sp:Ja (KK P) 6 (.val 769) (sTk fK gN qA):=Jg (r:=3) (scoOf (fnD 26)) (kOk P) (Jd P) (.cons (Jac P) (by kernel_rfl!) (.cons (UM P) (by kernel_rfl!) (.cons (Jd3 P) (by kernel_rfl!) .nil))) Jb (by kernel_rfl!) (by kernel_rfl!) (by kernel_rfl!) (by
  intro p hp;cases List.mem_singleton.mp hp;exact Ji rfl rfl (fun S v1 v2 v3 v4 v5 v6=>by show _=_;kernel_rfl!) (by kernel_rfl!))
 refine Ja.imp sp fun args kws led Ex Q h=>?_;refine l0e h fun h=>?_;refine lCe h fun a r h=>?_;refine lCe h fun b r h=>?_;refine lCe h fun c r h=>?_;refine l3x h fun d e f h=>?_;refine dSe h fun t h=>?_;refine dIe h fun i h=>?_;refine dBx h fun p h=>?_;refine dBx h fun w h=>?_;refine dSe h fun hh h=>?_;refine dSe h fun m h=>?_;refine E02 (tr_ h) fun hi h=>?_;refine E02 (tr_ h) fun ht hq3=>?_;refine E12 hq3 fun o hq7=>?_;clear hq3;refine E12 hq7 fun o' k hq10=>?_;clear hq7;obtain rfl:=hq10;intro h;have hi:0 <= i:=of_decide_eq_true hi;refine E11 (Int.eq_ofNat_of_zero_le hi) fun n hq2=>?_;obtain rfl:=hq2;refine Jdi k rfl (Nat.le_of_ble_eq_true ht) ?_
 cases o' with
 | none=>exact h
 | some sj=>exact h
theorem ZC {kd:Nat->Kn}{p f:Bool}{c:Nat}{r x:LN}{j:Nat}(b:TB kd p f (c :: r) (some (x,j)))(h1:(kd c).inTok=true)(h2:(kd c).isRun=f):0 < j:=by
 have key:∀ {y:LN} {k:Nat} {o:Option (LN × Nat)},0 < k->app y k o=some (x,j)->0 < j:=fun hk h=>by
  rename_i y k o
  cases o with
  | none=>injection h
  | some sj=>cases h;lia
 generalize eo:some (x,j)=o at b;generalize er:c :: r=r0 at b
 cases b with
 | nil=>injection er
 | white h=>cases er;rw [h] at h1;cases h1
 | remP h hp=>cases er;rw [h] at h1;cases h1
 | remN h hp b=>cases er;rw [h] at h1;cases h1
 | lone h=>cases er;rw [h] at h1;cases h1
 | turn h ne=>cases er;exact absurd h2 ne
 | escE h hf=>injection eo
 | esc h hf b=>exact key (by lia) eo.symm
 | qtE h hp hf e=>injection eo
 | qt h hp hf e b=>exact key (by lia) eo.symm
 | add h b=>exact key (by lia) eo.symm
theorem U1 {kd:Nat->Kn}{p:Bool}{r x:LN}{j:Nat}(b:TK kd p r (some (x,j))):0 < j:=by
 generalize eo:some (x,j)=o at b
 cases b with
 | lone h=>cases eo;lia
 | @quN c r h hp=>
  unfold quN at eo
  cases e:ixN c r with
  | none=>rw [e] at eo;injection eo
  | some i=>rw [e] at eo;cases eo;lia
 | go h hq b=>subst eo;exact ZC b h rfl
inductive Tks (kd:Nat->Kn)(p:Bool)(t:LN):Nat->List (LN × Nat)->Option Nat->Prop
 | stop {n:Nat} (h:t.length <= n):Tks kd p t n [] (some n)
 | white {n c:Nat} {r:LN} {l:List (LN × Nat)} {o:Option Nat} (e:t.drop n=c :: r) (h:kd c=.white) (b:Tks kd p t (n + 1) l o):Tks kd p t n l o
 | remark {n c:Nat} {r:LN} {l:List (LN × Nat)} {o:Option Nat} (e:t.drop n=c :: r) (h:kd c=.remark) (b:Tks kd p t (n + nlc (c :: r)) l o):Tks kd p t n l o
 | bad {n c:Nat} {r:LN} (e:t.drop n=c :: r) (h1:kd c ≠ .white) (h2:kd c ≠ .remark) (k:TK kd p (c :: r) none):Tks kd p t n [] none
 | tok {n c j:Nat} {r x:LN} {l:List (LN × Nat)} {o:Option Nat} (e:t.drop n=c :: r) (h1:kd c ≠ .white) (h2:kd c ≠ .remark) (k:TK kd p (c :: r) (some (x,j))) (b:Tks kd p t (n + j) l o):Tks kd p t n ((x,n + j) :: l) o
theorem Mh (kd:Nat->Kn)(p:Bool)(t:LN):∀ (k n:Nat),t.length <= n + k->∃ l o,Tks kd p t n l o
 | 0,n,h=>⟨_,_,.stop h⟩
 | k + 1,n,h=>by
  cases e:t.drop n with
  | nil=>exact ⟨_,_,.stop (List.drop_eq_nil_iff.mp e)⟩
  | cons c r=>
   by_cases h1:kd c=.white
   · refine E21 (Mh kd p t k (n + 1) (by lia)) fun l o b=>?_;exact ⟨_,_,.white e h1 b⟩
   by_cases h2:kd c=.remark
   · have:=M0 (c :: r);refine E21 (Mh kd p t k (n + nlc (c :: r)) (by lia)) fun l o b=>?_;exact ⟨_,_,.remark e h2 b⟩
   refine E11 (ZQ kd p c r h1 h2) fun o ho=>?_
   cases o with
   | none=>exact ⟨_,_,.bad e h1 h2 ho⟩
   | some xj=>
    have:=U1 ho;refine E21 (Mh kd p t k (n + xj.2) (by lia)) fun l o b=>?_;exact ⟨_,_,.tok e h1 h2 ho b⟩
theorem KJ {kd:Nat->Kn}{p:Bool}{t:LN}{n:Nat}{l:List (LN × Nat)}{o:Option Nat}(b:Tks kd p t n l o):l.length <= t.length - n:=by
 induction b with
 | stop h=>exact Nat.zero_le _
 | white e h b ih=>have:=J1 e;lia
 | remark e h b ih=>have:=J1 e;lia
 | bad e h1 h2 k=>exact Nat.zero_le _
 | tok e h1 h2 k b ih=>have:=J1 e;have:=U1 k;rw [List.length_cons];lia
noncomputable def rowN (p:LN × Nat):D:=.tup [.str p.1,.int (Int.ofNat p.2)]
noncomputable def endI:Option Nat->Int
 | some n=>Int.ofNat n
 | none=>-1
theorem MD (K:Kn):lEqB K.nm (cs "white")=match K with | .white=>true | _=>false:=by cases K <;> kernel_rfl!
theorem M8 (K:Kn):lEqB K.nm (cs "remark")=match K with | .remark=>true | _=>false:=by cases K <;> kernel_rfl!
section
variable {k j:Nat}{Ex:Ec->Led->Prop}{Q:D->Led->Prop}{t h m:LN}{p w:Bool}
theorem M1 {n c:Nat}{r:LN}{kd tk:Option D}{ys:LD}(e:t.drop n=c :: r)(q:tsKind fK gN RTk k Ex Q t n p w h m tk ys j (kn p w h m c).nm):tsL fK gN RTk k Ex Q (j + 1) (tsLoc t p w h m (Int.ofNat n) kd tk) [.list ys]:=by
 rw [P9,le0,ltN,Kc e,Jp rfl,Jp (decide_eq_true (J1 e))];exact q
theorem SH {n:Nat}{tk:Option D}{ys:LD}(q:tsA fK gN RTk k Ex Q j (tsLoc t p w h m (Int.ofNat (n + 1)) (some (.str (Kn.nm .white))) tk) [.list ys]):tsKind fK gN RTk k Ex Q t n p w h m tk ys j (Kn.nm .white):=by
 unfold tsKind;rw [Jp (MD .white)];exact q
theorem Rg {n:Nat}{tk:Option D}{ys:LD}(q:tsA fK gN RTk k Ex Q j (tsLoc t p w h m (Int.ofNat (gN t n)) (some (.str (Kn.nm .remark))) tk) [.list ys]):tsKind fK gN RTk k Ex Q t n p w h m tk ys j (Kn.nm .remark):=by
 unfold tsKind;rw [Je (MD .remark),Jp (M8 .remark)];exact Ju (le0 _) q
theorem U5 {n:Nat}{tk:Option D}{ys:LD}{K:Kn}(h1:K ≠ .white)(h2:K ≠ .remark)(q:tsTok fK gN RTk k Ex Q t n p w h m ys j K.nm):tsKind fK gN RTk k Ex Q t n p w h m tk ys j K.nm:=by
 unfold tsKind;rw [MD,M8]
 cases K with
 | white=>exact absurd rfl h1
 | remark=>exact absurd rfl h2
 | _=>exact q
theorem Yr (ht:t.length <= 1000){n:Nat}{l:List (LN × Nat)}{o:Option Nat}(b:Tks (kn p w h m) p t n l o):∀ {ys:LD} {kd tk:Option D},ys.length + l.length <= 10000->Q (.tup [.ref 0,.int (endI o)]) [.list (ys++l.map rowN)]->∃ j,tsL fK gN RTk k Ex Q j (tsLoc t p w h m (Int.ofNat n) kd tk) [.list ys]:=by
 induction b with
 | @stop n hn=>
  intro ys kd tk hl q;refine ⟨1,?_⟩;rw [P9,le0,ltN,Jp rfl,Je (decide_eq_false (by lia))]
  rw [List.map_nil,List.append_nil] at q;exact q
 | @white n c r l o e k b ih=>
  intro ys kd tk hl q;refine E11 (ih (kd:=some (.str (kn p w h m c).nm)) (tk:=tk) hl q) fun j hj=>?_;refine ⟨j + 1,M1 e ?_⟩;rw [k] at hj ⊢;exact SH ⟨_,.inl rfl,hj⟩
 | @remark n c r l o e k b ih=>
  intro ys kd tk hl q;refine E11 (ih (kd:=some (.str (kn p w h m c).nm)) (tk:=tk) hl q) fun j hj=>?_;refine ⟨j + 1,M1 e ?_⟩;rw [k] at hj ⊢;refine Rg ⟨_,.inl rfl,?_⟩;rw [Tk e];exact hj
 | @bad n c r e k1 k2 kk=>
  intro ys kd tk hl q;refine ⟨1 + 1,M1 e ?_⟩;refine U5 k1 k2 ?_;unfold tsTok;refine Ju (le0 _) (Ju (Nat.ble_eq_true_of_le ht) ⟨none,⟨none,by rw [e];exact kk,rfl⟩,?_⟩)
  refine ⟨_,.inl rfl,?_⟩;rw [YV];rw [List.map_nil,List.append_nil] at q;exact q
 | @tok n c i r x l o e k1 k2 kk b ih=>
  intro ys kd tk hl q;rw [List.length_cons] at hl;refine E11 (ih (ys:=ys++[rowN (x,n + i)]) (kd:=some (.str (kn p w h m c).nm)) (tk:=some (.str x)) (by rw [List.length_append,List.length_singleton];lia) (by rw [List.append_assoc];exact q)) fun j hj=>?_
  refine ⟨j + 1,M1 e ?_⟩;refine U5 k1 k2 ?_;unfold tsTok;refine Ju (le0 _) (Ju (Nat.ble_eq_true_of_le ht) ⟨some (x,n + i),⟨some (x,i),by rw [e];exact kk,rfl⟩,?_⟩)
  refine O5 ?_;dsimp only;rw [Jp (le0 _)];exact Jf.mpr ⟨by lia,_,.inl rfl,hj⟩
end
noncomputable def tsSpR (R:LN->Bool->Bool->LN->LN->LD->Int->Prop):Jc:=fun args kws led Ex Q=>l0 kws (lC args False fun a r=>lC r False fun b r=>l3 r fun c d e=>dS a fun t=>dB b fun p=>dB c fun w=>dS d fun h=>dS e fun m=>tr (Nat.ble t.length 1000) (∃ ys i,R t p w h m ys i /\ Q (.tup [.ref led.length,.int i]) (led++[.list ys])))
noncomputable def RTs (t:LN)(p w:Bool)(h m:LN)(ys:LD)(i:Int):Prop:=∃ l o,Tks (kn p w h m) p t 0 l o /\ ys=l.map rowN /\ i=endI o
theorem N9 (ρ:LN)(n:Nat)(l:List (LN × Nat)):rnL ρ n (l.map rowN)=l.map rowN:=Nw _ _ _ fun d hd=>by refine E12 (List.mem_map.mp hd) fun x _ hq1=>?_;obtain rfl:=hq1;rfl
theorem Ve (P:Params):Ja (KK P) 9 (.val 776) (tsSpR RTs):=by
 have sp:Ja (KK P) 9 (.val 776) (sTs fK gN RTk):=Jg (r:=6) (scoOf (fnD 27)) (kOk P) (Jd P) (.cons (Ja.mono (by decide) (Jac P)) (by kernel_rfl!) (.cons (Ja.mono (by decide) (UM P)) (by kernel_rfl!) (.cons (Ym P) (by kernel_rfl!) .nil))) Jb (by kernel_rfl!) (by kernel_rfl!) (by kernel_rfl!) (by
  intro p hp;cases List.mem_singleton.mp hp;exact Ji rfl rfl (fun S v1 v2 v3 v4 v5=>by show _=_;kernel_rfl!) (by kernel_rfl!))
 refine Ja.imp (Jt sp) fun args kws led Ex Q h=>?_;refine l0e h fun h=>?_;refine lCe h fun a r h=>?_;refine lCe h fun b r h=>?_;refine l3x h fun c d e h=>?_;refine dSe h fun t h=>?_;refine dBx h fun p h=>?_;refine dBx h fun w h=>?_;refine dSe h fun hh h=>?_;refine dSe h fun m h=>?_;refine E02 (tr_ h) fun ht hq0=>?_;refine E22 hq0 fun ys i hq6=>?_;clear hq0;refine E23 hq6 fun l o b hq8=>?_;clear hq6;obtain rfl:=hq8;intro hq9;obtain rfl:=hq9;intro h;have ht:=Nat.le_of_ble_eq_true ht;refine ⟨[],[.str t,.bool p,.bool w,.str hh,.str m],[],[],rfl,rfl,.nil,rfl,fun t j o x1 _=>by simp at x1,?_⟩
 rw [Jby];refine Yr ht b (by have:=KJ b;rw [List.length_nil];lia) ?_
 show Q _ (led++[OD.list (rnL _ _ _)]);rw [List.nil_append,N9];have:rnD [] led.length (.tup [.ref 0,.int (endI o)])=.tup [.ref led.length,.int (endI o)]:=rfl;rw [this];exact h
noncomputable def elseOf:Expr->Expr
 | .IfExp _ _ e _=>e
 | _=>.Constant .none 0 default
noncomputable def augOf:Stmt->Expr
 | .AugAssign _ _ e _=>e
 | _=>.Constant .none 0 default
noncomputable def ifOf:Stmt->List Stmt
 | .If _ b _ _=>b
 | _=>[]
section
variable (R:LN->Bool->Bool->LN->LN->LD->Int->Prop)
noncomputable def XWt:X:=Xof tops (scoOf (fnD 32)) [(776,tsSpR R)] noSpec
noncomputable def sWt:Jc:=defW (XWt R) 40 (bodOf (fnD 32)) [⟨3,[],[s "text",s "hush",s "posix"],[.arg 0,.arg 1,.arg 2]⟩]
noncomputable def wtE:Expr:=elseOf (valOf (stAt (bodOf (fnD 32)) 1))
noncomputable def wtX:X:=compX (XWt R) (compS wtE) []
noncomputable def wtC (ys0:LD)(K:Led->Prop)(xs:LD)(loc:Loc)(led:Led):Prop:=compL (wtX R) (run 36 (wtX R)) true 2 1 (fun led=>led[0]?=some (.list ys0)) (compG wtE).target (compG wtE).ifs (compE wtE) K xs loc led
noncomputable def leSp (L:LN->LN->Nat->LN):Jc:=fun args kws led Ex Q=>l0 kws (l3 args fun a b c=>dS a fun nm=>dS b fun t=>dI c fun i=>tr (leI 0 i) (tr (Nat.ble nm.length 1000) (tr (Nat.ble t.length 1000) (Q (.str (L nm t i.toNat)) led))))
variable (L:LN->LN->Nat->LN)
noncomputable def XTd:X:=XofC tops (scoOf (fnD 29)) [(776,tsSpR R),(783,leSp L)] noSpec [(s "text",0),(s "name",1)] []
noncomputable def sTd:Jc:=defCW (XTd R L) 40 (bodOf (fnD 29)) 4
noncomputable def tdPs:Expr × List Stmt × List Stmt:=forPs (stAt (bodOf (fnD 29)) 2)
section
variable (Ex:Ec->Led->Prop)(Q:D->Led->Prop)
noncomputable def tdEnd:QF:=seqW (run 37 (XTd R L)) ((bodOf (fnD 29)).drop 3) (fun c _ led=>Ex c led) fun fl _ led=>Q fl.val led
noncomputable def tdF (xs:LD)(loc:Loc)(led:Led):Prop:=forL (XTd R L) (run 37 (XTd R L)) false 4 (fun _=>True) tdPs.1 tdPs.2.1 tdPs.2.2 (fun c _ led=>Ex c led) (tdEnd R L Ex Q) xs loc led
noncomputable def tdS (i:Nat)(xs:LD)(loc:Loc)(led:Led):Prop:=(run (37 - i) (XTd R L)).xs (tdPs.2.1.drop i) loc led (fun c _ led=>Ex c led) (loopW (fun loc led=>True /\ tdF R L Ex Q xs loc led) (tdEnd R L Ex Q))
noncomputable def tdRet (xs:LD)(loc:Loc)(led:Led):Prop:=(run 33 (XTd R L)).xs (ifOf (stAt tdPs.2.1 3)) loc led (fun c _ led=>Ex c led) (seqW (run 33 (XTd R L)) [] (fun c _ led=>Ex c led) (loopW (fun loc led=>True /\ tdF R L Ex Q xs loc led) (tdEnd R L Ex Q)))
noncomputable def tdK (j k i:Nat)(xs:LD)(loc:Loc)(led:Led):Prop:=oL led j fun a=>oL led k fun b=>szL (a.length + b.length) (tdS R L Ex Q i xs loc (led.set j (.list (a++b))))
end
noncomputable def tdE1:Expr:=augOf (stAt tdPs.2.1 1)
noncomputable def tdE2:Expr:=augOf (stAt tdPs.2.1 2)
noncomputable def tdX1:X:=compX (XTd R L) (compS tdE1) [(s "name",1),(s "text",0)]
noncomputable def tdX2:X:=compX (XTd R L) (compS tdE2) []
noncomputable def tdC1 (k iw:Nat)(ys0:LD)(K:Led->Prop)(xs:LD)(loc:Loc)(led:Led):Prop:=compL (tdX1 R L) (run 34 (tdX1 R L)) true (k + 1) k (fun led=>led[iw]?=some (.list ys0)) (compG tdE1).target (compG tdE1).ifs (compE tdE1) K xs loc led
noncomputable def tdC2 (k iw:Nat)(ys0:LD)(K:Led->Prop)(xs:LD)(loc:Loc)(led:Led):Prop:=compL (tdX2 R L) (run 33 (tdX2 R L)) true (k + 1) k (fun led=>led[iw]?=some (.list ys0)) (compG tdE2).target (compG tdE2).ifs (compE tdE2) K xs loc led
noncomputable def tdLoc (lo up:LN)(p:Bool)(m:LN)(o1 o2:Option D):Loc:=[some (.str lo),some (.str up),some (.bool p),some (.str m),some (.ref 2),some (.ref 3),o1,o2]
noncomputable def WT (nm t:LN)(r pu:LD)(tl:Led):Led:=.cell (some (.str t)) :: .cell (some (.str nm)) :: .list r :: .list pu :: tl
section
variable (Ex:Ec->Led->Prop)(Q:D->Led->Prop)(t h x nm lo up m:LN)(p:Bool)(ys ys0 acc xs r pu:LD)(K:Led->Prop)(n k iw:Nat)(i:Int)(o1 o2 c0 c1:Option D)(d:D)(a b c a2 b2 c2:OD)(led tl:Led)(loc:Loc)
theorem Jdm:sWt R [.str t,.str h,.bool p] [] [] Ex Q=tr (Nat.ble t.length 1000) (∃ ys i,R t p true h [] ys i /\ ife (ltI i 0) (Q .none [.list ys]) (([.list ys,.list []]:Led)[0]?=some (.list ys) /\ wtC R ys (fun led=>Q (.ref 1) led) ys [none,none,none] [.list ys,.list []])):=by kernel_rfl!
theorem Yg:wtC R ys0 K [] loc led=K led:=by kernel_rfl!
theorem WZ:wtC R ys0 K (.tup [.str x,d] :: xs) [none,o1,o2] [.list ys,.list acc]=szL acc.length (∃ led',Tidy 2 [none,some (.str x),some d] [.list ys,.list (acc++[.str x])] led' /\ led'[0]?=some (.list ys0) /\ wtC R ys0 K xs [none,some (.str x),some d] led'):=by kernel_rfl!
theorem Jd6:sTd R L [.str lo,.str up,.bool p,.str m] [] [] Ex Q=(([]:Led)=[] /\ ([]:List (Str × D))=[] /\ 4=4 /\ (True /\ tdF R L Ex Q [.tup [.str (cs "upper"),.str up],.tup [.str (cs "lower"),.str lo]] (tdLoc lo up p m none none) [.cell none,.cell none,.list [],.list []])):=by kernel_rfl!
theorem QL:tdF R L Ex Q (.tup [.str nm,.str t] :: xs) (tdLoc lo up p m o1 o2) (.cell c0 :: .cell c1 :: tl)=tdS R L Ex Q 0 xs (tdLoc lo up p m o1 o2) (.cell (some (.str t)) :: .cell (some (.str nm)) :: tl):=by kernel_rfl!
theorem Zp:tdC1 R L k iw ys0 K [] loc led=K led:=by kernel_rfl!
theorem Jai:tdC2 R L k iw ys0 K [] loc led=K led:=by kernel_rfl!
theorem Jc6:tdC1 R L k iw ys0 K (.tup [.str x,.int (Int.ofNat n)] :: xs) [none,o1,o2] (.cell (some (.str t)) :: .cell (some (.str nm)) :: tl)=tr (leI 0 (Int.ofNat n)) (tr (Nat.ble nm.length 1000) (tr (Nat.ble t.length 1000) (oL (.cell (some (.str t)) :: .cell (some (.str nm)) :: tl) k fun acc=>szL acc.length (∃ led',Tidy (k + 1) [none,some (.str x),some (.int (Int.ofNat n))] (List.set (.cell (some (.str t)) :: .cell (some (.str nm)) :: tl) k (.list (acc++[.tup [.str x,.str (L nm t n)]]))) led' /\ led'[iw]?=some (.list ys0) /\ tdC1 R L k iw ys0 K xs [none,some (.str x),some (.int (Int.ofNat n))] led')))):=by kernel_rfl!
theorem Jcy:tdC2 R L k iw ys0 K (.tup [.str x,d] :: xs) [none,o1,o2] led=oL led k fun acc=>szL acc.length (∃ led',Tidy (k + 1) [none,some (.str x),some d] (led.set k (.list (acc++[.str x]))) led' /\ led'[iw]?=some (.list ys0) /\ tdC2 R L k iw ys0 K xs [none,some (.str x),some d] led'):=by kernel_rfl!
theorem YI:tdS R L Ex Q 3 xs (tdLoc lo up p m o1 (some (.int i))) led=ife (ltI i 0) (tdRet R L Ex Q xs (tdLoc lo up p m o1 (some (.int i))) led) (True /\ tdF R L Ex Q xs (tdLoc lo up p m o1 (some (.int i))) led):=by kernel_rfl!
theorem Jdr:tdS R L Ex Q 0 xs (tdLoc lo up p m o1 o2) (WT nm t r pu [])=tr (Nat.ble t.length 1000) (∃ ys i,R t p false [35] m ys i /\ tdS R L Ex Q 1 xs (tdLoc lo up p m (some (.ref 4)) (some (.int i))) (WT nm t r pu [.list ys])):=by kernel_rfl!
theorem Jb3:tdS R L Ex Q 1 xs (tdLoc lo up p m (some (.ref 4)) o2) (WT nm t r pu [.list ys])=((WT nm t r pu [.list ys,.list []])[4]?=some (.list ys) /\ tdC1 R L 5 4 ys (tdK R L Ex Q 2 5 2 xs (tdLoc lo up p m (some (.ref 4)) o2)) ys [none,none,none] (WT nm t r pu [.list ys,.list []])):=by kernel_rfl!
theorem Jc9:tdS R L Ex Q 2 xs (tdLoc lo up p m (some (.ref 4)) o2) (WT nm t r pu [.list ys,a2])=((WT nm t r pu [.list ys,a2,.list []])[4]?=some (.list ys) /\ tdC2 R L 6 4 ys (tdK R L Ex Q 3 6 3 xs (tdLoc lo up p m (some (.ref 4)) o2)) ys [none,none,none] (WT nm t r pu [.list ys,a2,.list []])):=by kernel_rfl!
theorem Jdk:tdRet R L Ex Q xs (tdLoc lo up p m o1 o2) (WT nm t r pu [a2,b2,c2])=tr (leI 0 (Int.ofNat t.length)) (tr (Nat.ble nm.length 1000) (tr (Nat.ble t.length 1000) (szL (r.length + 2) (Q (.tup [.ref 9,.ref 3]) (WT nm t r pu [a2,b2,c2,.list [.tup [.str (L nm t t.length)]],.list [.tup [.str (L nm t t.length)],.tup [.str (L nm t t.length)]],.list (r++[.tup [.str (L nm t t.length)],.tup [.str (L nm t t.length)]])]))))):=by kernel_rfl!
theorem Jdy:tdS R L Ex Q 0 xs (tdLoc lo up p m o1 o2) (WT nm t r pu [a,b,c])=tr (Nat.ble t.length 1000) (∃ ys i,R t p false [35] m ys i /\ tdS R L Ex Q 1 xs (tdLoc lo up p m (some (.ref 7)) (some (.int i))) (WT nm t r pu [a,b,c,.list ys])):=by kernel_rfl!
theorem Jc1:tdS R L Ex Q 1 xs (tdLoc lo up p m (some (.ref 7)) o2) (WT nm t r pu [a,b,c,.list ys])=((WT nm t r pu [a,b,c,.list ys,.list []])[7]?=some (.list ys) /\ tdC1 R L 8 7 ys (tdK R L Ex Q 2 8 2 xs (tdLoc lo up p m (some (.ref 7)) o2)) ys [none,none,none] (WT nm t r pu [a,b,c,.list ys,.list []])):=by kernel_rfl!
theorem Jdq:tdS R L Ex Q 2 xs (tdLoc lo up p m (some (.ref 7)) o2) (WT nm t r pu [a,b,c,.list ys,a2])=((WT nm t r pu [a,b,c,.list ys,a2,.list []])[7]?=some (.list ys) /\ tdC2 R L 9 7 ys (tdK R L Ex Q 3 9 3 xs (tdLoc lo up p m (some (.ref 7)) o2)) ys [none,none,none] (WT nm t r pu [a,b,c,.list ys,a2,.list []])):=by kernel_rfl!
theorem Jdz:tdRet R L Ex Q xs (tdLoc lo up p m o1 o2) (WT nm t r pu [a,b,c,a2,b2,c2])=tr (leI 0 (Int.ofNat t.length)) (tr (Nat.ble nm.length 1000) (tr (Nat.ble t.length 1000) (szL (r.length + 2) (Q (.tup [.ref 12,.ref 3]) (WT nm t r pu [a,b,c,a2,b2,c2,.list [.tup [.str (L nm t t.length)]],.list [.tup [.str (L nm t t.length)],.tup [.str (L nm t t.length)]],.list (r++[.tup [.str (L nm t t.length)],.tup [.str (L nm t t.length)]])]))))):=by kernel_rfl!
theorem ZP (n:Nat):tdF R L Ex Q [] (tdLoc lo up p m o1 (some (.int (Int.ofNat n)))) (WT nm t r pu [a,b,c,a2,b2,c2])=ife p (tr (leI 0 (Int.ofNat n)) (tr (Nat.ble 5 1000) (tr (Nat.ble lo.length 1000) (szL (r.length + 2) (Q (.tup [.ref 12,.ref 3]) (WT nm t r pu [a,b,c,a2,b2,c2,.list [.tup [.none,.str (L (cs "lower") lo n)]],.list [.tup [.none,.str (L (cs "lower") lo n)],.tup [.none,.str (L (cs "lower") lo n)]],.list (r++[.tup [.none,.str (L (cs "lower") lo n)],.tup [.none,.str (L (cs "lower") lo n)]])])))))) (tr (leI 0 (Int.ofNat n)) (tr (Nat.ble 5 1000) (tr (Nat.ble lo.length 1000) (szL (r.length + 2) (Q (.tup [.ref 12,.ref 3]) (WT nm t r pu [a,b,c,a2,b2,c2,.list [.tup [.str [],.str (L (cs "lower") lo n)]],.list [.tup [.str [],.str (L (cs "lower") lo n)],.tup [.str [],.str (L (cs "lower") lo n)]],.list (r++[.tup [.str [],.str (L (cs "lower") lo n)],.tup [.str [],.str (L (cs "lower") lo n)]])])))))):=by kernel_rfl!
end
end
theorem LZ {led:Led}{i:Nat}{xs:LD}{k:LD->Prop}(h:led[i]?=some (.list xs))(q:k xs):oL led i k:=by unfold oL;rw [Jq,h];exact q
noncomputable def firsts (l:List (LN × Nat)):List (LN):=l.map (·.1)
section
variable {R:LN->Bool->Bool->LN->LN->LD->Int->Prop}{L:LN->LN->Nat->LN}{K:Led->Prop}{ys0:LD}
theorem Ut:∀ (l:List (LN × Nat)) {acc:LD} {o1 o2:Option D},acc.length + l.length <= 10000->K [.list ys0,.list (acc++sts (firsts l))]->wtC R ys0 K (l.map rowN) [none,o1,o2] [.list ys0,.list acc]
 | [],acc,o1,o2,_,q=>by
  rw [List.map_nil,Yg];rw [show sts (firsts [])=[] from rfl,List.append_nil] at q;exact q
 | (x,n) :: l,acc,o1,o2,hl,q=>by
  rw [List.length_cons] at hl;show wtC R ys0 K (.tup [.str x,.int (Int.ofNat n)] :: l.map rowN) _ _;rw [WZ];refine Jf.mpr ⟨by lia,_,.inl rfl,rfl,Ut l (by rw [List.length_append,List.length_singleton];lia) ?_⟩
  rw [List.append_assoc];exact q
noncomputable def rowL (L:LN->LN->Nat->LN)(nm t:LN)(p:LN × Nat):D:=.tup [.str p.1,.str (L nm t p.2)]
section
variable {nm t:LN}{k iw:Nat}
theorem Qp (hn:nm.length <= 1000)(ht:t.length <= 1000)(hne:iw ≠ k):∀ (l:List (LN × Nat)) {tl:Led} {acc:LD} {o1 o2:Option D},tl[k]?=some (.list acc)->tl[iw]?=some (.list ys0)->acc.length + l.length <= 10000->K (.cell (some (.str t)) :: .cell (some (.str nm)) :: tl.set k (.list (acc++l.map (rowL L nm t))))->tdC1 R L (k + 2) (iw + 2) ys0 K (l.map rowN) [none,o1,o2] (.cell (some (.str t)) :: .cell (some (.str nm)) :: tl)
 | [],tl,acc,o1,o2,h1,h2,hl,q=>by
  rw [List.map_nil,Zp];rw [List.map_nil,List.append_nil] at q;refine E11 (List.getElem?_eq_some_iff.mp h1) fun hk e=>?_;have:tl.set k (.list acc)=tl:=by rw [<-e];exact List.set_getElem_self hk
  rw [this] at q;exact q
 | (x,n) :: l,tl,acc,o1,o2,h1,h2,hl,q=>by
  rw [List.length_cons] at hl;show tdC1 R L (k + 2) (iw + 2) ys0 K (.tup [.str x,.int (Int.ofNat n)] :: l.map rowN) _ _;rw [Jc6];have hk:=(gel h1);refine Ju (le0 _) (Ju (Nat.ble_eq_true_of_le hn) (Ju (Nat.ble_eq_true_of_le ht) (LZ (xs:=acc) h1 (Jf.mpr ⟨by lia,_,.inl rfl,?_,?_⟩))))
  · show (tl.set k _)[iw]?=_;rw [List.getElem?_set_ne (Ne.symm hne)];exact h2
  · refine Qp hn ht hne l (tl:=tl.set k (.list (acc++[.tup [.str x,.str (L nm t n)]]))) (acc:=acc++[.tup [.str x,.str (L nm t n)]]) ?_ ?_ (by rw [List.length_append,List.length_singleton];lia) ?_
    · rw [List.getElem?_set_self hk]
    · rw [List.getElem?_set_ne (Ne.symm hne)];exact h2
    · rw [List.set_set,List.append_assoc];exact q
theorem Qk (hne:iw ≠ k):∀ (l:List (LN × Nat)) {tl:Led} {acc:LD} {o1 o2:Option D},tl[k]?=some (.list acc)->tl[iw]?=some (.list ys0)->acc.length + l.length <= 10000->K (tl.set k (.list (acc++sts (firsts l))))->tdC2 R L k iw ys0 K (l.map rowN) [none,o1,o2] tl
 | [],tl,acc,o1,o2,h1,h2,hl,q=>by
  rw [List.map_nil,Jai];rw [show sts (firsts [])=[] from rfl,List.append_nil] at q
  refine E11 (List.getElem?_eq_some_iff.mp h1) fun hk e=>?_;have:tl.set k (.list acc)=tl:=by rw [<-e];exact List.set_getElem_self hk
  rw [this] at q;exact q
 | (x,n) :: l,tl,acc,o1,o2,h1,h2,hl,q=>by
  rw [List.length_cons] at hl;show tdC2 R L k iw ys0 K (.tup [.str x,.int (Int.ofNat n)] :: l.map rowN) _ _;rw [Jcy];have hk:=(gel h1);refine LZ (xs:=acc) h1 (Jf.mpr ⟨by lia,_,.inl rfl,?_,?_⟩)
  · rw [List.getElem?_set_ne (Ne.symm hne)];exact h2
  · refine Qk hne l (tl:=tl.set k (.list (acc++[.str x]))) (acc:=acc++[.str x]) ?_ ?_ (by rw [List.length_append,List.length_singleton];lia) ?_
    · rw [List.getElem?_set_self hk]
    · rw [List.getElem?_set_ne (Ne.symm hne)];exact h2
    · rw [List.set_set,List.append_assoc];exact q
end
end
noncomputable def ldL (nm t:LN)(n:Nat):LN:=pctD nm (lnAt t n)
theorem YA (P:Params):Ja (KK P) 3 (.val 783) (leSp ldL):=by
 refine Ja.imp (Jen P) fun args kws led Ex Q h0=>?_;refine l0e h0 fun h1=>?_;refine l3x h1 fun a b c h2=>?_;refine dSe h2 fun x h3=>?_;refine dSe h3 fun t h4=>?_;refine dIe h4 fun i h5=>?_;refine E02 (tr_ h5) fun hi h6=>?_;refine E02 (tr_ h6) fun h7 h8=>?_;refine E02 (tr_ h8) fun h9 h=>?_;have hi:0 <= i:=of_decide_eq_true hi;refine E11 (Int.eq_ofNat_of_zero_le hi) fun n hq3=>?_;obtain rfl:=hq3;exact Vm (Nat.le_of_ble_eq_true h7) (Nat.le_of_ble_eq_true h9) h
noncomputable def wtSp:Jc:=fun args kws led Ex Q=>∃ t h p l o,args=[.str t,.str h,.bool p] /\ kws=[] /\ t.length <= 1000 /\ Tks (kn p true h []) p t 0 l o /\ (o=none->Q .none (led++[.list (l.map rowN)])) /\ (∀ n,o=some n->Q (.ref (led.length + 1)) (led++[.list (l.map rowN),.list (sts (firsts l))]))
theorem oWt (P:Params):Ja (KK P) 12 (.val 805) (sWt RTs):=Jg (r:=9) (scoOf (fnD 32)) (kOk P) (Jd P) (.cons (Ve P) (by kernel_rfl!) .nil) Jb (by kernel_rfl!) (by kernel_rfl!) (by kernel_rfl!) (by
 intro p hp;cases List.mem_singleton.mp hp;exact Ji rfl rfl (fun S v1 v2 v3=>by show _=_;kernel_rfl!) (by kernel_rfl!))
theorem Jeu {t h:LN}{p:Bool}{Ex:Ec->Led->Prop}{Q:D->Led->Prop}{l:List (LN × Nat)}{o:Option Nat}(ht:t.length <= 1000)(b:Tks (kn p true h []) p t 0 l o)(q1:o=none->Q .none [.list (l.map rowN)])(q2:∀ n,o=some n->Q (.ref 1) [.list (l.map rowN),.list (sts (firsts l))]):sWt RTs [.str t,.str h,.bool p] [] [] Ex Q:=by
 rw [Jdm];refine Ju (Nat.ble_eq_true_of_le ht) ⟨_,_,⟨l,o,b,rfl,rfl⟩,?_⟩
 cases o with
 | none=>exact q1 rfl
 | some n=>
  rw [Je (show ltI (endI (some n)) 0=false from decide_eq_false (Int.not_lt.mpr (Int.natCast_nonneg _)))]
  exact ⟨rfl,Ut l (by have:=KJ b;rw [List.length_nil];lia) (q2 n rfl)⟩
theorem ZS (P:Params):Ja (KK P) 12 (.val 805) wtSp:=by
 refine Ja.imp (Jt (oWt P)) fun args kws led Ex Q hq=>?_;refine E56 hq fun t h p l o e1 e2 ht b q1 q2=>?_;subst e1 e2;refine ⟨[],[.str t,.str h,.bool p],[],[],rfl,rfl,.nil,rfl,fun t j o x1 _=>by simp at x1,Jeu ht b (fun e=>?_) fun n e=>?_⟩
 · show Q .none (led++[OD.list (rnL _ _ _)]);rw [N9];exact q1 e
 · show Q (.ref (led.length + 1)) (led++[OD.list (rnL _ _ _),OD.list (rnL _ _ _)]);rw [N9,Ku];exact q2 n e
noncomputable def RTd (lo up:LN)(p:Bool)(m:LN)(rows toks:LD):Prop:=∃ l1 o1,Tks (kn p false [35] m) p up 0 l1 o1 /\
 ((o1=none /\ rows=l1.map (rowL ldL (cs "upper") up)++[.tup [.str (ldL (cs "upper") up up.length)],.tup [.str (ldL (cs "upper") up up.length)]] /\ toks=sts (firsts l1)) \/
  (o1 ≠ none /\ ∃ l2 o2,Tks (kn p false [35] m) p lo 0 l2 o2 /\ toks=sts (firsts l1)++sts (firsts l2) /\
   ((o2=none /\ rows=l1.map (rowL ldL (cs "upper") up)++l2.map (rowL ldL (cs "lower") lo)++[.tup [.str (ldL (cs "lower") lo lo.length)],.tup [.str (ldL (cs "lower") lo lo.length)]]) \/
    (∃ n,o2=some n /\ rows=l1.map (rowL ldL (cs "upper") up)++l2.map (rowL ldL (cs "lower") lo)++[.tup [eofD p,.str (ldL (cs "lower") lo n)],.tup [eofD p,.str (ldL (cs "lower") lo n)]]))))
theorem KU:(cs "upper").length <= 1000:=by decide +kernel
theorem KT:(cs "lower").length <= 1000:=by decide +kernel
section
variable {Ex:Ec->Led->Prop}{Q:D->Led->Prop}{lo up m:LN}{p:Bool}{o1 o2:Option D}{r pu xs:LD}{nm t:LN}{a b c:OD}
theorem Xe (hn:nm.length <= 1000)(ht:t.length <= 1000){l:List (LN × Nat)}{o:Option Nat}(k:Tks (kn p false [35] m) p t 0 l o)(hr:r.length <= 10000)(hp:pu.length <= 10000)
 (q:tdS RTs ldL Ex Q 3 xs (tdLoc lo up p m (some (.ref 4)) (some (.int (endI o)))) (WT nm t (r++l.map (rowL ldL nm t)) (pu++sts (firsts l)) [.list (l.map rowN),.list (l.map (rowL ldL nm t)),.list (sts (firsts l))])):tdS RTs ldL Ex Q 0 xs (tdLoc lo up p m o1 o2) (WT nm t r pu []):=by
 have hl:=KJ k;rw [Jdr];refine Ju (Nat.ble_eq_true_of_le ht) ⟨_,_,⟨l,o,k,rfl,rfl⟩,?_⟩;rw [Jb3];refine ⟨rfl,Qp hn ht (by decide:(2:Nat) ≠ 3) l (acc:=[]) rfl rfl (by rw [List.length_nil];lia) ?_⟩
 show szL (r.length + (l.map (rowL ldL nm t)).length) _;refine Jf.mpr ⟨by rw [List.length_map];lia,?_⟩
 show tdS RTs ldL Ex Q 2 xs _ (WT nm t (r++l.map (rowL ldL nm t)) pu [.list (l.map rowN),.list (l.map (rowL ldL nm t))]);rw [Jc9];refine ⟨rfl,Qk (by decide:(4:Nat) ≠ 6) l (acc:=[]) rfl rfl (by rw [List.length_nil];lia) ?_⟩
 show szL (pu.length + (sts (firsts l)).length) _;refine Jf.mpr ⟨by rw [KZ];unfold firsts;rw [List.length_map];lia,?_⟩
 exact q
theorem Vj (hn:nm.length <= 1000)(ht:t.length <= 1000){l:List (LN × Nat)}{o:Option Nat}(k:Tks (kn p false [35] m) p t 0 l o)(hr:r.length <= 10000)(hp:pu.length <= 10000)
 (q:tdS RTs ldL Ex Q 3 xs (tdLoc lo up p m (some (.ref 7)) (some (.int (endI o)))) (WT nm t (r++l.map (rowL ldL nm t)) (pu++sts (firsts l)) [a,b,c,.list (l.map rowN),.list (l.map (rowL ldL nm t)),.list (sts (firsts l))])):tdS RTs ldL Ex Q 0 xs (tdLoc lo up p m o1 o2) (WT nm t r pu [a,b,c]):=by
 have hl:=KJ k;rw [Jdy];refine Ju (Nat.ble_eq_true_of_le ht) ⟨_,_,⟨l,o,k,rfl,rfl⟩,?_⟩;rw [Jc1];refine ⟨rfl,Qp hn ht (by decide:(5:Nat) ≠ 6) l (acc:=[]) rfl rfl (by rw [List.length_nil];lia) ?_⟩
 show szL (r.length + (l.map (rowL ldL nm t)).length) _;refine Jf.mpr ⟨by rw [List.length_map];lia,?_⟩
 show tdS RTs ldL Ex Q 2 xs _ (WT nm t (r++l.map (rowL ldL nm t)) pu [a,b,c,.list (l.map rowN),.list (l.map (rowL ldL nm t))]);rw [Jdq];refine ⟨rfl,Qk (by decide:(7:Nat) ≠ 9) l (acc:=[]) rfl rfl (by rw [List.length_nil];lia) ?_⟩
 show szL (pu.length + (sts (firsts l)).length) _;refine Jf.mpr ⟨by rw [KZ];unfold firsts;rw [List.length_map];lia,?_⟩
 exact q
end
noncomputable def pairQ (Q:D->Led->Prop)(led:Led)(rows toks:LD):Prop:=∀ (g:Led) (a b:Nat),g[a]?=some (.list rows)->g[b]?=some (.list toks)->Q (.tup [.ref (led.length + a),.ref (led.length + b)]) (led++g)
noncomputable def tdSp:Jc:=fun args kws led Ex Q=>∃ lo up p m rows toks,args=[.str lo,.str up,.bool p,.str m] /\ kws=[] /\ lo.length <= 1000 /\ up.length <= 1000 /\ RTd lo up p m rows toks /\ pairQ Q led rows toks
theorem oTd (P:Params):Ja (KK P) 12 (.val 788) (sTd RTs ldL):=
 OC (r:=9) (ps:=[s "lower",s "upper",s "posix",s "marks"]) (scoOf (fnD 29)) (kOk P) (Jd P)
  (.cons (Ve P) (by kernel_rfl!) (.cons (Ja.mono (by decide) (YA P)) (by kernel_rfl!) .nil))
  .nil Jb (by kernel_rfl!) (by kernel_rfl!) (by kernel_rfl!) (by kernel_rfl!) (by kernel_rfl!) (by kernel_rfl!) rfl (fun v1 v2 v3 v4=>by show _=_;kernel_rfl!)
theorem Jd8 {lo up m:LN}{p:Bool}{Ex:Ec->Led->Prop}{Q:D->Led->Prop}{rows toks:LD}(h1:lo.length <= 1000)(h2:up.length <= 1000)(b:RTd lo up p m rows toks)(q:∀ (g:Led) (a:Nat),g[a]?=some (.list rows)->g[3]?=some (.list toks)->Q (.tup [.ref a,.ref 3]) g):sTd RTs ldL [.str lo,.str up,.bool p,.str m] [] [] Ex Q:=by
 rw [Jd6];refine ⟨rfl,rfl,rfl,trivial,?_⟩;refine E22 b fun l1 o1 k1 b=>?_;have hl1:=KJ k1;have hm1:(l1.map (rowL ldL (cs "upper") up)).length <= 1000:=by rw [List.length_map];lia
 have hs1:(sts (firsts l1)).length <= 1000:=by rw [KZ];unfold firsts;rw [List.length_map];lia
 rw [QL];refine Xe (r:=[]) (pu:=[]) KU h2 k1 (by rw [List.length_nil];lia) (by rw [List.length_nil];lia) ?_
 rw [YI,List.nil_append,List.nil_append];rcases b with ⟨e1,e2,e3⟩ | ⟨e1,l2,o2,k2,e3,b⟩
 · subst e1 e2 e3;rw [Jp (show ltI (endI none) 0=true from rfl),Jdk]
   refine Ju (le0 _) (Ju (Nat.ble_eq_true_of_le KU) (Ju (Nat.ble_eq_true_of_le h2) (Jf.mpr ⟨by lia,?_⟩)))
   exact q _ 9 rfl rfl
 · refine E11 (Option.ne_none_iff_exists'.mp e1) fun n1 hq2=>?_;obtain rfl:=hq2;have hl2:=KJ k2;have hm2:(l2.map (rowL ldL (cs "lower") lo)).length <= 1000:=by rw [List.length_map];lia
   rw [Je (show ltI (endI (some n1)) 0=false from decide_eq_false (Int.not_lt.mpr (Int.natCast_nonneg _)))]
   refine ⟨trivial,?_⟩;show tdF _ _ _ _ _ _ (.cell _ :: .cell _ :: _);rw [QL];refine Vj KT h1 k2 (by lia) (by lia) ?_
   rw [YI];have hlen:(l1.map (rowL ldL (cs "upper") up)++l2.map (rowL ldL (cs "lower") lo)).length <= 2000:=by rw [List.length_append];lia
   rcases b with ⟨e1,e2⟩ | ⟨n,e1,e2⟩
   · subst e1 e2 e3;rw [Jp (show ltI (endI none) 0=true from rfl),Jdz]
     refine Ju (le0 _) (Ju (Nat.ble_eq_true_of_le KT) (Ju (Nat.ble_eq_true_of_le h1) (Jf.mpr ⟨by lia,?_⟩)))
     exact q _ 12 rfl rfl
   · subst e1 e2 e3;rw [Je (show ltI (endI (some n)) 0=false from decide_eq_false (Int.not_lt.mpr (Int.natCast_nonneg _)))]
     refine ⟨trivial,?_⟩;show tdF _ _ _ _ _ (tdLoc lo up p m _ (some (.int (Int.ofNat n)))) _;rw [ZP]
     cases p with
     | true=>
      rw [Jp rfl];refine Ju (le0 _) (Ju rfl (Ju (Nat.ble_eq_true_of_le h1) (Jf.mpr ⟨by lia,?_⟩)))
      exact q _ 12 rfl rfl
     | false=>
      rw [Je rfl];refine Ju (le0 _) (Ju rfl (Ju (Nat.ble_eq_true_of_le h1) (Jf.mpr ⟨by lia,?_⟩)))
      exact q _ 12 rfl rfl
noncomputable def flat (d:D):Prop:=∀ ρ n,rnD ρ n d=d
theorem KG {nm t:LN}{l:List (LN × Nat)}:∀ d ∈ l.map (rowL ldL nm t),flat d:=fun d hd=>by
 refine E12 (List.mem_map.mp hd) fun x _ hq1=>?_;obtain rfl:=hq1;exact fun ρ n=>rfl
theorem MG {l:List (LN)}:∀ d ∈ sts l,flat d:=fun d hd=>by
 refine E12 (List.mem_map.mp hd) fun x _ hq0=>?_;obtain rfl:=hq0;exact fun ρ n=>rfl
theorem ME {e:D}(h:flat e):∀ d ∈ [e,e],flat d:=fun d hd=>by
 rcases List.mem_cons.mp hd with rfl | hd
 · exact h
 · rw [List.mem_singleton.mp hd];exact h
theorem Km {a b:LD}(h1:∀ d ∈ a,flat d)(h2:∀ d ∈ b,flat d):∀ d ∈ a++b,flat d:=fun d hd=>(List.mem_append.mp hd).elim (h1 d) (h2 d)
theorem RW {l:LD}(h:∀ d ∈ l,flat d)(ρ:LN)(n:Nat):rnL ρ n l=l:=Nw _ _ _ fun d hd=>h d hd ρ n
theorem XU {lo up m:LN}{p:Bool}{rows toks:LD}(b:RTd lo up p m rows toks):(∀ d ∈ rows,flat d) /\ ∀ d ∈ toks,flat d:=by
 have fe:∀ x,flat (.tup [eofD p,.str x]):=fun x ρ n=>by cases p <;> rfl
 obtain ⟨l1,o1,k1,b⟩:=b;rcases b with ⟨e1,e2,e3⟩ | ⟨e1,l2,o2,k2,e3,b⟩
 · subst e1 e2 e3;exact ⟨Km KG (ME fun ρ n=>rfl),MG⟩
 · subst e3;refine ⟨?_,Km MG MG⟩;rcases b with ⟨e1,e2⟩ | ⟨n,e1,e2⟩
   · subst e1 e2;exact Km (Km KG KG) (ME fun ρ n=>rfl)
   · subst e1 e2;exact Km (Km KG KG) (ME (fe _))
theorem ZU (P:Params):Ja (KK P) 12 (.val 788) tdSp:=by
 refine Ja.imp (Jt (oTd P)) fun args kws led Ex Q hq=>?_;obtain ⟨lo,up,p,m,rows,toks,e1,e2,h1,h2,b,q⟩:=hq;subst e1 e2;refine E02 (XU b) fun f1 f2=>?_;refine ⟨[],[.str lo,.str up,.bool p,.str m],[],[],rfl,rfl,.nil,rfl,fun t j o x1 _=>by simp at x1,Jd8 h1 h2 b fun g a ha hb=>?_⟩
 show Q (.tup [.ref (led.length + a),.ref (led.length + 3)]) (led++(g.drop 0).map (rnOD [] led.length));refine q _ a 3 ?_ ?_
 · rw [List.drop_zero,List.getElem?_map,ha];show some (OD.list (rnL _ _ _))=_;rw [RW f1]
 · rw [List.drop_zero,List.getElem?_map,hb];show some (OD.list (rnL _ _ _))=_;rw [RW f2]
noncomputable def lawB:List Stmt:=bodOf (fnD 33)
noncomputable def lawV (i:Nat):Expr:=valOf (stAt lawB i)
noncomputable def arg0:Expr->Expr
 | .BoolOp _ (e :: _) _=>e
 | .Call _ (e :: _) _ _=>e
 | _=>.Constant .none 0 default
noncomputable def tailOr:Expr->Expr
 | .BoolOp o (_ :: r) p=>.BoolOp o r p
 | e=>e
noncomputable def nthArg:Expr->Nat->Expr
 | .BoolOp _ es _,i=>match nth es i with
  | some e=>e
  | none=>.Constant .none 0 default
 | _,_=>.Constant .none 0 default
noncomputable def cmpL:Expr->Expr
 | .Compare l _ _ _=>l
 | _=>.Constant .none 0 default
noncomputable def cmpR:Expr->Expr
 | .Compare _ _ (r :: _) _=>r
 | _=>.Constant .none 0 default
noncomputable def eL (i:Nat):Expr:=cmpL (nthArg (lawV 9) i)
noncomputable def eR (i:Nat):Expr:=cmpR (nthArg (lawV 9) i)
noncomputable def signSp:Jc:=fun args kws led Ex Q=>l0 kws (l1 args fun a=>dI a fun n=>∀ c:Nat,Q (.str [c]) led)
noncomputable def optQ (Q:D->Led->Prop)(led:Led)(o:Option (List (LN))):Prop:=match o with
 | none=>∀ g:Led,Q .none (led++g)
 | some ts=>∀ (g:Led) (a:Nat),g[a]?=some (.list (sts ts))->Q (.ref (led.length + a)) (led++g)
noncomputable def l4 (l:LD)(k:D->D->D->D->Prop):Prop:=lC l False fun a r=>l3 r (k a)
noncomputable def readSp (R:LN->LN->Bool->D->LD->LD->Prop):Jc:=fun args kws led Ex Q=>l0 kws (l4 args fun a b c d=>dS a fun lo=>dS b fun up=>dB c fun p=>∃ rows toks,R lo up p d rows toks /\ pairQ Q led rows toks)
noncomputable def wordSp (R:LN->LN->Bool->Option (List (LN))->Prop):Jc:=fun args kws led Ex Q=>l0 kws (l3 args fun a b c=>dS a fun t=>dS b fun h=>dB c fun p=>∃ o,R t h p o /\ optQ Q led o)
section
variable (R1 R2:LN->LN->Bool->D->LD->LD->Prop)(R3 R4:LN->LN->Bool->Option (List (LN))->Prop)
noncomputable def lawSp:List (Nat × Jc):=[(741,signSp),(793,readSp R1),(788,readSp R2),(800,wordSp R3),(805,wordSp R4)]
noncomputable def XLaw (v:Nat)(sc:LD):X:={ Xof tops (scoOf (fnD 33)) (lawSp R1 R2 R3 R4) noSpec with cells:=[(s "whole",0)],fz:=some (v,sc) }
abbrev exL (Ex:Ec->Led->Prop):QE:=fun c _ led=>Ex c led
noncomputable def lawXs (v:Nat)(sc:LD)(i:Nat)(loc:Loc)(led:Led)(Ex:Ec->Led->Prop)(Q:D->Led->Prop):Prop:=(run (40 - i) (XLaw R1 R2 R3 R4 v sc)).xs (lawB.drop i) loc led (exL Ex) fun fl _ led=>Q fl.val led
noncomputable def cxOf (c:Expr)(cells:List (Str × Nat)):X:=compX (XLaw R1 R2 R3 R4 0 []) (compS c) cells
noncomputable def lawSt (v:Nat)(sc:LD)(i:Nat)(x:Str)(Ex:Ec->Led->Prop)(Q:D->Led->Prop):QD:=fun d loc led=>storeW (XLaw R1 R2 R3 R4 v sc) x d loc led fun loc led=>lawXs R1 R2 R3 R4 v sc (i + 1) loc led Ex Q
noncomputable def ways:LD:=[.tup [.str [35],.bool false],.tup [.str [35],.bool true],.tup [.str [],.bool false],.tup [.str [],.bool true]]
noncomputable def lawC0:Expr:=arg0 (lawV 0)
noncomputable def lawC (i:Nat):Expr:=arg0 (lawV i)
noncomputable def lc0 (sl:LD)(K:Led->Prop)(xs:LD)(loc:Loc)(led:Led):Prop:=compL (cxOf R1 R2 R3 R4 lawC0 []) (run 37 (cxOf R1 R2 R3 R4 lawC0 [])) true 3 2 (fun led=>led[1]?=some (.list sl)) (compG lawC0).target (compG lawC0).ifs (compE lawC0) K xs loc led
noncomputable def lcj (i k iw:Nat)(sl:LD)(K:Led->Prop)(xs:LD)(loc:Loc)(led:Led):Prop:=compL (cxOf R1 R2 R3 R4 (lawC i) []) (run (37 - i) (cxOf R1 R2 R3 R4 (lawC i) [])) true (k + 1) k (fun led=>led[iw]?=some (.list sl)) (compG (lawC i)).target (compG (lawC i)).ifs (compE (lawC i)) K xs loc led
noncomputable def lcw (e:Expr)(k iw:Nat)(ws:LD)(K:Led->Prop)(xs:LD)(loc:Loc)(led:Led):Prop:=compL (cxOf R1 R2 R3 R4 e [(s "whole",0)]) (run 26 (cxOf R1 R2 R3 R4 e [(s "whole",0)])) true (k + 1) k (fun led=>led[iw]?=some (.list ws)) (compG e).target (compG e).ifs (compE e) K xs loc led
noncomputable def dflt11:LD:=[8,3,1,17,7,11,14,37,38,55,58].map .int
noncomputable def lwK (Rw:LN->LN->Bool->Option (List (LN))->Prop)(again:List (Option D)->Led->Prop)(k iw:Nat)(ws:LD)(t h:LN)(p:Bool)(led:Led):Prop:=∃ o,Rw t h p o /\ optQ (fun d led'=>oL led' k fun acc=>szL acc.length (∃ led'',Tidy (k + 1) [none,some (.str h),some (.bool p)] (led'.set k (.list (acc++[d]))) led'' /\ led''[iw]?=some (.list ws) /\ again [none,some (.str h),some (.bool p)] led'')) led o
section
variable (v:Nat)(sc xs ys sl acc ws:LD)(c:Option D)(tl led:Led)(Ex:Ec->Led->Prop)(Q:D->Led->Prop)(Qv:QD)(Kv:Loc->Led->Prop)(K:Led->Prop)(loc:Loc)(o o1 o2:Option D)(n:Int)(k iw iv:Nat)(x0 x1 x2 x3 x4 x5 x6 x7 x8:Option D)(d:D)(t h l u:LN)(p:Bool)(gv:D)(mk:LN)
theorem Y8:(run 38 (XLaw R1 R2 R3 R4 v sc)).ev lawC0 [some (.val v),x1,x2,x3,x4,x5,x6,x7,x8] [.cell c] (exL Ex) Qv=(v=v /\ szL sc.length (([.cell c,.list (cut sc 0 20),.list []]:Led)[1]?=some (.list (cut sc 0 20)) /\ lc0 R1 R2 R3 R4 (cut sc 0 20) (fun led'=>Qv (.ref 2) [some (.val v),x1,x2,x3,x4,x5,x6,x7,x8] led') (cut sc 0 20) [none,none] [.cell c,.list (cut sc 0 20),.list []])):=by kernel_rfl!
theorem VT (sl:LD):lc0 R1 R2 R3 R4 sl K [] loc led=K led:=by kernel_rfl!
theorem TL (sl:LD):lc0 R1 R2 R3 R4 sl K (.int n :: xs) [none,o] [.cell c,.list ys,.list acc]=szL acc.length (∃ led',Tidy 3 [none,some (.int n)] [.cell c,.list ys,.list (acc++[.int (n.fmod 100000000)])] led' /\ led'[1]?=some (.list sl) /\ lc0 R1 R2 R3 R4 sl K xs [none,some (.int n)] led'):=by kernel_rfl!
theorem Jeg:lawXs R1 R2 R3 R4 v sc 0 loc led Ex Q=(run 39 (XLaw R1 R2 R3 R4 v sc)).ev (lawV 0) loc led (exL Ex) (lawSt R1 R2 R3 R4 v sc 0 (s "numbers") Ex Q):=by kernel_rfl!
theorem Jbz:lawXs R1 R2 R3 R4 v sc 1 loc led Ex Q=(run 38 (XLaw R1 R2 R3 R4 v sc)).ev (lawV 1) loc led (exL Ex) (lawSt R1 R2 R3 R4 v sc 1 (s "lower") Ex Q):=by kernel_rfl!
theorem Jd1:lawXs R1 R2 R3 R4 v sc 2 loc led Ex Q=(run 37 (XLaw R1 R2 R3 R4 v sc)).ev (lawV 2) loc led (exL Ex) (lawSt R1 R2 R3 R4 v sc 2 (s "upper") Ex Q):=by kernel_rfl!
theorem Jdg:lawXs R1 R2 R3 R4 v sc 3 loc led Ex Q=(run 36 (XLaw R1 R2 R3 R4 v sc)).ev (lawV 3) loc led (exL Ex) (lawSt R1 R2 R3 R4 v sc 3 (s "mode") Ex Q):=by kernel_rfl!
theorem Jdp:lawXs R1 R2 R3 R4 v sc 4 loc led Ex Q=(run 35 (XLaw R1 R2 R3 R4 v sc)).ev (lawV 4) loc led (exL Ex) (lawSt R1 R2 R3 R4 v sc 4 (s "posix") Ex Q):=by kernel_rfl!
theorem PF:lawXs R1 R2 R3 R4 v sc 5 loc led Ex Q=(run 34 (XLaw R1 R2 R3 R4 v sc)).ev (lawV 5) loc led (exL Ex) (lawSt R1 R2 R3 R4 v sc 5 (s "given") Ex Q):=by kernel_rfl!
theorem Pj:lawXs R1 R2 R3 R4 v sc 6 loc led Ex Q=(run 33 (XLaw R1 R2 R3 R4 v sc)).ev (lawV 6) loc led (exL Ex) (lawSt R1 R2 R3 R4 v sc 6 (s "marks") Ex Q):=by kernel_rfl!
theorem Jeq:lawXs R1 R2 R3 R4 v sc 8 loc led Ex Q=(run 31 (XLaw R1 R2 R3 R4 v sc)).ev (lawV 8) loc led (exL Ex) (lawSt R1 R2 R3 R4 v sc 8 (s "whole") Ex Q):=by kernel_rfl!
theorem Jb6:lawXs R1 R2 R3 R4 v sc 9 loc led Ex Q=(run 30 (XLaw R1 R2 R3 R4 v sc)).ev (lawV 9) loc led (exL Ex) (fun d loc led=>Q d led):=by kernel_rfl!
theorem Ma:storeW (XLaw R1 R2 R3 R4 v sc) (s "numbers") d [x0,x1,x2,x3,x4,x5,x6,x7,x8] led Kv=Kv [x0,some d,x2,x3,x4,x5,x6,x7,x8] led:=by kernel_rfl!
theorem SA:storeW (XLaw R1 R2 R3 R4 v sc) (s "lower") d [x0,x1,x2,x3,x4,x5,x6,x7,x8] led Kv=Kv [x0,x1,some d,x3,x4,x5,x6,x7,x8] led:=by kernel_rfl!
theorem Ud:storeW (XLaw R1 R2 R3 R4 v sc) (s "upper") d [x0,x1,x2,x3,x4,x5,x6,x7,x8] led Kv=Kv [x0,x1,x2,some d,x4,x5,x6,x7,x8] led:=by kernel_rfl!
theorem XR:storeW (XLaw R1 R2 R3 R4 v sc) (s "mode") d [x0,x1,x2,x3,x4,x5,x6,x7,x8] led Kv=Kv [x0,x1,x2,x3,some d,x5,x6,x7,x8] led:=by kernel_rfl!
theorem Ks:storeW (XLaw R1 R2 R3 R4 v sc) (s "posix") d [x0,x1,x2,x3,x4,x5,x6,x7,x8] led Kv=Kv [x0,x1,x2,x3,x4,some d,x6,x7,x8] led:=by kernel_rfl!
theorem Ki:storeW (XLaw R1 R2 R3 R4 v sc) (s "given") d [x0,x1,x2,x3,x4,x5,x6,x7,x8] led Kv=Kv [x0,x1,x2,x3,x4,x5,some d,x7,x8] led:=by kernel_rfl!
theorem Kr:storeW (XLaw R1 R2 R3 R4 v sc) (s "marks") d [x0,x1,x2,x3,x4,x5,x6,x7,x8] led Kv=Kv [x0,x1,x2,x3,x4,x5,x6,some d,x8] led:=by kernel_rfl!
theorem Qa:storeW (XLaw R1 R2 R3 R4 v sc) (s "whole") d [x0,x1,x2,x3,x4,x5,x6,x7,x8] (.cell c :: tl) Kv=Kv [x0,x1,x2,x3,x4,x5,x6,x7,x8] (.cell (some d) :: tl):=by kernel_rfl!
theorem Jf0:(run 39 (XLaw R1 R2 R3 R4 v sc)).ev (lawV 0) loc led (exL Ex) Qv=(run 38 (XLaw R1 R2 R3 R4 v sc)).ev lawC0 loc led (exL Ex) (fun a loc led=>truD a led fun b=>ife b (Qv a loc led) ((run 38 (XLaw R1 R2 R3 R4 v sc)).ev (tailOr (lawV 0)) loc led (exL Ex) Qv)):=by kernel_rfl!
theorem Jd7:(truD (.ref 2) [.cell c,.list sl,.list ys] fun b=>ife b (Qv (.ref 2) loc [.cell c,.list sl,.list ys]) ((run 38 (XLaw R1 R2 R3 R4 v sc)).ev (tailOr (lawV 0)) loc [.cell c,.list sl,.list ys] (exL Ex) Qv))=szL ys.length (lC ys (Qv (.ref 3) loc [.cell c,.list sl,.list ys,.list dflt11]) fun _ _=>Qv (.ref 2) loc [.cell c,.list sl,.list ys]):=by kernel_rfl!
theorem Jfy:(run 38 (XLaw R1 R2 R3 R4 v sc)).ev (lawV 1) loc led (exL Ex) Qv=(run 37 (XLaw R1 R2 R3 R4 v sc)).ev (lawC 1) loc led (exL Ex) (fun d loc led=>methD .sjoin (.str []) [d] led fun d led=>Qv d loc led):=by kernel_rfl!
theorem Jcj:(run 37 (XLaw R1 R2 R3 R4 v sc)).ev (lawC 1) [x0,some (.ref iw),x2,x3,x4,x5,x6,x7,x8] (.cell c :: tl) (exL Ex) Qv=oL (.cell c :: tl) iw fun ws=>((.cell c :: (tl++[.list []]):Led)[iw]?=some (.list ws) /\ lcj R1 R2 R3 R4 1 (tl.length + 1) iw ws (fun led'=>Qv (.ref (tl.length + 1)) [x0,some (.ref iw),x2,x3,x4,x5,x6,x7,x8] led') ws [none,none] (.cell c :: (tl++[.list []]))):=by kernel_rfl!
theorem R5:lcj R1 R2 R3 R4 1 k iw ws K [] loc led=K led:=by kernel_rfl!
theorem Q4:lcj R1 R2 R3 R4 1 k iw ws K (.int n :: xs) [none,o] led=ife (eqI ((n.fdiv 32).fmod 2) 0) (∀ c:Nat,oL led k fun acc=>szL acc.length (∃ led',Tidy (k + 1) [none,some (.int n)] (led.set k (.list (acc++[.str [c]]))) led' /\ led'[iw]?=some (.list ws) /\ lcj R1 R2 R3 R4 1 k iw ws K xs [none,some (.int n)] led')) (∃ led',Tidy (k + 1) [none,some (.int n)] led led' /\ led'[iw]?=some (.list ws) /\ lcj R1 R2 R3 R4 1 k iw ws K xs [none,some (.int n)] led'):=by kernel_rfl!
theorem Jfi:(run 37 (XLaw R1 R2 R3 R4 v sc)).ev (lawV 2) loc led (exL Ex) Qv=(run 36 (XLaw R1 R2 R3 R4 v sc)).ev (lawC 2) loc led (exL Ex) (fun d loc led=>methD .sjoin (.str []) [d] led fun d led=>Qv d loc led):=by kernel_rfl!
theorem Jco:(run 36 (XLaw R1 R2 R3 R4 v sc)).ev (lawC 2) [x0,some (.ref iw),x2,x3,x4,x5,x6,x7,x8] (.cell c :: tl) (exL Ex) Qv=oL (.cell c :: tl) iw fun ws=>((.cell c :: (tl++[.list []]):Led)[iw]?=some (.list ws) /\ lcj R1 R2 R3 R4 2 (tl.length + 1) iw ws (fun led'=>Qv (.ref (tl.length + 1)) [x0,some (.ref iw),x2,x3,x4,x5,x6,x7,x8] led') ws [none,none] (.cell c :: (tl++[.list []]))):=by kernel_rfl!
theorem S9:lcj R1 R2 R3 R4 2 k iw ws K [] loc led=K led:=by kernel_rfl!
theorem RQ:lcj R1 R2 R3 R4 2 k iw ws K (.int n :: xs) [none,o] led=ife (eqI ((n.fdiv 32).fmod 2) 1) (∀ c:Nat,oL led k fun acc=>szL acc.length (∃ led',Tidy (k + 1) [none,some (.int n)] (led.set k (.list (acc++[.str [c]]))) led' /\ led'[iw]?=some (.list ws) /\ lcj R1 R2 R3 R4 2 k iw ws K xs [none,some (.int n)] led')) (∃ led',Tidy (k + 1) [none,some (.int n)] led led' /\ led'[iw]?=some (.list ws) /\ lcj R1 R2 R3 R4 2 k iw ws K xs [none,some (.int n)] led'):=by kernel_rfl!
theorem Jfu:(run 36 (XLaw R1 R2 R3 R4 v sc)).ev (lawV 3) [x0,some (.ref iw),x2,x3,x4,x5,x6,x7,x8] led (exL Ex) Qv=oL led iw fun xs=>∃ ns:List Int,xs=ns.map D.int /\ Qv (.int (ns.sum.fmod 6)) [x0,some (.ref iw),x2,x3,x4,x5,x6,x7,x8] led:=by kernel_rfl!
theorem Jbi:(run 35 (XLaw R1 R2 R3 R4 v sc)).ev (lawV 4) [x0,x1,x2,x3,some (.int 0),x5,x6,x7,x8] led (exL Ex) Qv=Qv (.bool false) [x0,x1,x2,x3,some (.int 0),x5,x6,x7,x8] led:=by kernel_rfl!
theorem Zf:(run 34 (XLaw R1 R2 R3 R4 v sc)).ev (lawV 5) [x0,x1,x2,x3,some (.int 0),x5,x6,x7,x8] led (exL Ex) Qv=Qv (Pm.given .no) [x0,x1,x2,x3,some (.int 0),x5,x6,x7,x8] led:=by kernel_rfl!
theorem YM:(run 33 (XLaw R1 R2 R3 R4 v sc)).ev (lawV 6) [x0,x1,x2,x3,some (.int 0),x5,x6,x7,x8] led (exL Ex) Qv=Qv (.str (Pm.pc .no)) [x0,x1,x2,x3,some (.int 0),x5,x6,x7,x8] led:=by kernel_rfl!
theorem YX:(run 35 (XLaw R1 R2 R3 R4 v sc)).ev (lawV 4) [x0,x1,x2,x3,some (.int 1),x5,x6,x7,x8] led (exL Ex) Qv=Qv (.bool true) [x0,x1,x2,x3,some (.int 1),x5,x6,x7,x8] led:=by kernel_rfl!
theorem X8:(run 34 (XLaw R1 R2 R3 R4 v sc)).ev (lawV 5) [x0,x1,x2,x3,some (.int 1),x5,x6,x7,x8] led (exL Ex) Qv=Qv (Pm.given .no) [x0,x1,x2,x3,some (.int 1),x5,x6,x7,x8] led:=by kernel_rfl!
theorem Ja5:(run 33 (XLaw R1 R2 R3 R4 v sc)).ev (lawV 6) [x0,x1,x2,x3,some (.int 1),x5,x6,x7,x8] led (exL Ex) Qv=Qv (.str (Pm.pc .no)) [x0,x1,x2,x3,some (.int 1),x5,x6,x7,x8] led:=by kernel_rfl!
theorem Jap:(run 35 (XLaw R1 R2 R3 R4 v sc)).ev (lawV 4) [x0,x1,x2,x3,some (.int 2),x5,x6,x7,x8] led (exL Ex) Qv=Qv (.bool false) [x0,x1,x2,x3,some (.int 2),x5,x6,x7,x8] led:=by kernel_rfl!
theorem Zy:(run 34 (XLaw R1 R2 R3 R4 v sc)).ev (lawV 5) [x0,x1,x2,x3,some (.int 2),x5,x6,x7,x8] led (exL Ex) Qv=Qv (Pm.given .yes) [x0,x1,x2,x3,some (.int 2),x5,x6,x7,x8] led:=by kernel_rfl!
theorem Yw:(run 33 (XLaw R1 R2 R3 R4 v sc)).ev (lawV 6) [x0,x1,x2,x3,some (.int 2),x5,x6,x7,x8] led (exL Ex) Qv=Qv (.str (Pm.pc .yes)) [x0,x1,x2,x3,some (.int 2),x5,x6,x7,x8] led:=by kernel_rfl!
theorem YH:(run 35 (XLaw R1 R2 R3 R4 v sc)).ev (lawV 4) [x0,x1,x2,x3,some (.int 3),x5,x6,x7,x8] led (exL Ex) Qv=Qv (.bool true) [x0,x1,x2,x3,some (.int 3),x5,x6,x7,x8] led:=by kernel_rfl!
theorem ZN:(run 34 (XLaw R1 R2 R3 R4 v sc)).ev (lawV 5) [x0,x1,x2,x3,some (.int 3),x5,x6,x7,x8] led (exL Ex) Qv=Qv (Pm.given .yes) [x0,x1,x2,x3,some (.int 3),x5,x6,x7,x8] led:=by kernel_rfl!
theorem Ja4:(run 33 (XLaw R1 R2 R3 R4 v sc)).ev (lawV 6) [x0,x1,x2,x3,some (.int 3),x5,x6,x7,x8] led (exL Ex) Qv=Qv (.str (Pm.pc .yes)) [x0,x1,x2,x3,some (.int 3),x5,x6,x7,x8] led:=by kernel_rfl!
theorem Ze:(run 35 (XLaw R1 R2 R3 R4 v sc)).ev (lawV 4) [x0,x1,x2,x3,some (.int 4),x5,x6,x7,x8] led (exL Ex) Qv=Qv (.bool false) [x0,x1,x2,x3,some (.int 4),x5,x6,x7,x8] led:=by kernel_rfl!
theorem ZZ:(run 34 (XLaw R1 R2 R3 R4 v sc)).ev (lawV 5) [x0,x1,x2,x3,some (.int 4),x5,x6,x7,x8] led (exL Ex) Qv=Qv (Pm.given .own) [x0,x1,x2,x3,some (.int 4),x5,x6,x7,x8] led:=by kernel_rfl!
theorem YW:(run 33 (XLaw R1 R2 R3 R4 v sc)).ev (lawV 6) [x0,x1,x2,x3,some (.int 4),x5,x6,x7,x8] led (exL Ex) Qv=Qv (.str (Pm.pc .own)) [x0,x1,x2,x3,some (.int 4),x5,x6,x7,x8] led:=by kernel_rfl!
theorem ZY:(run 35 (XLaw R1 R2 R3 R4 v sc)).ev (lawV 4) [x0,x1,x2,x3,some (.int 5),x5,x6,x7,x8] led (exL Ex) Qv=Qv (.bool true) [x0,x1,x2,x3,some (.int 5),x5,x6,x7,x8] led:=by kernel_rfl!
theorem Jau:(run 34 (XLaw R1 R2 R3 R4 v sc)).ev (lawV 5) [x0,x1,x2,x3,some (.int 5),x5,x6,x7,x8] led (exL Ex) Qv=Qv (Pm.given .own) [x0,x1,x2,x3,some (.int 5),x5,x6,x7,x8] led:=by kernel_rfl!
theorem ZR:(run 33 (XLaw R1 R2 R3 R4 v sc)).ev (lawV 6) [x0,x1,x2,x3,some (.int 5),x5,x6,x7,x8] led (exL Ex) Qv=Qv (.str (Pm.pc .own)) [x0,x1,x2,x3,some (.int 5),x5,x6,x7,x8] led:=by kernel_rfl!
theorem ZK:lawXs R1 R2 R3 R4 v sc 7 loc led Ex Q=exW (XLaw R1 R2 R3 R4 v sc) (run 32 (XLaw R1 R2 R3 R4 v sc)) (run 32) (stAt lawB 7) loc led (exL Ex) (seqW (run 32 (XLaw R1 R2 R3 R4 v sc)) (lawB.drop 8) (exL Ex) fun fl _ led=>Q fl.val led):=by kernel_rfl!
theorem Ja7 (Qf:QF):exW (XLaw R1 R2 R3 R4 v sc) (run 32 (XLaw R1 R2 R3 R4 v sc)) (run 32) (stAt lawB 7) [x0,x1,x2,x3,x4,x5,x6,x7,x8] led (exL Ex) Qf=Qf .next [x0,x1,x2,x3,x4,x5,x6,x7,some (.ref led.length)] (led++[.list ways]):=by kernel_rfl!
theorem Ja2:seqW (run 32 (XLaw R1 R2 R3 R4 v sc)) (lawB.drop 8) (exL Ex) (fun fl _ led=>Q fl.val led) .next loc led=lawXs R1 R2 R3 R4 v sc 8 loc led Ex Q:=by kernel_rfl!
theorem Jcg:lawXs R1 R2 R3 R4 v sc 7 [x0,x1,x2,x3,x4,x5,x6,x7,x8] led Ex Q=lawXs R1 R2 R3 R4 v sc 8 [x0,x1,x2,x3,x4,x5,x6,x7,some (.ref led.length)] (led++[.list ways]) Ex Q:=by rw [ZK,Ja7,Ja2]
theorem Jfg:(run 31 (XLaw R1 R2 R3 R4 v sc)).ev (lawV 8) [x0,x1,some (.str l),some (.str u),x4,x5,x6,x7,x8] led (exL Ex) Qv=sz (l.length + u.length) (Qv (.str (l++u)) [x0,x1,some (.str l),some (.str u),x4,x5,x6,x7,x8] led):=by kernel_rfl!
theorem Jfq:(run 30 (XLaw R1 R2 R3 R4 v sc)).ev (lawV 9) loc led (exL Ex) Qv=(run 28 (XLaw R1 R2 R3 R4 v sc)).ev (eL 0) loc led (exL Ex) (fun a loc led=>(run 28 (XLaw R1 R2 R3 R4 v sc)).ev (eR 0) loc led (exL Ex) fun b loc led=>eqD a b led fun c=>ife c ((run 29 (XLaw R1 R2 R3 R4 v sc)).ev (tailOr (lawV 9)) loc led (exL Ex) Qv) (Qv (.bool c) loc led)):=by kernel_rfl!
theorem Jeb:(run 29 (XLaw R1 R2 R3 R4 v sc)).ev (tailOr (lawV 9)) loc led (exL Ex) Qv=(run 27 (XLaw R1 R2 R3 R4 v sc)).ev (eL 1) loc led (exL Ex) (fun a loc led=>(run 27 (XLaw R1 R2 R3 R4 v sc)).ev (eR 1) loc led (exL Ex) fun b loc led=>eqD a b led fun c=>Qv (.bool c) loc led):=by kernel_rfl!
theorem Jej:(run 28 (XLaw R1 R2 R3 R4 v sc)).ev (eL 0) [x0,x1,some (.str l),some (.str u),x4,some (.bool p),some gv,x7,x8] led (exL Ex) Qv=∃ rows toks,R1 l u p gv rows toks /\ pairQ (fun d led=>Qv d [x0,x1,some (.str l),some (.str u),x4,some (.bool p),some gv,x7,x8] led) led rows toks:=by kernel_rfl!
theorem Jb5:(run 28 (XLaw R1 R2 R3 R4 v sc)).ev (eR 0) [x0,x1,some (.str l),some (.str u),x4,some (.bool p),x6,some (.str mk),x8] led (exL Ex) Qv=∃ rows toks,R2 l u p (.str mk) rows toks /\ pairQ (fun d led=>Qv d [x0,x1,some (.str l),some (.str u),x4,some (.bool p),x6,some (.str mk),x8] led) led rows toks:=by kernel_rfl!
theorem Jdf:(run 27 (XLaw R1 R2 R3 R4 v sc)).ev (eL 1) [x0,x1,x2,x3,x4,x5,x6,x7,some (.ref iw)] led (exL Ex) Qv=oL led iw fun ws=>((led++[.list []])[iw]?=some (.list ws) /\ lcw R1 R2 R3 R4 (eL 1) led.length iw ws (fun led'=>Qv (.ref led.length) [x0,x1,x2,x3,x4,x5,x6,x7,some (.ref iw)] led') ws [none,none,none] (led++[.list []])):=by kernel_rfl!
theorem Jcz:(run 27 (XLaw R1 R2 R3 R4 v sc)).ev (eR 1) [x0,x1,x2,x3,x4,x5,x6,x7,some (.ref iw)] led (exL Ex) Qv=oL led iw fun ws=>((led++[.list []])[iw]?=some (.list ws) /\ lcw R1 R2 R3 R4 (eR 1) led.length iw ws (fun led'=>Qv (.ref led.length) [x0,x1,x2,x3,x4,x5,x6,x7,some (.ref iw)] led') ws [none,none,none] (led++[.list []])):=by kernel_rfl!
theorem WW:lcw R1 R2 R3 R4 (eL 1) k iw ws K [] loc led=K led:=by kernel_rfl!
theorem VM:lcw R1 R2 R3 R4 (eR 1) k iw ws K [] loc led=K led:=by kernel_rfl!
theorem Sh:lcw R1 R2 R3 R4 (eL 1) k iw ws K (.tup [.str h,.bool p] :: xs) [none,o1,o2] (.cell (some (.str t)) :: tl)=lwK R3 (fun loc led=>lcw R1 R2 R3 R4 (eL 1) k iw ws K xs loc led) k iw ws t h p (.cell (some (.str t)) :: tl):=by kernel_rfl!
theorem T6:lcw R1 R2 R3 R4 (eR 1) k iw ws K (.tup [.str h,.bool p] :: xs) [none,o1,o2] (.cell (some (.str t)) :: tl)=lwK R4 (fun loc led=>lcw R1 R2 R3 R4 (eR 1) k iw ws K xs loc led) k iw ws t h p (.cell (some (.str t)) :: tl):=by kernel_rfl!
end
end
noncomputable def Ext (led led':Led):Prop:=∀ (i:Nat) (o:OD),led[i]?=some o->led'[i]?=some o
theorem Ext.app (led x:Led):Ext led (led++x):=fun i o h=>by rw [List.getElem?_append_left (gel h)];exact h
noncomputable def ExtN (k:Nat)(led led':Led):Prop:=∀ (i:Nat) (o:OD),i ≠ k->led[i]?=some o->led'[i]?=some o
noncomputable def reflD (d:D):Prop:=∀ led n,Same led (n + 3) d d
structure Vn (R1 R2:LN->LN->Bool->D->LD->LD->Prop)(R3 R4:LN->LN->Bool->Option (List (LN))->Prop)(l u:LN):Prop where
 pair:∀ p (m:Pm),∃ rows toks,R1 l u p m.given rows toks /\ R2 l u p (.str m.pc) rows toks /\ (∀ d ∈ rows,reflD d) /\ ∀ d ∈ toks,reflD d
 words:∀ h,h=[35] \/ h=[]->∀ p,∃ o,R3 (l++u) h p o /\ R4 (l++u) h p o
theorem LP (l:Led)(o:OD):(l++[o])[l.length]?=some o:=by rw [List.getElem?_append_right (Nat.le_refl _),Nat.sub_self];rfl
theorem W0 (l:Led)(o o':OD):(l++[o]).set l.length o'=l++[o']:=by rw [List.set_append_right _ _ (Nat.le_refl _),Nat.sub_self];rfl
noncomputable def sgns (W:LN):LD:=W.map fun c=>.str [c]
theorem WG (W:LN):sgns W=(W.map fun c=>[c]).map D.str:=by unfold sgns;rw [List.map_map];rfl
theorem M7 (W:LN):joinD [] (W.map fun c=>[c])=W:=by
 rw [TU]
 induction W with
 | nil=>rfl
 | cons c W ih=>rw [List.map_cons,List.flatten_cons,ih];rfl
theorem To (W:LN):((W.map fun c=>[c]).map (·.length)).sum=W.length:=by
 induction W with
 | nil=>rfl
 | cons c W ih=>rw [List.map_cons,List.map_cons,List.sum_cons,ih];show 1 + W.length=W.length + 1;lia
section
variable {R1 R2:LN->LN->Bool->D->LD->LD->Prop}{R3 R4:LN->LN->Bool->Option (List (LN))->Prop}
theorem QG {sl:LD}{K:Led->Prop}{c:Option D}:∀ (l ys:List Int) (o:Option D),ys.length + l.length <= 1000->K [.cell c,.list sl,.list ((ys++l.map fun n=>n.fmod 100000000).map .int)]->lc0 R1 R2 R3 R4 sl K (l.map .int) [none,o] [.cell c,.list sl,.list (ys.map .int)]
 | [],ys,o,_,q=>by rw [List.map_nil,VT];rw [List.map_nil,List.append_nil] at q;exact q
 | n :: l,ys,o,h,q=>by
  rw [List.length_cons] at h;rw [List.map_cons,TL];refine Jf.mpr ⟨by rw [List.length_map];lia,_,.inl rfl,rfl,?_⟩
  have e:ys.map D.int++[.int (n.fmod 100000000)]=(ys++[n.fmod 100000000]).map .int:=by simp
  rw [e];refine QG l _ _ (by rw [List.length_append,List.length_singleton];lia) ?_
  rw [List.append_assoc];exact q
theorem Mv {G:LD->List (Option D)->Led->Prop}{k iw b:Nat}{ws:LD}{K:Led->Prop}(hnil:∀ loc led,G [] loc led=K led)
 (hcons:∀ n xs o led,G (.int n :: xs) [none,o] led=ife (eqI ((n.fdiv 32).fmod 2) b) (∀ c:Nat,oL led k fun acc=>szL acc.length (∃ led',Tidy (k + 1) [none,some (.int n)] (led.set k (.list (acc++[.str [c]]))) led' /\ led'[iw]?=some (.list ws) /\ G xs [none,some (.int n)] led')) (∃ led',Tidy (k + 1) [none,some (.int n)] led led' /\ led'[iw]?=some (.list ws) /\ G xs [none,some (.int n)] led'))
 (hne:iw ≠ k):∀ (ns:List Int) {acc:LN} {led:Led} {o:Option D},led[k]?=some (.list (sgns acc))->led[iw]?=some (.list ws)->acc.length + ns.length <= 1000->(∀ W:LN,W.length <= ns.length->K (led.set k (.list (sgns (acc++W)))))->G (ns.map .int) [none,o] led
 | [],acc,led,o,h1,h2,hl,q=>by
  rw [List.map_nil,hnil];have q:=q [] (Nat.le_refl _);rw [List.append_nil] at q;obtain ⟨hk,e⟩:=List.getElem?_eq_some_iff.mp h1;have:led.set k (.list (sgns acc))=led:=by rw [<-e];exact List.set_getElem_self hk
  rw [this] at q;exact q
 | n :: ns,acc,led,o,h1,h2,hl,q=>by
  rw [List.length_cons] at hl;rw [List.map_cons,hcons];have hk:=(gel h1)
  cases eqI ((n.fdiv 32).fmod 2) b with
  | false=>
   exact ⟨_,.inl rfl,h2,Mv hnil hcons hne ns h1 h2 (by lia) fun W hW=>q W (by rw [List.length_cons];lia)⟩
  | true=>
   intro c;refine LZ h1 (Jf.mpr ⟨by unfold sgns;rw [List.length_map];lia,_,.inl rfl,?_,?_⟩)
   · rw [List.getElem?_set_ne (Ne.symm hne)];exact h2
   · have e:sgns acc++[.str [c]]=sgns (acc++[c]):=by unfold sgns;rw [List.map_append];rfl
     rw [e];refine Mv hnil hcons hne ns (acc:=acc++[c]) (List.getElem?_set_self hk) (by rw [List.getElem?_set_ne (Ne.symm hne)];exact h2) (by rw [List.length_append,List.length_singleton];lia) fun W hW=>?_
     rw [List.set_set,List.append_assoc];exact q (c :: W) (by rw [List.length_cons,List.length_cons];lia)
inductive VS (k:Nat)(led:Led):List (Option (List (LN)))->LD->Prop
 | nil:VS k led [] []
 | none {os:List (Option (List (LN)))} {ds:LD} (t:VS k led os ds):VS k led (none :: os) (.none :: ds)
 | some {os:List (Option (List (LN)))} {ds:LD} {ts:List (LN)} {i:Nat} (hi:i ≠ k) (h:led[i]?=some (.list (sts ts))) (t:VS k led os ds):VS k led (some ts :: os) (.ref i :: ds)
theorem VS.app {k:Nat}{led:Led}{os os':List (Option (List (LN)))}{ds ds':LD}(h:VS k led os ds)(h':VS k led os' ds'):VS k led (os++os') (ds++ds'):=by
 induction h with
 | nil=>exact h'
 | none t ih=>exact .none ih
 | some hi h t ih=>exact .some hi h ih
theorem VS.mon {k k':Nat}{led led':Led}{os:List (Option (List (LN)))}{ds:LD}(h:VS k led os ds)(e:∀ i ts,i ≠ k->led[i]?=Option.some (OD.list (sts ts))->i ≠ k' /\ led'[i]?=Option.some (OD.list (sts ts))):VS k' led' os ds:=by
 induction h with
 | nil=>exact .nil
 | none t ih=>exact .none ih
 | some hi h t ih=>exact .some (e _ _ hi h).1 (e _ _ hi h).2 ih
theorem VS.same {k k':Nat}{led:Led}{n:Nat}{os:List (Option (List (LN)))}{ds ds':LD}(h:VS k led os ds)(h':VS k' led os ds'):ds.length=ds'.length /\ ∀ (j:Nat) a b,ds[j]?=Option.some a->ds'[j]?=Option.some b->Same led (n + 2) a b:=by
 induction h generalizing ds' with
 | nil=>cases h';exact ⟨rfl,fun j a b e=>by injection e⟩
 | none t ih=>
  cases h' with
  | none t'=>
   obtain ⟨h1,h2⟩:=ih t';refine ⟨congrArg Nat.succ h1,fun j a b e1 e2=>?_⟩
   cases j with
   | zero=>obtain rfl:=Option.some.inj e1;obtain rfl:=Option.some.inj e2;exact trivial
   | succ j=>exact h2 j a b e1 e2
 | some hi h t ih=>
  cases h' with
  | some hi' h' t'=>
   obtain ⟨h1,h2⟩:=ih t';refine ⟨congrArg Nat.succ h1,fun j a b e1 e2=>?_⟩
   cases j with
   | zero=>
    obtain rfl:=Option.some.inj e1;obtain rfl:=Option.some.inj e2;refine ⟨_,_,h,h',rfl,fun j a b e1 e2=>?_⟩;rw [e1] at e2;obtain rfl:=Option.some.inj e2;unfold sts at e1;rw [List.getElem?_map] at e1;obtain ⟨x,_,rfl⟩:=Option.map_eq_some_iff.mp e1;exact rfl
   | succ j=>exact h2 j a b e1 e2
noncomputable def wayD (x:LN × Bool):D:=.tup [.str x.1,.bool x.2]
theorem W9 {α:Type}{l:List α}{a:α}(h:l[0]?=some a):∃ r,l=a :: r:=by cases l with | nil=>injection h | cons b r=>obtain rfl:=Option.some.inj h;exact ⟨r,rfl⟩
theorem Qt {Rw:LN->LN->Bool->Option (List (LN))->Prop}{G:LD->List (Option D)->Led->Prop}{t:LN}{k iw:Nat}{ws:LD}{K:Led->Prop}(hnil:∀ loc led,G [] loc led=K led)
 (hcons:∀ h p xs o1 o2 tl,G (.tup [.str h,.bool p] :: xs) [none,o1,o2] (.cell (some (.str t)) :: tl)=lwK Rw (fun loc led=>G xs loc led) k iw ws t h p (.cell (some (.str t)) :: tl)) (hne:iw ≠ k) (hk0:0 ≠ k) (f:LN × Bool->Option (List (LN))) :
 ∀ (xs:List (LN × Bool)) {os:List (Option (List (LN)))} {ds:LD} {led:Led} {o1 o2:Option D},led[0]?=some (.cell (some (.str t)))->led[k]?=some (.list ds)->led[iw]?=some (.list ws)->VS k led os ds->ds.length + xs.length <= 1000->(∀ x ∈ xs,Rw t x.1 x.2 (f x)) ->
  (∀ led' ds',ExtN k led led'->led'[k]?=some (.list ds')->VS k led' (os++xs.map f) ds'->K led')->G (xs.map wayD) [none,o1,o2] led
 | [],os,ds,led,o1,o2,h0,h1,h2,hv,hl,hR,q=>by
  rw [List.map_nil,hnil];exact q led ds (fun _ _ _ h=>h) h1 (by rw [List.map_nil,List.append_nil];exact hv)
 | x :: xs,os,ds,led,o1,o2,h0,h1,h2,hv,hl,hR,q=>by
  rw [List.length_cons] at hl;obtain ⟨tl,rfl⟩:=W9 h0;show G (.tup [.str x.1,.bool x.2] :: xs.map wayD) _ _;rw [hcons];refine ⟨f x,hR x (.head _),?_⟩;have hkl:=(gel h1);have step:∀ (g:Led) (d:D),(∀ led',ExtN k (.cell (some (.str t)) :: tl++g) led'->VS k led' [f x] [d])->oL (.cell (some (.str t)) :: tl++g) k fun acc=>szL acc.length (∃ led'',Tidy (k + 1) [none,some (.str x.1),some (.bool x.2)] (List.set (.cell (some (.str t)) :: tl++g) k (.list (acc++[d]))) led'' /\ led''[iw]?=some (.list ws) /\ G (xs.map wayD) [none,some (.str x.1),some (.bool x.2)] led''):=fun g d hd=>by
   have a1:((.cell (some (.str t)) :: tl++g:Led))[k]?=some (.list ds):=Ext.app _ g _ _ h1;have hk2:=(gel a1);have ex:ExtN k (.cell (some (.str t)) :: tl++g) (List.set (.cell (some (.str t)) :: tl++g) k (.list (ds++[d]))):=fun i o hi h=>by rw [List.getElem?_set_ne (Ne.symm hi)];exact h
   have e0:ExtN k (.cell (some (.str t)) :: tl) (List.set (.cell (some (.str t)) :: tl++g) k (.list (ds++[d]))):=fun i o hi h=>ex i o hi (Ext.app _ g _ _ h);refine LZ a1 (Jf.mpr ⟨by lia,_,.inl rfl,e0 _ _ hne h2,?_⟩)
   refine Qt hnil hcons hne hk0 f xs (os:=os++[f x]) (ds:=ds++[d]) (e0 _ _ hk0 h0) (List.getElem?_set_self hk2) (e0 _ _ hne h2) (VS.app (hv.mon fun i ts hi h=>⟨hi,e0 _ _ hi h⟩) (hd _ ex)) (by rw [List.length_append,List.length_singleton];lia) (fun y hy=>hR y (.tail _ hy)) fun led' ds' e1 h3 h4=>?_
   refine q led' ds' (fun i o hi h=>e1 i o hi (e0 i o hi h)) h3 ?_;rw [List.append_assoc] at h4;exact h4
  cases e:f x with
  | none=>
   intro g;exact step g .none fun led' _=>by rw [e];exact .none .nil
  | some ts=>
   intro g a ha;refine step g _ fun led' ex=>?_;rw [e];have hne2:(OD.cell (some (D.str t)) :: tl).length + a ≠ k:=by lia
   refine .some hne2 (ex _ _ hne2 ?_) .nil;rw [List.getElem?_append_right (Nat.le_add_right _ _),Nat.add_sub_cancel_left];exact ha
theorem Nq {led:Led}{n i j:Nat}{xs:LD}(h:led[i]?=some (.list xs))(h':led[j]?=some (.list xs))(hr:∀ d ∈ xs,reflD d):Same led (n + 4) (.ref i) (.ref j):=by
 refine ⟨_,_,h,h',rfl,fun k a b e1 e2=>?_⟩;rw [e1] at e2;obtain rfl:=Option.some.inj e2;exact hr a (List.mem_of_getElem? e1) led n
theorem QY {led:Led}{n i j i' j':Nat}{rows toks:LD}(h1:led[i]?=some (.list rows))(h2:led[j]?=some (.list toks))(h1':led[i']?=some (.list rows))(h2':led[j']?=some (.list toks))(r1:∀ d ∈ rows,reflD d)(r2:∀ d ∈ toks,reflD d):Same led (n + 5) (.tup [.ref i,.ref j]) (.tup [.ref i',.ref j']):=by
 refine ⟨rfl,fun k a b e1 e2=>?_⟩
 match k,e1,e2 with
 | 0,e1,e2=>obtain rfl:=Option.some.inj e1;obtain rfl:=Option.some.inj e2;exact Nq h1 h1' r1
 | 1,e1,e2=>obtain rfl:=Option.some.inj e1;obtain rfl:=Option.some.inj e2;exact Nq h2 h2' r2
 | k + 2,e1,e2=>injection e1
theorem TN {led:Led}{a b:LD}{K:Bool->Prop}(h:Same led 20 (.tup a) (.tup b))(k:K true):eqD (.tup a) (.tup b) led K:=⟨h,k⟩
theorem Xg {led:Led}{i j:Nat}{K:Bool->Prop}(h:Same led 20 (.ref i) (.ref j))(k:K true):eqD (.ref i) (.ref j) led K:=⟨h,k⟩
variable {v:Nat}{sc:LD}{Ex:Ec->Led->Prop}{Q:D->Led->Prop}
noncomputable def wayL:List (LN × Bool):=[([35],false),([35],true),([],false),([],true)]
theorem QS:ways=wayL.map wayD:=rfl
theorem YR:∀ x ∈ wayL,x.1=[35] \/ x.1=[]:=by
 intro x hx;rcases List.mem_cons.mp hx with rfl | hx
 · exact .inl rfl
 rcases List.mem_cons.mp hx with rfl | hx
 · exact .inl rfl
 rcases List.mem_cons.mp hx with rfl | hx
 · exact .inr rfl
 rw [List.mem_singleton.mp hx];exact .inr rfl
theorem VH {k iw:Nat}{K:Led->Prop}{t:LN}{led:Led}(f:LN × Bool->Option (List (LN)))(hne:iw ≠ k)(hk0:0 ≠ k)(h0:led[0]?=some (.cell (some (.str t))))(h1:led[k]?=some (.list []))(h2:led[iw]?=some (.list ways))(hR:∀ x ∈ wayL,R3 t x.1 x.2 (f x))
 (q:∀ led' ds',ExtN k led led'->led'[k]?=some (.list ds')->VS k led' (wayL.map f) ds'->K led'):lcw R1 R2 R3 R4 (eL 1) k iw ways K ways [none,none,none] led:=by
 have h:=Qt (K:=K) (ws:=ways) (iw:=iw) (t:=t) (G:=lcw R1 R2 R3 R4 (eL 1) k iw ways K) (fun loc led=>WW (R1:=R1) (R2:=R2) (R3:=R3) (R4:=R4) (k:=k) (iw:=iw) (ws:=ways) (K:=K) (loc:=loc) (led:=led)) (fun h p xs o1 o2 tl=>Sh (R1:=R1) (R2:=R2) (R3:=R3) (R4:=R4) (k:=k) (iw:=iw) (ws:=ways) (K:=K) (h:=h) (p:=p) (xs:=xs) (o1:=o1) (o2:=o2) (tl:=tl) (t:=t)) hne hk0 f wayL (os:=[]) (ds:=[]) (o1:=none) (o2:=none) h0 h1 h2 .nil (by decide) hR (fun led' ds' a b c=>q led' ds' a b c)
 rw [<-QS] at h;exact h
theorem Ur {k iw:Nat}{K:Led->Prop}{t:LN}{led:Led}(f:LN × Bool->Option (List (LN)))(hne:iw ≠ k)(hk0:0 ≠ k)(h0:led[0]?=some (.cell (some (.str t))))(h1:led[k]?=some (.list []))(h2:led[iw]?=some (.list ways))(hR:∀ x ∈ wayL,R4 t x.1 x.2 (f x))
 (q:∀ led' ds',ExtN k led led'->led'[k]?=some (.list ds')->VS k led' (wayL.map f) ds'->K led'):lcw R1 R2 R3 R4 (eR 1) k iw ways K ways [none,none,none] led:=by
 have h:=Qt (K:=K) (ws:=ways) (iw:=iw) (t:=t) (G:=lcw R1 R2 R3 R4 (eR 1) k iw ways K) (fun loc led=>VM (R1:=R1) (R2:=R2) (R3:=R3) (R4:=R4) (k:=k) (iw:=iw) (ws:=ways) (K:=K) (loc:=loc) (led:=led)) (fun h p xs o1 o2 tl=>T6 (R1:=R1) (R2:=R2) (R3:=R3) (R4:=R4) (k:=k) (iw:=iw) (ws:=ways) (K:=K) (h:=h) (p:=p) (xs:=xs) (o1:=o1) (o2:=o2) (tl:=tl) (t:=t)) hne hk0 f wayL (os:=[]) (ds:=[]) (o1:=none) (o2:=none) h0 h1 h2 .nil (by decide) hR (fun led' ds' a b c=>q led' ds' a b c)
 rw [<-QS] at h;exact h
end
section
variable {R1 R2:LN->LN->Bool->D->LD->LD->Prop}{R3 R4:LN->LN->Bool->Option (List (LN))->Prop}{v:Nat}{sc:LD}{Ex:Ec->Led->Prop}{Q:D->Led->Prop}
theorem Jd0 {l u:LN}(pl:Vn R1 R2 R3 R4 l u)(hq:∀ led',Q (.bool true) led'){x0 x1 x2 x3 x4 x5 x6 x7:Option D}{iw:Nat}{led1:Led}(hw1:led1[iw]?=some (.list ways))(hc1:led1[0]?=some (.cell (some (.str (l++u))))) :
 (run 29 (XLaw R1 R2 R3 R4 v sc)).ev (tailOr (lawV 9)) [x0,x1,x2,x3,x4,x5,x6,x7,some (.ref iw)] led1 (exL Ex) (fun d loc led=>Q d led):=by
 have hiw:=(gel hw1);have h00:=(gel hc1);have:∀ x:LN × Bool,∃ o,x ∈ wayL->R3 (l++u) x.1 x.2 o /\ R4 (l++u) x.1 x.2 o:=fun x=>by
  by_cases hx:x ∈ wayL
  · refine E11 (pl.words x.1 (YR x hx) x.2) fun o h=>?_;exact ⟨o,fun _=>h⟩
  · exact ⟨none,fun h=>absurd h hx⟩
 obtain ⟨f,hf⟩:∃ f:LN × Bool->Option (List (LN)),∀ x ∈ wayL,R3 (l++u) x.1 x.2 (f x) /\ R4 (l++u) x.1 x.2 (f x):=⟨fun x=>(this x).choose,fun x hx=>(this x).choose_spec hx⟩;rw [Jeb,Jdf];refine LZ hw1 ⟨Ext.app _ _ _ _ hw1,?_⟩;refine VH f (by lia) (by lia) (Ext.app _ _ _ _ hc1) (LP _ _) (Ext.app _ _ _ _ hw1) (fun x hx=>(hf x hx).1) fun led2 ds e2 hk2 v2=>?_
 have ex2:∀ {i:Nat} {o:OD},led1[i]?=some o->led2[i]?=some o:=fun {i o} h=>e2 i o (by have:=(gel h);lia) (Ext.app _ _ _ _ h)
 have hw2:=ex2 hw1;have hc2:=ex2 hc1;have hiw2:=(gel hw2);rw [Jcz];refine LZ hw2 ⟨Ext.app _ _ _ _ hw2,?_⟩;refine Ur f (by lia) (by lia) (Ext.app _ _ _ _ hc2) (LP _ _) (Ext.app _ _ _ _ hw2) (fun x hx=>(hf x hx).2) fun led3 ds' e3 hk3 v3=>?_
 have ex3:∀ {i:Nat} {o:OD},led2[i]?=some o->i ≠ led2.length /\ led3[i]?=some o:=fun {i o} h=>by
  have h1:=(gel h);exact ⟨by lia,e3 i o (by lia) (Ext.app _ _ _ _ h)⟩
 have v2':VS led2.length led3 (wayL.map f) ds:=v2.mon fun i ts _ h=>ex3 h;refine E02 (VS.same (n:=17) v2' v3) fun s1 s2=>?_;exact Xg ⟨ds,ds',(ex3 hk2).2,hk3,s1,s2⟩ (hq _)
theorem Jc2 {l u:LN}(pl:Vn R1 R2 R3 R4 l u)(hq:∀ led',Q (.bool true) led'){p:Bool}{m:Pm}{x0 x1 x4:Option D}{iw:Nat}{led0:Led}(hw0:led0[iw]?=some (.list ways))(hc0:led0[0]?=some (.cell (some (.str (l++u))))) :
 lawXs R1 R2 R3 R4 v sc 9 [x0,x1,some (.str l),some (.str u),x4,some (.bool p),some m.given,some (.str m.pc),some (.ref iw)] led0 Ex Q:=by
 have atg:∀ {A B:Led} {i:Nat} {o:OD},B[i]?=some o->(A++B)[A.length + i]?=some o:=fun {A B i o} h=>by
  rw [List.getElem?_append_right (Nat.le_add_right _ _),Nat.add_sub_cancel_left];exact h
 rw [Jb6,Jfq,Jej];refine E24 (pl.pair p m) fun rows toks h1 h2 r1 r2=>?_;refine ⟨rows,toks,h1,fun g a b ha hb=>?_⟩;dsimp only;rw [Jb5];refine ⟨rows,toks,h2,fun g' a' b' ha' hb'=>?_⟩;refine TN (QY (n:=15) (Ext.app _ _ _ _ (atg ha)) (Ext.app _ _ _ _ (atg hb)) (atg ha') (atg hb') r1 r2) ?_;exact Jd0 pl hq (Ext.app _ g' _ _ (Ext.app _ g _ _ hw0)) (Ext.app _ g' _ _ (Ext.app _ g _ _ hc0))
theorem WH {l u:LN}(pl:Vn R1 R2 R3 R4 l u)(hl:l.length + u.length <= 1000)(hq:∀ led',Q (.bool true) led')(p:Bool)(m:Pm)(x0 x1 x4 x8:Option D)(c:Option D)(tl:Led) :
 lawXs R1 R2 R3 R4 v sc 7 [x0,x1,some (.str l),some (.str u),x4,some (.bool p),some m.given,some (.str m.pc),x8] (.cell c :: tl) Ex Q:=by
 rw [Jcg,Jeq,Jfg];refine Kt.mpr ⟨by lia,?_⟩
 unfold lawSt;rw [show (OD.cell c :: tl)++[OD.list ways]=OD.cell c :: (tl++[.list ways]) from rfl,Qa]
 exact Jc2 pl hq (LP tl _) rfl
end
section
variable {R1 R2:LN->LN->Bool->D->LD->LD->Prop}{R3 R4:LN->LN->Bool->Option (List (LN))->Prop}{v:Nat}{sc:LD}{Ex:Ec->Led->Prop}{Q:D->Led->Prop}
theorem Rj {led:Led}{i:Nat}{W:LN}{K:D->Led->Prop}(h:led[i]?=some (.list (sgns W)))(hl:W.length <= 1000)(q:K (.str W) led):methD .sjoin (.str []) [.ref i] led K:=by
 show oL led i _;refine LZ h ⟨W.map fun c=>[c],WG W,?_,?_,?_⟩
 · rw [To,List.length_map,List.length_nil];lia
 · rw [M7];lia
 · rw [M7];exact q
theorem Jfr (n:Int):n.fmod 6=0 \/ n.fmod 6=1 \/ n.fmod 6=2 \/ n.fmod 6=3 \/ n.fmod 6=4 \/ n.fmod 6=5:=by
 have h0:0 <= n.fmod 6:=Int.fmod_nonneg_of_pos _ (by decide)
 have h1:n.fmod 6 < 6:=Int.fmod_lt_of_pos _ (by decide)
 obtain ⟨k,e⟩:=Int.eq_ofNat_of_zero_le h0;rw [e] at h1 ⊢;have h2:k < 6:=Int.ofNat_lt.mp h1
 match k,h2 with
 | 0,_=>exact .inl rfl
 | 1,_=>exact .inr (.inl rfl)
 | 2,_=>exact .inr (.inr (.inl rfl))
 | 3,_=>exact .inr (.inr (.inr (.inl rfl)))
 | 4,_=>exact .inr (.inr (.inr (.inr (.inl rfl))))
 | 5,_=>exact .inr (.inr (.inr (.inr (.inr rfl))))
theorem RZ (hpl:∀ l u:LN,l.length <= 20->u.length <= 20->Vn R1 R2 R3 R4 l u)(hq:∀ led',Q (.bool true) led'){ns:List Int}{l u:LN}(hl:l.length <= 20)(hu:u.length <= 20){j:Nat}{tl:Led}{c:Option D}(hn:tl[j]?=some (.list (ns.map .int))){x0 x4 x5 x6 x7 x8:Option D} :
 lawXs R1 R2 R3 R4 v sc 3 [x0,some (.ref (j + 1)),some (.str l),some (.str u),x4,x5,x6,x7,x8] (.cell c :: tl) Ex Q:=by
 have pl:=hpl l u hl hu;have e:=fun p m a b c0 d tl'=>WH (v:=v) (sc:=sc) (Ex:=Ex) pl (by lia) hq p m a b c0 d c tl'
 rw [Jdg,Jfu];refine LZ (by exact hn) ⟨ns,rfl,?_⟩
 unfold lawSt;rw [XR,Jdp];rcases Jfr ns.sum with h | h | h | h | h | h
 · rw [h,Jbi];unfold lawSt;rw [Ks,PF,Zf];unfold lawSt;rw [Ki,Pj,YM];unfold lawSt;rw [Kr];exact e false .no _ _ _ _ _
 · rw [h,YX];unfold lawSt;rw [Ks,PF,X8];unfold lawSt;rw [Ki,Pj,Ja5];unfold lawSt;rw [Kr];exact e true .no _ _ _ _ _
 · rw [h,Jap];unfold lawSt;rw [Ks,PF,Zy];unfold lawSt;rw [Ki,Pj,Yw];unfold lawSt;rw [Kr];exact e false .yes _ _ _ _ _
 · rw [h,YH];unfold lawSt;rw [Ks,PF,ZN];unfold lawSt;rw [Ki,Pj,Ja4];unfold lawSt;rw [Kr];exact e true .yes _ _ _ _ _
 · rw [h,Ze];unfold lawSt;rw [Ks,PF,ZZ];unfold lawSt;rw [Ki,Pj,YW];unfold lawSt;rw [Kr];exact e false .own _ _ _ _ _
 · rw [h,ZY];unfold lawSt;rw [Ks,PF,Jau];unfold lawSt;rw [Ki,Pj,ZR];unfold lawSt;rw [Kr];exact e true .own _ _ _ _ _
theorem Jba {c:Option D}{tl:Led}{o o':OD}:List.set (OD.cell c :: (tl++[o])) (tl.length + 1) o'=OD.cell c :: (tl++[o']):=by
 show OD.cell c :: List.set (tl++[o]) tl.length o'=_;rw [W0]
theorem NF (hpl:∀ l u:LN,l.length <= 20->u.length <= 20->Vn R1 R2 R3 R4 l u)(hq:∀ led',Q (.bool true) led'){ns:List Int}(hns:ns.length <= 20){j:Nat}{tl:Led}{c:Option D}(hn:tl[j]?=some (.list (ns.map .int))){x0 x2 x3 x4 x5 x6 x7 x8:Option D} :
 lawXs R1 R2 R3 R4 v sc 1 [x0,some (.ref (j + 1)),x2,x3,x4,x5,x6,x7,x8] (.cell c :: tl) Ex Q:=by
 have hj:=(gel hn);rw [Jbz,Jfy,Jcj];refine LZ (show (OD.cell c :: tl)[j + 1]?=_ from hn) ⟨Ext.app tl _ _ _ hn,?_⟩
 refine Mv (G:=lcj R1 R2 R3 R4 1 (tl.length + 1) (j + 1) (ns.map .int) _) (b:=0) (fun loc led=>R5 (R1:=R1) (R2:=R2) (R3:=R3) (R4:=R4) ..) (fun n xs o led=>Q4 (R1:=R1) (R2:=R2) (R3:=R3) (R4:=R4) ..) (by lia) ns (acc:=[]) (LP tl _) (Ext.app tl _ _ _ hn) (by rw [List.length_nil];lia) fun W hW=>?_
 rw [Jba,List.nil_append];refine Rj (show (OD.cell c :: (tl++[OD.list (sgns W)]))[tl.length + 1]?=_ from LP tl _) (by lia) ?_
 unfold lawSt;rw [SA];have hn2:=Ext.app tl [OD.list (sgns W)] _ _ hn;generalize tl++[OD.list (sgns W)]=t1 at hn2;have hj1:=(gel hn2);show lawXs R1 R2 R3 R4 v sc 2 _ _ _ _;rw [Jd1,Jfi,Jco];refine LZ (show (OD.cell c :: t1)[j + 1]?=_ from hn2) ⟨Ext.app t1 _ _ _ hn2,?_⟩
 refine Mv (G:=lcj R1 R2 R3 R4 2 (t1.length + 1) (j + 1) (ns.map .int) _) (b:=1) (fun loc led=>S9 (R1:=R1) (R2:=R2) (R3:=R3) (R4:=R4) ..) (fun n xs o led=>RQ (R1:=R1) (R2:=R2) (R3:=R3) (R4:=R4) ..) (by lia) ns (acc:=[]) (LP t1 _) (Ext.app t1 _ _ _ hn2) (by rw [List.length_nil];lia) fun W2 hW2=>?_
 rw [Jba,List.nil_append];refine Rj (show (OD.cell c :: (t1++[OD.list (sgns W2)]))[t1.length + 1]?=_ from LP t1 _) (by lia) ?_
 unfold lawSt;rw [Ud];exact RZ hpl hq (by lia) (by lia) (Ext.app t1 _ _ _ hn2)
theorem V0 (hpl:∀ l u:LN,l.length <= 20->u.length <= 20->Vn R1 R2 R3 R4 l u)(hq:∀ led',Q (.bool true) led')(v:Nat)(l:List Int)(hl:l.length <= 63) :
 lawXs R1 R2 R3 R4 v (l.map .int) 0 [some (.val v),none,none,none,none,none,none,none,none] [.cell none] Ex Q:=by
 rw [Jeg,Jf0,Y8];refine ⟨rfl,Jf.mpr ⟨by rw [List.length_map];lia,rfl,?_⟩⟩
 have ec:cut (l.map D.int) 0 20=(l.take 20).map .int:=by unfold cut;rw [List.drop_zero,List.map_take]
 rw [ec];refine QG (l.take 20) [] none (by rw [List.length_nil,List.length_take];lia) ?_
 rw [List.nil_append,Jd7];have hlen:(l.take 20).length <= 20:=by rw [List.length_take];lia
 refine Jf.mpr ⟨by rw [List.length_map,List.length_map];lia,?_⟩
 cases hx:l.take 20 with
 | nil=>
  refine (show ∀ {n:Prop} {c:D->LD->Prop},n->lC ([]:LD) n c from fun h=>h) ?_
  unfold lawSt;rw [Ma];exact NF hpl hq (ns:=[8,3,1,17,7,11,14,37,38,55,58]) (by decide) (j:=2) rfl
 | cons n r=>
  refine (show ∀ {n:Prop} {c:D->LD->Prop} {a:D} {r:LD},c a r->lC (a :: r) n c from fun h=>h) ?_
  unfold lawSt;rw [Ma];exact NF hpl hq (ns:=(n :: r).map fun n=>n.fmod 100000000) (by rw [List.length_map,<-hx];exact hlen) (j:=1) rfl
end
noncomputable def cls (cf:Cfg)(c:Nat):Kn->Prop
 | .white=>has c whites=true
 | .remark=>has c whites=false /\ has c cf.cm=true
 | .run=>has c whites=false /\ has c cf.cm=false /\ has c [92]=false /\ has c cf.wc=false /\ has c cf.pc=true /\ has c quots=false /\ cf.ws=false
 | .quote=>has c whites=false /\ has c cf.cm=false /\ has c [92]=false /\ has c cf.wc=false /\ has c cf.pc=false /\ has c quots=true
 | .escape=>has c whites=false /\ has c cf.cm=false /\ cf.posix=true /\ has c [92]=true /\ has c quots=false /\ has c cf.pc=false
 | .word=>has c whites=false /\ has c cf.cm=false /\ (cf.posix && has c [92])=false /\ (has c cf.wc=true \/ (has c cf.wc=false /\ cf.ws=true)) /\ has c cf.pc=false /\ has c quots=false
 | .lone=>has c whites=false /\ has c cf.cm=false /\ (cf.posix && has c [92])=false /\ has c cf.wc=false /\ has c cf.pc=false /\ has c quots=false /\ cf.ws=false
section
variable (cf:Cfg)(buf:LN)
noncomputable def Gs (st:Nat)(tok:LN)(qd:Bool)(esc n:Nat)(nc:Option (LN)):LX:=⟨some st,tok,lnAt buf n,min n buf.length,[],none,qd,esc,nc⟩
noncomputable def Tn (S:LX)(c:Nat):Res:=turn1 cf .cont .brk .err (com1W buf .cont) (com2W cf buf .cont .brk) S c
structure Pl (S:LX)(n:Nat):Prop where
 ln:S.ln=lnAt buf n
 at_:(S.pbc=none /\ S.pos=min n buf.length) \/ ∃ c r,S.pbc=some c /\ c ≠ 10 /\ buf.drop n=c :: r /\ S.pos=n + 1
noncomputable def Wr (S:LX)(P:Bool->LX->Prop):Prop:=∃ b S',RT cf buf S b S' /\ P b S'
end
section
variable {cf:Cfg}{buf:LN}
theorem Ny {n c:Nat}{r:LN}(e:buf.drop n=c :: r):lnAt buf (n + 1)=lnAt buf n + (if c=10 then 1 else 0):=by
 have hn:=J1 e;have ht:buf.take (n + 1)=buf.take n++[c]:=by
  have h1:(c :: r).take 1=[c]:=rfl;rw [<-h1,<-e,List.take_add]
 unfold lnAt;rw [ht,List.count_append,if_neg (by lia),if_neg (by lia)]
 by_cases hc:c=10
 · subst hc;rw [if_pos rfl];show Int.ofNat (1 + (List.count 10 (buf.take n) + 1) + 0)=Int.ofNat (1 + List.count 10 (buf.take n) + 0) + 1;show Int.ofNat _=Int.ofNat (_ + 1)
   congr 1
 · rw [if_neg hc,List.count_singleton,if_neg (by simpa using hc),Int.add_zero];rfl
theorem JZ {n c:Nat}{r:LN}(e:buf.drop n=c :: r)(h:c ≠ 10):lnAt buf (n + 1)=lnAt buf n:=by
 rw [Ny e,if_neg h,Int.add_zero]
noncomputable def rdS (buf:LN)(S:LX)(n c:Nat):LX:=⟨S.st,S.tok,lnAt buf (n + 1),n + 1,S.pb,none,S.qd,S.esc,some [c]⟩
theorem Qg {S:LX}{n c:Nat}{r:LN}(h:Pl buf S n)(e:buf.drop n=c :: r):tRes cf buf S=Tn cf buf (rdS buf S n c) c:=by
 obtain ⟨st,tok,ln,pos,pb,pbc,qd,esc,nc⟩:=S;obtain ⟨g1,h2⟩:=h;have h1:ln=lnAt buf n:=g1
 clear g1
 have hn:=J1 e;rcases h2 with ⟨g3,g4⟩ | ⟨c',r',g3,h4,h5,g6⟩
 · obtain rfl:pbc=none:=g3;have h4:pos=min n buf.length:=g4
   clear g4
   obtain rfl:pos=n:=by lia
   unfold tRes turnAll;show (match buf.drop pos with | []=>_ | c :: _=>_)=_
   rw [e];show turn _ _ _ _ _ _ _ _=_;unfold turn;rw [Rh]
   by_cases hc:c=10
   · subst hc;rw [Jp (show Nat.beq 10 10=true from rfl)]
     show turn1 _ _ _ _ _ _ ⟨st,tok,ln + 1,pos + 1,pb,none,qd,esc,some [10]⟩ 10=_;rw [h1,show lnAt buf pos + 1=lnAt buf (pos + 1) by rw [Ny e,if_pos rfl]];rfl
   · rw [Je (by cases q:Nat.beq c 10 with | false=>rfl | true=>exact absurd (Nat.eq_of_beq_eq_true q) hc)]
     show turn1 _ _ _ _ _ _ ⟨st,tok,ln,pos + 1,pb,none,qd,esc,some [c]⟩ c=_;rw [h1,<-JZ e hc];rfl
 · obtain rfl:pbc=some c':=g3;rw [h5] at e;cases e;have h6:pos=n + 1:=g6
   clear g6
   subst h6;unfold tRes turnAll;show turn _ _ _ _ _ _ _ _=_;unfold turn;rw [Rh,Je (by cases q:Nat.beq c 10 with | false=>rfl | true=>exact absurd (Nat.eq_of_beq_eq_true q) h4)]
   show turn1 _ _ _ _ _ _ ⟨st,tok,ln,n + 1,pb,none,qd,esc,some [c]⟩ c=_;rw [h1,<-JZ h5 h4];rfl
theorem Kk {S:LX}{n:Nat}(h:Pl buf S n)(e:buf.drop n=[]):tRes cf buf S=turnEnd .cont .brk .rs { S with nc:=some [] } /\ S.pbc=none /\ S.pos=buf.length:=by
 obtain ⟨st,tok,ln,pos,pb,pbc,qd,esc,nc⟩:=S;obtain ⟨h1,h2⟩:=h;have hn:=List.drop_eq_nil_iff.mp e;rcases h2 with ⟨g3,g4⟩ | ⟨c',r',g3,h4,h5,g6⟩
 · obtain rfl:pbc=none:=g3;have h4:pos=min n buf.length:=g4
   clear g4
   obtain rfl:pos=buf.length:=by lia
   refine ⟨?_,rfl,rfl⟩;unfold tRes turnAll;show (match buf.drop buf.length with | []=>_ | c :: _=>_)=_
   rw [List.drop_length]
 · rw [e] at h5;injection h5
theorem NH (st:Nat)(tok:LN)(qd:Bool)(esc n:Nat)(nc:Option (LN)):Pl buf (Gs buf st tok qd esc n nc) n:=⟨rfl,.inl ⟨rfl,rfl⟩⟩
theorem Jaf {st:Nat}{tok:LN}{qd:Bool}{esc n c:Nat}{nc:Option (LN)}{r:LN}(e:buf.drop n=c :: r):rdS buf (Gs buf st tok qd esc n nc) n c=Gs buf st tok qd esc (n + 1) (some [c]):=by
 have hn:=J1 e;unfold rdS Gs;rw [show min (n + 1) buf.length=n + 1 by lia]
theorem Jo {st:Nat}{tok:LN}{qd:Bool}{esc n c:Nat}{nc:Option (LN)}{r:LN}(e:buf.drop n=c :: r):tRes cf buf (Gs buf st tok qd esc n nc)=Tn cf buf (Gs buf st tok qd esc (n + 1) (some [c])) c:=by
 rw [Qg (NH ..) e,Jaf e]
theorem Js {S S2:LX}{P:Bool->LX->Prop}(g:S.ok cf)(h:tRes cf buf S=.cont S2)(w:Wr cf buf S2 P):Wr cf buf S P:=let ⟨b,S',r,p⟩:=w;⟨b,S',.cont g h r,p⟩
theorem KS {S S2:LX}{P:Bool->LX->Prop}(g:S.ok cf)(h:tRes cf buf S=.brk S2)(p:P true S2):Wr cf buf S P:=⟨true,S2,.brk g h,p⟩
theorem XD {S S2:LX}{P:Bool->LX->Prop}(g:S.ok cf)(h:tRes cf buf S=.rs S2)(p:P false S2):Wr cf buf S P:=⟨false,S2,.rs g h,p⟩
theorem Xb {S S2:LX}{P:Bool->LX->Prop}(g:S.ok cf)(h:tRes cf buf S=tRes cf buf S2)(w:Wr cf buf S2 P):Wr cf buf S P:=by
 refine E22 w fun b S' r p=>?_;refine ⟨b,S',?_,p⟩
 cases r with
 | brk _ h'=>exact .brk g (h.trans h')
 | rs _ h'=>exact .rs g (h.trans h')
 | cont _ h' r=>exact .cont g (h.trans h') r
theorem JD {st:Nat}{tok:LN}{qd:Bool}{esc n:Nat}{nc:Option (LN)}:LX.ok cf (Gs buf st tok qd esc n nc):=fun _=>rfl
section
variable (tok:LN)(qd:Bool)(esc n c q:Nat)(nc:Option (LN))(S:LX)
theorem Jf6:Tn cf buf (Gs buf 97 tok qd esc n nc) c=turnA cf .cont .brk .err (com2W cf buf .cont .brk) (Gs buf 97 tok qd esc n nc) 97 c:=rfl
theorem Jf4:Tn cf buf (Gs buf 99 tok qd esc n nc) c=turnA cf .cont .brk .err (com2W cf buf .cont .brk) (Gs buf 99 tok qd esc n nc) 99 c:=rfl
theorem Jd9:Tn cf buf (Gs buf 92 tok qd esc n nc) c=turnE .cont .err (Gs buf 92 tok qd esc n nc) 92 c:=rfl
theorem Jf3:Tn cf buf (Gs buf 39 tok qd esc n nc) c=turnQ cf .cont .brk .err (Gs buf 39 tok qd esc n nc) 39 c:=rfl
theorem Jf5:Tn cf buf (Gs buf 34 tok qd esc n nc) c=turnQ cf .cont .brk .err (Gs buf 34 tok qd esc n nc) 34 c:=rfl
end
theorem Ka {S:LX}{c:Nat}{k:LX->Res}(h:S.tok.length <= 1000000):addT .err S c k=k { S with tok:=S.tok++[c] }:=Jp (Nat.ble_eq_true_of_le (by lia))
theorem MC {c:Nat}(h:has c whites=false):c ≠ 10:=fun e=>by subst e;injection h
end
section
variable {cf:Cfg}{buf:LN}
structure Ty (buf:LN)(S:LX):Prop where
 st:S.st=some 39 \/ S.st=some 34 \/ S.st=some 92
 pbc:S.pbc=none
 pb:S.pb=[]
 pos:S.pos=buf.length
 ln:S.ln=lnAt buf buf.length
theorem PT {n:Nat}(e:buf.drop n=[])(h:n <= buf.length):n=buf.length:=by have:=List.drop_eq_nil_iff.mp e;lia
theorem Jx {n c:Nat}{r:LN}(e:buf.drop n=c :: r):n + 1 <= buf.length:=J1 e
theorem OQ {q:Nat}(hq:q=39 \/ q=34 \/ q=92){tok:LN}{qd:Bool}{esc n:Nat}{nc:Option (LN)}{P:Bool->LX->Prop}(e:buf.drop n=[])(h:n <= buf.length)(p:∀ S,Ty buf S->P false S):Wr cf buf (Gs buf q tok qd esc n nc) P:=by
 obtain rfl:=PT e h;have hr:=Kk (cf:=cf) (NH q tok qd esc buf.length nc) e;rcases hq with rfl | rfl | rfl
 · exact XD JD hr.1 (p _ ⟨.inl rfl,rfl,rfl,hr.2.2,rfl⟩)
 · exact XD JD hr.1 (p _ ⟨.inr (.inl rfl),rfl,rfl,hr.2.2,rfl⟩)
 · exact XD JD hr.1 (p _ ⟨.inr (.inr rfl),rfl,rfl,hr.2.2,rfl⟩)
theorem t_q {q:Nat}(hq:q=39 \/ q=34)(tok:LN)(qd:Bool)(esc n c:Nat)(nc:Option (LN)):Tn cf buf (Gs buf q tok qd esc n nc) c=turnQ cf Res.cont Res.brk Res.err (Gs buf q tok qd esc n nc) q c:=by
 rcases hq with rfl | rfl <;> rfl
section
variable {tok:LN}{qd:Bool}{esc n c q:Nat}{nc:Option (LN)}
theorem XA (hp:cf.posix=true):turnQ cf Res.cont Res.brk Res.err (Gs buf q tok qd esc n nc) q q=Res.cont (Gs buf 97 tok true esc n nc):=by
 unfold turnQ;rw [Jp (Jn.mpr rfl),hp];rfl
theorem SV (hp:cf.posix=false)(hl:tok.length <= 1000000):turnQ cf Res.cont Res.brk Res.err (Gs buf q tok qd esc n nc) q q=Res.brk (Gs buf 32 (tok++[q]) true esc n nc):=by
 have ha:addT Res.err { Gs buf q tok qd esc n nc with qd:=true } q (fun S=>Res.brk { S with st:=some 32 })=Res.brk (Gs buf 32 (tok++[q]) true esc n nc):=Ka hl
 unfold turnQ;rw [Jp (Jn.mpr rfl),hp];exact ha
theorem Jaz (h:Nat.beq c q=false)(h2:cf.posix=true->has c [92]=true->has q [34]=false)(hl:tok.length <= 1000000):turnQ cf Res.cont Res.brk Res.err (Gs buf q tok qd esc n nc) q c=Res.cont (Gs buf q (tok++[c]) true esc n nc):=by
 unfold turnQ;rw [Je ((Rh c q).trans h)];have ha:addT Res.err { Gs buf q tok qd esc n nc with qd:=true } c Res.cont=Res.cont (Gs buf q (tok++[c]) true esc n nc):=Ka hl
 rw [ha]
 cases hp:cf.posix with
 | false=>rfl
 | true=>
  cases h92:has c [92] with
  | false=>rfl
  | true=>rw [h2 hp h92];rfl
theorem Jc0 (hp:cf.posix=true):turnQ cf Res.cont Res.brk Res.err (Gs buf 34 tok qd esc n nc) 34 92=Res.cont (Gs buf 92 tok true 34 n nc):=by
 unfold turnQ;rw [hp];rfl
theorem Jfj (h:has c [92,34]=true)(hl:tok.length <= 1000000):turnE Res.cont Res.err (Gs buf 92 tok qd 34 n nc) 92 c=Res.cont (Gs buf 34 (tok++[c]) qd 34 n nc):=by
 have ha:addT Res.err (Gs buf 92 tok qd 34 n nc) c (fun S=>Res.cont { S with st:=some S.esc })=Res.cont (Gs buf 34 (tok++[c]) qd 34 n nc):=Ka hl
 unfold turnE;rw [Rh,show (Gs buf 92 tok qd 34 n nc).esc=34 from rfl,Rh,Jp (show has 34 quots=true from rfl),ha]
 have h:ife (Nat.beq c 92) true (ife (Nat.beq c 34) true false)=true:=h
 cases h1:Nat.beq c 92 with
 | true=>rfl
 | false=>
  rw [h1] at h
  cases h2:Nat.beq c 34 with
  | true=>rfl
  | false=>rw [h2] at h;injection h
theorem Jb9 (h:has c [92,34]=false)(hl:tok.length <= 100000):turnE Res.cont Res.err (Gs buf 92 tok qd 34 n nc) 92 c=Res.cont (Gs buf 34 (tok++[92]++[c]) qd 34 n nc):=by
 have ha:(addT Res.err (Gs buf 92 tok qd 34 n nc) 92 fun S=>addT Res.err S c (fun S=>Res.cont { S with st:=some S.esc }))=Res.cont (Gs buf 34 (tok++[92]++[c]) qd 34 n nc):=by
  rw [Ka (show tok.length <= 1000000 by lia)]
  exact Ka (show (tok++[92]).length <= 1000000 by rw [List.length_append,List.length_singleton];lia)
 unfold turnE;rw [Rh,show (Gs buf 92 tok qd 34 n nc).esc=34 from rfl,Rh,Jp (show has 34 quots=true from rfl),ha]
 have h:ife (Nat.beq c 92) true (ife (Nat.beq c 34) true false)=false:=h
 cases h1:Nat.beq c 92 with
 | true=>rw [h1] at h;injection h
 | false=>
  rw [h1] at h
  cases h2:Nat.beq c 34 with
  | true=>rw [h2] at h;injection h
  | false=>rfl
end
theorem Up (q:Nat)(r:LN):qt q (q :: r)=some ([],1):=by
 cases r with
 | nil=>unfold qt;rw [Nat.beq_refl];rfl
 | cons d r=>unfold qt;rw [Nat.beq_refl];rfl
theorem U9 {q c:Nat}(h:Nat.beq c q=false):qt q [c]=none:=by unfold qt;rw [h];rfl
theorem U8 {q c:Nat}{r:LN}(h:Nat.beq c q=false)(h2:Nat.beq q 34=true->Nat.beq c 92=false):qt q (c :: r)=addQ c 1 (qt q r):=by
 cases r with
 | nil=>rw [U9 h];rfl
 | cons d r=>
  show ife (Nat.beq c q) _ _=_;rw [h]
  cases h3:Nat.beq q 34 with
  | false=>rfl
  | true=>rw [h2 h3];rfl
theorem Jan {d:Nat}{r:LN}:qt 34 (92 :: d :: r)=ife (has d [92,34]) (addQ d 2 (qt 34 r)) (addQ 92 1 (qt 34 (d :: r))):=rfl
noncomputable def qPost (cf:Cfg)(buf:LN)(P:Bool->LX->Prop)(tok:LN)(n:Nat):Option (LN × Nat)->Prop
 | some xj=>∀ esc nc,Wr cf buf (Gs buf 97 (tok++xj.1) true esc (n + xj.2) nc) P
 | none=>∀ S,Ty buf S->P false S
theorem KX {P:Bool->LX->Prop}{tok:LN}{n c k:Nat}{o:Option (LN × Nat)}(h:qPost cf buf P tok n (addQ c k o)):qPost cf buf P (tok++[c]) (n + k) o:=by
 cases o with
 | none=>exact h
 | some xj=>
  intro esc nc;have h:Wr cf buf (Gs buf 97 (tok++c :: xj.1) true esc (n + (xj.2 + k)) nc) P:=h esc nc;rw [List.append_assoc,show n + k + xj.2=n + (xj.2 + k) by lia];exact h
theorem Jbr (hp:cf.posix=true){q:Nat}(hq:q=39 \/ q=34){P:Bool->LX->Prop}:∀ (k:Nat) (r:LN) {n:Nat} {tok:LN} {qd:Bool} {esc:Nat} {nc:Option (LN)},r.length <= k->buf.drop n=r->n <= buf.length->tok.length + r.length <= 1000->qPost cf buf P tok n (qt q r)->Wr cf buf (Gs buf q tok qd esc n nc) P
 | _,[],n,tok,qd,esc,nc,hk,e,hn,hl,h=>OQ (by rcases hq with rfl | rfl;exact .inl rfl;exact .inr (.inl rfl)) e hn h
 | 0,_ :: _,n,tok,qd,esc,nc,hk,e,hn,hl,h=>absurd hk (by simp)
 | k + 1,c :: r,n,tok,qd,esc,nc,hk,e,hn,hl,h=>by
  rw [List.length_cons] at hk hl;have e1:=Jk e;have hn1:=Jx e
  by_cases hc:c=q
  · subst hc;rw [Up] at h;have h:∀ esc nc,Wr cf buf (Gs buf 97 (tok++[]) true esc (n + 1) nc) P:=h;rw [List.append_nil] at h;exact Js JD ((Jo e).trans ((t_q hq ..).trans (XA hp))) (h _ _)
  · have hcb:Nat.beq c q=false:=by cases x:Nat.beq c q with | false=>rfl | true=>exact absurd (Nat.eq_of_beq_eq_true x) hc
    by_cases hx:q=34 /\ c=92
    · obtain ⟨rfl,rfl⟩:=hx;refine Js JD ((Jo e).trans ((t_q hq ..).trans (Jc0 hp))) ?_
      cases r with
      | nil=>
       rw [U9 hcb] at h;exact OQ (.inr (.inr rfl)) e1 hn1 h
      | cons d r=>
       rw [List.length_cons] at hk hl;have e2:=Jk e1;have hn2:=Jx e1;rw [Jan] at h
       cases hd:has d [92,34] with
       | true=>
        rw [hd] at h;have h3:=KX (show qPost cf buf P tok n (addQ d 2 (qt 34 r)) from h)
        exact Js JD ((Jo e1).trans ((Jd9 ..).trans (Jfj hd (by lia)))) (Jbr hp hq k r (by lia) e2 hn2 (by rw [List.length_append,List.length_singleton];lia) h3)
       | false=>
        rw [hd] at h;have hd1:ife (Nat.beq d 92) true (ife (Nat.beq d 34) true false)=false:=hd;have hd2:Nat.beq d 34=false:=by
         cases x:Nat.beq d 92 <;> rw [x] at hd1
         · cases y:Nat.beq d 34 with
           | false=>rfl
           | true=>rw [y] at hd1;injection hd1
         · injection hd1
        have hd3:Nat.beq d 92=false:=by
         cases x:Nat.beq d 92 with
         | false=>rfl
         | true=>rw [x] at hd1;injection hd1
        have h3:=KX (show qPost cf buf P tok n (addQ 92 1 (qt 34 (d :: r))) from h)
        rw [U8 hd2 (fun _=>hd3)] at h3;exact Js JD ((Jo e1).trans ((Jd9 ..).trans (Jb9 hd (by lia)))) (Jbr hp hq k r (by lia) e2 hn2 (by rw [List.length_append,List.length_append,List.length_singleton,List.length_singleton];lia) (KX h3))
    · have h9:Nat.beq q 34=true->Nat.beq c 92=false:=fun x=>by
       cases y:Nat.beq c 92 with
       | false=>rfl
       | true=>exact absurd ⟨Nat.eq_of_beq_eq_true x,Nat.eq_of_beq_eq_true y⟩ hx
      rw [U8 hcb h9] at h;refine Js JD ((Jo e).trans ((t_q hq ..).trans (Jaz hcb (fun _ x=>?_) (by lia)))) (Jbr hp hq k r (by lia) e1 hn1 (by rw [List.length_append,List.length_singleton];lia) (KX h))
      have x:ife (Nat.beq c 92) true false=true:=x;show ife (Nat.beq q 34) true false=false
      cases y:Nat.beq q 34 with
      | false=>rfl
      | true=>rw [h9 y] at x;injection x
noncomputable def nPost (buf:LN)(P:Bool->LX->Prop)(tok:LN)(n:Nat)(r:LN):Option Nat->Prop
 | some j=>∀ esc nc,P true (Gs buf 32 (tok++r.take (j + 1)) true esc (n + j + 1) nc)
 | none=>∀ S,Ty buf S->P false S
theorem Jfa (hp:cf.posix=false){q:Nat}(hq:q=39 \/ q=34){P:Bool->LX->Prop}:∀ (r:LN) {n:Nat} {tok:LN} {qd:Bool} {esc:Nat} {nc:Option (LN)},buf.drop n=r->n <= buf.length->tok.length + r.length <= 1000->nPost buf P tok n r (ixN q r)->Wr cf buf (Gs buf q tok qd esc n nc) P
 | [],n,tok,qd,esc,nc,e,hn,hl,h=>OQ (by rcases hq with rfl | rfl;exact .inl rfl;exact .inr (.inl rfl)) e hn h
 | c :: r,n,tok,qd,esc,nc,e,hn,hl,h=>by
  rw [List.length_cons] at hl;have e1:=Jk e;have hn1:=Jx e;unfold ixN at h
  cases hc:Nat.beq c q with
  | true=>
   rw [hc] at h;have h:P true (Gs buf 32 (tok++[c]) true esc (n + 1) (some [c])):=h esc (some [c]);obtain rfl:=Nat.eq_of_beq_eq_true hc;exact KS JD ((Jo e).trans ((t_q hq ..).trans (SV hp (by lia)))) (by assumption)
  | false=>
   rw [hc] at h;refine Js JD ((Jo e).trans ((t_q hq ..).trans (Jaz hc (fun x=>by rw [hp] at x;injection x) (by lia)))) (Jfa hp hq r e1 hn1 (by rw [List.length_append,List.length_singleton];lia) ?_)
   have h:nPost buf P tok n (c :: r) (match ixN q r with | some j=>some (j + 1) | none=>none):=h
   cases x:ixN q r with
   | none=>rw [x] at h;exact h
   | some j=>
    rw [x] at h;intro esc nc;have h:P true (Gs buf 32 (tok++c :: r.take (j + 1)) true esc (n + (j + 1) + 1) nc):=h esc nc;rw [List.append_assoc,show n + 1 + j + 1=n + (j + 1) + 1 by lia];exact h
end
noncomputable def CfOk (cf:Cfg)(kd:Nat->Kn):Prop:=∀ c,cls cf c (kd c)
inductive Aft (cf:Cfg)(buf:LN)(kd:Nat->Kn):LX->Nat->Prop
 | go {S:LX} {m:Nat} (st:S.st=some 32) (ok:S.ok cf) (pb:S.pb=[]) (pl:Pl buf S m):Aft cf buf kd S m
 | pushed {S:LX} {m c:Nat} {r:LN} (st:S.st=some 32) (pb:S.pb=[[c]]) (pbc:S.pbc=none) (e:buf.drop m=c :: r) (hc:c ≠ 10) (pos:S.pos=m + 1) (ln:S.ln=lnAt buf m) (k:kd c=.lone):Aft cf buf kd S m
 | ended {S:LX} {m:Nat} (st:S.st=none) (pb:S.pb=[]) (pbc:S.pbc=none) (e:buf.drop m=[]) (pos:S.pos=buf.length) (ln:S.ln=lnAt buf m):Aft cf buf kd S m
noncomputable def stF:Bool->Nat
 | true=>99
 | false=>97
section
variable {cf:Cfg}{buf:LN}{kd:Nat->Kn}
noncomputable def full (cf:Cfg)(S:LX):Prop:=S.tok ≠ [] \/ (cf.posix=true /\ S.qd=true)
noncomputable def tPost (cf:Cfg)(buf:LN)(kd:Nat->Kn)(P:Bool->LX->Prop)(tok:LN)(n:Nat):Option (LN × Nat)->Prop
 | some xj=>∀ S,S.tok=tok++xj.1->full cf S->Aft cf buf kd S (n + xj.2)->P true S
 | none=>∀ S,Ty buf S->P false S
theorem KQ {P:Bool->LX->Prop}{tok x:LN}{n k:Nat}{o:Option (LN × Nat)}(h:tPost cf buf kd P tok n (app x k o)):tPost cf buf kd P (tok++x) (n + k) o:=by
 cases o with
 | none=>exact h
 | some xj=>
  intro S h1 h2 h3;refine h S ?_ h2 ?_
  · rw [h1];exact List.append_assoc ..
  · show Aft cf buf kd S (n + (xj.2 + k));rw [show n + (xj.2 + k)=n + k + xj.2 by lia];exact h3
theorem Pg {S:LX}{b k:Res}(h:full cf S):tokQ cf S b k=b:=by
 unfold tokQ
 cases ht:S.tok with
 | cons a l=>rfl
 | nil=>
  rcases h with h | ⟨h1,h2⟩
  · exact absurd ht h
  · rw [h1,h2];rfl
theorem O4 {a c:Nat}{r:LN}(h:c ≠ a):ixN a (c :: r)=match ixN a r with
 | some j=>some (j + 1)
 | none=>none:=by
 show ife (Nat.beq c a) _ _=_;have:Nat.beq c a=false:=by cases x:Nat.beq c a with | false=>rfl | true=>exact absurd (Nat.eq_of_beq_eq_true x) h
 rw [this];rfl
theorem NE {a:Nat}:∀ {r:LN},(∀ j,ixN a r=some j->(r.take (j + 1)).count a=1 /\ j < r.length) /\ (ixN a r=none->r.count a=0)
 | []=>⟨fun j h=>(by injection h),fun _=>rfl⟩
 | c :: r=>by
  obtain ⟨h1,h2⟩:=NE (a:=a) (r:=r)
  by_cases h:c=a
  · subst h;have e:ixN c (c :: r)=some 0:=by show ife (Nat.beq c c) _ _=_;rw [Nat.beq_refl];rfl
    rw [e];exact ⟨fun j hj=>(by obtain rfl:=Option.some.inj hj;exact ⟨by simp,by simp⟩),fun h=>(by injection h)⟩
  · rw [O4 h]
    cases e:ixN a r with
    | none=>exact ⟨fun j hj=>(by injection hj),fun _=>(by rw [List.count_cons_of_ne h];exact h2 e)⟩
    | some i=>
     refine ⟨fun j hj=>?_,fun hj=>(by injection hj)⟩
     obtain rfl:=Option.some.inj hj;obtain ⟨a1,a2⟩:=h1 i e;exact ⟨by rw [List.take_succ_cons,List.count_cons_of_ne h];exact a1,by rw [List.length_cons];lia⟩
theorem Rt {q:Nat}{tok:LN}{qd:Bool}{esc n c:Nat}{nc:Option (LN)}{r:LN}(e:buf.drop n=c :: r)(hc:c ≠ 10):adv buf (Gs buf q tok qd esc (n + 1) nc)=Gs buf q tok qd esc (n + nlc (c :: r)) nc:=by
 have hn:=Jx e;have e1:=Jk e;have hr:=congrArg List.length e1;rw [List.length_drop] at hr;have key:n + 1 + nlR r=min (n + nlc (c :: r)) buf.length /\ lnAt buf (n + 1) + 1=lnAt buf (n + nlc (c :: r)):=by
  have hc1:=NE (a:=10) (r:=r);have hb:buf.length=n + 1 + r.length:=by lia
  clear hr
  unfold nlc nlR;rw [O4 hc,hb]
  cases x:ixN 10 r with
  | some j=>
   obtain ⟨a1,a2⟩:=hc1.1 j x;dsimp only;refine ⟨by lia,?_⟩
   unfold lnAt;have ht:buf.take (n + (j + 1 + 1))=buf.take (n + 1)++r.take (j + 1):=by
    rw [<-e1,<-List.take_add,show n + 1 + (j + 1)=n + (j + 1 + 1) by lia]
   rw [ht,List.count_append,a1,if_neg (by lia),if_neg (by lia)]
   show Int.ofNat _=Int.ofNat _
   congr 1
  | none=>
   have a1:=hc1.2 x;have hlen:(c :: r).length=r.length + 1:=rfl;dsimp only;rw [hlen];refine ⟨by lia,?_⟩
   unfold lnAt;have ht:buf.take (n + (r.length + 1 + 1))=buf.take (n + 1)++r:=by
    rw [show n + (r.length + 1 + 1)=(n + 1) + (r.length + 1) by lia,List.take_add,e1,show r.take (r.length + 1)=r from List.take_of_length_le (by lia)]
   rw [ht,List.count_append,a1,if_neg (by lia),if_pos (by lia)]
   show Int.ofNat _=Int.ofNat _
   congr 1
 unfold adv Gs;dsimp only;rw [show min (n + 1) buf.length=n + 1 by lia,e1,key.1,key.2]
section
variable {tok:LN}{qd:Bool}{esc n c q:Nat}{nc:Option (LN)}{k1:LX->Res}
noncomputable def tA (cf:Cfg)(k1:LX->Res)(S:LX)(q c:Nat):Res:=turnA cf Res.cont Res.brk Res.err k1 S q c
theorem VP (h:has c whites=true)(hf:full cf (Gs buf q tok qd esc n nc)):tA cf k1 (Gs buf q tok qd esc n nc) q c=.brk (Gs buf 32 tok qd esc n nc):=by
 unfold tA turnA;rw [Jp h];exact Pg hf
theorem OI (h1:has c whites=false)(h:has c cf.cm=true):tA cf k1 (Gs buf q tok qd esc n nc) q c=k1 (Gs buf q tok qd esc n nc):=by
 unfold tA turnA;rw [Je h1,Jp h]
theorem ZI (h1:has c whites=false)(h2:has c cf.cm=false)(h:has c cf.pc=true)(hl:tok.length <= 1000000):tA cf k1 (Gs buf 99 tok qd esc n nc) 99 c=.cont (Gs buf 99 (tok++[c]) qd esc n nc):=by
 unfold tA turnA;rw [Je h1,Je h2,Jp (show lEqB [99] [99]=true from rfl),Jp h];exact Ka hl
theorem R7 (h1:has c whites=false)(h2:has c cf.cm=false)(h:has c cf.pc=false)(hp:cf.pc ≠ []):tA cf k1 (Gs buf 99 tok qd esc n nc) 99 c=.brk { Gs buf 32 tok qd esc n nc with pbc:=some c }:=by
 unfold tA turnA;rw [Je h1,Je h2,Jp (show lEqB [99] [99]=true from rfl),Je h,Jp (by rw [h1];rfl)]
 cases e:cf.pc with
 | nil=>exact absurd e hp
 | cons a l=>rfl
theorem MP (h1:has c whites=false)(h2:has c cf.cm=false)(hp:cf.posix=true)(h:has c quots=true):tA cf k1 (Gs buf 97 tok qd esc n nc) 97 c=.cont (Gs buf c tok qd esc n nc):=by
 unfold tA turnA and2;rw [Je h1,Je h2,Je (show lEqB [97] [99]=false from rfl),hp,h];rfl
theorem Mr (h1:has c whites=false)(h2:has c cf.cm=false)(hp:cf.posix=true)(h3:has c quots=false)(h:has c [92]=true):tA cf k1 (Gs buf 97 tok qd esc n nc) 97 c=.cont (Gs buf c tok qd 97 n nc):=by
 unfold tA turnA and2;rw [Je h1,Je h2,Je (show lEqB [97] [99]=false from rfl),hp,h3,h];rfl
theorem J0 {α:Type}{a b:Bool}{x y:α}(h:(a && b)=false):and2 a b x y=y:=by cases a <;> cases b <;> first | rfl | cases h
theorem V3 (h1:has c whites=false)(h2:has c cf.cm=false)(h3:(cf.posix && has c quots)=false)(h4:(cf.posix && has c [92])=false)(h5:has c cf.wc=true \/ has c quots=true \/ (has c quots=false /\ cf.ws=true /\ has c cf.pc=false))(hl:tok.length <= 1000000):tA cf k1 (Gs buf 97 tok qd esc n nc) 97 c=.cont (Gs buf 97 (tok++[c]) qd esc n nc):=by
 have ha:addT Res.err (Gs buf 97 tok qd esc n nc) c Res.cont=.cont (Gs buf 97 (tok++[c]) qd esc n nc):=Ka hl;unfold tA turnA;rw [Je h1,Je h2,Je (show lEqB [97] [99]=false from rfl),J0 h3,J0 h4,ha]
 cases hw:has c cf.wc with
 | true=>rfl
 | false=>
  rcases h5 with h | h | ⟨h,h6,h7⟩
  · rw [hw] at h;injection h
  · rw [h];rfl
  · rw [h,h6,h7];rfl
theorem TV (h1:has c whites=false)(h2:has c cf.cm=false)(h3:has c quots=false)(h4:(cf.posix && has c [92])=false)(h5:has c cf.wc=false)(h6:cf.ws=false)(hf:full cf (Gs buf 97 tok qd esc n nc)):tA cf k1 (Gs buf 97 tok qd esc n nc) 97 c=lc cf.pc (.brk { Gs buf 32 tok qd esc n nc with pb:=[[c]] }) (.brk { Gs buf 32 tok qd esc n nc with pbc:=some c }):=by
 unfold tA turnA turnA.other;rw [Je h1,Je h2,Je (show lEqB [97] [99]=false from rfl),J0 (by rw [h3];cases cf.posix <;> rfl),J0 h4,Je h5,Je h3,Je h6,Pg hf,Pg hf]
 rfl
end
end
section
variable {cf:Cfg}{buf:LN}{kd:Nat->Kn}
theorem Uw {c:Nat}(h:has c [92]=true):c=92:=by
 have h:ife (Nat.beq c 92) true false=true:=h
 cases x:Nat.beq c 92 with
 | true=>exact Nat.eq_of_beq_eq_true x
 | false=>rw [x] at h;injection h
theorem W1 {c:Nat}(h:has c quots=true):c=39 \/ c=34:=by
 have h:ife (Nat.beq c 39) true (ife (Nat.beq c 34) true false)=true:=h
 cases x:Nat.beq c 39 with
 | true=>exact .inl (Nat.eq_of_beq_eq_true x)
 | false=>
  rw [x] at h
  cases y:Nat.beq c 34 with
  | true=>exact .inr (Nat.eq_of_beq_eq_true y)
  | false=>rw [y] at h;injection h
theorem Zx {c:Nat}{l:LN}(h:has c l=true):l ≠ []:=fun e=>by rw [e] at h;injection h
theorem QK {c:Nat}{K:Kn}(h:cls cf c K)(h1:K ≠ .white):has c whites=false:=by
 cases K with
 | white=>exact absurd rfl h1
 | _=>exact h.1
theorem Y0 {c:Nat}{K:Kn}(h:cls cf c K)(h1:K ≠ .white)(h2:K ≠ .remark):has c cf.cm=false:=by
 cases K with
 | white=>exact absurd rfl h1
 | remark=>exact absurd rfl h2
 | _=>exact h.2.1
theorem t_F (f:Bool)(tok:LN)(qd:Bool)(esc n c:Nat)(nc:Option (LN)):Tn cf buf (Gs buf (stF f) tok qd esc n nc) c=tA cf (com2W cf buf Res.cont Res.brk) (Gs buf (stF f) tok qd esc n nc) (stF f) c:=by cases f <;> rfl
theorem Jfk {tok:LN}{qd:Bool}{n c:Nat}{nc:Option (LN)}(hl:tok.length <= 1000000):turnE Res.cont Res.err (Gs buf 92 tok qd 97 n nc) 92 c=.cont (Gs buf 97 (tok++[c]) qd 97 n nc):=by
 unfold turnE;rw [Je (show has (Gs buf 92 tok qd 97 n nc).esc quots=false from rfl)];exact Ka hl
theorem OE {S:LX}{tok:LN}{c:Nat}(h:S.tok=tok++[c]):full cf S:=.inl (by rw [h];simp)
theorem WY {st:Nat}{tok:LN}{qd:Bool}{esc n c:Nat}{nc:Option (LN)}{r:LN}(e:buf.drop n=c :: r)(hc:c ≠ 10):Pl buf { Gs buf st tok qd esc (n + 1) nc with pbc:=some c } n:=
 ⟨JZ e hc,.inr ⟨c,r,rfl,hc,e,by show min (n + 1) buf.length=n + 1;have:=J1 e;lia⟩⟩
theorem OJ {f:Bool}{tok:LN}{qd:Bool}{esc n c:Nat}{nc:Option (LN)}{r:LN}{P:Bool->LX->Prop}(hk:CfOk cf kd)(hf:f=true->cf.pc ≠ [])(e:buf.drop n=c :: r)(hfull:full cf (Gs buf (stF f) tok qd esc n nc))(h:kd c=.lone \/ ((kd c).inTok=true /\ (kd c).isRun ≠ f))
 (p:tPost cf buf kd P tok n (some ([],0))):Wr cf buf (Gs buf (stF f) tok qd esc n nc) P:=by
 have hc:=hk c;have k1:kd c ≠ .white:=fun x=>by
  rcases h with h | ⟨h,_⟩
  · rw [x] at h;injection h
  · rw [x] at h;injection h
 have k2:kd c ≠ .remark:=fun x=>by
  rcases h with h | ⟨h,_⟩
  · rw [x] at h;injection h
  · rw [x] at h;injection h
 have w:=QK hc k1;have m:=Y0 hc k1 k2;have c10:=MC w;have go:cf.pc ≠ []->P true { Gs buf 32 tok qd esc (n + 1) (some [c]) with pbc:=some c }:=fun hpc=>p _ (List.append_nil _).symm hfull (.go rfl (fun x=>absurd x hpc) rfl (WY e c10))
 cases f with
 | true=>
  have hp:=hf rfl;have hpc:has c cf.pc=false:=by
   rcases h with h | ⟨h1,h2⟩
   · rw [h] at hc;exact hc.2.2.2.2.1
   · generalize kd c=K at hc h1 h2
     cases K with
     | run=>exact absurd rfl h2
     | quote=>exact hc.2.2.2.2.1
     | escape=>exact hc.2.2.2.2.2
     | word=>exact hc.2.2.2.2.1
     | _=>injection h1
  exact KS JD ((Jo e).trans ((t_F true ..).trans (R7 w m hpc hp))) (go hp)
 | false=>
  have key:has c quots=false /\ (cf.posix && has c [92])=false /\ has c cf.wc=false /\ cf.ws=false /\ (cf.pc=[]->kd c=.lone):=by
   rcases h with h | ⟨h1,h2⟩
   · have hc2:=hc;rw [h] at hc2;exact ⟨hc2.2.2.2.2.2.1,hc2.2.2.1,hc2.2.2.2.1,hc2.2.2.2.2.2.2,fun _=>h⟩
   · have hr:kd c=.run:=by
      generalize kd c=K at h1 h2
      cases K with
      | run=>rfl
      | quote=>exact absurd rfl h2
      | escape=>exact absurd rfl h2
      | word=>exact absurd rfl h2
      | _=>injection h1
     rw [hr] at hc;refine ⟨hc.2.2.2.2.2.1,?_,hc.2.2.2.1,hc.2.2.2.2.2.2,fun x=>absurd x (Zx hc.2.2.2.2.1)⟩;rw [hc.2.2.1];cases cf.posix <;> rfl
  have st:=(Jo (cf:=cf) (tok:=tok) (qd:=qd) (esc:=esc) (nc:=nc) (st:=97) e).trans ((t_F false ..).trans (TV w m key.1 key.2.1 key.2.2.1 key.2.2.2.1 hfull))
  cases hpc:cf.pc with
  | nil=>
   rw [hpc] at st;refine KS JD st (p _ (List.append_nil _).symm hfull (.pushed rfl rfl rfl e c10 ?_ (JZ e c10) (key.2.2.2.2 hpc)));show min (n + 1) buf.length=n + 1;have:=J1 e;lia
  | cons a l=>
   rw [hpc] at st;exact KS JD st (go (by rw [hpc];simp))
theorem Jfx (hk:CfOk cf kd){p f:Bool}(hp:cf.posix=p)(hf:f=true->cf.pc ≠ []){P:Bool->LX->Prop}{r:LN}{o:Option (LN × Nat)}(b:TB kd p f r o):∀ {n:Nat} {tok:LN} {qd:Bool} {esc:Nat} {nc:Option (LN)},buf.drop n=r->(full cf (Gs buf (stF f) tok qd esc n nc) \/ ∃ c r',r=c :: r' /\ (kd c).inTok=true /\ (kd c).isRun=f)->tok.length + r.length <= 1000->tPost cf buf kd P tok n o->Wr cf buf (Gs buf (stF f) tok qd esc n nc) P:=by
 induction b with
 | nil=>
  intro n tok qd esc nc e hfu hl h;have hfull:full cf (Gs buf (stF f) tok qd esc n nc):=hfu.elim id fun ⟨c,r',x,_⟩=>by injection x
  have hr:=Kk (cf:=cf) (NH (stF f) tok qd esc n nc) e;refine KS (S2:=⟨none,tok,lnAt buf n,min n buf.length,[],none,qd,esc,some []⟩) JD (hr.1.trans (by cases f <;> rfl)) (h _ (List.append_nil _).symm hfull (.ended rfl rfl rfl e hr.2.2 rfl))
 | @white c r k=>
  intro n tok qd esc nc e hfu hl h;have hfull:full cf (Gs buf (stF f) tok qd esc n nc):=hfu.elim id fun ⟨c,r',x,y,_⟩=>by cases x;rw [k] at y;cases y
  have hc:=hk c;rw [k] at hc;exact KS JD ((Jo e).trans ((t_F f ..).trans (VP hc hfull))) (h _ (List.append_nil _).symm hfull (.go rfl JD rfl (NH ..)))
 | @remP c r k hpt=>
  intro n tok qd esc nc e hfu hl h;have hfull:full cf (Gs buf (stF f) tok qd esc n nc):=hfu.elim id fun ⟨c,r',x,y,_⟩=>by cases x;rw [k] at y;cases y
  have hc:=hk c;rw [k] at hc;refine KS (S2:=Gs buf 32 tok qd esc (n + nlc (c :: r)) (some [c])) JD ((Jo e).trans ((t_F f ..).trans ((OI hc.1 hc.2).trans ?_))) (h _ (List.append_nil _).symm hfull (.go rfl JD rfl (NH ..)));unfold com2W;rw [hp,hpt,Rt e (MC hc.1)];exact Pg hfull
 | @remN c r o k hpt b ih=>
  intro n tok qd esc nc e hfu hl h;have hfull:full cf (Gs buf (stF f) tok qd esc n nc):=hfu.elim id fun ⟨c,r',x,y,_⟩=>by cases x;rw [k] at y;cases y
  have hc:=hk c;rw [k] at hc;have hn:=M0 (c :: r);refine Js (S2:=Gs buf (stF f) tok qd esc (n + nlc (c :: r)) (some [c])) JD ((Jo e).trans ((t_F f ..).trans ((OI hc.1 hc.2).trans ?_))) (ih (by rw [<-List.drop_drop,e]) (.inl hfull) (by rw [List.length_drop];lia) ?_)
  · unfold com2W;rw [hp,hpt,Rt e (MC hc.1)];rfl
  · have:=KQ h;rw [List.append_nil] at this;exact this
 | @lone c r k=>
  intro n tok qd esc nc e hfu hl h;have hfull:full cf (Gs buf (stF f) tok qd esc n nc):=hfu.elim id fun ⟨c,r',x,y,_⟩=>by cases x;rw [k] at y;cases y
  exact OJ hk hf e hfull (.inl k) h
 | @turn c r k ne=>
  intro n tok qd esc nc e hfu hl h;have hfull:full cf (Gs buf (stF f) tok qd esc n nc):=hfu.elim id fun ⟨c,r',x,y,z⟩=>by cases x;exact absurd z ne
  exact OJ hk hf e hfull (.inr ⟨k,ne⟩) h
 | @escE c k hft=>
  intro n tok qd esc nc e hfu hl h;subst hft;have hc:=hk c;rw [k] at hc;have st:=(Jo (cf:=cf) (tok:=tok) (qd:=qd) (esc:=esc) (nc:=nc) (st:=97) e).trans ((t_F false ..).trans (Mr hc.1 hc.2.1 hc.2.2.1 hc.2.2.2.2.1 hc.2.2.2.1));obtain rfl:=Uw hc.2.2.2.1;exact Js JD st (OQ (.inr (.inr rfl)) (Jk e) (Jx e) h)
 | @esc c d r o k hft b ih=>
  intro n tok qd esc nc e hfu hl h;subst hft;rw [List.length_cons,List.length_cons] at hl;have hc:=hk c;rw [k] at hc;have st:=(Jo (cf:=cf) (tok:=tok) (qd:=qd) (esc:=esc) (nc:=nc) (st:=97) e).trans ((t_F false ..).trans (Mr hc.1 hc.2.1 hc.2.2.1 hc.2.2.2.2.1 hc.2.2.2.1));obtain rfl:=Uw hc.2.2.2.1;have e1:=Jk e;have st2:tRes cf buf (Gs buf 92 tok qd 97 (n + 1) (some [92]))=.cont (Gs buf 97 (tok++[d]) qd 97 (n + 1 + 1) (some [d])):=(Jo e1).trans ((Jd9 ..).trans (Jfk (by lia)))
  have h3:tPost cf buf kd P (tok++[d]) (n + 2) o:=KQ h;exact Js JD st (Js JD st2 (ih (Jk e1) (.inl (OE rfl)) (by rw [List.length_append,List.length_singleton];lia) h3))
 | @qtE c r k hpt hft e0=>
  intro n tok qd esc nc e hfu hl h;subst hft;rw [List.length_cons] at hl;have hc:=hk c;rw [k] at hc;have st:=(Jo (cf:=cf) (tok:=tok) (qd:=qd) (esc:=esc) (nc:=nc) (st:=97) e).trans ((t_F false ..).trans (MP hc.1 hc.2.1 (hp.trans hpt) hc.2.2.2.2.2));refine Js JD st (Jbr (hp.trans hpt) (W1 hc.2.2.2.2.2) r.length r (Nat.le_refl _) (Jk e) (Jx e) (by lia) ?_)
  rw [e0];exact h
 | @qt c r x j o k hpt hft e0 b ih=>
  intro n tok qd esc nc e hfu hl h;subst hft;rw [List.length_cons] at hl;have hc:=hk c;rw [k] at hc;have hq:=OB e0;have st:=(Jo (cf:=cf) (tok:=tok) (qd:=qd) (esc:=esc) (nc:=nc) (st:=97) e).trans ((t_F false ..).trans (MP hc.1 hc.2.1 (hp.trans hpt) hc.2.2.2.2.2));refine Js JD st (Jbr (hp.trans hpt) (W1 hc.2.2.2.2.2) r.length r (Nat.le_refl _) (Jk e) (Jx e) (by lia) ?_)
  rw [e0];intro esc' nc';refine ih (by rw [<-List.drop_drop,Jk e]) (.inl (.inr ⟨hp.trans hpt,rfl⟩)) (by rw [List.length_append,List.length_drop];show tok.length + x.length + _ <= _;lia) ?_
  have:=KQ h;show tPost cf buf kd P (tok++x) (n + 1 + j) o;rw [show n + 1 + j=n + (j + 1) by lia];exact this
 | @add c r o h1 b ih=>
  intro n tok qd esc nc e hfu hl h;rw [List.length_cons] at hl;have hc:=hk c;have h3:tPost cf buf kd P (tok++[c]) (n + 1) o:=KQ h;have go:tRes cf buf (Gs buf (stF f) tok qd esc n nc)=.cont (Gs buf (stF f) (tok++[c]) qd esc (n + 1) (some [c]))->Wr cf buf (Gs buf (stF f) tok qd esc n nc) P:=fun st=>Js JD st (ih (Jk e) (.inl (OE rfl)) (by rw [List.length_append,List.length_singleton];lia) h3)
  generalize kd c=K at hc h1
  cases K with
  | word=>
   obtain rfl:f=false:=h1;refine go ((Jo e).trans ((t_F false ..).trans (V3 hc.1 hc.2.1 ?_ hc.2.2.1 ?_ (by lia))))
   · rw [hc.2.2.2.2.2];cases cf.posix <;> rfl
   · rcases hc.2.2.2.1 with x | ⟨x,y⟩
     · exact .inl x
     · exact .inr (.inr ⟨hc.2.2.2.2.2,y,hc.2.2.2.2.1⟩)
  | run=>
   obtain rfl:f=true:=h1;exact go ((Jo e).trans ((t_F true ..).trans (ZI hc.1 hc.2.1 hc.2.2.2.2.1 (by lia))))
  | quote=>
   obtain ⟨hpf,rfl⟩:p=false /\ f=false:=h1;refine go ((Jo e).trans ((t_F false ..).trans (V3 hc.1 hc.2.1 ?_ ?_ (.inr (.inl hc.2.2.2.2.2)) (by lia))))
   · rw [hp,hpf];rfl
   · rw [hp,hpf];rfl
  | _=>exact h1.elim
end
section
variable {cf:Cfg}{buf:LN}{kd:Nat->Kn}
structure Sk (cf:Cfg)(buf:LN)(S:LX)(n:Nat):Prop where
 st:S.st=some 32
 tok:S.tok=[]
 qd:S.qd=false
 pb:S.pb=[]
 ok:S.ok cf
 pl:Pl buf S n
theorem YC {esc n:Nat}{nc:Option (LN)}:Sk cf buf (Gs buf 32 [] false esc n nc) n:=⟨rfl,rfl,rfl,rfl,JD,NH ..⟩
noncomputable def tSp (cf:Cfg)(buf:LN)(S:LX)(c:Nat):Res:=turnSp cf Res.cont Res.brk (com1W buf Res.cont) S c
theorem N5 {S:LX}{n c:Nat}{r:LN}(h:Sk cf buf S n)(e:buf.drop n=c :: r):tRes cf buf S=tSp cf buf (Gs buf 32 [] false S.esc (n + 1) (some [c])) c:=by
 rw [Qg h.pl e];have:rdS buf S n c=Gs buf 32 [] false S.esc (n + 1) (some [c]):=by
  unfold rdS Gs;rw [h.st,h.tok,h.qd,h.pb,show min (n + 1) buf.length=n + 1 by have:=J1 e;lia]
 rw [this];rfl
section
variable {esc n c:Nat}{nc:Option (LN)}
theorem Wg (h:has c whites=true):tSp cf buf (Gs buf 32 [] false esc n nc) c=.cont (Gs buf 32 [] false esc n nc):=by
 unfold tSp turnSp tokQ;rw [Jp h];cases cf.posix <;> rfl
theorem Ti (h1:has c whites=false)(h:has c cf.cm=true):tSp cf buf (Gs buf 32 [] false esc n nc) c=.cont (adv buf (Gs buf 32 [] false esc n nc)):=by
 unfold tSp turnSp;rw [Je h1,Jp h];rfl
theorem TF (h:cls cf c .escape):tSp cf buf (Gs buf 32 [] false esc n nc) c=.cont (Gs buf c [] false 97 n nc):=by
 refine E06 h fun h1 h2 h3 h4 h5 h6=>?_;unfold tSp turnSp and2;rw [Je h1,Je h2,h3,h4];rfl
theorem Jad (h:cls cf c .word):tSp cf buf (Gs buf 32 [] false esc n nc) c=.cont (Gs buf 97 [c] false esc n nc):=by
 refine E06 h fun h1 h2 h3 h4 h5 h6=>?_;unfold tSp turnSp;rw [Je h1,Je h2,J0 h3];rcases h4 with h | ⟨h,h'⟩
 · rw [h];rfl
 · rw [h,h5,h6,h'];rfl
theorem Jcc (h:cls cf c .run):tSp cf buf (Gs buf 32 [] false esc n nc) c=.cont (Gs buf 99 [c] false esc n nc):=by
 refine E07 h fun h1 h2 h3 h4 h5 h6 h7=>?_;unfold tSp turnSp;rw [Je h1,Je h2,J0 (by rw [h3];cases cf.posix <;> rfl),h4,h5];rfl
theorem T9 (h:cls cf c .quote)(hp:cf.posix=true):tSp cf buf (Gs buf 32 [] false esc n nc) c=.cont (Gs buf c [] false esc n nc):=by
 refine E06 h fun h1 h2 h3 h4 h5 h6=>?_;unfold tSp turnSp;rw [Je h1,Je h2,J0 (by rw [h3];cases cf.posix <;> rfl),h4,h5,h6,hp];rfl
theorem Un (h:cls cf c .quote)(hp:cf.posix=false):tSp cf buf (Gs buf 32 [] false esc n nc) c=.cont (Gs buf c [c] false esc n nc):=by
 refine E06 h fun h1 h2 h3 h4 h5 h6=>?_;unfold tSp turnSp;rw [Je h1,Je h2,J0 (by rw [h3];cases cf.posix <;> rfl),h4,h5,h6,hp];rfl
theorem Zb (h:cls cf c .lone):tSp cf buf (Gs buf 32 [] false esc n nc) c=.brk (Gs buf 32 [c] false esc n nc):=by
 refine E07 h fun h1 h2 h3 h4 h5 h6 h7=>?_;unfold tSp turnSp;rw [Je h1,Je h2,J0 h3,h4,h5,h6,h7];rfl
end
theorem Je0 (hk:CfOk cf kd){p:Bool}(hp:cf.posix=p){P:Bool->LX->Prop}{S:LX}{n c:Nat}{r:LN}{o:Option (LN × Nat)}(k:TK kd p (c :: r) o)(e:buf.drop n=c :: r)(hS:Sk cf buf S n)(hl:r.length < 999)(h:tPost cf buf kd P [] n o):Wr cf buf S P:=by
 have hc:=hk c;have hr:=N5 hS e;generalize er:c :: r=r0 at k
 cases k with
 | lone k=>
  cases er;rw [k] at hc;exact KS hS.ok (hr.trans (Zb hc)) (h _ rfl (.inl (by simp [Gs])) (.go rfl JD rfl (NH ..)))
 | quN k hpf=>
  cases er;rw [k] at hc;refine Js hS.ok (hr.trans (Un hc (hp.trans hpf))) (Jfa (hp.trans hpf) (W1 hc.2.2.2.2.2) r (Jk e) (Jx e) (by rw [List.length_singleton];lia) ?_)
  unfold quN at h
  cases x:ixN c r with
  | none=>rw [x] at h;exact h
  | some j=>
   rw [x] at h;intro esc nc;refine h _ rfl (.inl (by simp [Gs])) (.go rfl JD rfl ?_)
   rw [show n + (j + 2)=n + 1 + j + 1 by lia];exact NH ..
 | @go c' r' _ k hq b=>
  cases er;have key:tRes cf buf S=tRes cf buf (Gs buf (stF (kd c).isRun) [] false S.esc n none) /\ ((kd c).isRun=true->cf.pc ≠ []):=by
   rw [hr,Jo e,t_F];generalize kd c=K at hc k hq
   cases K with
   | run=>
    refine ⟨?_,fun _=>Zx hc.2.2.2.2.1⟩;rw [Jcc hc];exact (ZI hc.1 hc.2.1 hc.2.2.2.2.1 (by rw [List.length_nil];lia)).symm
   | word=>
    refine ⟨?_,fun x=>by cases x⟩
    rw [Jad hc];refine (V3 (tok:=[]) hc.1 hc.2.1 (by rw [hc.2.2.2.2.2];cases cf.posix <;> rfl) hc.2.2.1 ?_ (by rw [List.length_nil];lia)).symm
    rcases hc.2.2.2.1 with x | ⟨x,y⟩
    · exact .inl x
    · exact .inr (.inr ⟨hc.2.2.2.2.2,y,hc.2.2.2.2.1⟩)
   | escape=>
    refine ⟨?_,fun x=>by cases x⟩
    rw [TF hc];exact (Mr hc.1 hc.2.1 hc.2.2.1 hc.2.2.2.2.1 hc.2.2.2.1).symm
   | quote=>
    refine ⟨?_,fun x=>by cases x⟩
    have hpt:=hp.trans (hq rfl);rw [T9 hc hpt];exact (MP hc.1 hc.2.1 hpt hc.2.2.2.2.2).symm
   | _=>cases k
  exact Xb hS.ok key.1 (Jfx hk hp key.2 b e (.inr ⟨c,r,rfl,k,rfl⟩) (by rw [List.length_nil,List.length_cons];lia) h)
structure XV (buf:LN)(S:LX)(m:Nat):Prop where
 st:S.st=none
 pb:S.pb=[]
 pbc:S.pbc=none
 pos:S.pos=buf.length
 ln:S.ln=lnAt buf m
 e:buf.drop m=[]
structure Jc7 (cf:Cfg)(buf:LN)(kd:Nat->Kn)(p:Bool)(P:Bool->LX->Prop)(l:List (LN × Nat))(o:Option Nat):Prop where
 tok:∀ x m l' S,l=(x,m) :: l'->S.tok=x->full cf S->Aft cf buf kd S m->Tks kd p buf m l' o->P true S
 eof:∀ m S,l=[]->o=some m->S.tok=[]->S.qd=false->XV buf S m->P true S
 bad:∀ S,l=[]->o=none->Ty buf S->P false S
theorem Jfb (hk:CfOk cf kd){p:Bool}(hp:cf.posix=p)(hb:buf.length < 999){P:Bool->LX->Prop}{n:Nat}{l:List (LN × Nat)}{o:Option Nat}(b:Tks kd p buf n l o):∀ {S:LX},Sk cf buf S n->Jc7 cf buf kd p P l o->Wr cf buf S P:=by
 have hlen:∀ {n c:Nat} {r:LN},buf.drop n=c :: r->r.length < 999:=fun {n c r} e=>by
  have:=congrArg List.length e;rw [List.length_drop,List.length_cons] at this;lia
 induction b with
 | @stop n hn=>
  intro S hS h;have e:buf.drop n=[]:=List.drop_eq_nil_iff.mpr hn;refine E03 (Kk (cf:=cf) hS.pl e) fun hr h1 h2=>?_;refine KS (S2:={ S with nc:=some [],st:=none }) hS.ok (hr.trans ?_) (h.eof n _ rfl rfl hS.tok hS.qd ⟨rfl,hS.pb,h1,h2,hS.pl.ln,e⟩)
  obtain ⟨st,tok,ln,pos,pb,pbc,qd,esc,nc⟩:=S;obtain rfl:st=some 32:=hS.st;rfl
 | @white n c r l o e k b ih=>
  intro S hS h;have hc:=hk c;rw [k] at hc;exact Js hS.ok ((N5 hS e).trans (Wg hc)) (ih YC h)
 | @remark n c r l o e k b ih=>
  intro S hS h;have hc:=hk c;rw [k] at hc;refine Js hS.ok ((N5 hS e).trans (Ti hc.1 hc.2)) ?_;rw [Rt e (MC hc.1)];exact ih YC h
 | bad e h1 h2 k=>
  intro S hS h;exact Je0 hk hp k e hS (hlen e) fun S hd=>h.bad S rfl rfl hd
 | tok e h1 h2 k b ih=>
  intro S hS h;exact Je0 hk hp k e hS (hlen e) fun S ht hf ha=>h.tok _ _ _ S rfl ht hf ha b
theorem Np {S:LX}(h:full cf S):resD cf.posix S.qd S.tok=.str S.tok /\ isEof cf.posix (.str S.tok)=false:=by
 unfold resD;rcases h with h | ⟨h1,h2⟩
 · cases ht:S.tok with
   | nil=>exact absurd ht h
   | cons a l=>
    refine ⟨?_,rfl⟩;cases cf.posix <;> cases S.qd <;> rfl
 · rw [h1,h2];refine ⟨rfl,?_⟩;cases S.tok <;> rfl
inductive Nx (cf:Cfg)(buf:LN)(kd:Nat->Kn)(p:Bool)(S:LX):List (LN × Nat)->Option Nat->Prop
 | tok {x:LN} {m:Nat} {l:List (LN × Nat)} {o:Option Nat} {S1:LX} (g:GT cf buf S (some (.str x)) S1) (h:isEof cf.posix (.str x)=false) (ln:S1.ln=lnAt buf m) (a:Aft cf buf kd S1 m) (t:S1.tok=[]) (b:Tks kd p buf m l o):Nx cf buf kd p S ((x,m) :: l) o
 | eof {m:Nat} {S':LX} (pb:S.pb=[]) (r:RT cf buf S.start true S') (h:resD cf.posix S'.qd S'.tok=eofD cf.posix) (e:XV buf S' m):Nx cf buf kd p S [] (some m)
 | bad {S1:LX} (g:GT cf buf S none S1) (d:Ty buf S1):Nx cf buf kd p S [] none
theorem Aft.stop {S:LX}{m:Nat}(h:Aft cf buf kd S m):Aft cf buf kd S.stop m:=by
 cases h with
 | go st ok pb pl=>exact .go st ok pb ⟨pl.ln,pl.at_⟩
 | pushed st pb pbc e hc pos ln k=>exact .pushed st pb pbc e hc pos ln k
 | ended st pb pbc e pos ln=>exact .ended st pb pbc e pos ln
theorem Aft.lnOf {S:LX}{m:Nat}(h:Aft cf buf kd S m):S.ln=lnAt buf m:=by
 cases h with
 | go st ok pb pl=>exact pl.ln
 | pushed st pb pbc e hc pos ln k=>exact ln
 | ended st pb pbc e pos ln=>exact ln
theorem On (p:Bool):resD p false []=eofD p:=by cases p <;> rfl
theorem next (hk:CfOk cf kd){p:Bool}(hp:cf.posix=p)(hb:buf.length < 999){n:Nat}{l:List (LN × Nat)}{o:Option Nat}(b:Tks kd p buf n l o){S:LX}(ha:Aft cf buf kd S n)(ht:S.tok=[]):Nx cf buf kd p S l o:=by
 cases ha with
 | go st ok pb pl=>
  have hS:Sk cf buf S.start n:=⟨st,ht,rfl,pb,ok,⟨pl.ln,pl.at_⟩⟩
  suffices W:Wr cf buf S.start (fun b S'=>RT cf buf S.start b S'->Nx cf buf kd p S l o) by
   refine E22 W fun b' S' r h=>?_;exact h r
  refine Jfb hk hp hb b hS ⟨fun x m l' S1 el et hf ha hb r=>?_,fun m S1 el eo et eq e r=>?_,fun S1 el eo d r=>?_⟩
  · subst el et;have g:=GT.read pb r;rw [(Np hf).1] at g;exact .tok g (Np hf).2 ha.lnOf ha.stop rfl hb
  · subst el eo;exact .eof pb r (by rw [et,eq];exact On _) e
  · subst el eo;exact .bad (.rs pb r) d
 | @pushed c r st pb pbc e hc pos ln k=>
  have g:GT cf buf S (some (.str [c])) { S with pb:=[] }:=.pop pb (by simp)
  have he:∀ p,isEof p (.str [c])=false:=fun p=>rfl;have mk:Tks kd p buf (n + 1) (l.drop 1) o->l=([c],n + 1) :: l.drop 1->Nx cf buf kd p S l o:=fun b' el=>by
   rw [el];refine .tok g (he _) ?_ (.go st (fun _=>pbc) rfl ⟨?_,.inl ⟨pbc,?_⟩⟩) ht b'
   · rw [JZ e hc];exact ln
   · rw [JZ e hc];exact ln
   · show S.pos=_;rw [pos];have:=J1 e;lia
  cases b with
  | stop h=>have:=J1 e;lia
  | white e' h=>rw [e] at e';cases e';rw [k] at h;cases h
  | remark e' h=>rw [e] at e';cases e';rw [k] at h;cases h
  | bad e' h1 h2 kk=>
   rw [e] at e';cases e';generalize er:c :: r=r0 at kk;generalize eo:(none:Option (LN × Nat))=o0 at kk
   cases kk with
   | lone=>cases eo
   | quN h=>cases er;rw [k] at h;cases h
   | go h=>cases er;rw [k] at h;cases h
  | @tok _ c' j r' x l' _ e' h1 h2 kk b'=>
   rw [e] at e';cases e';generalize er:c :: r=r0 at kk;generalize eo:some (x,j)=o0 at kk
   cases kk with
   | lone=>cases er;cases eo;exact mk b' rfl
   | quN h=>cases er;rw [k] at h;cases h
   | go h=>cases er;rw [k] at h;cases h
 | ended st pb pbc e pos ln=>
  have hpl:Pl buf S.start n:=⟨ln,.inl ⟨pbc,by show S.pos=_;rw [pos];have:=List.drop_eq_nil_iff.mp e;lia⟩⟩
  refine E03 (Kk (cf:=cf) hpl e) fun hr h1 h2=>?_;have r:RT cf buf S.start true { S.start with nc:=some [],tok:=[] }:=.brk (fun _=>pbc) (hr.trans (by
   obtain ⟨st',tok,ln,pos,pb,pbc,qd,esc,nc⟩:=S;obtain rfl:st'=none:=st;rfl))
  have ed:XV buf { S.start with nc:=some [],tok:=[] } n:=⟨st,pb,pbc,pos,ln,e⟩
  have no:∀ {c:Nat} {r:LN},buf.drop n=c :: r->False:=fun x=>by rw [e] at x;injection x
  cases b with
  | stop h=>exact .eof pb r (On _) ed
  | white e'=>exact (no e').elim
  | remark e'=>exact (no e').elim
  | bad e'=>exact (no e').elim
  | tok e'=>exact (no e').elim
theorem XV.again {S:LX}{m:Nat}(h:XV buf S m):∃ S',RT cf buf (LX.start S.stop) true S' /\ resD cf.posix S'.qd S'.tok=eofD cf.posix /\ XV buf S' m:=by
 have hm:=List.drop_eq_nil_iff.mp h.e;have hpl:Pl buf (LX.start S.stop) m:=⟨h.ln,.inl ⟨h.pbc,by show S.pos=_;rw [h.pos];lia⟩⟩
 refine E03 (Kk (cf:=cf) hpl h.e) fun hr h1 h2=>?_;refine ⟨{ LX.start S.stop with nc:=some [] },.brk (fun _=>h.pbc) (hr.trans ?_),On _,⟨h.st,h.pb,h.pbc,h.pos,h.ln,h.e⟩⟩
 obtain ⟨st',tok,ln,pos,pb,pbc,qd,esc,nc⟩:=S;obtain rfl:st'=none:=h.st;rfl
theorem Ty.again {S:LX}(h:Ty buf S):∃ S',GT cf buf S none S' /\ Ty buf S':=by
 have hpl:Pl buf S.start buf.length:=⟨h.ln,.inl ⟨h.pbc,by show S.pos=_;rw [h.pos];lia⟩⟩
 refine E03 (Kk (cf:=cf) hpl List.drop_length) fun hr h1 h2=>?_;obtain ⟨st',tok,ln,pos,pb,pbc,qd,esc,nc⟩:=S;rcases h.st with e | e | e
 · obtain rfl:st'=some 39:=e;exact ⟨_,.rs h.pb (.rs (fun _=>h.pbc) hr),⟨.inl rfl,h.pbc,h.pb,h.pos,h.ln⟩⟩
 · obtain rfl:st'=some 34:=e;exact ⟨_,.rs h.pb (.rs (fun _=>h.pbc) hr),⟨.inr (.inl rfl),h.pbc,h.pb,h.pos,h.ln⟩⟩
 · obtain rfl:st'=some 92:=e;exact ⟨_,.rs h.pb (.rs (fun _=>h.pbc) hr),⟨.inr (.inr rfl),h.pbc,h.pb,h.pos,h.ln⟩⟩
end
theorem Md (p:Bool):isEof p (eofD p)=true:=by cases p <;> rfl
section
variable {cf:Cfg}{buf:LN}{kd:Nat->Kn}
theorem Vc (hk:CfOk cf kd){p:Bool}(hp:cf.posix=p)(hb:buf.length < 999):∀ (l:List (LN × Nat)) {n:Nat} {o:Option Nat} {S:LX},Tks kd p buf n l o->Aft cf buf kd S n->S.tok=[]->∃ b S',Lx cf buf S b (firsts l) S' /\ (o=none->b=false) /\ (o ≠ none->b=true)
 | [],n,o,S,b,ha,ht=>by
  cases next hk hp hb b ha ht with
  | eof pb r h e=>
   have g:=GT.read pb r;rw [h] at g;exact ⟨true,_,.eof g (Md _),fun x=>(by injection x),fun _=>rfl⟩
  | bad g d=>exact ⟨false,_,.rs g,fun _=>rfl,fun x=>absurd rfl x⟩
 | (x,m) :: l,n,o,S,b,ha,ht=>by
  cases next hk hp hb b ha ht with
  | tok g h ln a t b=>
   refine E22 (Vc hk hp hb l b a t) fun c S' h1 h2=>?_;exact ⟨c,S',.tok g h h1,h2⟩
end
noncomputable def rowM (nm t:LN)(p:LN × Nat):LN × LN:=(p.1,ldL nm t p.2)
theorem Ch.app {T:Two}{a b c:Ph}{l l':List (LN × LN)}(h:Ch T a l b)(h':Ch T b l' c):Ch T a (l++l') c:=by
 induction h with
 | nil=>exact h'
 | cons g h k r ih=>exact .cons g h k (ih h')
section
variable {T:Two}{kd:Nat->Kn}{p:Bool}
theorem K7 {ph:Ph}{nm t:LN}{m:Nat}(hn:ph.name T=nm)(hl:nm.length <= 1000)(ht:t.length <= 1000)(h:ph.ln=lnAt t m):OkM T ph (ldL nm t m):=by
 refine ⟨?_,?_,?_,?_⟩
 · rw [hn,h];rfl
 · rw [h];exact RG _ _
 · rw [h];exact L8 _ ht
 · rw [hn];lia
noncomputable def Ls (T:Two)(ph:Ph)(S:LX)(u:Nat):Prop:=∀ o S'',GT (cfL T.cf T.lname) T.lbuf S o S''->GU T ph o (.lo u S'')
theorem Ls.lo {u:Nat}{S:LX}:Ls T (.lo u S) S u:=fun o S'' g=>.lo g
theorem Jbk (hk:CfOk (cfL T.cf T.lname) kd)(hp:T.cf.posix=p)(hb:T.lbuf.length < 999)(hn:T.lname.length <= 1000){u:Nat}:∀ (l:List (LN × Nat)) {n:Nat} {o:Option Nat} {S:LX} {ph:Ph},Tks kd p T.lbuf n l o->Aft (cfL T.cf T.lname) T.lbuf kd S n->S.tok=[]->Ls T ph S u ->
 ∃ ph2 S2 n2,Ch T ph (l.map (rowM T.lname T.lbuf)) ph2 /\ Ls T ph2 S2 u /\ Tks kd p T.lbuf n2 [] o /\ Aft (cfL T.cf T.lname) T.lbuf kd S2 n2 /\ S2.tok=[]
 | [],n,o,S,ph,b,ha,ht,hL=>⟨ph,S,n,.nil,hL,b,ha,ht⟩
 | (x,m) :: l,n,o,S,ph,b,ha,ht,hL=>by
  cases next hk hp hb b ha ht with
  | @tok _ _ _ _ S1 g h ln a t b=>
   refine E32 (Jbk hk hp hb hn l (ph:=.lo u S1) b a t .lo) fun ph2 S2 n2 h1 h2=>?_;exact ⟨ph2,S2,n2,.cons (hL _ _ g) h (K7 rfl hn (by lia) ln) h1,h2⟩
noncomputable def endM (nm t:LN)(o:Option Nat):LN:=ldL nm t (o.getD t.length)
theorem Jdb (hk:CfOk (cfL T.cf T.lname) kd)(hp:T.cf.posix=p)(hb:T.lbuf.length < 999)(hn:T.lname.length <= 1000){u n:Nat}{o:Option Nat}{S:LX}{ph:Ph}(b:Tks kd p T.lbuf n [] o)(ha:Aft (cfL T.cf T.lname) T.lbuf kd S n)(ht:S.tok=[])(hL:Ls T ph S u):∃ ph2,En T ph o.isSome (endM T.lname T.lbuf o) (endM T.lname T.lbuf o) ph2:=by
 cases next hk hp hb b ha ht with
 | @eof m S' pb r h e=>
  have g:=GT.read pb r;rw [h] at g;refine E13 (e.again (cf:=cfL T.cf T.lname)) fun S'' r2 h2 e2=>?_;have g2:=GT.read (cf:=cfL T.cf T.lname) (S:=S'.stop) e.pb r2;rw [h2] at g2;exact ⟨.lo u S''.stop,⟨.lo u S'.stop,hL _ _ g,K7 rfl hn (by lia) e.ln,.lo g2⟩,K7 rfl hn (by lia) e2.ln,e2.pb⟩
 | bad g d=>
  refine E12 (d.again (cf:=cfL T.cf T.lname)) fun S' g2 d2=>?_;exact ⟨.lo u S',⟨.lo u _,hL _ _ g,K7 rfl hn (by lia) d.ln,.lo g2⟩,K7 rfl hn (by lia) d2.ln,d2.pb⟩
theorem Jew {S S1:LX}{x:LN}(g:GT (cfV T.cf T.lname) T.ubuf S (some (.str x)) S1)(h:isEof T.cf.posix (.str x)=false):GU T (.up S) (some (.str x)) (.up S1):=by
 generalize e:(some (D.str x))=o at g
 cases g with
 | pop hpb hl=>cases e;exact .uPop hpb hl
 | read hpb r=>have e':=Option.some.inj e;rw [<-e];rw [e'] at h ⊢;exact .uRead hpb r h
 | rs hpb r=>injection e
theorem Uy {S S1:LX}(g:GT (cfV T.cf T.lname) T.ubuf S none S1):GU T (.up S) none (.up S1):=by
 generalize e:(none:Option D)=o at g
 cases g with
 | pop hpb hl=>injection e
 | read hpb r=>injection e
 | rs hpb r=>exact .uRs hpb r
theorem YO (hk:CfOk (cfV T.cf T.lname) kd)(hp:T.cf.posix=p)(hb:T.ubuf.length < 999)(hn:T.infs.length <= 1000):∀ (l:List (LN × Nat)) {n:Nat} {o:Option Nat} {S:LX},Tks kd p T.ubuf n l o->Aft (cfV T.cf T.lname) T.ubuf kd S n->S.tok=[] ->
 ∃ S2 n2,Ch T (.up S) (l.map (rowM T.infs T.ubuf)) (.up S2) /\ Tks kd p T.ubuf n2 [] o /\ Aft (cfV T.cf T.lname) T.ubuf kd S2 n2 /\ S2.tok=[]
 | [],n,o,S,b,ha,ht=>⟨S,n,.nil,b,ha,ht⟩
 | (x,m) :: l,n,o,S,b,ha,ht=>by
  cases next hk hp hb b ha ht with
  | @tok _ _ _ _ S1 g h ln a t b=>
   refine E22 (YO hk hp hb hn l b a t) fun S2 n2 h1 h2=>?_;exact ⟨S2,n2,.cons (Jew g h) h (K7 rfl hn (by lia) ln) h1,h2⟩
theorem Jcd (hk:CfOk (cfV T.cf T.lname) kd)(hp:T.cf.posix=p)(hb:T.ubuf.length < 999)(hn:T.infs.length <= 1000){n:Nat}{S:LX}(b:Tks kd p T.ubuf n [] none)(ha:Aft (cfV T.cf T.lname) T.ubuf kd S n)(ht:S.tok=[]):∃ ph2,En T (.up S) false (endM T.infs T.ubuf none) (endM T.infs T.ubuf none) ph2:=by
 generalize eo:(none:Option Nat)=o at b
 cases next hk hp hb b ha ht with
 | eof pb r h e=>injection eo
 | bad g d=>
  refine E12 (d.again (cf:=cfV T.cf T.lname)) fun S' g2 d2=>?_;exact ⟨.up S',⟨.up _,Uy g,K7 rfl hn (by lia) d.ln,Uy g2⟩,K7 rfl hn (by lia) d2.ln,d2.pb⟩
theorem ZX (hk:CfOk (cfV T.cf T.lname) kd)(hp:T.cf.posix=p)(hb:T.ubuf.length < 999){n m:Nat}{S:LX}(b:Tks kd p T.ubuf n [] (some m))(ha:Aft (cfV T.cf T.lname) T.ubuf kd S n)(ht:S.tok=[]):∃ S' u,Ls T (.up S) S' u /\ Aft (cfL T.cf T.lname) T.lbuf kd S' 0 /\ S'.tok=[]:=by
 generalize eo:some m=o at b
 cases next hk hp hb b ha ht with
 | @eof m S' pb r h e=>
  refine ⟨popS S'.stop,S'.pos,fun o S'' g=>.uEof pb r ?_ g,.go rfl (fun _=>e.pbc) e.pb ⟨rfl,.inl ⟨e.pbc,(Nat.zero_min _).symm⟩⟩,rfl⟩;have h:resD T.cf.posix S'.qd S'.tok=eofD T.cf.posix:=h;rw [h];exact Md _
 | bad g d=>injection eo
end
theorem Wd (T:Two)(p:Bool)(hp:T.cf.posix=p)(l1 l2:List (LN × Nat))(nm1 t1 nm2 t2:LN)(b:Bool)(m:LN):rowsD T (l1.map (rowM nm1 t1)++l2.map (rowM nm2 t2)) b m m=l1.map (rowL ldL nm1 t1)++l2.map (rowL ldL nm2 t2)++[rowE T b m,rowE T b m]:=by
 unfold rowsD;rw [List.map_append,List.map_map,List.map_map];rfl
theorem LQ (l1:List (LN × Nat))(nm t:LN):(l1.map (rowM nm t)).map (·.1)=firsts l1:=by rw [List.map_map];rfl
noncomputable def R1 (lo up:LN)(p:Bool)(gv:D)(rows toks:LD):Prop:=∃ m:Pm,gv=m.given /\ ∃ tks ph b m1 m2 ph2,Ch (TT p m lo up) (.up S0) tks ph /\ En (TT p m lo up) ph b m1 m2 ph2 /\ tks.length <= 50 /\ rows=rowsD (TT p m lo up) tks b m1 m2 /\ toks=sts (tks.map (·.1))
noncomputable def R2 (lo up:LN)(p:Bool)(gv:D)(rows toks:LD):Prop:=∃ mk,gv=.str mk /\ lo.length <= 1000 /\ up.length <= 1000 /\ RTd lo up p mk rows toks
theorem Tm {lo up:LN}{p:Bool}{m:Pm}{kd:Nat->Kn}(hkd:kd=kn p false [35] m.pc)(hkV:CfOk (cfV (TT p m lo up).cf (TT p m lo up).lname) kd)(hkL:CfOk (cfL (TT p m lo up).cf (TT p m lo up).lname) kd)(h1:lo.length <= 20)(h2:up.length <= 20):∃ rows toks,R1 lo up p m.given rows toks /\ R2 lo up p (.str m.pc) rows toks:=by
 subst hkd;refine E21 (Mh (kn p false [35] m.pc) p up up.length 0 (by lia)) fun l1 o1 k1=>?_
 have n1:=KJ k1;have a0:Aft (cfV (TT p m lo up).cf (TT p m lo up).lname) up (kn p false [35] m.pc) S0 0:=.go rfl (fun _=>rfl) rfl ⟨rfl,.inl ⟨rfl,(Nat.zero_min _).symm⟩⟩;refine E24 (YO (T:=TT p m lo up) hkV rfl (by show up.length < 999;lia) KU l1 k1 a0 rfl) fun S2 n2 c1 b2 a2 t2=>?_
 cases o1 with
 | none=>
  refine E11 (Jcd (T:=TT p m lo up) hkV rfl (by show up.length < 999;lia) KU b2 a2 t2) fun ph2 e2=>?_
  refine ⟨_,_,⟨m,rfl,_,_,_,_,_,_,c1,e2,by rw [List.length_map];lia,rfl,rfl⟩,m.pc,rfl,by lia,by lia,l1,none,k1,.inl ⟨rfl,?_,?_⟩⟩
  · unfold rowsD;rw [List.map_map];rfl
  · rw [LQ]
 | some n=>
  refine E21 (Mh (kn p false [35] m.pc) p lo lo.length 0 (by lia)) fun l2 o2 k2=>?_
  have n2:=KJ k2;refine E23 (ZX (T:=TT p m lo up) hkV rfl (by show up.length < 999;lia) b2 a2 t2) fun S3 u hL a3 t3=>?_
  refine E35 (Jbk (T:=TT p m lo up) hkL rfl (by show lo.length < 999;lia) KT l2 k2 a3 t3 hL) fun ph4 S4 n4 c4 hL4 b4 a4 t4=>?_
  refine E11 (Jdb (T:=TT p m lo up) hkL rfl (by show lo.length < 999;lia) KT b4 a4 t4 hL4) fun ph5 e5=>?_
  refine ⟨_,_,⟨m,rfl,_,_,_,_,_,_,c1.app c4,e5,by rw [List.length_append,List.length_map,List.length_map];lia,rfl,rfl⟩,m.pc,rfl,by lia,by lia,l1,some n,k1,.inr ⟨nofun,l2,o2,k2,?_,?_⟩⟩
  · rw [List.map_append,LQ,LQ];unfold sts;rw [List.map_append]
  · rw [Wd _ p rfl]
    cases o2 with
    | none=>exact .inl ⟨rfl,rfl⟩
    | some n=>exact .inr ⟨n,rfl,rfl⟩
theorem KH {nm t:LN}{l:List (LN × Nat)}:∀ d ∈ l.map (rowL ldL nm t),reflD d:=fun d hd=>by
 refine E12 (List.mem_map.mp hd) fun x _ hq1=>?_;obtain rfl:=hq1;refine fun led n=>⟨rfl,fun k a b e1 e2=>?_⟩
 match k,e1,e2 with
 | 0,e1,e2=>obtain rfl:=Option.some.inj e1;obtain rfl:=Option.some.inj e2;exact rfl
 | 1,e1,e2=>obtain rfl:=Option.some.inj e1;obtain rfl:=Option.some.inj e2;exact rfl
 | k + 2,e1,e2=>injection e1
theorem ML {l:List (LN)}:∀ d ∈ sts l,reflD d:=fun d hd=>by
 refine E12 (List.mem_map.mp hd) fun x _ hq0=>?_;obtain rfl:=hq0;exact fun led n=>rfl
theorem Kl {a b:LD}(h1:∀ d ∈ a,reflD d)(h2:∀ d ∈ b,reflD d):∀ d ∈ a++b,reflD d:=fun d hd=>(List.mem_append.mp hd).elim (h1 d) (h2 d)
theorem Mn {e:D}(h:reflD e):∀ d ∈ [e,e],reflD d:=fun d hd=>by
 rcases List.mem_cons.mp hd with rfl | hd
 · exact h
 · rw [List.mem_singleton.mp hd];exact h
theorem U3 (x:LN):reflD (.tup [.str x]):=fun led n=>⟨rfl,fun k a b e1 e2=>by
 match k,e1,e2 with
 | 0,e1,e2=>obtain rfl:=Option.some.inj e1;obtain rfl:=Option.some.inj e2;exact rfl
 | k + 1,e1,e2=>injection e1⟩
theorem Yi (p:Bool)(x:LN):reflD (.tup [eofD p,.str x]):=fun led n=>⟨rfl,fun k a b e1 e2=>by
 match k,e1,e2 with
 | 0,e1,e2=>obtain rfl:=Option.some.inj e1;obtain rfl:=Option.some.inj e2;cases p <;> first | exact rfl | exact trivial
 | 1,e1,e2=>obtain rfl:=Option.some.inj e1;obtain rfl:=Option.some.inj e2;exact rfl
 | k + 2,e1,e2=>injection e1⟩
theorem Ws {lo up m:LN}{p:Bool}{rows toks:LD}(b:RTd lo up p m rows toks):(∀ d ∈ rows,reflD d) /\ ∀ d ∈ toks,reflD d:=by
 obtain ⟨l1,o1,k1,b⟩:=b;rcases b with ⟨e1,e2,e3⟩ | ⟨e1,l2,o2,k2,e3,b⟩
 · subst e1 e2 e3;exact ⟨Kl KH (Mn (U3 _)),ML⟩
 · subst e3;refine ⟨?_,Kl ML ML⟩;rcases b with ⟨e1,e2⟩ | ⟨n,e1,e2⟩
   · subst e1 e2;exact Kl (Kl KH KH) (Mn (U3 _))
   · subst e1 e2;exact Kl (Kl KH KH) (Mn (Yi _ _))
noncomputable def R3 (t h:LN)(p:Bool)(o:Option (List (LN))):Prop:=∃ b ts,(∃ S,Lx (cfS p (lEqB h [35])) t S0 b ts S) /\ ts.length <= 100000 /\ o=ife b (some ts) none
noncomputable def R4 (t h:LN)(p:Bool)(o:Option (List (LN))):Prop:=∃ l e,Tks (kn p true h []) p t 0 l e /\ t.length <= 1000 /\ o=e.map (fun _=>firsts l)
theorem Qq {t h:LN}{p:Bool}(hk:CfOk (cfS p (lEqB h [35])) (kn p true h []))(ht:t.length <= 40):∃ o,R3 t h p o /\ R4 t h p o:=by
 refine E21 (Mh (kn p true h []) p t t.length 0 (by lia)) fun l e k=>?_
 have n1:=KJ k;refine E23 (Vc hk rfl (by lia) l k (.go (S:=S0) rfl (fun _=>rfl) rfl ⟨rfl,.inl ⟨rfl,(Nat.zero_min _).symm⟩⟩) rfl) fun b S hx h1 h2=>?_
 refine ⟨e.map (fun _=>firsts l),⟨b,firsts l,⟨S,hx⟩,by unfold firsts;rw [List.length_map];lia,?_⟩,l,e,k,by lia,rfl⟩
 cases e with
 | none=>rw [h1 rfl];rfl
 | some n=>rw [h2 nofun];rfl
noncomputable def clsB (ps ws:Bool)(wc cm pc:LN)(c:Nat):Kn->Bool
 | .white=>has c whites
 | .remark=>!has c whites && has c cm
 | .run=>!has c whites && (!has c cm && (!has c [92] && (!has c wc && (has c pc && (!has c quots && !ws)))))
 | .quote=>!has c whites && (!has c cm && (!has c [92] && (!has c wc && (!has c pc && has c quots))))
 | .escape=>!has c whites && (!has c cm && (ps && (has c [92] && (!has c quots && !has c pc))))
 | .word=>!has c whites && (!has c cm && (!(ps && has c [92]) && ((has c wc || ws) && (!has c pc && !has c quots))))
 | .lone=>!has c whites && (!has c cm && (!(ps && has c [92]) && (!has c wc && (!has c pc && (!has c quots && !ws)))))
theorem n_ {a b:Bool}(h:(!a && b)=true):a=false /\ b=true:=by cases a <;> cases b <;> first | exact ⟨rfl,rfl⟩ | cases h
theorem a_ {a b:Bool}(h:(a && b)=true):a=true /\ b=true:=Bool.and_eq_true_iff.mp h
theorem n1_ {a:Bool}(h:(!a)=true):a=false:=by cases a <;> first | rfl | cases h
theorem YB {cf:Cfg}{c:Nat}{K:Kn}(h:clsB cf.posix cf.ws cf.wc cf.cm cf.pc c K=true):cls cf c K:=by
 cases K with
 | white=>exact h
 | remark=>exact n_ h
 | run=>
  obtain ⟨h1,h⟩:=n_ h;obtain ⟨h2,h⟩:=n_ h;obtain ⟨h3,h⟩:=n_ h;obtain ⟨h4,h⟩:=n_ h;obtain ⟨h5,h⟩:=a_ h;obtain ⟨h6,h⟩:=n_ h;exact ⟨h1,h2,h3,h4,h5,h6,n1_ h⟩
 | quote=>
  obtain ⟨h1,h⟩:=n_ h;obtain ⟨h2,h⟩:=n_ h;obtain ⟨h3,h⟩:=n_ h;obtain ⟨h4,h⟩:=n_ h;obtain ⟨h5,h⟩:=n_ h;exact ⟨h1,h2,h3,h4,h5,h⟩
 | escape=>
  obtain ⟨h1,h⟩:=n_ h;obtain ⟨h2,h⟩:=n_ h;obtain ⟨h3,h⟩:=a_ h;obtain ⟨h4,h⟩:=a_ h;obtain ⟨h5,h⟩:=n_ h;exact ⟨h1,h2,h3,h4,h5,n1_ h⟩
 | word=>
  obtain ⟨h1,h⟩:=n_ h;obtain ⟨h2,h⟩:=n_ h;obtain ⟨h3,h⟩:=n_ h;obtain ⟨h4,h⟩:=a_ h;obtain ⟨h5,h⟩:=n_ h;refine ⟨h1,h2,h3,?_,h5,n1_ h⟩
  cases hw:has c cf.wc with
  | true=>exact .inl rfl
  | false=>rw [hw] at h4;exact .inr ⟨rfl,h4⟩
 | lone=>
  obtain ⟨h1,h⟩:=n_ h;obtain ⟨h2,h⟩:=n_ h;obtain ⟨h3,h⟩:=n_ h;obtain ⟨h4,h⟩:=n_ h;obtain ⟨h5,h⟩:=n_ h;obtain ⟨h6,h⟩:=n_ h;exact ⟨h1,h2,h3,h4,h5,h6,n1_ h⟩
noncomputable def low (l:LN):Bool:=match l with
 | []=>true
 | a :: l=>Nat.blt a 256 && low l
theorem Jv {c:Nat}(hc:256 <= c):∀ {l:LN},low l=true->has c l=false
 | [],_=>rfl
 | a :: l,h=>by
  obtain ⟨h1,h2⟩:=a_ (show (Nat.blt a 256 && low l)=true from h)
  show ife (Nat.beq c a) true (has c l)=false;have:Nat.beq c a=false:=by
   cases x:Nat.beq c a with
   | false=>rfl
   | true=>
    have:=Nat.eq_of_beq_eq_true x;have h1:a + 1 <= 256:=Nat.le_of_ble_eq_true h1
    lia
  rw [this];exact Jv hc h2
theorem K2 (a b:Nat):ltS [a] [b]=decide (a < b):=by
 refine decide_eq_decide.mpr ⟨fun h=>?_,fun h=>.rel h⟩
 cases h with
 | rel h=>exact h
 | cons h=>cases h
theorem Wz {p w:Bool}{h m:LN}{c:Nat}(hc:256 <= c)(h1:low h=true)(h2:low m=true):kn p w h m c=ife w .word .lone:=by
 unfold kn kT kT1 kT2 kT3 rng lat and2;have b:∀ a,a < 256->Nat.beq c a=false:=fun a ha=>by
  cases x:Nat.beq c a with
  | false=>rfl
  | true=>have:=Nat.eq_of_beq_eq_true x;lia
 have l1:has c whites=false:=Jv hc rfl;have l2:has c quots=false:=Jv hc rfl;have l3:has c (cs "~-./*?=")=false:=Jv hc (by kernel_rfl!)
 rw [l1,Jv hc h1,Jv hc h2,l2,l3,Rh,Rh,b 92 (by decide),b 95 (by decide),K2,K2,K2,K2,K2,K2]
 rw [decide_eq_false (show ¬ c < 97 by lia),decide_eq_true (show 122 < c by lia),decide_eq_false (show ¬ c < 65 by lia),decide_eq_true (show 90 < c by lia),decide_eq_false (show ¬ c < 48 by lia),decide_eq_true (show 57 < c by lia)]
 have l4:leI (Int.ofNat c) 255=false:=decide_eq_false (by have:(Int.ofNat 255) < Int.ofNat c:=Int.ofNat_lt.mpr (by lia);show ¬ (Int.ofNat c) <= Int.ofNat 255;lia)
 rw [l4];cases p <;> cases w <;> cases m <;> cases leI 192 (Int.ofNat c) <;> rfl
theorem Mq {cf:Cfg}{p w:Bool}{h m:LN}(e1:cf.ws=w)(h1:low h=true)(h2:low m=true)(h3:low cf.wc=true)(h4:low cf.cm=true)(h5:low cf.pc=true)
 (hl:((List.range 256).all fun c=>clsB cf.posix cf.ws cf.wc cf.cm cf.pc c (kn p w h m c))=true):CfOk cf (kn p w h m):=fun c=>by
 by_cases hc:c < 256
 · exact YB (List.all_eq_true.mp hl c (List.mem_range.mpr hc))
 · have hc:256 <= c:=by lia
   have l1:has c whites=false:=Jv hc rfl;have l2:has c quots=false:=Jv hc rfl;have l3:has c [92]=false:=Jv hc rfl;have l4:(cf.posix && has c [92])=false:=by rw [l3];cases cf.posix <;> rfl
   rw [Wz hc h1 h2]
   cases w with
   | true=>exact ⟨l1,Jv hc h4,l4,.inr ⟨Jv hc h3,e1⟩,Jv hc h5,l2⟩
   | false=>exact ⟨l1,Jv hc h4,l4,Jv hc h3,Jv hc h5,l2,e1⟩
theorem PZ:low [35]=true:=by kernel_rfl!
theorem OY (m:Pm):low m.pc=true:=by cases m <;> kernel_rfl!
theorem Va (p:Bool)(m:Pm):low (wcR p m.pc)=true:=by cases m <;> cases p <;> kernel_rfl!
theorem Vd (p:Bool):low (wcB p)=true:=by cases p <;> kernel_rfl!
theorem Je6 (p:Bool)(m:Pm):((List.range 256).all fun c=>clsB p false (wcR p m.pc) [35] m.pc c (kn p false [35] m.pc c))=true:=by cases m <;> cases p <;> kernel_rfl!
theorem Jds (p:Bool):((List.range 256).all fun c=>clsB p true (wcB p) [35] [] c (kn p true [35] [] c))=true:=by cases p <;> kernel_rfl!
theorem Jdv (p:Bool):((List.range 256).all fun c=>clsB p true (wcB p) [] [] c (kn p true [] [] c))=true:=by cases p <;> kernel_rfl!
theorem Jfz (p:Bool)(m:Pm)(lo up:LN):CfOk (cfV (TT p m lo up).cf (TT p m lo up).lname) (kn p false [35] m.pc):=Mq rfl PZ (OY m) (Va p m) PZ (OY m) (Je6 p m)
theorem Jfm (p:Bool)(m:Pm)(lo up:LN):CfOk (cfL (TT p m lo up).cf (TT p m lo up).lname) (kn p false [35] m.pc):=Mq rfl PZ (OY m) (Va p m) PZ (OY m) (Je6 p m)
theorem Jfc {h:LN}(hh:h=[35] \/ h=[])(p:Bool):CfOk (cfS p (lEqB h [35])) (kn p true h []):=by
 rcases hh with rfl | rfl
 · exact Mq rfl PZ rfl (Vd p) PZ rfl (Jds p)
 · exact Mq rfl rfl rfl (Vd p) rfl rfl (Jdv p)
theorem Jfp (l u:LN)(hl:l.length <= 20)(hu:u.length <= 20):Vn R1 R2 R3 R4 l u:=by
 refine ⟨fun p m=>?_,fun h hh p=>Qq (Jfc hh p) (by rw [List.length_append];lia)⟩
 refine E22 (Tm rfl (Jfz p m l u) (Jfm p m l u) hl hu) fun rows toks h1 h2=>?_;refine E14 h2 fun mk e _ _ b=>?_;refine E02 (Ws b) fun r1 r2=>?_;exact ⟨rows,toks,h1,⟨mk,e,by lia,by lia,b⟩,r1,r2⟩
theorem QW:∀ {n:Nat} {P:Led->Prop},(∀ l:Led,l.length=n->P l)->allO n P
 | 0,_,h=>h [] rfl
 | n + 1,_,h=>fun o=>QW fun l e=>h (o :: l) (congrArg Nat.succ e)
section
variable (P:Params)
noncomputable def sSign:Jc:=defW (Xof tops (scoOf (fnD 22)) [] noSpec) 40 (bodOf (fnD 22)) [⟨1,[],[s "number"],[.arg 0]⟩]
theorem Jef:Ja (KK P) 3 (.val 741) sSign:=
 Jg (r:=0) (scoOf (fnD 22)) (kOk P) (Jd P) .nil Jb (by kernel_rfl!) (by kernel_rfl!) (by kernel_rfl!) (by
  intro p hp;cases List.mem_singleton.mp hp;exact Ji rfl rfl (fun S v1=>by show _=_;kernel_rfl!) (by kernel_rfl!))
end
noncomputable def signL:LN:=[97,32,39,34,92,35,10,59,98,43,61,38,9,223,45,95,55,34,39,32,92,40,13,90,64,47,10,247,11,160,126]
noncomputable def sgC (n:Int)(led:Led)(Q:D->Led->Prop)(i:Int):Prop:=tr (leI 0 i) (tr (leI i 1114111) (Q (.str [i.toNat]) led))
theorem XG (n:Int)(led:Led)(Ex:Ec->Led->Prop)(Q:D->Led->Prop):sSign [.int n] [] led Ex Q=ife (ltI (n.fmod 32) 31) (tr (leI 0 (n.fmod 32)) (so (nth signL (n.fmod 32).toNat) fun c=>Q (.str [c]) led)) (ife (ltI ((n.fdiv 64).fmod 1112064) 55296) (sgC n led Q ((n.fdiv 64).fmod 1112064)) (sgC n led Q ((n.fdiv 64).fmod 1112064 + 2048))):=by kernel_rfl!
theorem SW (P:Params):Ja (KK P) 3 (.val 741) signSp:=by
 refine Ja.imp (Jef P) fun args kws led Ex Q h0=>?_;refine l0e h0 fun h1=>?_;refine l1e h1 fun a h2=>?_;refine dIe h2 fun n h=>?_;show sSign [.int n] _ _ _ _;rw [XG];have h32:0 <= n.fmod 32 /\ n.fmod 32 < 32:=⟨Int.fmod_nonneg_of_pos _ (by decide),Int.fmod_lt_of_pos _ (by decide)⟩
 have hm:0 <= (n.fdiv 64).fmod 1112064 /\ (n.fdiv 64).fmod 1112064 < 1112064:=⟨Int.fmod_nonneg_of_pos _ (by decide),Int.fmod_lt_of_pos _ (by decide)⟩
 cases hc:ltI (n.fmod 32) 31 with
 | true=>
  have hc:n.fmod 32 < 31:=of_decide_eq_true hc;rw [Jp rfl];refine Ju (decide_eq_true h32.1) ?_;have hlt:(n.fmod 32).toNat < signL.length:=by show _ < 31;omega
  have e:nth signL (n.fmod 32).toNat=some signL[(n.fmod 32).toNat]:=by rw [Jq];exact List.getElem?_eq_getElem hlt
  rw [e];exact h _
 | false=>
  rw [Je rfl];have go:∀ i:Int,0 <= i->i <= 1114111->sgC n led Q i:=fun i h1 h2=>Ju (decide_eq_true h1) (Ju (decide_eq_true h2) (h _))
  cases hd:ltI ((n.fdiv 64).fmod 1112064) 55296 with
  | true=>rw [Jp rfl];exact go _ hm.1 (by omega)
  | false=>rw [Je rfl];exact go _ (by omega) (by omega)
theorem l4_ {l:LD}{k:D->D->D->D->Prop}(h:l4 l k):∃ a b c d,l=[a,b,c,d] /\ k a b c d:=by
 refine lCe h fun a r h1=>?_;refine l3x h1 fun b c d h2=>?_;exact ⟨a,b,c,d,rfl,h2⟩
@[elab_as_elim] theorem l4x {l:LD}{k:D->D->D->D->Prop}{R:LD->Prop}(h:l4 l k)(f:∀ a b c d,k a b c d->R [a,b,c,d]):R l:=(l4_ h).elim fun a h=>h.elim fun b h=>h.elim fun c h=>h.elim fun d h=>h.1 ▸ f a b c d h.2
theorem ZF (P:Params):Ja (KK P) 22 (.val 793) (readSp R1):=by
 refine Ja.imp (SB P) fun args kws led Ex Q h0=>?_;refine l0e h0 fun h1=>?_;refine l4x h1 fun a b c gv h2=>?_;refine dSe h2 fun lo h3=>?_;refine dSe h3 fun up h4=>?_;refine dBx h4 fun p hh=>?_;refine E22 hh fun rows toks hq3=>?_;clear hh;obtain ⟨m,rfl,tks,ph,b,m1,m2,ph2,hc,he,hl,rfl,rfl⟩:=hq3;intro q;refine ⟨p,m,lo,up,tks,ph,b,m1,m2,ph2,rfl,rfl,hc,he,hl,fun g hg=>?_⟩;have at_:∀ (j:Nat) (x:Led),(g++x)[rIx m + j]?=x[j]?:=fun j x=>by
  rw [List.getElem?_append_right (by omega),hg,Nat.add_sub_cancel_left]
 have:=q (g++[.list (rowsD (TT p m lo up) tks b m1 m2),.list (sts (tks.map (·.1))),.list (sts (tks.map (·.1))).reverse,.list (sts (tks.map (·.1)))]) (rIx m) (rIx m + 3) (at_ 0 _) (at_ 3 _);rw [Nat.add_assoc];exact this
theorem Ja8 (P:Params):Ja (KK P) 12 (.val 788) (readSp R2):=by
 refine Ja.imp (ZU P) fun args kws led Ex Q h0=>?_;refine l0e h0 fun h1=>?_;refine l4x h1 fun a b c gv h2=>?_;refine dSe h2 fun lo h3=>?_;refine dSe h3 fun up h4=>?_;refine dBx h4 fun p hh=>?_;refine E22 hh fun rows toks hq2=>?_;clear hh;refine E14 hq2 fun mk hq6=>?_;clear hq2;obtain rfl:=hq6;intro hl hu b;intro q;exact ⟨lo,up,p,mk,rows,toks,rfl,rfl,hl,hu,b,q⟩
theorem Jbd (P:Params):Ja (KK P) 22 (.val 800) (wordSp R3):=by
 refine Ja.imp (Jay P) fun args kws led Ex Q h0=>?_;refine l0e h0 fun h1=>?_;refine l3x h1 fun a b c h2=>?_;refine dSe h2 fun t h3=>?_;refine dSe h3 fun h h4=>?_;refine dBx h4 fun p hh=>?_;refine E12 hh fun o hq1=>?_;clear hh;refine E23 hq1 fun b ts hx hl hq5=>?_;clear hq1;obtain rfl:=hq5;intro q;refine ⟨b,ts,hx,hl,?_⟩;have key:∀ g:Led,g.length=6->Q (ife b (.ref (led.length + 6)) .none) (led++(g++[.list (sts ts)])):=fun g hg=>by
  cases b with
  | false=>exact q (g++[.list (sts ts)])
  | true=>exact q (g++[.list (sts ts)]) 6 (by rw [List.getElem?_append_right (by omega),hg];rfl)
 exact QW (P:=fun g=>Q (ife b (.ref (led.length + 6)) .none) (led++(g++[.list (sts ts)]))) key
theorem Zw (P:Params):Ja (KK P) 12 (.val 805) (wordSp R4):=by
 refine Ja.imp (ZS P) fun args kws led Ex Q h0=>?_;refine l0e h0 fun h1=>?_;refine l3x h1 fun a b c h2=>?_;refine dSe h2 fun t h3=>?_;refine dSe h3 fun h h4=>?_;refine dBx h4 fun p hh=>?_;refine E12 hh fun o hq0=>?_;clear hh;refine E23 hq0 fun l e k ht hq4=>?_;clear hq0;obtain rfl:=hq4;intro q;refine ⟨t,h,p,l,e,rfl,rfl,ht,k,fun x=>?_,fun n x=>?_⟩
 · subst x;exact q _
 · subst x;exact q _ 1 rfl
theorem Qe (P:Params):SK (KK P) 22 (lawSp R1 R2 R3 R4):=
 .cons (Ja.mono (by decide) (SW P)) (by kernel_rfl!) (.cons (ZF P) (by kernel_rfl!) (.cons (Ja.mono (by decide) (Ja8 P)) (by kernel_rfl!) (.cons (Jbd P) (by kernel_rfl!) (.cons (Ja.mono (by decide) (Zw P)) (by kernel_rfl!) .nil))))
noncomputable def lawNames:List Str:=[s "script",s "numbers",s "lower",s "upper",s "mode",s "posix",s "given",s "marks",s "ways"]
theorem Jat (P:Params):Lj (KK P) 810 (FD (KK P) 810) lawB lawNames [s "whole"]:=UT (by kernel_rfl!) (by kernel_rfl!) (by kernel_rfl!)
theorem X0 (P:Params):(FD (KK P) 810).scope=scoOf (fnD 33):=by kernel_rfl!
theorem T0 (P:Params)(v:Value):bindArgs (FD (KK P) 810) ⟨[v],[]⟩=pure ([s "script"].zip [v]):=by kernel_rfl!
theorem QZ:localsOf (scoOf (fnD 33)).names=lawNames:=by kernel_rfl!
theorem SD (P:Params){Γ:Cx}{v:Nat}{sc:LD}(hK:Γ.K=KK P)(hn:Γ.names=lawNames)(hr:Γ.room=40)(hs:Γ.env.scope=scoOf (fnD 33))(hz:FzAt Γ.base v sc)(hc:Mw Γ):Good (XLaw R1 R2 R3 R4 v sc) Γ:=by
 refine ⟨hn.trans QZ.symm,fun x d h=>?_,hK ▸ kOk P,⟨22,by rw [hr];decide,?_⟩,⟨22,by rw [hr];decide,fun a sp h=>(nomatch h)⟩,fun _=>hc,⟨0,by rw [hr];decide,Jb⟩,fun x d h=>hK ▸ Jd P x d h,by rw [hs];rfl,fun p e=>?_⟩
 · have h:(x,d) ∈ topsOf tops (scoOf (fnD 33)).names:=h;exact ⟨by show Γ.env.scope.names.lookup x=_;rw [hs];exact (Jh h).2,hK ▸ Jd P x d (Jh h).1⟩
 · rw [hK];exact (Qe P).mem
 · have e:some (v,sc)=some p:=e;obtain rfl:=Option.some.inj e;exact hz
theorem Jbc (P:Params){Γ:Cx}{Z:Zs}{cs:List (Str × Addr)}{v:Nat}{l:List Int}(G:Good (XLaw R1 R2 R3 R4 v (l.map .int)) Γ)(hl:l.length <= 63)(hcs:cs.map (·.1)=[s "whole"])(hc:∀ (i:Nat) (p:Str × Addr),cs[i]?=some p->KP Γ p.1 p.2 /\ Z.ad[i]?=some p.2) :
 XS Γ (fun _ _=>False) lawB ⟨[some (.val v),none,none,none,none,none,none,none,none],cs.map (fun _=>.cell none),Z⟩ fun fl σ'=>fl.val=.bool true:=by
 have e:cs.map (fun _=>OD.cell none)=[.cell none]:=by
  have:cs.map (fun _=>OD.cell none)=(cs.map (·.1)).map fun _=>OD.cell none:=by rw [List.map_map];rfl
  rw [this,hcs];rfl
 rw [e];have h:lawXs R1 R2 R3 R4 v (l.map .int) 0 [some (.val v),none,none,none,none,none,none,none,none] [.cell none] (fun _ _=>False) (fun d _=>d=.bool true):=V0 Jfp (fun _=>rfl) v l hl;have h2:=(LC 40 _ _ G).xs (Z:=Z) h (fun x i hx=>?_)
 · exact Wp.exc (Wp.at_ h2 fun fl σ' q=>q) fun cls σ' ⟨_,_,q⟩=>q
 · have hx:(x,i) ∈ [(s "whole",0)]:=hx;cases List.mem_singleton.mp hx;have hl:0 < cs.length:=by have:=congrArg List.length hcs;rw [List.length_map] at this;rw [this];exact Nat.zero_lt_one
   have hp:=hc 0 cs[0] (List.getElem?_eq_getElem hl);have:cs[0].1=s "whole":=by
    have:(cs.map (·.1))[0]'(by rw [List.length_map];exact hl)=cs[0].1:=List.getElem_map ..
    rw [<-this];have h3:(cs.map (·.1))[0]?=some (s "whole"):=by rw [hcs];rfl
    exact (List.getElem?_eq_some_iff.mp h3).2
   exact ⟨_,this ▸ hp.1,hp.2⟩
end Mine
end
noncomputable section
open PySem PySem.W PyProof.Rows PySem.Calls
namespace Mine
open Fast in
theorem Jfw:LeftO pw q loose (fun _=>true) (fun s=>KA.map s.heap.get?) (fun w=>(KK w.params).map fun p=>some p.2) 12000:=Nc (Yt:=fun s=>KA.map (getT s)) (fun s=>List.map_congr_left fun a _=>Xx s a) (fun w=>by
 rw [te10156331382660048174,te11892475500146522536,te14364793385576792824,te14289696077712309145,te4187177175401517315,te5923862056798008813,te1435165496053646825]
 kernel_rfl!)
noncomputable abbrev rr:=PySem.Challenge.rw_ox0162_01
open Fast in
theorem Jff:R.filterR (tw13343964577679436407 rr.prog rr.prog.main.body) [⟨⟨[118,97,114,115]⟩⟩,⟨⟨[100,105,114]⟩⟩,⟨⟨[108,111,99,97,108,115]⟩⟩]=[]:=by kernel_rfl!
open Fast in
theorem Jb8:tw12908688711261696721 rr.prog=true:=by
 unfold tw12908688711261696721;rw [Jff];exact look_both (look_both (by kernel_rfl!) (by decide +kernel)) (by decide +kernel)
open Fast in
theorem Jf2:rr.wellSaid=true:=by
 rw [te9446332074065402090];unfold tw9446332074065402090 tw17960256430627541270 tw2436336058641802641;rw [show tw12908688711261696721 (tw2368527892694137696 rr).prog=true from Jb8]
 kernel_rfl!
end Mine
end
noncomputable section
open PySem PySem.W PyProof.Rows PySem.Calls
set_option backward.match.sparseCases false
namespace Mine
theorem Xk {R:WRecords}{d:WData}(h:WShape.has R d .int=true):∃ i:Int,d=.int i:=by
 cases d with
 | int i=>exact ⟨i,rfl⟩
 | _=>exact Bool.noConfusion (h.symm.trans (by kernel_rfl!):true=false)
theorem Sq {R:WRecords}{d:WData}(h:WShape.has R d (.list .int)=true):∃ xs,d=.list xs /\ WShape.hasItems R xs .int=true:=by
 cases d with
 | list xs=>exact ⟨xs,rfl,(Bool.or_false _).symm.trans ((show WShape.has R (.list xs) (.list .int)=(WShape.hasItems R xs .int || false) by kernel_rfl!).symm.trans h)⟩
 | _=>exact Bool.noConfusion (h.symm.trans (by kernel_rfl!):true=false)
theorem Sv {R:WRecords}{xs:List WData}(h:WShape.hasItems R xs .int=true):∃ l:List Int,xs=l.map .int:=by
 induction xs with
 | nil=>exact ⟨[],rfl⟩
 | cons x xs ih=>
  have h:=(show WShape.hasItems R (x :: xs) .int=(WShape.has R x .int && WShape.hasItems R xs .int) by kernel_rfl!).symm.trans h
  rw [Bool.and_eq_true] at h;refine E11 (ih h.2) fun l hq5=>?_;obtain rfl:=hq5;refine E11 (Xk h.1) fun i hq4=>?_;obtain rfl:=hq4;exact ⟨i :: l,rfl⟩
theorem Sy {args:List WData}(h:PySem.Challenge.rw_ox0162_01.row.toRowW.claim.pre args=true):∃ l:List Int,args=[.list (l.map .int)] /\ l.length <= 63:=by
 refine E02 (pre_splitW h) fun h1 h2=>?_;refine E23 (hasAllW_cons (e:=.list .int) (es:=[]) h1) fun d r hq3=>?_;obtain rfl:=hq3;intro h3 h4;obtain rfl:=hasAllW_nil h4;refine E12 (Sq h3) fun xs hq2=>?_;obtain rfl:=hq2;intro h5;refine E11 (Sv h5) fun l hq1=>?_;obtain rfl:=hq1;refine ⟨l,rfl,?_⟩;have h6:WTm.holds [] (.and (.not (.lt (.lit (.int 63)) (.len (.arg 0)))) (.lit (.bool true))) { args:=[.list (l.map .int)] }=true:=h2;refine Decidable.byContradiction fun hl=>?_;have hv:WTm.value [] (.lt (.lit (.int 63)) (.len (.arg 0))) { args:=[.list (l.map .int)] }=some (.bool (decide ((63:Int) < ((l.map WData.int).length:Int)))):=rfl;rw [List.length_map,decide_eq_true (by lia)] at hv
 have h8:=(holds_andW h6).1;unfold WTm.holds at h8;rw [w_not hv] at h8
 injection h8
theorem RN {h:Heap}{P:Params}{l:List Int}:∀ {vs:List Value},WellAll P h vs (l.map .int)->∀ Z,IsL Z (l.map .int) vs:=by
 induction l with
 | nil=>intro vs hw Z;cases hw;exact .nil
 | cons i l ih=>
  intro vs hw Z
  cases hw with
  | cons h1 h2=>cases h1;exact .cons (.int i _) (ih h2 Z)
theorem Tv:∀ (w:World) (s₀ s₁:Shared) (mg mb:Str->Option Value),Ground q loose [] (fun _ _=>True) w s₀ mg mb s₁.heap->(KK w.params).In s₁.heap->∀ (a:Addr),mg (s "law")=some (.ref a)->s₁.gens=#[]->∀ (l:List Int) (vals:List Value),l.length <= 63->WellAll w.params s₁.heap vals [.list (l.map .int)] ->
 wpAny (model PySem.Challenge.rw_ox0162_01.prog w) callerA (PySem.call (.ref a) vals) (fun v s'=>v=.bool true /\ s₁.heap.StaysIn s'.heap /\ s'.gens=s₁.gens /\ s'.os=s₁.os) (fun _ _=>False) s₁:=by
 intro w s₀ s₁ mg mb G hK a ha hg l vals hl hw;have hT:Yv (KK w.params) s₁ mg mb:=⟨G.T.g,G.T.b,G.T.nolimit,G.T.builtins,hK⟩;obtain rfl:a=810:=by
  have hn:mg (s "law")=some (.ref 810):=mg_of hT.K hT.g (show nsIn (KK w.params) mainGlobals (s "law")=some (some (.ref 810)) by kernel_rfl!)
  rw [hn] at ha;cases ha;rfl
 cases hw with
 | cons h1 h2=>
  cases h2
  cases h1 with
  | @list b vs xs hb hvs=>
   have fz:FzAt s₁.heap b (l.map .int):=⟨_,_,hb,fun Z=>RN hvs Z⟩;refine Sb hT (Jat w.params) (args:=[.val b]) (vs:=[.ref b]) (ps:=[s "script"]) (rest:=[s "numbers",s "lower",s "upper",s "mode",s "posix",s "given",s "marks",s "ways"]) (fun Z=>.cons (.val b) .nil) (T0 w.params _) rfl rfl ?_;intro Γ Z cs e1 e2 e3 e4 e5 e6 e7 e8 e9 calm e10 hc;have Gd:Good (XLaw R1 R2 R3 R4 b (l.map .int)) Γ:=SD w.params e3 e7 e8 (e9.trans (X0 _)) (e4.symm ▸ fz) calm;refine Wp.at_ (Jbc w.params Gd hl e10 hc) fun fl σ' e v s' i k g o=>⟨?_,k,g,o⟩;rw [e] at i;cases i;rfl
noncomputable def posOf:Stmt->Pos
 | .FunctionDef _ _ _ _ _ _ _ _ _ p=>p
 | _=>default
noncomputable def dLaw:DefRec:=⟨s "law",parOf (fnD 33),bodOf (fnD 33),scoOf (fnD 33),posOf (fnD 33)⟩
theorem Xo:defOf q PySem.Challenge.rw_ox0162_01.row.name=some (dLaw,[]):=by kernel_rfl!
theorem Wh:PySem.Challenge.rw_ox0162_01.row.prog.theDef PySem.Challenge.rw_ox0162_01.row.name=some (dLaw.params,dLaw.body,dLaw.scope):=by kernel_rfl!
theorem YE:kwWritten? dLaw.params.kwonlyargs dLaw.params.kw_defaults=some []:=by kernel_rfl!
theorem WK:(chainsOk q && opensWell PySem.Challenge.rw_ox0162_01.row.prog && (frees PySem.Challenge.rw_ox0162_01.row.toRowW && PySem.Challenge.rw_ox0162_01.row.within.isEmpty))=true:=by decide +kernel
theorem SJ:PySem.Challenge.rw_ox0162_01.row.prog.bare:=⟨rfl,rfl,rfl,rfl,rfl,by decide +kernel⟩
theorem Um:PySem.Challenge.rw_ox0162_01.row.toRowW.promised:=⟨[.list []],by decide +kernel,by decide +kernel⟩
theorem Sc (l:List Int):PySem.Challenge.rw_ox0162_01.row.toRowW.claim.post [.list (l.map .int)] (.bool true) [.list (l.map .int)]=true:=
 postW_of (X:=true) (by decide +kernel) (by
  show WTm.value [] (.eq .res (.lit (.bool true))) _=_
  kernel_rfl!) rfl
theorem TH:WalkO q loose (fun _ _=>True) (fun w h=>(KK w.params).In h) PySem.Challenge.rw_ox0162_01.row.toRowW dLaw [] fun f vs=>PySem.call f vs:=by
 intro w s₀ s₁ mg mb G hK a o pm cd doc dV kV e1 e2 e3 e4 e5 hg args vals as hp hlay hr hw hlow;refine E12 (Sy hp) fun l hq0=>?_;obtain rfl:=hq0;intro hl;refine wpAny_mono (Tv w s₀ s₁ mg mb G hK a e5 hg l vals hl hw) (fun v s' hq0=>?_) fun _ _ h=>h.elim;refine E04 hq0 fun e k g o=>?_;subst e;refine ⟨.inl ⟨_,.bool true,[],rfl,fun _=>rfl,.bool true,Sc _,fun _=>⟨.nil,fun a h=>(nomatch h)⟩⟩,.of_keep k,o,.of_eq (g.trans hg)⟩
theorem holds:PySem.Challenge.rw_ox0162_01.Holds:=
 holds_law Jf2 fun k1=>holds_open (r:=PySem.Challenge.rw_ox0162_01.row) (q:=q) (loose:=loose) (Xt:=fun _=>true) (XP:=fun _ _=>True) (YP:=fun w h=>(KK w.params).In h) (N:=12000) Jfw
  (fun w s e=>Frag.in_of (as:=KA) (by kernel_rfl!) e) (fun w h h' K k=>K.keeps k) (fun _ _=>trivial) (fun _ _ _ _ _=>trivial) Xo Wh YE (fun _ _=>recFacts_nil rfl) rfl k1 WK SJ Um TH
end Mine
end
set_option maxRecDepth 100000 in
theorem PySem.Challenge.cw_ox0162_01_holds : PySem.Challenge.rw_ox0162_01.Holds := by
  exact Mine.holds
