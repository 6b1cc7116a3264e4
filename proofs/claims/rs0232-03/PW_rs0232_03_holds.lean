import PyProof.Rows.All
import Wide.All
import OpenK.AllK
import Wide.FinOn
import KE.KSortTup
import KE.KIntText
import KE.KPar
import PyProof.StrLaws
import Lean
import PySem.Challenge.RW_rs0232_03
set_option Elab.async false
set_option bootstrap.genMatcherCode false
set_option genInjectivity false
set_option genSizeOf false
set_option genSizeOfSpec false
set_option tactic.hygienic false
set_option linter.all false
set_option maxRecDepth 100000
open Bool renaming and_eq_true_iff → zu, false_ne_true → zQ, and_eq_true → yC, or_eq_true_iff → xx, or_eq_false_iff → wi, eq_iff_iff → wM, false_xor → qb, true_xor → qI, beq_comm → zaz, and_true → zaA, eq_false_iff → zdi
open Int renaming fmod_nonneg_of_pos → xq, natCast_nonneg → xW, fmod_lt_of_pos → wJ, eq_ofNat_of_zero_le → ja, zero_add → Yd, not_lt → zbZ
open List renaming length_append → zd, length_map → zf, mem_cons → zh, getElem?_eq_getElem → zj, getD_eq_getElem?_getD → zk, all_eq_true → zq, mem_append_right → zr, mem_append → zt, mem_singleton → zv, mem_map → zy, size_toArray → zz, getElem?_map → zA, mem_append_left → zC, length_range → zG, getElem?_append_left → zH, mem_range → zI, getElem?_append_right → zJ, mem_of_getElem? → zM, getElem?_eq_some_iff → zR, getElem?_toArray → zU, append_assoc → zW, map_append → zX, getElem?_eq_none → yj, lookup_cons → yl, append_nil → ym, length_filter_le → yp, not_mem_nil → yu, filter_cons_of_pos → yv, map_map → yy, reverse_cons → yF, length_eq_zero_iff → yG, filter_cons_of_neg → yH, mem_filter → yJ, getElem?_range → yP, flatMap_cons → yQ, length_cons → xg, getElem?_of_mem → xh, flatten_append → xt, getElem?_set_ne → xH, take_length → xU, cons_ne_nil → xV, filter_map → wc, take_add_one → wf, getElem_mem → ww, mem_iff_getElem? → wQ, flatten_cons → wS, take_of_length_le → js, getElem?_set_self → jt, append_eq_nil_iff → ju, pairwise_append → Zz, length_set → ZD, replicate_succ → ZE, map_congr_left → ZF, length_reverse → ZG, filter_append → Yz, drop_eq_getElem_cons → YS, any_cons → Xs, pairwise_singleton → XO, mem_flatMap → XP, length_drop → XQ, head_eq_of_cons_eq → XR, drop_length → XS, forIn_cons → Wt, all_append → Wu, map_id → QT, pairwise_cons → zbX, mem_filterMap → zbY, map_inj_left → zdh
open Nat renaming le_of_ble_eq_true → zg, le_trans → zm, le_refl → zo, zero_le → zK, le_antisymm → zS, ble_eq_true_of_le → zT, lt_succ_self → yc, lt_succ_of_lt → yg, ne_of_lt → yi, lt_of_le_of_lt → yx, lt_irrefl → yI, lt_of_lt_of_le → yX, succ_ne_zero → yZ, succ_le_succ → xc, le_add_right → xC, sub_self → xG, zero_add → xO, lt_trans → we, le_of_lt → wI, eq_of_beq_eq_true → wP, le_of_lt_succ → wR, le_succ → wZ, min_le_right → qm, le_of_not_lt → qo, beq_refl → qp, add_sub_cancel_left → qZ, lt_succ_of_le → jq, le_of_succ_le → jr, mul_le_mul → Yx, add_le_add → Yy, add_comm → Wh, min_eq_left → Wr, div_add_mod → Ws, mul_le_mul_left → zaw, not_le → zbV, add_sub_cancel → zbW, le_succ_of_le → zdg
open Nat.succ renaming inj → ql
open Option renaming map_eq_some_iff → zc, bind_eq_some_iff → ze, bind_some → zF, isSome_iff_exists → zP, toList_some → zbU
open Option.some renaming inj → za
open PySem renaming wpAny_bind → zb, wpAny_pure → zi, wpAny_mono → yD, wpAny_holding → yT, wpAny_standAt → wp, wpAny_call_entry → qk, builtinLookup_eq_fast → jR, wpAny_of_eq → YT, slot_list_setitem → YU, wpAny_call → We, wpAny_Assign_Subscript → Wg, typeLookup_type → Wq, wpAny_newList → zax, wpAny_rule → zbT, getMethod_builtin → zdf
open PySem.F renaming slot_dict_itemiterator_iter → zay
open PySem.Heap renaming get?_push_of_some → zn, get?_push_size → zD, lt_size → yr, size_push → xX, get?_update_self → xY, get?_update_other → Wi
open PySem.Heap.SameBut renaming update → ZH
section T1
namespace MI
theorem k02 {A0 A1:Prop} {G:Prop} (h:A0∧A1) (k:A0→A1→G):G:=k h.1 h.2
theorem k03 {A0 A1 A2:Prop} {G:Prop} (h:A0∧A1∧A2) (k:A0→A1→A2→G):G:=k h.1 h.2.1 h.2.2
theorem k04 {A0 A1 A2 A3:Prop} {G:Prop} (h:A0∧A1∧A2∧A3) (k:A0→A1→A2→A3→G):G:=k h.1 h.2.1 h.2.2.1 h.2.2.2
theorem k11 {X0:Type _} {A0:X0→Prop} {G:Prop} (h: ∃x0,A0 x0) (k: ∀x0,A0 x0→G):G:=h.elim fun x0 h=>k x0 h
theorem k12 {X0:Type _} {A0 A1:X0→Prop} {G:Prop} (h: ∃x0,A0 x0∧A1 x0) (k: ∀x0,A0 x0→A1 x0→G):G:=h.elim fun x0 h=>k x0 h.1 h.2
theorem k13 {X0:Type _} {A0 A1 A2:X0→Prop} {G:Prop} (h: ∃x0,A0 x0∧A1 x0∧A2 x0) (k: ∀x0,A0 x0→A1 x0→A2 x0→G):G:=h.elim fun x0 h=>k x0 h.1 h.2.1 h.2.2
theorem k14 {X0:Type _} {A0 A1 A2 A3:X0→Prop} {G:Prop} (h: ∃x0,A0 x0∧A1 x0∧A2 x0∧A3 x0) (k: ∀x0,A0 x0→A1 x0→A2 x0→A3 x0→G):G:=h.elim fun x0 h=>k x0 h.1 h.2.1 h.2.2.1 h.2.2.2
theorem k21 {X0:Type _} {X1:Type _} {A0:X0→X1→Prop} {G:Prop} (h: ∃x0,∃x1,A0 x0 x1) (k: ∀x0 x1,A0 x0 x1→G):G:=h.elim fun x0 h=>h.elim fun x1 h=>k x0 x1 h
theorem k22 {X0:Type _} {X1:Type _} {A0 A1:X0→X1→Prop} {G:Prop} (h: ∃x0,∃x1,A0 x0 x1∧A1 x0 x1) (k: ∀x0 x1,A0 x0 x1→A1 x0 x1→G):G:=h.elim fun x0 h=>h.elim fun x1 h=>k x0 x1 h.1 h.2
theorem k23 {X0:Type _} {X1:Type _} {A0 A1 A2:X0→X1→Prop} {G:Prop} (h: ∃x0,∃x1,A0 x0 x1∧A1 x0 x1∧A2 x0 x1) (k: ∀x0 x1,A0 x0 x1→A1 x0 x1→A2 x0 x1→G):G:=h.elim fun x0 h=>h.elim fun x1 h=>k x0 x1 h.1 h.2.1 h.2.2
theorem k24 {X0:Type _} {X1:Type _} {A0 A1 A2 A3:X0→X1→Prop} {G:Prop} (h: ∃x0,∃x1,A0 x0 x1∧A1 x0 x1∧A2 x0 x1∧A3 x0 x1) (k: ∀x0 x1,A0 x0 x1→A1 x0 x1→A2 x0 x1→A3 x0 x1→G):G:=h.elim fun x0 h=>h.elim fun x1 h=>k x0 x1 h.1 h.2.1 h.2.2.1 h.2.2.2
theorem k25 {X0 X1:Type _} {A0 A1 A2 A3 A4:X0→X1→Prop} {G:Prop} (h: ∃x0,∃x1,A0 x0 x1∧A1 x0 x1∧A2 x0 x1∧A3 x0 x1∧A4 x0 x1) (k: ∀x0 x1,A0 x0 x1→A1 x0 x1→A2 x0 x1→A3 x0 x1→A4 x0 x1→G):G:=h.elim fun x0 h=>h.elim fun x1 h=>k x0 x1 h.1 h.2.1 h.2.2.1 h.2.2.2.1 h.2.2.2.2
theorem k31 {X0:Type _} {X1:Type _} {X2:Type _} {A0:X0→X1→X2→Prop} {G:Prop} (h: ∃x0,∃x1,∃x2,A0 x0 x1 x2) (k: ∀x0 x1 x2,A0 x0 x1 x2→G):G:=h.elim fun x0 h=>h.elim fun x1 h=>h.elim fun x2 h=>k x0 x1 x2 h
theorem k32 {X0:Type _} {X1:Type _} {X2:Type _} {A0 A1:X0→X1→X2→Prop} {G:Prop} (h: ∃x0,∃x1,∃x2,A0 x0 x1 x2∧A1 x0 x1 x2) (k: ∀x0 x1 x2,A0 x0 x1 x2→A1 x0 x1 x2→G):G:=h.elim fun x0 h=>h.elim fun x1 h=>h.elim fun x2 h=>k x0 x1 x2 h.1 h.2
theorem k33 {X0:Type _} {X1:Type _} {X2:Type _} {A0 A1 A2:X0→X1→X2→Prop} {G:Prop} (h: ∃x0,∃x1,∃x2,A0 x0 x1 x2∧A1 x0 x1 x2∧A2 x0 x1 x2) (k: ∀x0 x1 x2,A0 x0 x1 x2→A1 x0 x1 x2→A2 x0 x1 x2→G):G:=h.elim fun x0 h=>h.elim fun x1 h=>h.elim fun x2 h=>k x0 x1 x2 h.1 h.2.1 h.2.2
theorem k34 {X0:Type _} {X1:Type _} {X2:Type _} {A0 A1 A2 A3:X0→X1→X2→Prop} {G:Prop} (h: ∃x0,∃x1,∃x2,A0 x0 x1 x2∧A1 x0 x1 x2∧A2 x0 x1 x2∧A3 x0 x1 x2) (k: ∀x0 x1 x2,A0 x0 x1 x2→A1 x0 x1 x2→A2 x0 x1 x2→A3 x0 x1 x2→G):G:=h.elim fun x0 h=>h.elim fun x1 h=>h.elim fun x2 h=>k x0 x1 x2 h.1 h.2.1 h.2.2.1 h.2.2.2
theorem k35 {X0:Type _} {X1:Type _} {X2:Type _} {A0 A1 A2 A3 A4:X0→X1→X2→Prop} {G:Prop} (h: ∃x0,∃x1,∃x2,A0 x0 x1 x2∧A1 x0 x1 x2∧A2 x0 x1 x2∧A3 x0 x1 x2∧A4 x0 x1 x2) (k: ∀x0 x1 x2,A0 x0 x1 x2→A1 x0 x1 x2→A2 x0 x1 x2→A3 x0 x1 x2→A4 x0 x1 x2→G):G:=h.elim fun x0 h=>h.elim fun x1 h=>h.elim fun x2 h=>k x0 x1 x2 h.1 h.2.1 h.2.2.1 h.2.2.2.1 h.2.2.2.2
theorem k42 {X0:Type _} {X1:Type _} {X2:Type _} {X3:Type _} {A0 A1:X0→X1→X2→X3→Prop} {G:Prop} (h: ∃x0,∃x1,∃x2,∃x3,A0 x0 x1 x2 x3∧A1 x0 x1 x2 x3) (k: ∀x0 x1 x2 x3,A0 x0 x1 x2 x3→A1 x0 x1 x2 x3→G):G:=h.elim fun x0 h=>h.elim fun x1 h=>h.elim fun x2 h=>h.elim fun x3 h=>k x0 x1 x2 x3 h.1 h.2
theorem k43 {X0:Type _} {X1:Type _} {X2:Type _} {X3:Type _} {A0 A1 A2:X0→X1→X2→X3→Prop} {G:Prop} (h: ∃x0,∃x1,∃x2,∃x3,A0 x0 x1 x2 x3∧A1 x0 x1 x2 x3∧A2 x0 x1 x2 x3) (k: ∀x0 x1 x2 x3,A0 x0 x1 x2 x3→A1 x0 x1 x2 x3→A2 x0 x1 x2 x3→G):G:=h.elim fun x0 h=>h.elim fun x1 h=>h.elim fun x2 h=>h.elim fun x3 h=>k x0 x1 x2 x3 h.1 h.2.1 h.2.2
theorem k44 {X0:Type _} {X1:Type _} {X2:Type _} {X3:Type _} {A0 A1 A2 A3:X0→X1→X2→X3→Prop} {G:Prop} (h: ∃x0,∃x1,∃x2,∃x3,A0 x0 x1 x2 x3∧A1 x0 x1 x2 x3∧A2 x0 x1 x2 x3∧A3 x0 x1 x2 x3) (k: ∀x0 x1 x2 x3,A0 x0 x1 x2 x3→A1 x0 x1 x2 x3→A2 x0 x1 x2 x3→A3 x0 x1 x2 x3→G):G:=h.elim fun x0 h=>h.elim fun x1 h=>h.elim fun x2 h=>h.elim fun x3 h=>k x0 x1 x2 x3 h.1 h.2.1 h.2.2.1 h.2.2.2
theorem k53 {X0:Type _} {X1:Type _} {X2:Type _} {X3:Type _} {X4:Type _} {A0 A1 A2:X0→X1→X2→X3→X4→Prop} {G:Prop} (h: ∃x0,∃x1,∃x2,∃x3,∃x4,A0 x0 x1 x2 x3 x4∧A1 x0 x1 x2 x3 x4∧A2 x0 x1 x2 x3 x4) (k: ∀x0 x1 x2 x3 x4,A0 x0 x1 x2 x3 x4→A1 x0 x1 x2 x3 x4→A2 x0 x1 x2 x3 x4→G):G:=h.elim fun x0 h=>h.elim fun x1 h=>h.elim fun x2 h=>h.elim fun x3 h=>h.elim fun x4 h=>k x0 x1 x2 x3 x4 h.1 h.2.1 h.2.2
theorem k54 {X0:Type _} {X1:Type _} {X2:Type _} {X3:Type _} {X4:Type _} {A0 A1 A2 A3:X0→X1→X2→X3→X4→Prop} {G:Prop} (h: ∃x0,∃x1,∃x2,∃x3,∃x4,A0 x0 x1 x2 x3 x4∧A1 x0 x1 x2 x3 x4∧A2 x0 x1 x2 x3 x4∧A3 x0 x1 x2 x3 x4) (k: ∀x0 x1 x2 x3 x4,A0 x0 x1 x2 x3 x4→A1 x0 x1 x2 x3 x4→A2 x0 x1 x2 x3 x4→A3 x0 x1 x2 x3 x4→G):G:=h.elim fun x0 h=>h.elim fun x1 h=>h.elim fun x2 h=>h.elim fun x3 h=>h.elim fun x4 h=>k x0 x1 x2 x3 x4 h.1 h.2.1 h.2.2.1 h.2.2.2
theorem zV {α:Type _} {l:List α} {i:Nat} {x:α} (e:l[i]? =some x):i < l.length:=(zR.mp e).1
theorem ns {α:Type _} {x:α} {G:Prop} (h:Option.none=some x):G:=nomatch h
theorem sn {α:Type _} {x:α} {G:Prop} (h:some x=Option.none):G:=nomatch h
theorem ft {G:Prop} (h:false=true):G:=nomatch h
theorem tf {G:Prop} (h:true=false):G:=nomatch h
theorem sp {α β:Type _} {a c:α} {b d:β} {G:Prop} (h:some (a,b)=some (c,d)) (k:a=c→b=d→G):G:=k (congrArg Prod.fst (za h)) (congrArg Prod.snd (za h))
theorem si {α:Type _} {a c:α} {G:Prop} (h:some a=some c) (k:a=c→G):G:=k (za h)
end MI
end T1
section T2
open PySem
namespace MI
abbrev Txt:=List Nat
set_option genInjectivity false
set_option genSizeOf false
set_option genSizeOfSpec false
set_option genCtorIdx false in
inductive V where
 | none
 | bool (b:Bool)
 | int (i:Int)
 | str (s:Txt)
 | tup (vs:List V)
 | ref (i:Nat)
 | cst (c:Value)
 | flist (vs:List V)
 | rng (a b:Int)
 | emp
noncomputable def V.ctorIdx (x:V):Nat:=V.casesOn x 0 (fun ω=>1) (fun ω=>2) (fun ω=>3) (fun ω=>4) (fun ω=>5) (fun ω=>6) (fun ω=>7) (fun ω ω=>8) 9
set_option genCtorIdx false in
inductive O where
 | list (vs:List V)
 | inst (C:Addr) (fs:List (Nat×V))
noncomputable def O.ctorIdx (x:O):Nat:=O.casesOn x (fun ω=>0) (fun ω ω=>1)
abbrev H:=List O
abbrev Vars:=List (Nat×Option V)
noncomputable def Vars.get (x:Nat):Vars→Option V
 | []=> .none
 | (y,v)::r=>if y==x then v else Vars.get x r
noncomputable def Vars.set (x:Nat) (v:V):Vars→Vars
 | []=> [(x,some v)]
 | (y,u)::r=>if y==x then (y,some v)::r else (y,u)::Vars.set x v r
noncomputable def look (x:Nat):List (Nat×V)→Option V
 | []=> .none
 | (y,v)::r=>if y==x then some v else look x r
noncomputable def put (x:Nat) (v:V):List (Nat×V)→List (Nat×V)
 | []=> [(x,v)]
 | (y,u)::r=>if y==x then (y,v)::r else (y,u)::put x v r
set_option genCtorIdx false in
inductive Bop | add | sub | mul | fdiv | mod | band | bor | bxor (u:Unit:=())
noncomputable def Bop.ctorIdx (x:Bop):Nat:=Bop.casesOn x 0 1 2 3 4 5 6 (fun ω=>7)
set_option genCtorIdx false in
inductive Cop | eq | ne | lt | le | gt | ge | isIn | notIn | is_ | isNot (u:Unit:=())
noncomputable def Cop.ctorIdx (x:Cop):Nat:=Cop.casesOn x 0 1 2 3 4 5 6 7 8 (fun ω=>9)
set_option genCtorIdx false in
inductive T where
 | name (x:Nat)
 | tup (ts:List T)
noncomputable def T.ctorIdx (x:T):Nat:=T.casesOn x (fun ω=>0) (fun ω=>1)
set_option genCtorIdx false in
mutual
inductive E where
 | lit (v:V)
 | var (x:Nat)
 | bin (op:Bop) (a b:E)
 | neg (a:E)
 | not (a:E)
 | and (a b:E)
 | or (a b:E)
 | ite (t a b:E)
 | list (es:List E)
 | tup (es:List E)
 | dsub (ks:List Int) (vs:List E) (i:E)
 | cmp (op:Cop) (a b:E)
 | sub (a i:E)
 | slice (a:E) (l u s:Option E)
 | attr (a:E) (x:Nat)
 | call (f:E) (as:List E)
 | callM (o:E) (x:Nat) (as:List E) (ks:List (Nat×E))
 | comp (elt:E) (gens:List Gen) (own:List Nat)
inductive Gen where
 | mk (t:T) (it:It) (ifs:List E)
inductive It where
 | plain (e:E)
 | enum (e:E)
 | zip (a b:E)
 | items (e:E)
end
noncomputable def E.ctorIdx (x:E):Nat:=E.casesOn x (fun ω=>0) (fun ω=>1) (fun ω ω ω=>2) (fun ω=>3) (fun ω=>4) (fun ω ω=>5) (fun ω ω=>6) (fun ω ω ω=>7) (fun ω=>8) (fun ω=>9) (fun ω ω ω=>10) (fun ω ω ω=>11) (fun ω ω=>12) (fun ω ω ω ω=>13) (fun ω ω=>14) (fun ω ω=>15) (fun ω ω ω ω=>16) (fun ω ω ω=>17)
noncomputable def It.ctorIdx (x:It):Nat:=It.casesOn x (fun ω=>0) (fun ω=>1) (fun ω ω=>2) (fun ω=>3)
set_option genCtorIdx false in
inductive S where
 | names (xs:List Nat) (e:E)
 | unpack (ts:List T) (e:E)
 | setAttr (o:E) (x:Nat) (e:E)
 | setSub (o i e:E)
 | setAll (o e:E)
 | del (o i:E)
 | expr (e:E)
 | ite (t:E) (a b:List S)
 | whil (t:E) (b:List S)
 | for_ (t:T) (it:It) (b:List S)
 | ret (e:Option E)
 | brk
 | pass
 | bad
noncomputable def S.ctorIdx (x:S):Nat:=S.casesOn x (fun ω ω=>0) (fun ω ω=>1) (fun ω ω ω=>2) (fun ω ω ω=>3) (fun ω ω=>4) (fun ω ω=>5) (fun ω=>6) (fun ω ω ω=>7) (fun ω ω=>8) (fun ω ω ω=>9) (fun ω=>10) 11 12 13
structure Fn where
 params:List Nat
 dflts:List V
 kwonly:List Nat
 kwarg:Option Nat
 body:List S
structure Cls where
 meths:List (Nat×Addr)
 init:Addr
 flds:List Nat
structure G where
 fns:List (Addr×Fn)
 clss:List (Addr×Cls)
 dicts:List (Addr×List (Txt×V))
 pats:List Addr
 ids:List Txt
 delId:Nat
 setId:Nat
set_option genCtorIdx false in
inductive Fl where
 | next | brk | ret (v:V)
noncomputable def Fl.ctorIdx (x:Fl):Nat:=Fl.casesOn x 0 1 (fun ω=>2)
noncomputable def fit (i:Int):Bool:=decide (-4611686018427387904 < i)&&decide (i < 4611686018427387904)
noncomputable def mkI (i:Int):Option V:=if fit i then some (.int i) else .none
noncomputable def szOk (n:Nat):Bool:=Nat.ble n 1000000
noncomputable def mkL (vs:List V) (σ:H):Option (V×H):=if szOk vs.length then some (.ref σ.length,σ++ [.list vs]) else .none
noncomputable def mkS (s:Txt) (σ:H):Option (V×H):=if szOk s.length then some (.str s,σ) else .none
noncomputable def setL (σ:H) (i:Nat) (vs:List V) (v:V):Option (V×H):=if szOk vs.length then some (v,σ.set i (.list vs)) else .none
noncomputable def yn (σ:H):V→Option (List V)
 | .ref i=>match σ[i]? with
  | some (.list xs)=>some xs
  | _=> .none
 | _=> .none
noncomputable def binN (f:Nat→Nat→Nat) (a b:Int) (σ:H):Option (V×H):=match a with
 | .ofNat x=>match b with
  | .ofNat y=>(mkI (.ofNat (f x y))).map (fun ω=>(ω,σ))
  | _=> .none
 | _=> .none
noncomputable def binI (op:Bop) (a b:Int) (σ:H):Option (V×H):=match op with
 | .add=>(mkI (a+b)).map (fun ω=>(ω,σ))
 | .sub=>(mkI (a - b)).map (fun ω=>(ω,σ))
 | .mul=>if fit a then (mkI (a*b)).map (fun ω=>(ω,σ)) else .none
 | .fdiv=>if decide (0 < b)&&decide (b < 1000000000) then (mkI (Int.fdiv a b)).map (fun ω=>(ω,σ)) else .none
 | .mod=>if decide (0 < b) then (mkI (Int.fmod a b)).map (fun ω=>(ω,σ)) else .none
 | .band=>binN (fun x y=>Nat.land x y) a b σ
 | .bor=>binN (fun x y=>x+y - Nat.land x y) a b σ
 | .bxor _=>binN (fun x y=>x+y - 2*Nat.land x y) a b σ
noncomputable def addL (x y:V) (σ:H):Option (V×H):=(yn σ x).bind fun xs=>(yn σ y).bind fun ys=>mkL (xs++ys) σ
noncomputable def mulL (x y:V) (σ:H):Option (V×H):=match y with
 | .int n=>(yn σ x).bind fun xs=>if decide (n≤1000)&&(fit n&&Nat.ble xs.length 1000) then mkL (List.replicate n.toNat xs).flatten σ else .none
 | .bool b=>(yn σ x).bind fun xs=>if Nat.ble xs.length 1000 then mkL (if b then xs else []) σ else .none
 | _=> .none
noncomputable def binS (x y:V) (σ:H):Option (V×H):=match x with
 | .str a=>match y with
  | .str b=>mkS (a++b) σ
  | _=> .none
 | _=> .none
noncomputable def binR (op:Bop) (x y:V) (σ:H):Option (V×H):=match op with
 | .add=>addL x y σ
 | .mul=>mulL x y σ
 | _=> .none
noncomputable def Ze (op:Bop) (x y:V) (σ:H):Option (V×H):=match x with
 | .int a=>match y with
  | .int b=>binI op a b σ
  | _=> .none
 | .str _=>match op with
  | .add=>binS x y σ
  | _=> .none
 | _=>binR op x y σ
noncomputable def truthy:V→Option Bool
 | .none=>some false
 | .bool b=>some b
 | .int i=>some (!(i==0))
 | _=> .none
noncomputable def yW:Txt→Txt→Bool
 | [],[]=>true
 | a::r,b::q=>Nat.beq a b&&yW r q
 | _,_=>false
noncomputable def okS (s:Txt):Bool:=s.all fun c=>Nat.blt c 1114112
noncomputable def mapO (f:V→Option V):List V→Option (List V)
 | []=>some []
 | x::r=>match f x with
  | some y=>match mapO f r with
   | some ys=>some (y::ys)
   | .none=> .none
  | .none=> .none
noncomputable def flat (σ:H):Nat→V→Option V
 | 0,_=> .none
 | n+1,v=>match v with
  | .none=>some .none
  | .bool b=>some (.bool b)
  | .int i=>some (.int i)
  | .str s=>if okS s then some (.str s) else .none
  | .tup vs=>match mapO (flat σ n) vs with
   | some ds=>some (.tup ds)
   | .none=> .none
  | .ref i=>match σ[i]? with
   | some (.list vs)=>match mapO (flat σ n) vs with
    | some ds=>some (.flist ds)
    | .none=> .none
   | _=> .none
  | _=> .none
mutual
noncomputable def eqD:V→V→Bool
 | .none,.none=>true
 | .bool a,.bool b=>a==b
 | .bool a,.int j=>(if a then 1 else 0)==j
 | .int i,.bool b=>i==(if b then 1 else 0)
 | .int a,.int b=>a==b
 | .str a,.str b=>yW a b
 | .tup xs,.tup ys=>eqDs xs ys
 | .flist xs,.flist ys=>eqDs xs ys
 | _,_=>false
noncomputable def eqDs:List V→List V→Bool
 | [],[]=>true
 | x::xs,y::ys=>eqD x y&&eqDs xs ys
 | _,_=>false
end
noncomputable def eqV (σ:H) (a b:V):Option Bool:=match flat σ 12 a with
 | some x=>match flat σ 12 b with
  | some y=>some (eqD x y)
  | .none=> .none
 | .none=> .none
noncomputable def memV (σ:H) (x:V) (ys:List V):Option Bool:=match flat σ 12 x with
 | some d=>match mapO (flat σ 12) ys with
  | some es=>some (es.any fun e=>eqD e d)
  | .none=> .none
 | .none=> .none
noncomputable def stT (s:Txt):Str:=⟨s.toArray⟩
noncomputable def tsT (s:Str):Txt:=s.cps.toList
noncomputable def qc (k:Txt):List (Txt×V)→Option V
 | []=> .none
 | (a,v)::r=>if yW a k then some v else qc k r
noncomputable def jz:V→Option Int
 | .int i=>some i
 | _=> .none
noncomputable def ZM:V→Option (Int×Int)
 | .tup vs=>match vs with
  | []=> .none
  | a::r=>match r with
   | []=> .none
   | b::r=>match r with
    | []=>(jz a).bind fun x=>(jz b).map fun y=>(x,y)
    | _=> .none
 | _=> .none
noncomputable def ltP (p q:Int×Int):Bool:=decide (p.1 < q.1) || (decide (p.1=q.1)&&decide (p.2 < q.2))
noncomputable def ltV (x y:V):Bool:=((jz x).any fun a=>(jz y).any fun b=>decide (a < b)) || ((ZM x).any fun a=>(ZM y).any fun b=>ltP a b)
noncomputable def Xw (xs:List V):Bool:=Nat.blt xs.length 64&&(xs.all (fun v=>(jz v).isSome) || xs.all fun v=>(ZM v).isSome)
noncomputable def Xi {α:Type} (n:Nat) (lt:Nat→Nat→Bool):PySem.W.KasT α→Option α
 | .ret a=>some a
 | .ask i j k=>if Nat.blt i n&&Nat.blt j n then Xi n lt (k (lt i j)) else .none
noncomputable def ltAt (xs:List V) (i j:Nat):Bool:=ltV (xs.getD i .none) (xs.getD j .none)
noncomputable def Ja (xs:List V) (σ:H):Option (V×H):=if Nat.blt xs.length 2 then mkL xs σ else match Xi xs.length (ltAt xs) (PySem.W.kas_sort xs.length) with
 | some p=>if Nat.ble p.size 64 then mkL (p.toList.map fun i=>xs.getD i .none) σ else .none
 | .none=> .none
noncomputable def cmpI (f:Int→Int→Bool):V→V→Option Bool
 | .int a,.int b=>some (f a b)
 | _,_=> .none
noncomputable def wG (Γ:G) (op:Cop) (x y:V) (σ:H):Option Bool:=match op with
 | .eq=>eqV σ x y
 | .ne=>(eqV σ x y).map (fun ω=> !ω)
 | .lt=>cmpI (fun a b=>decide (a < b)) x y
 | .le=>cmpI (fun a b=>decide (a≤b)) x y
 | .gt=>cmpI (fun a b=>decide (b < a)) x y
 | .ge=>cmpI (fun a b=>decide (b≤a)) x y
 | .isIn=>inV x y
 | .notIn=>(inV x y).map (fun ω=> !ω)
 | .is_=>isV x y
 | .isNot _=>(isV x y).map (fun ω=> !ω)
where
 inV (x y:V):Option Bool:=match y with
  | .ref i=>match σ[i]? with
   | some (.list xs)=>memV σ x xs
   | _=> .none
  | .cst (.ref a)=>match x with
   | .str s=>match Γ.dicts.lookup a with
    | some kvs=>some (qc s kvs).isSome
    | .none=> .none
   | _=> .none
  | .str t=>match x with
   | .str s=>some (!(Builtin.Str.occurrences (stT t) (stT s) 0 t.length 1).isEmpty)
   | _=> .none
  | _=> .none
 isN:V→Option Bool
  | .none=>some true
  | .str _=>some false
  | .ref _=>some false
  | .int _=>some false
  | _=> .none
 isV (x y:V):Option Bool:=match y with
  | .none=>isN x
  | .cst b=>match b with
   | .type b=>match x with
    | .cst a=>match a with
     | .type a=>some (a==b)
     | _=> .none
    | _=> .none
   | _=> .none
  | _=> .none
noncomputable def idx (n:Nat) (i:Int):Option Nat:=if fit i then seqIndex? i n else .none
noncomputable def itemAt (σ:H) (x:V) (k:Int):Option V:=match x with
 | .ref a=>match σ[a]? with
  | some (.list xs)=>(idx xs.length k).bind fun j=>xs[j]?
  | _=> .none
 | .tup xs=>(idx xs.length k).bind fun j=>xs[j]?
 | .str xs=>(idx xs.length k).bind fun j=>(xs[j]?).map fun c=> .str [c]
 | _=> .none
noncomputable def wL (_:G) (x i:V) (σ:H):Option V:=match i with
 | .int k=>itemAt σ x k
 | _=> .none
noncomputable def part:V→Option (Option Int)
 | .none=>some .none
 | .int i=>some (some i)
 | _=> .none
noncomputable def qy (xs:List V) (lo hi st:Option Int):List V:=
 let b:=sliceBounds lo hi st xs.length
 (sliceRange b.1 b.2.1 b.2.2).filterMap fun (i:Nat)=>xs[i]?
noncomputable def jc (xs:Txt) (lo hi st:Option Int):Txt:=
 let l:=Builtin.Str.strSliceIndices lo hi (st.getD 1) xs.length
 if (st.getD 1==1&&l.length==xs.length)=true then xs else l.filterMap fun (i:Nat)=>xs[i]?
noncomputable def zca (x:V) (lo hi st:Option Int) (σ:H):Option (V×H):=match x with
 | .str xs=>if Nat.ble (jc xs lo hi st).length 1000000 then some (.str (jc xs lo hi st),σ) else .none
 | .flist xs=>mkL (qy xs lo hi st) σ
 | .ref i=>match σ[i]? with
  | some (.list xs)=>mkL (qy xs lo hi st) σ
  | _=> .none
 | _=> .none
noncomputable def Zb (x l u s:V) (σ:H):Option (V×H):=
 match part l with
 | .none=> .none
 | some lo=>match part u with
  | .none=> .none
  | some hi=>match part s with
   | .none=> .none
   | some st=>if st==some 0 then .none else zca x lo hi st σ
noncomputable def qF:List V→Option (List Int)
 | []=>some []
 | .int i::r=>(qF r).map (fun ω=>i::ω)
 | _=> .none
noncomputable def qB:List V→Option (List Txt)
 | []=>some []
 | .str s::r=>(qB r).map (fun ω=>s::ω)
 | _=> .none
noncomputable def maxI:Int→List Int→Int
 | m,[]=>m
 | m,x::r=>maxI (if decide (m < x) then x else m) r
noncomputable def minI:Int→List Int→Int
 | m,[]=>m
 | m,x::r=>minI (if decide (x < m) then x else m) r
noncomputable def sumI:Int→List Int→Option Int
 | a,[]=>some a
 | a,x::r=>if fit x&&fit (a+x) then sumI (a+x) r else .none
noncomputable def yq (a:Int):Nat→List V
 | 0=> []
 | n+1=> .int a::yq (a+1) n
noncomputable def xZ (a b:Int):List V:=yq a (b - a).toNat
noncomputable def yR (i:Int):Txt:=tsT (Str.ofString (toString i))
noncomputable def Xb (s:Txt):Option Int:=if Nat.ble s.length 640 then PySem.intText? (stT s) else .none
noncomputable def jK (sep:Txt) (l:List Txt):Bool:=Nat.ble ((l.map fun x=>(stT x).length).sum+l.length*(stT sep).length) 1000000
noncomputable def lowC (c:Nat):Nat:=if Nat.ble 65 c&&Nat.ble c 90 then c+32 else c
noncomputable def upC (c:Nat):Nat:=if Nat.ble 97 c&&Nat.ble c 122 then c - 32 else c
noncomputable def Xn (s:Txt):Bool:=s.all fun c=>Nat.blt c 128
noncomputable def ZQ (s:Txt):Bool:=s.all fun c=>Nat.ble 32 c&&Nat.blt c 127
noncomputable def bLen (v:V) (σ:H):Option (V×H):=match v with
 | .str s=>if szOk s.length then some (.int (s.length:Int),σ) else .none
 | .tup xs=>some (.int (xs.length:Int),σ)
 | .ref i=>match σ[i]? with
  | some (.list xs)=>some (.int (xs.length:Int),σ)
  | _=> .none
 | _=> .none
noncomputable def bMax (xs:List V) (σ:H):Option (V×H):=(qF xs).bind fun l=>match l with
 | []=> .none
 | x::r=>some (.int (maxI x r),σ)
noncomputable def bMin (xs:List V) (σ:H):Option (V×H):=(qF xs).bind fun l=>match l with
 | []=> .none
 | x::r=>some (.int (minI x r),σ)
noncomputable def bSum (xs:List V) (σ:H):Option (V×H):=(qF xs).bind fun l=>(sumI 0 l).map fun r=>(.int r,σ)
noncomputable def bSort (xs:List V) (σ:H):Option (V×H):=if Xw xs then Ja xs σ else .none
noncomputable def bOne (s:String) (v:V) (σ:H):Option (V×H):=if s="len" then bLen v σ else if s="max" then (yn σ v).bind fun xs=>bMax xs σ else if s="min" then (yn σ v).bind fun xs=>bMin xs σ
  else if s="sum" then (yn σ v).bind fun xs=>bSum xs σ else if s="sorted" then (yn σ v).bind fun xs=>bSort xs σ else .none
noncomputable def bTwo (s:String) (x y:V) (σ:H):Option (V×H):=match x with
 | .int a=>match y with
  | .int b=>if s="max" then some (.int (if decide (a < b) then b else a),σ) else .none
  | _=> .none
 | _=> .none
noncomputable def bFn (s:String) (as:List V) (σ:H):Option (V×H):=match as with
 | [v]=>bOne s v σ
 | [x,y]=>bTwo s x y σ
 | _=> .none
noncomputable def tRange (b:Int) (σ:H):Option (V×H):=if fit b then some (.rng 0 b,σ) else .none
noncomputable def tList (v:V) (σ:H):Option (V×H):=match v with
 | .rng a b=>if decide (b - a < 1000)&&fit a&&fit b then mkL (xZ a b) σ else .none
 | _=> .none
noncomputable def tInt (v:V) (σ:H):Option (V×H):=match v with
 | .str s=>(Xb s).map fun i=>(.int i,σ)
 | _=> .none
noncomputable def tStr (v:V) (σ:H):Option (V×H):=match v with
 | .int i=>if fit i then some (.str (yR i),σ) else .none
 | _=> .none
noncomputable def tType (v:V) (σ:H):Option (V×H):=match v with
 | .str _=>some (.cst (.type "str"),σ)
 | .ref i=>match σ[i]? with
  | some (.list _)=>some (.cst (.type "list"),σ)
  | _=> .none
 | _=> .none
noncomputable def tOne (s:String) (v:V) (σ:H):Option (V×H):=if s="range" then (match v with | .int b=>tRange b σ | _=> .none) else if s="list" then tList v σ else if s="tuple" then (yn σ v).map fun xs=>(.tup xs,σ)
  else if s="int" then tInt v σ else if s="str" then tStr v σ else if s="type" then tType v σ else .none
noncomputable def tTwo (s:String) (x y:V) (σ:H):Option (V×H):=match x with
 | .int a=>match y with
  | .int b=>if s="range" then (if fit a&&fit b then some (.rng a b,σ) else .none) else .none
  | _=> .none
 | _=> .none
noncomputable def tFn (s:String) (as:List V) (σ:H):Option (V×H):=match as with
 | [v]=>tOne s v σ
 | [x,y]=>tTwo s x y σ
 | _=> .none
noncomputable def builtin (f:Value) (as:List V) (σ:H):Option (V×H):=match f with
 | .builtin s=>bFn s as σ
 | .type s=>tFn s as σ
 | _=> .none
noncomputable def sJoin (s:Txt) (as:List V) (σ:H):Option (V×H):=match as with
 | [v]=>(yn σ v).bind fun xs=>(qB xs).bind fun l=>if jK s l then some (.str (tsT (PySem.Txt.join (stT s) (l.map stT))),σ) else .none
 | _=> .none
noncomputable def sMap (f:Nat→Nat) (s:Txt) (as:List V) (σ:H):Option (V×H):=match as with
 | []=>if Xn s&&szOk s.length then some (.str (s.map f),σ) else .none
 | _=> .none
noncomputable def YX:V→Option Txt
 | .str p=>some p
 | _=> .none
noncomputable def sFind (s:Txt) (as:List V) (σ:H):Option (V×H):=match as with
 | [v]=>(YX v).map fun p=>(.int (PySem.Txt.find (stT s) (stT p)),σ)
 | _=> .none
noncomputable def sIndex (s:Txt) (as:List V) (σ:H):Option (V×H):=match as with
 | [v]=>(YX v).bind fun p=>((Builtin.Str.occurrences (stT s) (stT p) 0 s.length 1).head?).map fun n=>(.int (n:Int),σ)
 | _=> .none
noncomputable def sDigit (s:Txt) (as:List V) (σ:H):Option (V×H):=match as with
 | []=>some (.bool (PySem.Txt.isdigit (stT s)),σ)
 | _=> .none
noncomputable def strMeth (s:Txt) (m:Txt) (as:List V) (σ:H):Option (V×H):=
 if yW m [106,111,105,110] then sJoin s as σ
 else if yW m [108,111,119,101,114] then sMap lowC s as σ
 else if yW m [117,112,112,101,114] then sMap upC s as σ
 else if yW m [102,105,110,100] then sFind s as σ
 else if yW m [105,110,100,101,120] then sIndex s as σ
 else if yW m [105,115,100,105,103,105,116] then sDigit s as σ
 else .none
noncomputable def lAppend (i:Nat) (xs:List V) (as:List V) (σ:H):Option (V×H):=match as with
 | [v]=>setL σ i (xs++ [v]) .none
 | _=> .none
noncomputable def lPop (i:Nat) (xs:List V) (as:List V) (σ:H):Option (V×H):=match as with
 | []=>xs.getLast?.bind fun v=>setL σ i xs.dropLast v
 | _=> .none
noncomputable def zbh (i:Nat) (xs:List V) (m:Txt) (as:List V) (σ:H):Option (V×H):=
 if yW m [97,112,112,101,110,100] then lAppend i xs as σ
 else if yW m [112,111,112] then lPop i xs as σ
 else .none
set_option genCtorIdx false in
inductive Zc where
 | ls (i k:Nat)
 | vs (l:List V)
noncomputable def Zc.ctorIdx (x:Zc):Nat:=Zc.casesOn x (fun ω ω=>0) (fun ω=>1)
set_option genCtorIdx false in
inductive Itr where
 | one (z:Zc)
 | enum (i k:Nat)
 | zip (i j k:Nat)
 | nil
noncomputable def Itr.ctorIdx (x:Itr):Nat:=Itr.casesOn x (fun ω=>0) (fun ω ω=>1) (fun ω ω ω=>2) 3
noncomputable def Zc.next (σ:H):Zc→Option (Option (V×Zc))
 | .ls i k=>match σ[i]? with
  | some (.list xs)=>match xs[k]? with
   | some v=>some (some (v,.ls i (k+1)))
   | .none=>some .none
  | _=> .none
 | .vs []=>some .none
 | .vs (v::r)=>some (some (v,.vs r))
noncomputable def Itr.next (σ:H):Itr→Option (Option (V×Itr))
 | .one z=>match z.next σ with
  | some (some (v,z'))=>some (some (v,.one z'))
  | some .none=>some .none
  | .none=> .none
 | .enum i k=>match σ[i]? with
  | some (.list xs)=>match xs[k]? with
   | some v=>some (some (.tup [.int (k:Int),v],.enum i (k+1)))
   | .none=>some .none
  | _=> .none
 | .zip i j k=>(yn σ (.ref i)).bind fun xs=>(yn σ (.ref j)).bind fun ys=>match xs[k]? with
  | some v=>match ys[k]? with
   | some w=>some (some (.tup [v,w],.zip i j (k+1)))
   | .none=> .none
  | .none=>some .none
 | .nil=>some .none
noncomputable def zcOf (v:V) (σ:H):Option Zc:=match v with
 | .ref i=>match σ[i]? with
  | some (.list _)=>some (.ls i 0)
  | _=> .none
 | .tup vs=>some (.vs vs)
 | .str s=>if Xn s then some (.vs (s.map fun c=> .str [c])) else .none
 | .rng a b=>if decide (b - a < 1000)&&fit a&&fit b then some (.vs (xZ a b)) else .none
 | _=> .none
mutual
noncomputable def wn:T→V→H→Vars→Option Vars
 | .name x,v,_,vars=>some (vars.set x v)
 | .tup ts,v,σ,vars=>match v with
  | .tup vs=>jQ ts vs σ vars
  | _=> .none
noncomputable def jQ:List T→List V→H→Vars→Option Vars
 | [],[],_,vars=>some vars
 | t::ts,v::vs,σ,vars=>match wn t v σ vars with
  | some vars'=>jQ ts vs σ vars'
  | .none=> .none
 | _,_,_,_=> .none
end
noncomputable def jj (next:H→Itr→Option (Option (V×Itr))) (body:V→Vars→H→Option (Fl×Vars×H)):Nat→Itr→Vars→H→Option (Fl×Vars×H)
 | 0,_,_,_=> .none
 | k+1,it,vars,σ=>match next σ it with
  | .none=> .none
  | some .none=>some (.next,vars,σ)
  | some (some (v,it'))=>match body v vars σ with
   | some (fl,vars',σ')=>match fl with
    | .next=>jj next body k it' vars' σ'
    | .brk=>some (.next,vars',σ')
    | .ret v=>some (.ret v,vars',σ')
   | .none=> .none
noncomputable def jY (test:Vars→H→Option (Bool×H)) (body:Vars→H→Option (Fl×Vars×H)):Nat→Vars→H→Option (Fl×Vars×H)
 | 0,_,_=> .none
 | k+1,vars,σ=>match test vars σ with
  | some (x,σ')=>match x with
   | false=>some (.next,vars,σ')
   | true=>match body vars σ' with
    | some (fl,vars',σ'')=>match fl with
     | .next=>jY test body k vars' σ''
     | .brk=>some (.next,vars',σ'')
     | .ret v=>some (.ret v,vars',σ'')
    | .none=> .none
  | .none=> .none
noncomputable def qL (next:H→Itr→Option (Option (V×Itr))) (body:V→Vars→List V→H→Option (Vars×List V×H)):Nat→Itr→Vars→List V→H→Option (Vars×List V×H)
 | 0,_,_,_,_=> .none
 | k+1,it,vars,acc,σ=>match next σ it with
  | .none=> .none
  | some .none=>some (vars,acc,σ)
  | some (some (v,it'))=>match body v vars acc σ with
   | some (vars',acc',σ')=>qL next body k it' vars' acc' σ'
   | .none=> .none
noncomputable def xE:Nat:=2000
theorem Vars.get_cons (x y:Nat) (v:Option V) (r:Vars):Vars.get x ((y,v)::r)=if y==x then v else Vars.get x r:=rfl
theorem Vars.set_cons (x y:Nat) (v:V) (u:Option V) (r:Vars):Vars.set x v ((y,u)::r)=if y==x then (y,some v)::r else (y,u)::Vars.set x v r:=rfl
section
variable (next:H→Itr→Option (Option (V×Itr))) (k:Nat) (it:Itr) (vars:Vars) (σ:H)
theorem Qk (body:V→Vars→H→Option (Fl×Vars×H)):jj next body (k+1) it vars σ=(match next σ it with
  | .none=> .none
  | some .none=>some (.next,vars,σ)
  | some (some (v,it'))=>match body v vars σ with
   | some (fl,vars',σ')=>match fl with
    | .next=>jj next body k it' vars' σ'
    | .brk=>some (.next,vars',σ')
    | .ret v=>some (.ret v,vars',σ')
   | .none=> .none):=rfl
theorem Ql (body:V→Vars→List V→H→Option (Vars×List V×H)) (acc:List V):qL next body (k+1) it vars acc σ=(match next σ it with
  | .none=> .none
  | some .none=>some (vars,acc,σ)
  | some (some (v,it'))=>match body v vars acc σ with
   | some (vars',acc',σ')=>qL next body k it' vars' acc' σ'
   | .none=> .none):=rfl
theorem zbf (test:Vars→H→Option (Bool×H)) (body:Vars→H→Option (Fl×Vars×H)):jY test body (k+1) vars σ=(match test vars σ with
  | some (x,σ')=>match x with
   | false=>some (.next,vars,σ')
   | true=>match body vars σ' with
    | some (fl,vars',σ'')=>match fl with
     | .next=>jY test body k vars' σ''
     | .brk=>some (.next,vars',σ'')
     | .ret v=>some (.ret v,vars',σ'')
    | .none=> .none
  | .none=> .none):=rfl
end
abbrev Ev:=E→Vars→H→Option (V×H)
abbrev Cf:=Addr→List V→List (Nat×V)→H→Option (V×H)
noncomputable def yO (ev:Ev):List E→Vars→H→Option (List V×H)
 | [],_,σ=>some ([],σ)
 | e::r,vars,σ=>match ev e vars σ with
  | some (v,σ')=>match yO ev r vars σ' with
   | some (vs,σ'')=>some (v::vs,σ'')
   | .none=> .none
  | .none=> .none
noncomputable def qd (ev:Ev):Option E→Vars→H→Option (V×H)
 | .none,_,σ=>some (.none,σ)
 | some e,vars,σ=>ev e vars σ
noncomputable def evKw (ev:Ev):List (Nat×E)→Vars→H→Option (List (Nat×V)×H)
 | [],_,σ=>some ([],σ)
 | (x,e)::r,vars,σ=>match ev e vars σ with
  | some (v,σ')=>match evKw ev r vars σ' with
   | some (vs,σ'')=>some ((x,v)::vs,σ'')
   | .none=> .none
  | .none=> .none
noncomputable def evB (ev:Ev):E→Vars→H→Option (Bool×H)
 | .not a,vars,σ=>match evB ev a vars σ with
  | some (b,σ')=>some (!b,σ')
  | .none=> .none
 | .and a b,vars,σ=>match evB ev a vars σ with
  | some (x,σ')=>match x with
   | true=>evB ev b vars σ'
   | false=>some (false,σ')
  | .none=> .none
 | .or a b,vars,σ=>match evB ev a vars σ with
  | some (x,σ')=>match x with
   | true=>some (true,σ')
   | false=>evB ev b vars σ'
  | .none=> .none
 | .ite t a b,vars,σ=>match evB ev t vars σ with
  | some (x,σ')=>match x with
   | true=>evB ev a vars σ'
   | false=>evB ev b vars σ'
  | .none=> .none
 | e,vars,σ=>match ev e vars σ with
  | some (v,σ')=>(truthy v).map (fun ω=>(ω,σ'))
  | .none=> .none
noncomputable def jB (ev:Ev):List E→Vars→H→Option (Bool×H)
 | [],_,σ=>some (true,σ)
 | e::r,vars,σ=>match evB ev e vars σ with
  | some (x,σ')=>match x with
   | true=>jB ev r vars σ'
   | false=>some (false,σ')
  | .none=> .none
noncomputable def WR:V→Option Nat
 | .ref i=>some i
 | _=> .none
noncomputable def zipOf (v w:V) (σ:H):Option (Itr×H):=(WR v).bind fun i=>(WR w).bind fun j=>(yn σ (.ref i)).bind fun ω=>(yn σ (.ref j)).map fun ω=>(.zip i j 0,σ)
noncomputable def evIt (ev:Ev):It→Vars→H→Option (Itr×H)
 | .plain e,vars,σ=>match ev e vars σ with
  | some (v,σ')=>(zcOf v σ').map fun z=>(.one z,σ')
  | .none=> .none
 | .enum e,vars,σ=>match ev e vars σ with
  | some (.ref i,σ')=>match σ'[i]? with
   | some (.list _)=>some (.enum i 0,σ')
   | _=> .none
  | _=> .none
 | .zip a b,vars,σ=>match ev a vars σ with
  | some (v,σ')=>match ev b vars σ' with
   | some (w,σ'')=>zipOf v w σ''
   | .none=> .none
  | .none=> .none
 | .items e,vars,σ=>match ev e vars σ with
  | some (v,σ')=>match v with
   | .emp=>some (.nil,σ')
   | _=> .none
  | .none=> .none
noncomputable def okT:T→Itr→Bool
 | .name _,.one _=>true
 | .tup _,.one (.ls _ _)=>true
 | .tup _,.one (.vs [])=>true
 | .tup _,.enum _ _=>true
 | .tup _,.zip _ _ _=>true
 | .tup _,.nil=>true
 | _,_=>false
noncomputable def jO (ev:Ev) (elt:E) (t:T) (ifs:List E):Itr→Vars→List V→H→Option (Vars×List V×H):=
 qL (fun σ it=>it.next σ) (fun v vars acc σ=>
   match wn t v σ vars with
   | some vars=>match jB ev ifs vars σ with
    | some (x,σ)=>match x with
     | false=>some (vars,acc,σ)
     | true=>match ev elt vars σ with
      | some (v,σ)=>if szOk acc.length then some (vars,acc++ [v],σ) else .none
      | .none=> .none
    | .none=> .none
   | .none=> .none) xE
noncomputable def ZV (Γ:G) (C:Addr) (x:Nat):Bool:=(Γ.clss.lookup C).any fun c=>c.flds.contains x
noncomputable def JU:Option V→Option V
 | some (.cst _)=> .none
 | o=>o
noncomputable def fields (Γ:G) (σ:H) (i:Nat) (x:Nat):Option V:=match σ[i]? with
 | some (.inst C fs)=>if ZV Γ C x then JU (look x fs) else .none
 | _=> .none
set_option genCtorIdx false in
inductive Meth where
 | fn (f:Addr) (self:V)
 | lst (i:Nat) (m:Txt)
 | str (s m:Txt)
 | dget (a:Addr)
 | search (a:Addr)
noncomputable def Meth.ctorIdx (x:Meth):Nat:=Meth.casesOn x (fun ω ω=>0) (fun ω ω=>1) (fun ω ω=>2) (fun ω=>3) (fun ω=>4)
noncomputable def xJ (Γ:G) (C:Addr) (x:Nat):Option Addr:=match Γ.clss.lookup C with
 | some c=>c.meths.lookup x
 | .none=> .none
noncomputable def XG:List Txt:= [[97,112,112,101,110,100],[112,111,112]]
noncomputable def YY:List Txt:= [[106,111,105,110],[108,111,119,101,114],[117,112,112,101,114],[102,105,110,100],[105,110,100,101,120],[105,115,100,105,103,105,116]]
noncomputable def yA (Γ:G) (o:V) (x:Nat) (σ:H):Option Meth:=match o with
 | .ref i=>match σ[i]? with
  | some (.inst C fs)=>match look x fs with
   | some _=> .none
   | .none=>(xJ Γ C x).map fun f=> .fn f (.ref i)
  | some (.list _)=>match Γ.ids[x]? with
   | some m=>if XG.any (yW m) then some (.lst i m) else .none
   | .none=> .none
  | .none=> .none
 | .str s=>match Γ.ids[x]? with
  | some m=>if YY.any (yW m) then some (.str s m) else .none
  | .none=> .none
 | .cst (.ref a)=>match Γ.ids[x]? with
  | some m=>if yW m [103,101,116]&&(Γ.dicts.lookup a).isSome then some (.dget a)
   else if yW m [115,101,97,114,99,104]&&Γ.pats.contains a then some (.search a) else .none
  | .none=> .none
 | _=> .none
noncomputable def dGet (Γ:G) (a:Addr) (as:List V) (σ:H):Option (V×H):=match as with
 | [v,d]=>(YX v).bind fun k=>(Γ.dicts.lookup a).map fun kvs=>((qc k kvs).getD d,σ)
 | _=> .none
noncomputable def dSearch (as:List V) (σ:H):Option (V×H):=match as with
 | [v]=>(YX v).bind fun s=>if ZQ s then some (.none,σ) else .none
 | _=> .none
noncomputable def xS (Γ:G) (cf:Cf) (m:Meth) (as:List V) (ks:List (Nat×V)) (σ:H):Option (V×H):=match m with
 | .fn f self=>cf f (self::as) ks σ
 | .lst i m=>if ks.isEmpty then (yn σ (.ref i)).bind fun xs=>zbh i xs m as σ else .none
 | .str s m=>if ks.isEmpty then strMeth s m as σ else .none
 | .dget a=>if ks.isEmpty then dGet Γ a as σ else .none
 | .search _=>if ks.isEmpty then dSearch as σ else .none
noncomputable def newI (a:Addr) (σ:H) (o:Option (V×H)):Option (V×H):=match o with
 | some (v,σ')=>match v with
  | .none=>some (.ref σ.length,σ')
  | _=> .none
 | .none=> .none
noncomputable def callR (Γ:G) (cf:Cf) (a:Addr) (as:List V) (σ:H):Option (V×H):=match Γ.clss.lookup a with
 | some c=>newI a σ (cf c.init (.ref σ.length::as) [] (σ++ [.inst a []]))
 | .none=>cf a as [] σ
noncomputable def jC (Γ:G) (cf:Cf) (f:V) (as:List V) (σ:H):Option (V×H):=match f with
 | .cst w=>match w with
  | .ref a=>callR Γ cf a as σ
  | _=>builtin w as σ
 | _=> .none
noncomputable def pickL (w:Int):List Int→List V→Option V
 | k::ks,u::us=>if decide (k=w) then some u else pickL w ks us
 | _,_=> .none
noncomputable def Je (ks:List Int) (us:List V) (w:V):Option V:=(jz w).bind fun i=>pickL i ks us
noncomputable def negV (x:V) (σ:H):Option (V×H):=match x with
 | .int i=>(mkI (-i)).map (fun ω=>(ω,σ))
 | _=> .none
noncomputable def ev (Γ:G) (cf:Cf):Nat→Ev
 | 0,_,_,_=> .none
 | n+1,e,vars,σ=>match e with
  | .lit v=>some (v,σ)
  | .var x=>(vars.get x).map (fun ω=>(ω,σ))
  | .bin op a b=>match ev Γ cf n a vars σ with
   | some (x,σ)=>match ev Γ cf n b vars σ with
    | some (y,σ)=>Ze op x y σ
    | .none=> .none
   | .none=> .none
  | .neg a=>match ev Γ cf n a vars σ with
   | some (x,σ)=>negV x σ
   | .none=> .none
  | .not _=> .none
  | .and a b=>match ev Γ cf n a vars σ with
   | some (x,σ)=>match truthy x with
    | some t=>match t with
     | true=>ev Γ cf n b vars σ
     | false=>some (x,σ)
    | .none=> .none
   | .none=> .none
  | .or _ _=> .none
  | .ite t a b=>match evB (ev Γ cf n) t vars σ with
   | some (x,σ)=>match x with
    | true=>ev Γ cf n a vars σ
    | false=>ev Γ cf n b vars σ
   | .none=> .none
  | .list es=>match yO (ev Γ cf n) es vars σ with
   | some (vs,σ)=>mkL vs σ
   | .none=> .none
  | .tup es=>match yO (ev Γ cf n) es vars σ with
   | some (vs,σ)=>if szOk vs.length then some (.tup vs,σ) else .none
   | .none=> .none
  | .dsub ks vs i=>match yO (ev Γ cf n) vs vars σ with
   | some (us,σ)=>match ev Γ cf n i vars σ with
    | some (w,σ)=>(Je ks us w).map (fun ω=>(ω,σ))
    | .none=> .none
   | .none=> .none
  | .cmp op a b=>match ev Γ cf n a vars σ with
   | some (x,σ)=>match ev Γ cf n b vars σ with
    | some (y,σ)=>(wG Γ op x y σ).map fun b=>(.bool b,σ)
    | .none=> .none
   | .none=> .none
  | .sub a i=>match ev Γ cf n a vars σ with
   | some (x,σ)=>match ev Γ cf n i vars σ with
    | some (y,σ)=>(wL Γ x y σ).map (fun ω=>(ω,σ))
    | .none=> .none
   | .none=> .none
  | .slice a l u s=>match ev Γ cf n a vars σ with
   | some (x,σ)=>match qd (ev Γ cf n) l vars σ with
    | some (lv,σ)=>match qd (ev Γ cf n) u vars σ with
     | some (uv,σ)=>match qd (ev Γ cf n) s vars σ with
      | some (sv,σ)=>Zb x lv uv sv σ
      | .none=> .none
     | .none=> .none
    | .none=> .none
   | .none=> .none
  | .attr a x=>match ev Γ cf n a vars σ with
   | some (.ref i,σ)=>(fields Γ σ i x).map (fun ω=>(ω,σ))
   | _=> .none
  | .call f as=>match ev Γ cf n f vars σ with
   | some (fv,σ)=>match yO (ev Γ cf n) as vars σ with
    | some (vs,σ)=>jC Γ cf fv vs σ
    | .none=> .none
   | .none=> .none
  | .callM o x as ks=>match ev Γ cf n o vars σ with
   | some (ov,σ)=>match yA Γ ov x σ with
    | some m=>match yO (ev Γ cf n) as vars σ with
     | some (vs,σ)=>match evKw (ev Γ cf n) ks vars σ with
      | some (kv,σ)=>xS Γ cf m vs kv σ
      | .none=> .none
     | .none=> .none
    | .none=> .none
   | .none=> .none
  | .comp elt gens own=>match gens with
   | [.mk t it ifs]=>match evIt (ev Γ cf n) it vars σ with
    | some (itr,σ)=>if okT t itr then match jO (ev Γ cf n) elt t ifs itr (own.map (fun ω=>(ω,.none))++vars) [] σ with
     | some (_,acc,σ)=>mkL acc σ
     | .none=> .none else .none
    | .none=> .none
   | _=> .none
set_option genInjectivity false
set_option genSizeOf false
set_option genSizeOfSpec false
noncomputable def Zp (Γ:G) (F:Fn) (as:List V) (ks:List (Nat×V)):Option Vars:=
 let np:=F.params.length
 let na:=as.length
 if Nat.blt np na then .none else
 let miss:=np - na
 if Nat.blt F.dflts.length miss then .none else
 let pos:=F.params.zip (as++F.dflts.drop (F.dflts.length - miss))
 let base:Vars:=pos.map fun p=>(p.1,some p.2)
 match F.kwonly,F.kwarg with
 | [],.none=>if ks.isEmpty then some base else .none
 | ko,.none=>if ks.map (fun ω=>ω.1)==ko then some (base++ks.map fun p=>(p.1,some p.2)) else .none
 | [],some d=>if ks.isEmpty then some (base++ [(d,some .emp)]) else .none
 | _,_=> .none
noncomputable def JJ (σ:H) (j:Nat) (iv v:V) (vars:Vars):Option (Fl×Vars×H):=match iv with
 | .int k=>if decide (0≤k) then (yn σ (.ref j)).bind fun xs=>(idx xs.length k).bind fun q=>(setL σ j (xs.set q v) .none).map fun p=>(.next,vars,p.2) else .none
 | _=> .none
noncomputable def wm (σ:H) (j:Nat):Option Addr:=match σ[j]? with
 | some o=>match o with
  | .inst C _=>some C
  | _=> .none
 | .none=> .none
noncomputable def isNone:V→Bool
 | .none=>true
 | _=>false
noncomputable def JZ (Γ:G) (cf:Cf) (o i v:V) (vars:Vars) (σ:H):Option (Fl×Vars×H):=(WR o).bind fun j=>match wm σ j with
 | some C=>(xJ Γ C Γ.setId).bind fun f=>(cf f [.ref j,i,v] [] σ).bind fun p=>if isNone p.1 then some (.next,vars,p.2) else .none
 | .none=>JJ σ j i v vars
noncomputable def zab (Γ:G) (cf:Cf) (o i:V) (vars:Vars) (σ:H):Option (Fl×Vars×H):=(WR o).bind fun j=>(wm σ j).bind fun C=>
 (xJ Γ C Γ.delId).bind fun f=>(cf f [.ref j,i] [] σ).bind fun p=>if isNone p.1 then some (.next,vars,p.2) else .none
noncomputable def zch (o v:V) (vars:Vars) (σ:H):Option (Fl×Vars×H):=(WR o).bind fun i=>(yn σ (.ref i)).bind fun ω=>(yn σ v).bind fun ys=>(setL σ i ys .none).map fun p=>(.next,vars,p.2)
mutual
noncomputable def ex (Γ:G) (cf:Cf) (fe:Nat):Nat→S→Vars→H→Option (Fl×Vars×H)
 | 0,_,_,_=> .none
 | n+1,s,vars,σ=>
  let e1:=ev Γ cf fe
  match s with
  | .names xs e=>match e1 e vars σ with
   | some (v,σ)=>some (.next,xs.foldl (fun vs x=>vs.set x v) vars,σ)
   | .none=> .none
  | .unpack ts e=>match e1 e vars σ with
   | some (v,σ)=>match wn (.tup ts) v σ vars with
    | some vars=>some (.next,vars,σ)
    | .none=> .none
   | .none=> .none
  | .setAttr o x e=>match e1 e vars σ with
   | some (v,σ)=>match e1 o vars σ with
    | some (.ref i,σ)=>match σ[i]? with
     | some (.inst C fs)=>if ZV Γ C x&&Nat.ble fs.length 100 then some (.next,vars,σ.set i (.inst C (put x v fs))) else .none
     | _=> .none
    | _=> .none
   | .none=> .none
  | .setSub o i e=>match e1 e vars σ with
   | some (v,σ)=>match e1 o vars σ with
    | some (ov,σ)=>match e1 i vars σ with
     | some (iv,σ)=>JZ Γ cf ov iv v vars σ
     | .none=> .none
    | .none=> .none
   | .none=> .none
  | .setAll o e=>match e1 e vars σ with
   | some (v,σ)=>match e1 o vars σ with
    | some (ov,σ)=>zch ov v vars σ
    | .none=> .none
   | .none=> .none
  | .del o i=>match e1 o vars σ with
   | some (ov,σ)=>match e1 i vars σ with
    | some (iv,σ)=>zab Γ cf ov iv vars σ
    | .none=> .none
   | .none=> .none
  | .expr e=>match e1 e vars σ with
   | some (_,σ)=>some (.next,vars,σ)
   | .none=> .none
  | .ite t a b=>match evB e1 t vars σ with
   | some (x,σ)=>match x with
    | true=>exs Γ cf fe n a vars σ
    | false=>exs Γ cf fe n b vars σ
   | .none=> .none
  | .whil t b=>jY (fun vars σ=>evB e1 t vars σ) (fun vars σ=>exs Γ cf fe n b vars σ) xE vars σ
  | .for_ t it b=>match evIt e1 it vars σ with
   | some (itr,σ)=>if okT t itr then jj (fun σ it=>it.next σ) (fun v vars σ=>match wn t v σ vars with
     | some vars=>exs Γ cf fe n b vars σ
     | .none=> .none) xE itr vars σ else .none
   | .none=> .none
  | .ret .none=>some (.ret .none,vars,σ)
  | .ret (some e)=>match e1 e vars σ with
   | some (v,σ)=>some (.ret v,vars,σ)
   | .none=> .none
  | .brk=>some (.brk,vars,σ)
  | .pass=>some (.next,vars,σ)
  | .bad=> .none
noncomputable def exs (Γ:G) (cf:Cf) (fe:Nat):Nat→List S→Vars→H→Option (Fl×Vars×H)
 | 0,_,_,_=> .none
 | _+1,[],vars,σ=>some (.next,vars,σ)
 | n+1,s::r,vars,σ=>match ex Γ cf fe n s vars σ with
  | some (fl,vars,σ)=>match fl with
   | .next=>exs Γ cf fe n r vars σ
   | .brk=>some (.brk,vars,σ)
   | .ret v=>some (.ret v,vars,σ)
  | .none=> .none
end
noncomputable def qR (Γ:G) (cf:Cf) (fe fs:Nat) (F:Fn) (as:List V) (ks:List (Nat×V)) (σ:H):Option (V×H):=
 match Zp Γ F as ks with
 | some vars=>match exs Γ cf fe fs F.body vars σ with
  | some (fl,_,σ)=>match fl with
   | .ret v=>some (v,σ)
   | .next=>some (.none,σ)
   | .brk=> .none
  | .none=> .none
 | .none=> .none
structure Tx where
 ids:List Str
 glob:Str→Option V
 clsAttr:Addr→Str→Option V
noncomputable def idxOf (x:Str):List Str→Option Nat
 | []=> .none
 | y::r=>if y==x then some 0 else (idxOf x r).map Nat.succ
noncomputable def Tx.id (t:Tx) (x:Str):Option Nat:=idxOf x t.ids
noncomputable def trBop:Operator→Option Bop
 | .Add=>some .add | .Sub=>some .sub | .Mult=>some .mul | .FloorDiv=>some .fdiv | .Mod=>some .mod | .BitXor=>some .bxor | .BitAnd=>some .band | .BitOr=>some .bor | _=>none
noncomputable def unBop:Bop→Operator
 | .add=> .Add | .sub=> .Sub | .mul=> .Mult | .fdiv=> .FloorDiv | .mod=> .Mod | .band=> .BitAnd | .bor=> .BitOr | .bxor _=> .BitXor
noncomputable def unCop:Cop→CmpOp
 | .eq=> .Eq | .ne=> .NotEq | .lt=> .Lt | .le=> .LtE | .gt=> .Gt | .ge=> .GtE | .isIn=> .In | .notIn=> .NotIn | .is_=> .Is | .isNot _=> .IsNot
noncomputable def trCop:CmpOp→Option Cop
 | .Eq=>some .eq | .NotEq=>some .ne | .Lt=>some .lt | .LtE=>some .le | .Gt=>some .gt | .GtE=>some .ge
 | .In=>some .isIn | .NotIn=>some .notIn | .Is=>some .is_ | .IsNot=>some .isNot
noncomputable def qw (sc:Scope) (x:Str):Option Bool:=match sc.names.lookup x with
 | some .local | some .cell | some .free=>some true
 | some .globalImplicit=>some false
 | _=>none
noncomputable def wa (t:Tx):List (Str×NameKind)→Option (List Nat)
 | []=>some []
 | y::r=>if (y.2== .local || y.2== .cell)&& !(y.1==(".0":Str)) then (t.id y.1).bind fun i=>(wa t r).map (fun ω=>i::ω) else wa t r
noncomputable def jy (e:Expr):Bool:=Nat.beq e.ctorIdx 26
noncomputable def isAttr (e:Expr):Bool:=Nat.beq e.ctorIdx 20
noncomputable def vEq (w v:V):Bool:=match w with
 | .none=>match v with
  | .none=>true
  | _=>false
 | .int a=>match v with
  | .int b=>decide (a=b)
  | _=>false
 | .str a=>match v with
  | .str b=>decide (a=b)
  | _=>false
 | .cst a=>match v with
  | .cst b=>decide (a=b)
  | _=>false
 | _=>false
noncomputable def vIs (o:Option V) (v:V):Bool:=match o with
 | some w=>vEq w v
 | .none=>false
noncomputable def qY (t:Tx) (sc:Scope) (x:Str) (v:Value):Bool:=decide (qw sc x=some false)&&vIs (t.glob x) (.cst v)&& !(x==("__debug__":Str))
noncomputable def ownB (sc:Scope) (x:Str):Bool:=match sc.names.lookup x with
 | some .local | some .cell=>true
 | _=>false
noncomputable def jM (sc sc':Scope):Bool:=sc'.names.all fun x=>sc'.names.lookup x.1==some x.2&&(x.2 != .free || (sc.names.lookup x.1==some .cell || sc.names.lookup x.1==some .free))
noncomputable def exC {α:Type} (d:α) (bl:List Expr→BoolOp→Pos→α) (bn:Expr→Expr→Operator→Pos→α) (uy:Expr→UnaryOp→Pos→α) (ie:Expr→Expr→Expr→Pos→α) (lc:Expr→List Comprehension→Scope→Pos→α) (cm:Expr→List CmpOp→List Expr→Pos→α)
  (ca:Expr→List Expr→List Keyword→Pos→α) (cs:Const→Nat→Pos→α) (at':Expr→Str→Pos→α) (sb:Expr→Expr→Pos→α) (nm:Str→Pos→α) (ls:List Expr→Pos→α) (tp:List Expr→Nat→Pos→α) (sl:Option Expr→Option Expr→Option Expr→Pos→α) (di:List (Option Expr)→List Expr→Pos→α) (e:Expr):α:=
 Expr.casesOn e (fun o es p=>bl es o p) (fun ω ω ω=>d) (fun a o b p=>bn a b o p) (fun o a p=>uy a o p) (fun ω ω ω ω=>d) ie di (fun ω ω ω=>d) lc (fun ω ω ω ω=>d) (fun ω ω ω ω ω=>d) (fun ω ω ω ω=>d) (fun ω ω=>d) (fun ω ω=>d) (fun ω ω=>d) cm ca (fun ω ω ω ω=>d) (fun ω ω=>d) cs at' sb (fun ω ω=>d) nm ls tp sl
noncomputable def stC {α:Type} (d:α) (re:Option Expr→Pos→α) (de:List Expr→Pos→α) (as:List Expr→Expr→Pos→α) (fo:Expr→Expr→List Stmt→List Stmt→Pos→α) (wh:Expr→List Stmt→List Stmt→Pos→α) (iff:Expr→List Stmt→List Stmt→Pos→α) (ex:Expr→Pos→α) (pa br:Pos→α) (s:Stmt):α:=
 Stmt.casesOn s (fun ω ω ω ω ω ω ω ω ω ω=>d) (fun ω ω ω ω ω ω ω ω ω ω=>d) (fun ω ω ω ω ω ω ω ω ω ω ω=>d) re de as (fun ω ω ω ω ω ω ω=>d) (fun ω ω ω ω=>d) (fun ω ω ω ω ω=>d) fo (fun ω ω ω ω ω=>d) wh iff (fun ω ω ω=>d) (fun ω ω ω=>d) (fun ω ω ω=>d) (fun ω ω ω=>d) (fun ω ω ω ω ω=>d) (fun ω ω ω ω ω=>d) (fun ω ω ω=>d) (fun ω ω=>d) (fun ω ω ω ω=>d) (fun ω ω=>d) (fun ω ω=>d) ex pa br (fun ω=>d)
noncomputable def exN {α:Type} (d:α) (nm:Str→Pos→α) (tp:List Expr→Nat→Pos→α) (sl:Option Expr→Option Expr→Option Expr→Pos→α) (at':Expr→Str→Pos→α) (ca:Expr→List Expr→List Keyword→Pos→α) (sb:Expr→Expr→Pos→α):Expr→α:=
 exC d (fun ω ω ω=>d) (fun ω ω ω ω=>d) (fun ω ω ω=>d) (fun ω ω ω ω=>d) (fun ω ω ω ω=>d) (fun ω ω ω ω=>d) ca (fun ω ω ω=>d) at' sb nm (fun ω ω=>d) tp sl (fun ω ω ω=>d)
noncomputable def zdb {α:Type} (d:α) (nm:Str→Pos→α):Expr→α:=exN d nm (fun ω ω ω=>d) (fun ω ω ω ω=>d) (fun ω ω ω=>d) (fun ω ω ω ω=>d) (fun ω ω ω=>d)
noncomputable def asCall {α:Type} (d:α) (ca:Expr→List Expr→List Keyword→Pos→α):Expr→α:=exN d (fun ω ω=>d) (fun ω ω ω=>d) (fun ω ω ω ω=>d) (fun ω ω ω=>d) ca (fun ω ω ω=>d)
noncomputable def asTup {α:Type} (d:α) (tp:List Expr→Nat→Pos→α):Expr→α:=exN d (fun ω ω=>d) tp (fun ω ω ω ω=>d) (fun ω ω ω=>d) (fun ω ω ω ω=>d) (fun ω ω ω=>d)
noncomputable def asSlice {α:Type} (d:α) (sl:Option Expr→Option Expr→Option Expr→Pos→α):Expr→α:=exN d (fun ω ω=>d) (fun ω ω ω=>d) sl (fun ω ω ω=>d) (fun ω ω ω ω=>d) (fun ω ω ω=>d)
noncomputable def asAttr {α:Type} (d:α) (at':Expr→Str→Pos→α):Expr→α:=exN d (fun ω ω=>d) (fun ω ω ω=>d) (fun ω ω ω ω=>d) at' (fun ω ω ω ω=>d) (fun ω ω ω=>d)
noncomputable def jl:Expr→Bool:=asCall false fun f as ks ω=>zdb false (fun ω ω=>as.isEmpty&&ks.isEmpty) f
set_option genCtorIdx false in
inductive AT where
 | name (x:Str) (i:Nat) (p:Pos)
 | tup (ts:List AT) (k:Nat) (p:Pos)
noncomputable def AT.ctorIdx (x:AT):Nat:=AT.casesOn x (fun ω ω ω=>0) (fun ω ω ω=>1)
set_option genCtorIdx false in
mutual
inductive AE where
 | cst (k:Const) (v:V) (n:Nat) (p:Pos)
 | dbg (x:Str) (p:Pos)
 | glob (x:Str) (v:V) (p:Pos)
 | clsA (c:Str) (p:Pos) (x:Str) (q:Pos) (v:V)
 | var (x:Str) (i:Nat) (p:Pos)
 | bin (o:Bop) (a b:AE) (p:Pos)
 | neg (a:AE) (p:Pos)
 | not (a:AE) (p:Pos)
 | and (a b:AE) (p:Pos)
 | or (a b:AE) (p:Pos)
 | ite (q a b:AE) (p:Pos)
 | list (es:List AE) (p:Pos)
 | tup (es:List AE) (k:Nat) (p:Pos)
 | cmp (o:Cop) (a b:AE) (p:Pos)
 | slice (a:AE) (l u s:Option AE) (q p:Pos)
 | sub (a i:AE) (p:Pos)
 | attr (a:AE) (x:Str) (i:Nat) (p:Pos)
 | callM (o:AE) (x:Str) (i:Nat) (q:Pos) (as:List AE) (ks:List AK) (p:Pos)
 | call (f:AE) (as:List AE) (p:Pos)
 | dsub (ks:List (Int×Nat×Pos)) (vs:List AE) (q:Pos) (i:AE) (p:Pos)
 | comp (elt:AE) (tg:AT) (it:AI) (ifs:List AE) (sc:Scope) (own:List Nat) (p:Pos)
inductive AK where
 | mk (x:Str) (i:Nat) (e:AE) (p:Pos)
inductive AI where
 | plain (e:AE)
 | enum (z:Str) (zp:Pos) (e:AE) (q:Pos)
 | zip (z:Str) (zp:Pos) (a b:AE) (q:Pos)
 | items (e:AE) (x:Str) (xp q:Pos)
end
noncomputable def AE.ctorIdx (x:AE):Nat:=AE.casesOn x (fun ω ω ω ω=>0) (fun ω ω=>1) (fun ω ω ω=>2) (fun ω ω ω ω ω=>3) (fun ω ω ω=>4) (fun ω ω ω ω=>5) (fun ω ω=>6) (fun ω ω=>7) (fun ω ω ω=>8) (fun ω ω ω=>9) (fun ω ω ω ω=>10) (fun ω ω=>11) (fun ω ω ω=>12) (fun ω ω ω ω=>13) (fun ω ω ω ω ω ω=>14) (fun ω ω ω=>15) (fun ω ω ω ω=>16) (fun ω ω ω ω ω ω ω=>17) (fun ω ω ω=>18) (fun ω ω ω ω ω=>19) (fun ω ω ω ω ω ω ω=>20)
noncomputable def AI.ctorIdx (x:AI):Nat:=AI.casesOn x (fun ω=>0) (fun ω ω ω ω=>1) (fun ω ω ω ω ω=>2) (fun ω ω ω ω=>3)
mutual
noncomputable def AT.un:AT→Expr
 | .name x _ p=> .Name x p
 | .tup ts k p=> .Tuple (unTs ts) k p
noncomputable def unTs:List AT→List Expr
 | []=> []
 | t::r=>t.un::unTs r
end
mutual
noncomputable def AT.er:AT→T
 | .name _ i _=> .name i
 | .tup ts _ _=> .tup (erTs ts)
noncomputable def erTs:List AT→List T
 | []=> []
 | t::r=>t.er::erTs r
end
mutual
noncomputable def AT.ok (t:Tx) (sc:Scope):AT→Bool
 | .name x i _=>ownB sc x&&decide (t.id x=some i)
 | .tup ts _ _=>okTs t sc ts
noncomputable def okTs (t:Tx) (sc:Scope):List AT→Bool
 | []=>true
 | a::r=>a.ok t sc&&okTs t sc r
end
mutual
noncomputable def AE.un:AE→Expr
 | .cst k _ n p=> .Constant k n p
 | .dbg x p=> .Name x p
 | .glob x _ p=> .Name x p
 | .clsA c p x q _=> .Attribute (.Name c p) x q
 | .var x _ p=> .Name x p
 | .bin o a b p=> .BinOp a.un (unBop o) b.un p
 | .neg a p=> .UnaryOp .USub a.un p
 | .not a p=> .UnaryOp .Not a.un p
 | .and a b p=> .BoolOp .And [a.un,b.un] p
 | .or a b p=> .BoolOp .Or [a.un,b.un] p
 | .ite q a b p=> .IfExp q.un a.un b.un p
 | .list es p=> .List (unL es) p
 | .tup es k p=> .Tuple (unL es) k p
 | .cmp o a b p=> .Compare a.un [unCop o] [b.un] p
 | .slice a l u s q p=> .Subscript a.un (.Slice (unO l) (unO u) (unO s) q) p
 | .sub a i p=> .Subscript a.un i.un p
 | .attr a x _ p=> .Attribute a.un x p
 | .callM o x _ q as ks p=> .Call (.Attribute o.un x q) (unL as) (unK ks) p
 | .call f as p=> .Call f.un (unL as) [] p
 | .dsub ks vs q i p=> .Subscript (.Dict (ks.map fun k=>some (.Constant (.int k.1) k.2.1 k.2.2)) (unL vs) q) i.un p
 | .comp elt tg it ifs sc _ p=> .ListComp elt.un [⟨tg.un,it.un,unL ifs,0⟩] sc p
noncomputable def AK.un:AK→Keyword
 | .mk x _ e p=>⟨some x,e.un,p⟩
noncomputable def AI.un:AI→Expr
 | .plain e=>e.un
 | .enum z zp e q=> .Call (.Name z zp) [e.un] [] q
 | .zip z zp a b q=> .Call (.Name z zp) [a.un,b.un] [] q
 | .items e x xp q=> .Call (.Attribute e.un x xp) [] [] q
noncomputable def unL:List AE→List Expr
 | []=> []
 | a::r=>a.un::unL r
noncomputable def unO:Option AE→Option Expr
 | .none=> .none
 | some a=>some a.un
noncomputable def unK:List AK→List Keyword
 | []=> []
 | k::r=>k.un::unK r
end
mutual
noncomputable def AE.er:AE→E
 | .cst _ v _ _=> .lit v
 | .dbg _ _=> .lit (.bool true)
 | .glob _ v _=> .lit v
 | .clsA _ _ _ _ v=> .lit v
 | .var _ i _=> .var i
 | .bin o a b _=> .bin o a.er b.er
 | .neg a _=> .neg a.er
 | .not a _=> .not a.er
 | .and a b _=> .and a.er b.er
 | .or a b _=> .or a.er b.er
 | .ite q a b _=> .ite q.er a.er b.er
 | .list es _=> .list (erL es)
 | .tup es _ _=> .tup (erL es)
 | .cmp o a b _=> .cmp o a.er b.er
 | .slice a l u s _ _=> .slice a.er (erO l) (erO u) (erO s)
 | .sub a i _=> .sub a.er i.er
 | .attr a _ i _=> .attr a.er i
 | .callM o _ i _ as ks _=> .callM o.er i (erL as) (erK ks)
 | .call f as _=> .call f.er (erL as)
 | .dsub ks vs _ i _=> .dsub (ks.map (fun ω=>ω.1)) (erL vs) i.er
 | .comp elt tg it ifs _ own _=> .comp elt.er [.mk tg.er it.er (erL ifs)] own
noncomputable def AK.er:AK→Nat×E
 | .mk _ i e _=>(i,e.er)
noncomputable def AI.er:AI→It
 | .plain e=> .plain e.er
 | .enum _ _ e _=> .enum e.er
 | .zip _ _ a b _=> .zip a.er b.er
 | .items e _ _ _=> .items e.er
noncomputable def erL:List AE→List E
 | []=> []
 | a::r=>a.er::erL r
noncomputable def erO:Option AE→Option E
 | .none=> .none
 | some a=>some a.er
noncomputable def erK:List AK→List (Nat×E)
 | []=> []
 | k::r=>k.er::erK r
end
noncomputable def cstV:Const→Option V
 | .none=>some .none
 | .bool b=>some (.bool b)
 | .int i=>some (.int i)
 | .str s=>some (.str s.cps.toList)
 | _=> .none
noncomputable def cstOk (k:Const) (v:V):Bool:=match k with
 | .none=>match v with
  | .none=>true
  | _=>false
 | .bool b=>match v with
  | .bool c=>b==c
  | _=>false
 | .int i=>match v with
  | .int j=>decide (i=j)
  | _=>false
 | .str s=>match v with
  | .str x=>decide (s.cps.toList=x)
  | _=>false
 | _=>false
mutual
noncomputable def AE.ok (t:Tx):Scope→AE→Bool
 | _,.cst k v _ _=>cstOk k v
 | _,.dbg x _=>x==("__debug__":Str)
 | sc,.glob x v _=> !(x==("__debug__":Str))&&(decide (qw sc x=some false)&&vIs (t.glob x) v)
 | sc,.clsA c _ x _ v=>decide (qw sc c=some false)&&(!(c==("__debug__":Str))&&(match t.glob c with
  | some (.cst (.ref ad))=>vIs (t.clsAttr ad x) v
  | _=>false))
 | sc,.var x i _=> !(x==("__debug__":Str))&&(!(x==("__classdict__":Str))&&(decide (qw sc x=some true)&&decide (t.id x=some i)))
 | sc,.bin o a b _=>a.ok t sc&&b.ok t sc
 | sc,.neg a _=>a.ok t sc
 | sc,.not a _=>a.ok t sc
 | sc,.and a b _=>a.ok t sc&&b.ok t sc
 | sc,.or a b _=>a.ok t sc&&b.ok t sc
 | sc,.ite q a b _=>q.ok t sc&&(a.ok t sc&&b.ok t sc)
 | sc,.list es _=>okL t sc es
 | sc,.tup es _ _=>okL t sc es
 | sc,.cmp o a b _=>a.ok t sc&&b.ok t sc
 | sc,.slice a l u s _ _=>a.ok t sc&&(okO t sc l&&(okO t sc u&&okO t sc s))
 | sc,.sub a i _=> !jy i.un&&(a.ok t sc&&i.ok t sc)
 | sc,.attr a x i _=> !jl a.un&&(a.ok t sc&&decide (t.id x=some i))
 | sc,.callM o x i q as ks p=>decide (q.endLine=p.line)&&(!jl o.un&&(Nat.ble (as.length+ks.length) 20&&(o.ok t sc&&(decide (t.id x=some i)&&(okL t sc as&&okK t sc ks)))))
 | sc,.call f as _=> !isAttr f.un&&(f.ok t sc&&okL t sc as)
 | sc,.dsub ks vs _ i _=>decide (ks.map (fun ω=>ω.1)).Nodup&&(ks.all (fun k=>fit k.1)&&(decide (ks.length=vs.length)&&(Nat.ble vs.length 15&&(okL t sc vs&&(!jy i.un&&i.ok t sc)))))
 | sc,.comp elt tg it ifs sc' own _=>decide (sc'.kind= .function)&&(jM sc sc'&&(elt.ok t sc'&&(tg.ok t sc'&&(it.ok t sc&&(okL t sc' ifs&&decide (wa t sc'.names=some own))))))
noncomputable def AK.ok (t:Tx):Scope→AK→Bool
 | sc,.mk x i e _=>decide (t.id x=some i)&&e.ok t sc
noncomputable def AI.ok (t:Tx):Scope→AI→Bool
 | sc,.plain e=>e.ok t sc
 | sc,.enum z _ e _=>qY t sc z (.type "enumerate")&&e.ok t sc
 | sc,.zip z _ a b _=>qY t sc z (.type "zip")&&(a.ok t sc&&b.ok t sc)
 | sc,.items e x xp q=>x==("items":Str)&&(decide (xp.endLine=q.line)&&(!jl e.un&&e.ok t sc))
noncomputable def okL (t:Tx):Scope→List AE→Bool
 | _,[]=>true
 | sc,a::r=>a.ok t sc&&okL t sc r
noncomputable def okO (t:Tx):Scope→Option AE→Bool
 | _,.none=>true
 | sc,some a=>a.ok t sc
noncomputable def okK (t:Tx):Scope→List AK→Bool
 | _,[]=>true
 | sc,k::r=>k.ok t sc&&okK t sc r
end
noncomputable def mapT {α β:Type} (f:α→Option β):List α→Option (List β)
 | []=>some []
 | x::r=>match f x with
  | some y=>match mapT f r with
   | some ys=>some (y::ys)
   | none=>none
  | none=>none
noncomputable def one {α β:Type} (d:β) (f:α→β):List α→β
 | [a]=>f a
 | _=>d
noncomputable def toT (t:Tx) (n:Nat):Expr→Option AT:=Nat.rec (fun ω=>none) (fun ω ih=>exN none (fun x p=>(t.id x).map fun i=> .name x i p) (fun es k p=>(mapT ih es).map fun ts=> .tup ts k p) (fun ω ω ω ω=>none) (fun ω ω ω=>none) (fun ω ω ω ω=>none) (fun ω ω ω=>none)) n
noncomputable def toO {α β:Type} (f:α→Option β) (o:Option α):Option (Option β):=Option.casesOn o (some none) fun x=>(f x).map some
noncomputable def toEn {α:Type} (t:Tx) (sc:Scope) (f:Expr→Option AE) (it:Expr) (k:Option AI→α):α:=
 let d:=(f it).map AI.plain
 k (asCall d (fun g as ω q=>exN d (fun z zp=>cond (qY t sc z (.type "enumerate")) (as.head?.bind fun a=>(f a).map fun a'=>AI.enum z zp a' q)
  (cond (qY t sc z (.type "zip")) (as.head?.bind fun a=>(as.drop 1).head?.bind fun b=>(f a).bind fun a'=>(f b).map fun b'=>AI.zip z zp a' b' q) d)) (fun ω ω ω=>d) (fun ω ω ω ω=>d) (fun e x xp=>cond (x==("items":Str)) ((f e).map fun e'=>AI.items e' x xp q) d) (fun ω ω ω ω=>d) (fun ω ω ω=>d) g) it)
noncomputable def toDk (o:Option Expr):Option (Int×Nat×Pos):=o.bind fun e=>exC none (fun ω ω ω=>none) (fun ω ω ω ω=>none) (fun ω ω ω=>none) (fun ω ω ω ω=>none) (fun ω ω ω ω=>none) (fun ω ω ω ω=>none) (fun ω ω ω ω=>none) (fun k m p=>(cstV k).bind fun v=>(jz v).map fun i=>(i,m,p)) (fun ω ω ω=>none) (fun ω ω ω=>none) (fun ω ω=>none) (fun ω ω=>none) (fun ω ω ω=>none) (fun ω ω ω ω=>none) (fun ω ω ω=>none) e
noncomputable def toDs (g:Expr→Option AE) (d:Option AE) (a i:Expr) (p:Pos):Option AE:=
 exC d (fun ω ω ω=>d) (fun ω ω ω ω=>d) (fun ω ω ω=>d) (fun ω ω ω ω=>d) (fun ω ω ω ω=>d) (fun ω ω ω ω=>d) (fun ω ω ω ω=>d) (fun ω ω ω=>d) (fun ω ω ω=>d) (fun ω ω ω=>d) (fun ω ω=>d) (fun ω ω=>d) (fun ω ω ω=>d) (fun ω ω ω ω=>d)
  (fun ks vs q=>(mapT toDk ks).bind fun ks'=>(mapT g vs).bind fun vs'=>(g i).map fun i'=> .dsub ks' vs' q i' p) a
noncomputable def toK (t:Tx) (g:Expr→Option AE) (k:Keyword):Option AK:=k.arg.bind fun a=>(t.id a).bind fun i=>(g k.value).map fun e'=>AK.mk a i e' k.pos
noncomputable def refO (v:V):Option Addr:=match v with
 | .cst c=>(match c with
  | .ref ad=>some ad
  | _=>none)
 | _=>none
noncomputable def toCa (t:Tx) (x:Str) (o:Expr) (q:Pos) (sc:Scope) (d:Option AE):Option AE:=
 zdb d (fun c p=>cond (qw sc c==some false) ((t.glob c).bind fun v=>(refO v).bind fun ad=>(t.clsAttr ad x).map fun v=> .clsA c p x q v) d) o
noncomputable def toA (t:Tx) (n:Nat):Scope→Expr→Option AE:=Nat.rec (fun ω ω=>none) (fun ω ih sc=>
 exC none (fun es op p=>(es.head?).bind fun a=>(es.drop 1).head?.bind fun b=>(ih sc a).bind fun a'=>(ih sc b).map fun b'=>BoolOp.casesOn op (.and a' b' p) (.or a' b' p))
  (fun a b op p=>(trBop op).bind fun o=>(ih sc a).bind fun a'=>(ih sc b).map fun b'=> .bin o a' b' p)
  (fun a op p=>(ih sc a).map fun a'=>cond (op== .Not) (.not a' p) (.neg a' p))
  (fun q a b p=>(ih sc q).bind fun q'=>(ih sc a).bind fun a'=>(ih sc b).map fun b'=> .ite q' a' b' p)
  (fun elt gs sc' p=>one none (fun g=>(ih sc' elt).bind fun e'=>(toT t 9 g.target).bind fun tg'=>(mapT (ih sc') g.ifs).bind fun ifs'=>(wa t sc'.names).bind fun own=>toEn t sc (ih sc) g.iter fun o=>o.map fun it'=> .comp e' tg' it' ifs' sc' own p) gs)
  (fun a ops bs p=>one none (fun op=>one none (fun b=>(trCop op).bind fun o=>(ih sc a).bind fun a'=>(ih sc b).map fun b'=> .cmp o a' b' p) bs) ops)
  (fun f as ks p=>asAttr ((ih sc f).bind fun f'=>(mapT (ih sc) as).map fun as'=> .call f' as' p) (fun o x q=>(ih sc o).bind fun o'=>(t.id x).bind fun i=>(mapT (ih sc) as).bind fun as'=>(mapT (toK t (ih sc)) ks).map fun ks'=> .callM o' x i q as' ks' p) f)
  (fun k m p=>(cstV k).map fun v=> .cst k v m p)
  (fun a x q=>toCa t x a q sc ((ih sc a).bind fun a'=>(t.id x).map fun i=> .attr a' x i q))
  (fun a i p=>toDs (ih sc) ((ih sc a).bind fun a'=>asSlice ((ih sc i).map fun i'=> .sub a' i' p) (fun l u s q=>(toO (ih sc) l).bind fun l'=>(toO (ih sc) u).bind fun u'=>(toO (ih sc) s).map fun s'=> .slice a' l' u' s' q p) i) a i p)
  (fun x p=>cond (x==("__debug__":Str)) (some (.dbg x p)) ((qw sc x).bind fun b=>cond b ((t.id x).map fun i=> .var x i p) ((t.glob x).map fun v=> .glob x v p)))
  (fun es p=>(mapT (ih sc) es).map fun es'=> .list es' p)
  (fun es k p=>(mapT (ih sc) es).map fun es'=> .tup es' k p)
  (fun ω ω ω ω=>none) (fun ω ω ω=>none)) n
noncomputable def T.id? :T→Option Nat
 | .name i=>some i
 | .tup _=>none
noncomputable def XI (e:Expr):Bool:=Nat.beq e.ctorIdx 8
noncomputable def JG:Expr→Bool:=asTup true fun vs ω ω=> !(vs.all (constantsAlone 8)) || vs.all (foldedForSure 8)
set_option genCtorIdx false in
inductive AN where
 | mk (x:Str) (i:Nat) (p:Pos)
set_option genCtorIdx false in
inductive AS where
 | names (xs:List AN) (e:AE) (p:Pos)
 | unpack (ts:List AT) (k:Nat) (q:Pos) (e:AE) (p:Pos)
 | setAttr (o:AE) (x:Str) (i:Nat) (q:Pos) (e:AE) (p:Pos)
 | setSub (o i:AE) (q:Pos) (e:AE) (p:Pos)
 | setAll (o:AE) (qs q:Pos) (e:AE) (p:Pos)
 | del (o i:AE) (q p:Pos)
 | expr (e:AE) (p:Pos)
 | ite (q:AE) (a b:List AS) (p:Pos)
 | whil (q:AE) (b:List AS) (p:Pos)
 | for_ (tg:AT) (it:AI) (b:List AS) (p:Pos)
 | ret (e:Option AE) (p:Pos)
 | brk (p:Pos)
 | pass (p:Pos)
 | bad (s:Stmt)
noncomputable def AS.ctorIdx (x:AS):Nat:=AS.casesOn x (fun ω ω ω=>0) (fun ω ω ω ω ω=>1) (fun ω ω ω ω ω ω=>2) (fun ω ω ω ω ω=>3) (fun ω ω ω ω ω=>4) (fun ω ω ω ω=>5) (fun ω ω=>6) (fun ω ω ω ω=>7) (fun ω ω ω=>8) (fun ω ω ω ω=>9) (fun ω ω=>10) (fun ω=>11) (fun ω=>12) (fun ω=>13)
noncomputable def AN.un:AN→Expr
 | .mk x _ p=> .Name x p
noncomputable def AN.er:AN→Nat
 | .mk _ i _=>i
noncomputable def AN.ok (t:Tx) (sc:Scope):AN→Bool
 | .mk x i _=>ownB sc x&&decide (t.id x=some i)
mutual
noncomputable def AS.un:AS→Stmt
 | .names xs e p=> .Assign (xs.map AN.un) e.un p
 | .unpack ts k q e p=> .Assign [.Tuple (unTs ts) k q] e.un p
 | .setAttr o x _ q e p=> .Assign [.Attribute o.un x q] e.un p
 | .setSub o i q e p=> .Assign [.Subscript o.un i.un q] e.un p
 | .setAll o qs q e p=> .Assign [.Subscript o.un (.Slice none none none qs) q] e.un p
 | .del o i q p=> .Delete [.Subscript o.un i.un q] p
 | .expr e p=> .Expr e.un p
 | .ite q a b p=> .If q.un (unSs a) (unSs b) p
 | .whil q b p=> .While q.un (unSs b) [] p
 | .for_ tg it b p=> .For tg.un it.un (unSs b) [] p
 | .ret e p=> .Return (unO e) p
 | .brk p=> .Break p
 | .pass p=> .Pass p
 | .bad s=>s
noncomputable def unSs:List AS→List Stmt
 | []=> []
 | a::r=>a.un::unSs r
end
mutual
noncomputable def AS.er:AS→S
 | .names xs e _=> .names (xs.map AN.er) e.er
 | .unpack ts _ _ e _=> .unpack (erTs ts) e.er
 | .setAttr o _ i _ e _=> .setAttr o.er i e.er
 | .setSub o i _ e _=> .setSub o.er i.er e.er
 | .setAll o _ _ e _=> .setAll o.er e.er
 | .del o i _ _=> .del o.er i.er
 | .expr e _=> .expr e.er
 | .ite q a b _=> .ite q.er (erSs a) (erSs b)
 | .whil q b _=> .whil q.er (erSs b)
 | .for_ tg it b _=> .for_ tg.er it.er (erSs b)
 | .ret e _=> .ret (erO e)
 | .brk _=> .brk
 | .pass _=> .pass
 | .bad _=> .bad
noncomputable def erSs:List AS→List S
 | []=> []
 | a::r=>a.er::erSs r
end
mutual
noncomputable def AS.ok (t:Tx) (sc:Scope):AS→Bool
 | .names xs e _=> !xs.isEmpty&&(xs.all (AN.ok t sc)&&e.ok t sc)
 | .unpack ts _ _ e _=>JG e.un&&(decide ((erTs ts).filterMap T.id?).Nodup&&(okTs t sc ts&&e.ok t sc))
 | .setAttr o x i _ e _=> !XI e.un&&(o.ok t sc&&(decide (t.id x=some i)&&e.ok t sc))
 | .setSub o i _ e _=> !jy i.un&&(o.ok t sc&&(i.ok t sc&&e.ok t sc))
 | .setAll o _ _ e _=>o.ok t sc&&e.ok t sc
 | .del o i _ _=> !jy i.un&&(o.ok t sc&&i.ok t sc)
 | .expr e _=> !XI e.un&&e.ok t sc
 | .ite q a b _=>q.ok t sc&&(okSs t sc a&&okSs t sc b)
 | .whil q b _=>q.ok t sc&&okSs t sc b
 | .for_ tg it b _=>tg.ok t sc&&(it.ok t sc&&okSs t sc b)
 | .ret e _=>okO t sc e
 | .brk _=>true
 | .pass _=>true
 | .bad _=>true
noncomputable def okSs (t:Tx) (sc:Scope):List AS→Bool
 | []=>true
 | a::r=>a.ok t sc&&okSs t sc r
end
noncomputable def toN (t:Tx):Expr→Option AN:=zdb none fun x p=>(t.id x).map fun i=> .mk x i p
noncomputable def toS (t:Tx) (sc:Scope) (n:Nat):Stmt→Option AS:=Nat.rec (fun ω=>none) (fun ω ih s=>
 stC (some (.bad s)) (fun e p=>(toO (toA t 60 sc) e).map fun e'=> .ret e' p)
  (fun ts p=>ts.head?.bind fun a=>exN (some (.bad s)) (fun ω ω=>some (.bad s)) (fun ω ω ω=>some (.bad s)) (fun ω ω ω ω=>some (.bad s)) (fun ω ω ω=>some (.bad s)) (fun ω ω ω ω=>some (.bad s)) (fun o i q=>(toA t 60 sc o).bind fun o'=>(toA t 60 sc i).map fun i'=> .del o' i' q p) a)
  (fun ts v p=>(toA t 60 sc v).bind fun v'=>ts.head?.bind fun a=>exN (some (.bad s)) (fun ω ω=>(mapT (toN t) ts).map fun xs=> .names xs v' p) (fun ts k q=>(mapT (toT t 9) ts).map fun ts'=> .unpack ts' k q v' p) (fun ω ω ω ω=>none) (fun o x q=>(toA t 60 sc o).bind fun o'=>(t.id x).map fun i=> .setAttr o' x i q v' p) (fun ω ω ω ω=>none) (fun o i q=>cond (jy i) (asSlice (some (.bad s)) (fun l u st qs=>cond (l.isNone&&(u.isNone&&st.isNone)) ((toA t 60 sc o).map fun o'=> .setAll o' qs q v' p) (some (.bad s))) i) ((toA t 60 sc o).bind fun o'=>(toA t 60 sc i).map fun i'=> .setSub o' i' q v' p)) a)
  (fun tg it b ω p=>(toT t 9 tg).bind fun tg'=>toEn t sc (toA t 60 sc) it fun o=>o.bind fun it'=>(mapT ih b).map fun b'=> .for_ tg' it' b' p)
  (fun q b ω p=>(toA t 60 sc q).bind fun q'=>(mapT ih b).map fun b'=> .whil q' b' p)
  (fun q a b p=>(toA t 60 sc q).bind fun q'=>(mapT ih a).bind fun a'=>(mapT ih b).map fun b'=> .ite q' a' b' p)
  (fun v p=>(toA t 60 sc v).map fun v'=> .expr v' p)
  (fun p=>some (.pass p)) (fun p=>some (.brk p)) s) n
noncomputable def toSs (t:Tx) (sc:Scope) (ss:List Stmt):List AS:=(mapT (toS t sc 60) ss).getD []
noncomputable def WF (l:List (Txt×Int×Tok×Tok)):List (Txt×V):=l.map fun p=>(p.1,.int p.2.1)
noncomputable def ZB (Γ:G) (over:Cf) (fe fs:Nat):Nat→Cf
 | 0,f,as,ks,σ=>over f as ks σ
 | n+1,f,as,ks,σ=>match over f as ks σ with
  | some r=>some r
  | .none=>match Γ.fns.lookup f with
   | some F=>qR Γ (ZB Γ over fe fs n) fe fs F as ks σ
   | .none=> .none
theorem Xl (Γ:G) (over:Cf) (fe fs n:Nat) (f:Addr) (as:List V) (ks:List (Nat×V)) (σ:H):ZB Γ over fe fs (n+1) f as ks σ=(match over f as ks σ with
  | some r=>some r
  | .none=>match Γ.fns.lookup f with
   | some F=>qR Γ (ZB Γ over fe fs n) fe fs F as ks σ
   | .none=> .none):=rfl
noncomputable def Yb (Γ:G) (fe fs n:Nat):Cf:=ZB Γ (fun ω ω ω ω=> .none) fe fs n
end MI
end T2
section T3
open PySem PySem.Spec PySem.Calls PyProof.Rows PySem.W
namespace MI
structure Rh where
 ob:List (Addr×Addr)
 pv:List Addr
noncomputable def Rh.own (r:Rh) (b:Addr):Prop:= ∃p∈r.ob,b=p.1∨b=p.2
noncomputable def Rh.mut (r:Rh) (b:Addr):Prop:=r.own b∨b∈r.pv
noncomputable def lstO (items:List Value) (n:Nat):Obj:= {cls:= .type "list",data:= .seq items.toArray n}
noncomputable def tupO (items:List Value) (n:Nat):Obj:= {cls:= .type "tuple",data:= .seq items.toArray n}
noncomputable def dctO (es:List DictEntry) (n:Nat):Obj:= {cls:= .type "dict",data:= .dict es.toArray n}
noncomputable def rngO (a b:Int) (t u v:Tok):Obj:= {cls:= .type "range",dict:=none,data:= .fields #[.int a t,.int b u,.int 1 v],slots:= #[]}
noncomputable def stO (s:Txt):Str:=⟨s.toArray⟩
mutual
inductive VR (P:Params) (r:Rh) (h:Heap):V→Value→Prop
 | none:VR P r h .none .none
 | bool (b:Bool):VR P r h (.bool b) (.bool b)
 | int (i:Int) (t:Tok):VR P r h (.int i) (.int i t)
 | str (s:Txt) (t:Tok):VR P r h (.str s) (.str (stO s) t)
 | ref (i:Nat) (p:Addr×Addr):r.ob[i]? =some p→VR P r h (.ref i) (.ref p.1)
 | cst (c:Value):VR P r h (.cst c) c
 | tup (vs:List V) (items:List Value) (n:Nat) (a:Addr):h.get? a=some (tupO items n)→ ¬r.mut a→VRs P r h vs items→items.length≤4000000→VR P r h (.tup vs) (.ref a)
 | flist (vs:List V) (items:List Value) (a:Addr):h.IsList a items.toArray→ ¬r.mut a→VRs P r h vs items→items.length≤4000000→VR P r h (.flist vs) (.ref a)
 | rng (a b:Int) (t u v:Tok) (x:Addr):h.get? x=some (rngO a b t u v)→ ¬r.mut x→VR P r h (.rng a b) (.ref x)
 | emp (n:Nat) (a:Addr):h.get? a=some (dctO [] n)→ ¬r.mut a→(a==sysModules)=false→VR P r h .emp (.ref a)
inductive VRs (P:Params) (r:Rh) (h:Heap):List V→List Value→Prop
 | nil:VRs P r h [] []
 | cons {v u vs us} :VR P r h v u→VRs P r h vs us→VRs P r h (v::vs) (u::us)
end
structure Step (r:Rh) (h:Heap) (r':Rh) (h':Heap):Prop where
 ext: ∃τ,r'.ob=r.ob++τ∧ ∀p∈τ,h.get? p.1=none∧h.get? p.2=none
 pv:r'.pv=r.pv
 keep: ∀b o,h.get? b=some o→ ¬r.own b→h'.get? b=some o
 live: ∀b o,h.get? b=some o→ ∃o',h'.get? b=some o'
theorem Step.refl (r:Rh) (h:Heap):Step r h r h:=⟨⟨[],by simp,fun ω hp=>nomatch hp⟩,rfl,fun ω ω e ω=>e,fun ω o e=>⟨o,e⟩⟩
theorem Step.own_old {r r':Rh} {h h':Heap} (S:Step r h r' h') {b:Addr} {o:Obj} (e:h.get? b=some o) (hb:r'.own b):r.own b:=by
 refine k12 (S.ext) fun τ hτ hf=> ?_
 refine k12 hb fun p hp hb=> ?_
 rw [hτ] at hp
 rcases zt.mp hp with hp | hp
 ·exact ⟨p,hp,hb⟩
 ·refine k02 (hf p hp) fun h1 h2=> ?_
  rcases hb with rfl | rfl
  ·rw [h1] at e;exact ns e
  ·rw [h2] at e;exact ns e
theorem Step.own_new {r r':Rh} {h h':Heap} (S:Step r h r' h') {b:Addr} (hb:r.own b):r'.own b:=by
 refine k12 (S.ext) fun τ hτ hf=> ?_
 refine k12 hb fun p hp hb=> ?_
 exact ⟨p,by rw [hτ];exact zC _ hp,hb⟩
theorem Step.mut_old {r r':Rh} {h h':Heap} (S:Step r h r' h') {b:Addr} {o:Obj} (e:h.get? b=some o) (hb:r'.mut b):r.mut b:=by
 rcases hb with hb | hb
 ·exact .inl (S.own_old e hb)
 ·exact .inr (S.pv▸hb)
theorem Step.trans {r r' r'':Rh} {h h' h'':Heap} (S:Step r h r' h') (S':Step r' h' r'' h''):Step r h r'' h'':=by
 refine ⟨?_,S'.pv.trans S.pv,fun b o e hb=>S'.keep b o (S.keep b o e hb) fun hb'=>hb (S.own_old e hb'),fun b o e=> ?_⟩
 ·refine k12 (S.ext) fun τ hτ hf=> ?_
  refine k12 (S'.ext) fun τ' hτ' hf'=> ?_
  refine ⟨τ++τ',by rw [hτ',hτ,zW],fun p hp=> ?_⟩
  rcases zt.mp hp with hp | hp
  ·exact hf p hp
  ·have no: ∀a,h'.get? a=none→h.get? a=none:=fun a ha=>by
    cases q:h.get? a with
    | none=>rfl
    | some o=>obtain ⟨o',e'⟩:=S.live a o q;rw [ha] at e';exact ns e'
   exact ⟨no _ (hf' p hp).1,no _ (hf' p hp).2⟩
 ·refine k11 (S.live b o e) fun o' e'=> ?_
  exact S'.live b o' e'
theorem Step.grow {r:Rh} {h h':Heap} (k: ∀b o,h.get? b=some o→h'.get? b=some o):Step r h r h':=
 ⟨⟨[],by simp,fun ω hp=>nomatch hp⟩,rfl,fun b o e ω=>k b o e,fun b o e=>⟨o,k b o e⟩⟩
theorem Step.at_ob {r r':Rh} {h h':Heap} (S:Step r h r' h') {i:Nat} {p:Addr×Addr} (e:r.ob[i]? =some p):r'.ob[i]? =some p:=by
 refine k12 (S.ext) fun τ hτ ω=> ?_
 have hl:=zV e
 rw [hτ,zH hl];exact e
structure Mv (r:Rh) (h:Heap) (r':Rh) (h':Heap):Prop where
 ob: ∀(i:Nat) (p:Addr×Addr),r.ob[i]? =some p→r'.ob[i]? =some p
 fz: ∀a o,h.get? a=some o→ ¬r.mut a→h'.get? a=some o∧ ¬r'.mut a
theorem VRs.ind {P:Params} {r:Rh} {h:Heap} {M:List V→List Value→Prop} (n:M [] []) (c: ∀ {v u vs us},VR P r h v u→VRs P r h vs us→M vs us→M (v::vs) (u::us)) {vs:List V} {us:List Value} (x:VRs P r h vs us):M vs us:=
 VRs.rec (motive_1:=fun ω ω ω=>True) (motive_2:=fun vs us ω=>M vs us) trivial (fun ω=>trivial) (fun ω ω=>trivial) (fun ω ω=>trivial) (fun ω ω ω=>trivial) (fun ω=>trivial) (fun ω ω ω ω ω ω ω ω ω=>trivial) (fun ω ω ω ω ω ω ω ω=>trivial) (fun ω ω ω ω ω ω ω ω=>trivial) (fun ω ω ω ω ω=>trivial) n (fun a b ω i=>c a b i) x
noncomputable def VRi (P:Params) (r:Rh) (h:Heap) (v:V) (u:Value):Prop:=match v with
 | .none=>u= .none
 | .bool b=>u= .bool b
 | .int i=> ∃t,u= .int i t
 | .str s=> ∃t,u= .str (stO s) t
 | .ref i=> ∃p,u= .ref p.1∧r.ob[i]? =some p
 | .cst c=>u=c
 | .tup vs=> ∃items n a,u= .ref a∧h.get? a=some (tupO items n)∧ ¬r.mut a∧VRs P r h vs items∧items.length≤4000000
 | .flist vs=> ∃items a,u= .ref a∧h.IsList a items.toArray∧ ¬r.mut a∧VRs P r h vs items∧items.length≤4000000
 | .rng a b=> ∃t u' w y,u= .ref y∧h.get? y=some (rngO a b t u' w)∧ ¬r.mut y
 | .emp=> ∃n a,u= .ref a∧h.get? a=some (dctO [] n)∧ ¬r.mut a∧(a==sysModules)=false
theorem VR.inv {P:Params} {r:Rh} {h:Heap} {v:V} {u:Value} (x:VR P r h v u):VRi P r h v u:=
 VR.rec (motive_1:=fun v u ω=>VRi P r h v u) (motive_2:=fun ω ω ω=>True) rfl (fun ω=>rfl) (fun ω t=>⟨t,rfl⟩) (fun ω t=>⟨t,rfl⟩) (fun ω p e=>⟨p,rfl,e⟩) (fun ω=>rfl)
  (fun ω items n a e f x l ω=>⟨items,n,a,rfl,e,f,x,l⟩) (fun ω items a e f x l ω=>⟨items,a,rfl,e,f,x,l⟩) (fun ω ω t u' w y e f=>⟨t,u',w,y,rfl,e,f⟩) (fun n a e f g=>⟨n,a,rfl,e,f,g⟩) trivial (fun ω ω ω ω=>trivial) x
noncomputable def VRsi (P:Params) (r:Rh) (h:Heap) (vs:List V) (us:List Value):Prop:=match vs with
 | []=>us= []
 | v::vs=> ∃u r',us=u::r'∧VR P r h v u∧VRs P r h vs r'
theorem VRs.inv {P:Params} {r:Rh} {h:Heap} {vs:List V} {us:List Value} (x:VRs P r h vs us):VRsi P r h vs us:=x.ind (M:=VRsi P r h) rfl fun a b ω=>⟨_,_,rfl,a,b⟩
theorem VR.mv {P:Params} {r r':Rh} {h h':Heap} (M:Mv r h r' h') {v:V} {u:Value} (x:VR P r h v u):VR P r' h' v u:=
 VR.rec (motive_1:=fun v u ω=>VR P r' h' v u) (motive_2:=fun vs us ω=>VRs P r' h' vs us) .none .bool .int .str (fun i p e=> .ref i p (M.ob i p e)) .cst
  (fun vs items n a e f ω l x=> .tup vs items n a (M.fz a _ e f).1 (M.fz a _ e f).2 x l)
  (fun vs items a e f ω l x=> .flist vs items a (e.elim fun o q=>⟨o,(M.fz a o q.1 f).1,q.2⟩) (e.elim fun o q=>(M.fz a o q.1 f).2) x l)
  (fun a b t u v x e f=> .rng a b t u v x (M.fz x _ e f).1 (M.fz x _ e f).2) (fun n a e f g=> .emp n a (M.fz a _ e f).1 (M.fz a _ e f).2 g) .nil (fun ω ω a b=> .cons a b) x
theorem VRs.mv {P:Params} {r r':Rh} {h h':Heap} (M:Mv r h r' h') {vs:List V} {us:List Value} (x:VRs P r h vs us):VRs P r' h' vs us:=x.ind .nil fun a ω i=> .cons (a.mv M) i
theorem Step.mv {r r':Rh} {h h':Heap} (S:Step r h r' h'):Mv r h r' h':=
 ⟨fun ω ω e=>S.at_ob e,fun a o e f=>⟨S.keep a o e fun q=>f (.inl q),fun q=>f (S.mut_old e q)⟩⟩
theorem VR.step {P:Params} {r r':Rh} {h h':Heap} {v:V} {u:Value} (x:VR P r h v u) (S:Step r h r' h'):VR P r' h' v u:=x.mv S.mv
theorem VRs.step {P:Params} {r r':Rh} {h h':Heap} {v:List V} {u:List Value} (x:VRs P r h v u) (S:Step r h r' h'):VRs P r' h' v u:=x.mv S.mv
theorem VRs.length {P:Params} {r:Rh} {h:Heap} {vs:List V} {us:List Value} (x:VRs P r h vs us):us.length=vs.length:=x.ind (M:=fun vs us=>us.length=vs.length) rfl fun ω ω i=>congrArg Nat.succ i
theorem VRs.append {P:Params} {r:Rh} {h:Heap} {vs:List V} {us:List Value} {vs':List V} {us':List Value} (x:VRs P r h vs us) (y:VRs P r h vs' us'):VRs P r h (vs++vs') (us++us'):=
 x.ind (M:=fun vs us=>VRs P r h (vs++vs') (us++us')) y fun a ω i=> .cons a i
theorem VRs.get {P:Params} {r:Rh} {h:Heap} {vs:List V} {us:List Value} {i:Nat} {v:V} (x:VRs P r h vs us) (e:vs[i]? =some v): ∃u,us[i]? =some u∧VR P r h v u:=
 x.ind (M:=fun vs us=> ∀i:Nat,vs[i]? =some v→ ∃u,us[i]? =some u∧VR P r h v u) (fun ω e=>ns e) (fun a ω f i e=>by
  cases i with
  | zero=>cases e;exact ⟨_,rfl,a⟩
  | succ i=>exact f i e) i e
theorem VRs.none {P:Params} {r:Rh} {h:Heap} {vs:List V} {us:List Value} {i:Nat} (x:VRs P r h vs us) (e:vs[i]? = .none):us[i]? = .none:=by
 rw [List.getElem?_eq_none_iff] at e⊢
 rw [x.length];exact e
theorem VRs.set {P:Params} {r:Rh} {h:Heap} {vs:List V} {us:List Value} {i:Nat} {v:V} {u:Value} (x:VRs P r h vs us) (y:VR P r h v u):VRs P r h (vs.set i v) (us.set i u):=
 x.ind (M:=fun vs us=> ∀i:Nat,VRs P r h (vs.set i v) (us.set i u)) (fun ω=> .nil) (fun a b f i=>by
  cases i with
  | zero=>exact .cons y b
  | succ i=>exact .cons a (f i)) i
theorem VRs.take {P:Params} {r:Rh} {h:Heap} (n:Nat) {vs:List V} {us:List Value} (x:VRs P r h vs us):VRs P r h (vs.take n) (us.take n):=
 x.ind (M:=fun vs us=> ∀n:Nat,VRs P r h (vs.take n) (us.take n)) (fun n=>by rw [List.take_nil,List.take_nil];exact .nil) (fun a ω f n=>by
  cases n with
  | zero=>exact .nil
  | succ n=>exact .cons a (f n)) n
theorem VRs.drop {P:Params} {r:Rh} {h:Heap} (n:Nat) {vs:List V} {us:List Value} (x:VRs P r h vs us):VRs P r h (vs.drop n) (us.drop n):=
 x.ind (M:=fun vs us=> ∀n:Nat,VRs P r h (vs.drop n) (us.drop n)) (fun n=>by rw [List.drop_nil,List.drop_nil];exact .nil) (fun a b f n=>by
  cases n with
  | zero=>exact .cons a b
  | succ n=>exact f n) n
theorem VRs.reverse {P:Params} {r:Rh} {h:Heap} {vs:List V} {us:List Value} (x:VRs P r h vs us):VRs P r h vs.reverse us.reverse:=
 x.ind (M:=fun vs us=>VRs P r h vs.reverse us.reverse) .nil fun a ω i=>by rw [yF,yF];exact i.append (.cons a .nil)
inductive OR (P:Params) (ids:List Str) (r:Rh) (h:Heap):O→Addr×Addr→Prop
 | list (vs:List V) (items:List Value) (n:Nat) (a:Addr):h.get? a=some (lstO items n)→VRs P r h vs items→items.length≤4000000→OR P ids r h (.list vs) (a,a)
 | inst (C:Addr) (fs:List (Nat×V)) (a d:Addr) (es:List DictEntry) (n:Nat):a≠d→h.get? a=some (instObj C d)→h.get? d=some (dctO es n)→es.length≤fs.length→(es.any (fun ω=>ω.refKey))=false→
   (∀i x v,ids[i]? =some x→look i fs=some v→ ∃u,getL x es=some (some u)∧VR P r h v u)→(∀i x,ids[i]? =some x→look i fs= .none→getL x es=some .none)→
   OR P ids r h (.inst C fs) (a,d)
structure Rel (P:Params) (ids:List Str) (h₀:Heap) (r:Rh) (σ:H) (h:Heap):Prop where
 base: ∀b o,h₀.get? b=some o→h.get? b=some o
 len:r.ob.length=σ.length
 obj: ∀(i:Nat) o p,σ[i]? =some o→r.ob[i]? =some p→OR P ids r h o p
 fresh: ∀b,r.mut b→h₀.get? b= .none
 apart:r.ob.Pairwise fun p q=>p.1≠q.1∧p.1≠q.2∧p.2≠q.1∧p.2≠q.2
 pvo: ∀b∈r.pv,¬r.own b
 pvl: ∀b∈r.pv,∃o,h.get? b=some o
theorem OR.mv {P:Params} {ids:List Str} {r r':Rh} {h h':Heap} (M:Mv r h r' h') {o:O} {p:Addr×Addr} (k: ∀ob,h.get? p.1=some ob→h'.get? p.1=some ob) (k2: ∀ob,h.get? p.2=some ob→h'.get? p.2=some ob) (x:OR P ids r h o p):OR P ids r' h' o p:=
 OR.rec (motive:=fun o p ω=>(∀ob,h.get? p.1=some ob→h'.get? p.1=some ob)→(∀ob,h.get? p.2=some ob→h'.get? p.2=some ob)→OR P ids r' h' o p)
  (fun vs items n a e x l k ω=> .list vs items n a (k _ e) (x.mv M) l)
  (fun C fs a d es n ne e1 e2 le nr hv hn k k2=> .inst C fs a d es n ne (k _ e1) (k2 _ e2) le nr (fun i x v e e'=>(hv i x v e e').elim fun u q=>⟨u,q.1,q.2.mv M⟩) hn) x k k2
noncomputable def ORi (P:Params) (ids:List Str) (r:Rh) (h:Heap) (o:O) (p:Addr×Addr):Prop:=match o with
 | .list vs=> ∃items n,p.2=p.1∧h.get? p.1=some (lstO items n)∧VRs P r h vs items∧items.length≤4000000
 | .inst C fs=> ∃es n,p.1≠p.2∧h.get? p.1=some (instObj C p.2)∧h.get? p.2=some (dctO es n)∧es.length≤fs.length∧(es.any (fun ω=>ω.refKey))=false∧
   (∀i x v,ids[i]? =some x→look i fs=some v→ ∃u,getL x es=some (some u)∧VR P r h v u)∧(∀i x,ids[i]? =some x→look i fs= .none→getL x es=some .none)
theorem OR.inv {P:Params} {ids:List Str} {r:Rh} {h:Heap} {o:O} {p:Addr×Addr} (x:OR P ids r h o p):ORi P ids r h o p:=
 OR.rec (motive:=fun o p ω=>ORi P ids r h o p) (fun ω items n ω e x l=>⟨items,n,rfl,e,x,l⟩) (fun ω ω ω ω es n h1 h2 h3 h4 h5 h6 h7=>⟨es,n,h1,h2,h3,h4,h5,h6,h7⟩) x
theorem OR.live {P:Params} {ids:List Str} {r:Rh} {h:Heap} {o:O} {p:Addr×Addr} (x:OR P ids r h o p):(∃ob,h.get? p.1=some ob)∧ ∃ob,h.get? p.2=some ob:=
 OR.rec (motive:=fun o p ω=>(∃ob,h.get? p.1=some ob)∧ ∃ob,h.get? p.2=some ob) (fun ω ω ω ω e ω ω=>⟨⟨_,e⟩,⟨_,e⟩⟩) (fun ω ω ω ω ω ω ω e1 e2 ω ω ω ω=>⟨⟨_,e1⟩,⟨_,e2⟩⟩) x
section
variable {P:Params} {ids:List Str} {h₀:Heap} {r:Rh} {σ:H} {h h':Heap}
theorem Rel.there (R:Rel P ids h₀ r σ h) {i:Nat} {o:O} (e:σ[i]? =some o): ∃p,r.ob[i]? =some p∧OR P ids r h o p:=by
 have hl:=zV e
 have hl':i < r.ob.length:=R.len▸hl
 exact ⟨r.ob[i],zj hl',R.obj i o _ e (zj hl')⟩
theorem Rel.ownLive (R:Rel P ids h₀ r σ h) {b:Addr} (hb:r.own b): ∃o,h.get? b=some o:=by
 refine k12 hb fun p hp hb=> ?_
 refine k11 (xh hp) fun i hi=> ?_
 have hl:=zV hi
 have hl':i < σ.length:=R.len▸hl
 have:=(R.obj i _ p (zj hl') hi).live
 rcases hb with rfl | rfl
 ·exact this.1
 ·exact this.2
theorem Rel.mutLive (R:Rel P ids h₀ r σ h) {b:Addr} (hb:r.mut b): ∃o,h.get? b=some o:=hb.elim R.ownLive (R.pvl b)
theorem Rel.grow (R:Rel P ids h₀ r σ h) (k: ∀b o,h.get? b=some o→h'.get? b=some o):Rel P ids h₀ r σ h' where
 base:=fun b o e=>k b o (R.base b o e)
 len:=R.len
 obj:=fun i o p e e'=>(R.obj i o p e e').mv ⟨fun ω ω e=>e,fun a o e f=>⟨k a o e,f⟩⟩ (fun ω e=>k _ _ e) fun ω e=>k _ _ e
 fresh:=R.fresh
 apart:=R.apart
 pvo:=R.pvo
 pvl:=fun b hb=>by obtain ⟨o,e⟩:=R.pvl b hb;exact ⟨o,k b o e⟩
theorem Rel.push (R:Rel P ids h₀ r σ h) {o:O} {p:Addr×Addr} (k: ∀b ob,h.get? b=some ob→h'.get? b=some ob) (n1:h.get? p.1= .none) (n2:h.get? p.2= .none)
  (ho:OR P ids {r with ob:=r.ob++ [p]} h' o p):Rel P ids h₀ {r with ob:=r.ob++ [p]} (σ++ [o]) h'∧Step r h {r with ob:=r.ob++ [p]} h':=by
 have S:Step r h {r with ob:=r.ob++ [p]} h':=⟨⟨[p],rfl,fun q hq=>by rw [zv.mp hq];exact ⟨n1,n2⟩⟩,rfl,fun b ob e ω=>k b ob e,fun b ob e=>⟨ob,k b ob e⟩⟩
 refine ⟨⟨fun b ob e=>k b ob (R.base b ob e),by simp [R.len],fun i o' q e e'=> ?_,fun b hb=> ?_,?_,fun b hb hown=> ?_,fun b hb=>by obtain ⟨ob,e⟩:=R.pvl b hb;exact ⟨ob,k b ob e⟩⟩,S⟩
 ·by_cases hi:i < σ.length
  ·rw [zH hi] at e
   rw [zH (R.len▸hi)] at e'
   exact (R.obj i o' q e e').mv S.mv (fun ω e=>k _ _ e) fun ω e=>k _ _ e
  ·have hl:i < σ.length+1:=(zd (as:=σ) (bs:= [o]))▸(zR.mp e).1
   cases zS (wR hl) (qo hi)
   rw [zJ (zo _),xG] at e
   rw [←R.len,zJ (zo _),xG] at e'
   (refine si e fun q9=> ?_;subst q9;clear e);cases e'
   exact ho
 ·cases q:h₀.get? b with
  | none=>rfl
  | some ob=>
   have:=S.mut_old (R.base b ob q) hb
   rw [R.fresh b this] at q;exact ns q
 ·refine Zz.mpr ⟨R.apart,XO _ _,fun q hq q' hq'=> ?_⟩
  rw [zv.mp hq']
  refine k11 (R.ownLive ⟨q,hq,.inl rfl⟩) fun o1 e1=> ?_
  refine k11 (R.ownLive ⟨q,hq,.inr rfl⟩) fun o2 e2=> ?_
  have no: ∀ {a b:Addr} {ob},h.get? b= .none→h.get? a=some ob→a≠b:=fun n e z=>ns (n.symm.trans (z▸e))
  exact ⟨no n1 e1,no n2 e1,no n1 e2,no n2 e2⟩
 ·refine k12 hown fun q hq hb'=> ?_;clear hown
  rcases zt.mp hq with hq | hq
  ·exact R.pvo b hb ⟨q,hq,hb'⟩
  ·rw [zv.mp hq] at hb'
   refine k11 (R.pvl b hb) fun ob e=> ?_
   rcases hb' with rfl | rfl
   ·rw [n1] at e;exact ns e
   ·rw [n2] at e;exact ns e
theorem Rel.upd (R:Rel P ids h₀ r σ h) {i:Nat} {o:O} {p:Addr×Addr} (hp:r.ob[i]? =some p) (k: ∀b ob,h.get? b=some ob→b≠p.1→b≠p.2→h'.get? b=some ob)
  (lv: ∀b ob,h.get? b=some ob→ ∃ob',h'.get? b=some ob') (ho: ∀(M:Mv r h r h'),OR P ids r h' o p):Rel P ids h₀ r (σ.set i o) h'∧Step r h r h':=by
 have hm:p∈r.ob:=zM hp
 have o1:r.own p.1:=⟨p,hm,.inl rfl⟩
 have o2:r.own p.2:=⟨p,hm,.inr rfl⟩
 have S:Step r h r h':=⟨⟨[],by simp,fun ω hq=>nomatch hq⟩,rfl,fun b ob e f=>k b ob e (fun z=>f (z▸o1)) fun z=>f (z▸o2),lv⟩
 refine ⟨⟨fun b ob e=> ?_,by simp [R.len],fun j o' q e e'=> ?_,R.fresh,R.apart,R.pvo,fun b hb=> ?_⟩,S⟩
 ·have e':=R.base b ob e
  refine k b ob e' (fun z=> ?_) fun z=> ?_
  ·have:=R.fresh p.1 (.inl o1);rw [←z,e] at this;exact sn this
  ·have:=R.fresh p.2 (.inl o2);rw [←z,e] at this;exact sn this
 ·by_cases hj:j=i
  ·subst hj
   rw [hp] at e';(refine si e' fun q21=> ?_;subst q21;clear e')
   rw [jt (by have hl:=zV e;simpa using hl)] at e
   cases e
   exact ho S.mv
  ·rw [xH (Ne.symm hj)] at e
   have A:=List.pairwise_iff_getElem.mp R.apart
   obtain ⟨li,ei⟩:=zR.mp hp
   obtain ⟨lj,ej⟩:=zR.mp e'
   have ne:q.1≠p.1∧q.1≠p.2∧q.2≠p.1∧q.2≠p.2:=by
    rcases Nat.lt_or_gt_of_ne hj with lt | lt
    ·have:=A j i lj li lt
     rw [ei,ej] at this;exact this
    ·have:=A i j li lj lt
     rw [ei,ej] at this
     exact ⟨Ne.symm this.1,Ne.symm this.2.2.1,Ne.symm this.2.1,Ne.symm this.2.2.2⟩
   exact (R.obj j o' q e e').mv S.mv (fun ob e=>k _ ob e ne.1 ne.2.1) fun ob e=>k _ ob e ne.2.2.1 ne.2.2.2
 ·refine k11 (R.pvl b hb) fun ob e=> ?_
  exact ⟨ob,k b ob e (fun z=>R.pvo b hb (z▸o1)) fun z=>R.pvo b hb (z▸o2)⟩
end
theorem xj {α:Type} {b:Bool} {x y:α} (e:(if b=true then some x else .none)=some y):b=true∧y=x:=by
 cases b with
 | true=>(refine si e fun q1=> ?_;subst q1;clear e);exact ⟨rfl,rfl⟩
 | false=>exact ns e
theorem if_i {α:Type} {b:Bool} {x:Option α} {y:α} (e:(if b=true then x else .none)=some y):b=true∧x=some y:=by
 cases b with
 | true=>exact ⟨rfl,e⟩
 | false=>exact ns e
theorem zB {a b:Bool} (h:(a&&b)=true):a=true∧b=true:=by
 cases a with
 | true=>exact ⟨rfl,h⟩
 | false=>exact ft h
theorem bb_i {β:Type} {f:Bool→H→Option β} {o:Option (Bool×H)} {y:β} (e:(match o with
  | some (v,σ')=>f v σ'
  | .none=> .none)=some y): ∃v σ',o=some (v,σ')∧f v σ'=some y:=by
 cases o with
 | none=>exact ns e
 | some x=>exact ⟨x.1,x.2,rfl,e⟩
theorem vh_i {β:Type} {f:V→H→Option β} {o:Option (V×H)} {y:β} (e:(match o with
  | some (v,σ')=>f v σ'
  | .none=> .none)=some y): ∃v σ',o=some (v,σ')∧f v σ'=some y:=by
 cases o with
 | none=>exact ns e
 | some x=>exact ⟨x.1,x.2,rfl,e⟩
theorem vs_i {β:Type} {f:List V→H→Option β} {o:Option (List V×H)} {y:β} (e:(match o with
  | some (v,σ')=>f v σ'
  | .none=> .none)=some y): ∃v σ',o=some (v,σ')∧f v σ'=some y:=by
 cases o with
 | none=>exact ns e
 | some x=>exact ⟨x.1,x.2,rfl,e⟩
theorem kv_i {β:Type} {f:List (Nat×V)→H→Option β} {o:Option (List (Nat×V)×H)} {y:β} (e:(match o with
  | some (v,σ')=>f v σ'
  | .none=> .none)=some y): ∃v σ',o=some (v,σ')∧f v σ'=some y:=by
 cases o with
 | none=>exact ns e
 | some x=>exact ⟨x.1,x.2,rfl,e⟩
theorem QG {α:Type} {o:Option α} {f:α→Bool} (h:o.any f=true): ∃x,o=some x∧f x=true:=by
 cases o with
 | none=>exact ft h
 | some x=>exact ⟨x,rfl,h⟩
theorem jh {a:Bool} (h:(!a)=true):a=false:=by
 cases a with
 | true=>exact ft h
 | false=>rfl
theorem Yj {σ:H} {i:Nat} {xs:List V} (e:yn σ (.ref i)=some xs):σ[i]? =some (.list xs):=by
 replace e:(match σ[i]? with | some (.list xs)=>some xs | _=> .none)=some xs:=e
 cases q:σ[i]? with
 | none=>rw [q] at e;exact ns e
 | some o=>
  rw [q] at e
  cases o with
  | list ys=>exact congrArg (fun x=>some (O.list x)) (za e)
  | inst C fs=>exact ns e
theorem qr {σ:H} {v:V} {xs:List V} (e:yn σ v=some xs): ∃i,v= .ref i∧σ[i]? =some (.list xs):=by
 cases v with
 | ref i=>
  replace e:(match σ[i]? with
   | some (.list xs)=>some xs
   | _=> .none)=some xs:=e
  cases h:σ[i]? with
  | none=>rw [h] at e;exact ns e
  | some o=>
   rw [h] at e
   cases o with
   | list ys=>(refine si e fun q13=> ?_;subst q13;clear e);exact ⟨i,rfl,h⟩
   | inst _ _=>exact ns e
 | _=>exact ns e
structure Cx where
 prog:Program
 w:World
 K:Frag
 h₀:Heap
 mg:Str→Option Value
 mb:Str→Option Value
 p:Program
 loose:List Str
 X:K.In h₀
 T:TopRead p loose mg mb h₀
 Γ:G
 t:Tx
noncomputable abbrev Cx.R (c:Cx) (r:Rh) (σ:H) (h:Heap):Prop:=Rel c.w.params c.t.ids c.h₀ r σ h
noncomputable abbrev Cx.V (c:Cx) (r:Rh) (h:Heap) (v:V) (u:Value):Prop:=VR c.w.params r h v u
noncomputable abbrev Cx.M (c:Cx):Model:=model c.prog c.w
noncomputable def Out (c:Cx) (r:Rh) (s:Shared) (σ':H) (v:V) (Q:Value→Shared→Prop):Prop:=
 ∀u r' h' tk,c.R r' σ' h'→Step r s.heap r' h'→c.V r' h' v u→Q u {s with heap:=h',toks:=tk}
theorem Out.cast {c:Cx} {r:Rh} {s:Shared} {σ' σ₀:H} {v v₀:V} {Q:Value→Shared→Prop} (O:Out c r s σ' v Q) (e:some (v₀,σ₀)=some (v,σ')):Out c r s σ₀ v₀ Q:=by cases e;exact O
theorem Out.to {c:Cx} {r:Rh} {s:Shared} {σ' σ₀:H} {v v₀:V} {Q:Value→Shared→Prop} (O:Out c r s σ' v Q) (h1:v=v₀) (h2:σ'=σ₀):Out c r s σ₀ v₀ Q:=h1▸h2▸O
theorem Out.same {c:Cx} {r:Rh} {s:Shared} {σ:H} {v:V} {Q:Value→Shared→Prop} (O:Out c r s σ v Q) (R:c.R r σ s.heap) {u:Value} (x:c.V r s.heap v u) (tk:Nat):Q u {s with toks:=tk} :=O u r s.heap tk R (Step.refl _ _) x
theorem Out.here {c:Cx} {r:Rh} {s:Shared} {σ:H} {v:V} {Q:Value→Shared→Prop} (O:Out c r s σ v Q) (R:c.R r σ s.heap) {u:Value} (x:c.V r s.heap v u):Q u s:=O u r s.heap s.toks R (Step.refl _ _) x
theorem jv {n:Nat} (h:szOk n=true):n≤1000000:=zg h
set_option tactic.hygienic true in
theorem YN {vs:List V} {σ σ':H} {v:V} (e:mkL vs σ=some (v,σ')):vs.length≤1000000∧v= .ref σ.length∧σ'=σ++ [.list vs]:=by
 unfold mkL at e
 split at e
 ·rename_i h;(refine sp e fun q19 q20=> ?_;subst q19;subst q20;clear e);exact ⟨jv h,rfl,rfl⟩
 ·exact ns e
set_option tactic.hygienic true in
theorem mkS_eq {x:Txt} {σ σ':H} {v:V} (e:mkS x σ=some (v,σ')):x.length≤1000000∧v= .str x∧σ'=σ:=by
 unfold mkS at e
 split at e
 ·rename_i h;(refine sp e fun q23 q24=> ?_;subst q23;subst q24;clear e);exact ⟨jv h,rfl,rfl⟩
 ·exact ns e
set_option tactic.hygienic true in
theorem mkI_eq {i:Int} {v:V} (e:mkI i=some v):fit i=true∧v= .int i:=by
 unfold mkI at e
 split at e
 ·rename_i h;(refine si e fun q27=> ?_;subst q27;clear e);exact ⟨h,rfl⟩
 ·exact ns e
theorem jA {i:Int} :fit i=true↔ -4611686018427387904 < i∧i < 4611686018427387904:=by
 unfold fit;simp [yC]
theorem JX {i:Int} {σ σ':H} {v:V} (e:(mkI i).map (fun ω=>(ω,σ))=some (v,σ')):fit i=true∧v= .int i∧σ'=σ:=by
 cases h:mkI i with
 | none=>rw [h] at e;exact ns e
 | some v'=>
  rw [h] at e
  refine k02 (mkI_eq h) fun f q1=> ?_;subst q1
  (refine sp e fun q34 q35=> ?_;subst q34;subst q35;clear e)
  exact ⟨f,rfl,rfl⟩
theorem Out.list {c:Cx} {r:Rh} {s:Shared} {σ σ':H} {v:V} {Q:Value→Shared→Prop} {vs:List V} {items:List Value} (O:Out c r s σ' v Q) (e:mkL vs σ=some (v,σ')) (R:c.R r σ s.heap)
  (x:VRs c.w.params r s.heap vs items) (tk:Nat):Q (.ref s.heap.objs.size) {s with heap:=s.heap.push (lstO items 0),toks:=tk} :=by
 refine k03 (YN e) fun hl q2 q3=> ?_;subst q2;subst q3
 have none_:s.heap.get? s.heap.objs.size= .none:=by
  cases q:s.heap.get? s.heap.objs.size with
  | none=>rfl
  | some o=>exact absurd (yr q) (yI _)
 have k: ∀b ob,s.heap.get? b=some ob→(s.heap.push (lstO items 0)).get? b=some ob:=fun b ob e=>zn _ e
 have mv:Mv r s.heap {r with ob:=r.ob++ [(s.heap.objs.size,s.heap.objs.size)]} (s.heap.push (lstO items 0)):=Step.mv ⟨⟨_,rfl,fun q hq=>by rw [zv.mp hq];exact ⟨none_,none_⟩⟩,rfl,fun b ob e ω=>k b ob e,fun b ob e=>⟨ob,k b ob e⟩⟩
 refine k02 (R.push (p:=(s.heap.objs.size,s.heap.objs.size)) k none_ none_ (.list vs items 0 _ (zD _ rfl) (x.mv mv) (by rw [x.length];lia))) fun R' S'=> ?_
 refine O _ _ _ tk R' S' ?_
 refine .ref _ (s.heap.objs.size,s.heap.objs.size) ?_
 show (r.ob++ [_])[σ.length]? =_
 rw [←R.len,zJ (zo _),xG];rfl
theorem Rel.listAt {P:Params} {ids:List Str} {h₀:Heap} {r:Rh} {σ:H} {h:Heap} (R:Rel P ids h₀ r σ h) {i:Nat} {vs:List V} (e:σ[i]? =some (.list vs)) {u:Value} (x:VR P r h (.ref i) u):
  ∃a items n,u= .ref a∧r.ob[i]? =some (a,a)∧h.get? a=some (lstO items n)∧VRs P r h vs items∧items.length≤4000000:=by
 refine k12 x.inv fun p q hp=> ?_;subst q
 refine k24 (R.obj i _ p e hp).inv fun items n q h1 h2 h3=> ?_
 cases p with
 | mk a b=>cases q;exact ⟨a,items,n,rfl,hp,h1,h2,h3⟩
theorem Rel.listIs {P:Params} {ids:List Str} {h₀:Heap} {r:Rh} {σ:H} {h:Heap} (R:Rel P ids h₀ r σ h) {i:Nat} {vs:List V} (e:σ[i]? =some (.list vs)) {a b:Addr} (hp:r.ob[i]? =some (a,b)): ∃items n,h.get? a=some (lstO items n)∧VRs P r h vs items:=by
 refine k24 (R.obj i _ _ e hp).inv fun items n q h1 h2 h3=>⟨items,n,h1,h2⟩
theorem yt {h:Heap} {a:Addr} {items:List Value} {n:Nat} (e:h.get? a=some (lstO items n)):h.IsList a items.toArray:=⟨_,e,rfl,n,rfl⟩
section
variable {c:Cx} {A:Around} {E:Value→Shared→Prop} {s:Shared} {r:Rh} {σ σ':H} {v:V} {Q:Value→Shared→Prop}
theorem yY (x:Txt):(stO x).length=x.length:=by simp [stO,PySem.Str.length]
theorem zb6 (x y:Txt):stO x++stO y=stO (x++y):=by
 show PySem.Str.append _ _=_
 simp [stO,PySem.Str.append]
theorem yL:4000000≤sizeLine:=by rw [sizeLine_eq];lia
set_option tactic.hygienic true in
theorem QM {x y:Txt} {t u:Tok} (R:c.R r σ s.heap) (e:mkS (x++y) σ=some (v,σ')) (O:Out c r s σ' v Q):wpAny c.M A (binaryOp .Add (.str (stO x) t) (.str (stO y) u)) Q E s:=by
 refine k03 (mkS_eq e) fun hl q4 q5=> ?_;subst q4;subst q5
 refine PySem.P.add_str ?_
 rw [yY,yY]
 split
 ·rename_i h0
  have:x= []:=yG.mp (by simpa using h0)
  subst this
  exact O.here R (.str y u)
 ·split
  ·rename_i h1
   have:y= []:=yG.mp (by simpa using h1)
   subst this
   rw [ym] at O
   exact O.here R (.str x t)
  ·rw [zb6]
   refine ⟨?_,O.same R (.str _ _) _⟩
   rw [yY]
   have:=yL;lia
theorem YR (a b:Nat):Builtin.bitAnd (Int.ofNat a) (Int.ofNat b)=Int.ofNat (Nat.land a b):=by
 unfold Builtin.bitAnd
 rw [decide_eq_true (show (0:Int)≤Int.ofNat a from xW a),decide_eq_true (show (0:Int)≤Int.ofNat b from xW b)]
 rfl
theorem land_le (a b:Nat):Nat.land a b≤a∧Nat.land a b≤b:=⟨Nat.and_le_left,Nat.and_le_right⟩
theorem bitOr_nat (a b:Nat):Builtin.bitOr (Int.ofNat a) (Int.ofNat b)=Int.ofNat (a+b - Nat.land a b):=by
 rw [bitOr_and,YR]
 exact (Int.ofNat_sub (zm (land_le a b).1 (xC a b))).symm
theorem zc4 (a b:Nat):Builtin.bitXor (Int.ofNat a) (Int.ofNat b)=Int.ofNat (a+b - 2*Nat.land a b):=by
 unfold Builtin.bitXor
 rw [bitOr_and,YR]
 have:=land_le a b
 simp only [Int.ofNat_eq_natCast]
 lia
theorem zc7 {f:Nat→Nat→Nat} {a b:Int} (e:binN f a b σ=some (v,σ')): ∃x y,a= .ofNat x∧b= .ofNat y∧v= .int (.ofNat (f x y))∧σ'=σ:=by
 cases a with
 | negSucc a=>exact ns e
 | ofNat x=>cases b with
  | negSucc b=>exact ns e
  | ofNat y=>
   replace e:(mkI (.ofNat (f x y))).map (fun ω=>(ω,σ))=some (v,σ'):=e
   exact k03 (JX e) fun ω q r=>⟨x,y,rfl,rfl,q,r⟩
theorem Out.mkI {i:Int} {σ σ':H} {v:V} {Q:Value→Shared→Prop} (O:Out c r s σ' v Q) (e:(MI.mkI i).map (fun ω=>(ω,σ))=some (v,σ')):Out c r s σ (.int i) Q:=k03 (JX e) fun ω q6 q7=>O.to q6 q7
theorem fit_mul {a b:Int} (h:fit a=true):IntMulOk a b:=by
 rw [jA] at h
 exact IntMulOk.of_left (intBits_le_64 (by lia) (by lia))
theorem small_div {b:Int} (h1:0 < b) (h2:b < 1000000000):b.natAbs < 1073741824:=k11 (ja (Int.le_of_lt h1)) fun k hk=>by rw [hk,Int.natAbs_natCast];exact we (Int.ofNat_lt.mp (hk▸h2)) (by decide)
theorem Wd {op:Bop} {a b:Int} {t u:Tok} (hA:A.handled=none) (R:c.R r σ s.heap) (e:Ze op (.int a) (.int b) σ=some (v,σ')) (O:Out c r s σ' v Q):
  wpAny c.M A (binaryOp (unBop op) (.int a t) (.int b u)) Q E s:=by
 cases op with
 | add=>exact PySem.P.add_int ((O.mkI e).same R (.int _ _) _)
 | sub=>exact PySem.P.sub_int ((O.mkI e).same R (.int _ _) _)
 | mul=>
  refine k02 (if_i (b:=fit a) (x:=(mkI (a*b)).map (fun ω=>(ω,σ))) e) fun hf e=> ?_
  exact PySem.P.mul_int ((O.mkI e).same R (.int _ _) _) (fit_mul hf)
 | fdiv=>
  replace e:(if (decide (0 < b)&&decide (b < 1000000000))=true then (mkI (Int.fdiv a b)).map (fun ω=>(ω,σ)) else .none)=some (v,σ'):=e
  refine k02 (if_i e) fun hf e=> ?_
  refine k02 (zB hf) fun h1 h2=> ?_
  replace h1:=of_decide_eq_true h1
  replace h2:=of_decide_eq_true h2
  exact floordiv_int_or hA (fun h0=>absurd h0 (Int.ne_of_gt h1)) (fun ω=>(O.mkI e).same R (.int _ _) _) (fun ω=> .inl (PyProof.noPylong_small (small_div h1 h2)))
 | mod=>
  refine k02 (if_i (b:=decide (0 < b)) (x:=(mkI (Int.fmod a b)).map (fun ω=>(ω,σ))) e) fun hf e=> ?_
  exact mod_int' (Int.ne_of_gt (of_decide_eq_true hf)) ((O.mkI e).same R (.int _ _) _)
 | band=>
  refine k24 (zc7 e) fun x y q1 q2 q3 q4=> ?_;subst q1;subst q2
  exact and_int (YR x y▸(O.to q3 q4).same R (.int _ _) _)
 | bor=>
  refine k24 (zc7 e) fun x y q1 q2 q3 q4=> ?_;subst q1;subst q2
  exact or_int (bitOr_nat x y▸(O.to q3 q4).same R (.int _ _) _)
 | bxor=>
  refine k24 (zc7 e) fun x y q1 q2 q3 q4=> ?_;subst q1;subst q2
  exact xor_int (zc4 x y▸(O.to q3 q4).same R (.int _ _) _)
theorem WL {xs ys:List V} {i j:Nat} {ux uy:Value} (R:c.R r σ s.heap) (hi:σ[i]? =some (.list xs)) (hj:σ[j]? =some (.list ys)) (x:c.V r s.heap (.ref i) ux) (y:c.V r s.heap (.ref j) uy)
  (e:mkL (xs++ys) σ=some (v,σ')) (O:Out c r s σ' v Q):wpAny c.M A (binaryOp .Add ux uy) Q E s:=by
 refine k35 (R.listAt hi x) fun a its n q18 ω ha hx lx=> ?_;subst q18
 refine k35 (R.listAt hj y) fun b its' n' q19 ω hb hy ly=> ?_;subst q19
 have hz:=yL
 refine k03 (YN e) fun hl ω ω=> ?_
 refine concat_meets ⟨_,ha,rfl⟩ ⟨_,hb,rfl⟩ noFill_list_add seq_list_add PySem.F.slot_list_add PySem.F.entry_list_add (PySem.F.args_list_add_2 _ _)
  (list_addW a b its.toArray its'.toArray n n' none none #[] #[] (by rw [zd,←hx.length,←hy.length] at hl;simp only [zz];lia)) ⟨ha,hb,?_⟩
 rw [show its.toArray++its'.toArray=(its++its').toArray by simp]
 exact O.list e R (hx.append hy) s.toks
theorem flat_fold (n:Nat) (its:List Value):List.foldl (fun x1 x2=>x1++x2) #[] (List.replicate n its.toArray)=(List.replicate n its).flatten.toArray:=by
 have g: ∀(n:Nat) (acc:Array Value),List.foldl (fun x1 x2=>x1++x2) acc (List.replicate n its.toArray)=acc++(List.replicate n its).flatten.toArray:=by
  intro n
  induction n with
  | zero=>intro acc;simp
  | succ n ih=>intro acc;rw [ZE,List.foldl_cons,ih,ZE,wS];simp [Array.append_assoc]
 rw [g];simp
theorem VRs.rep {P:Params} {r:Rh} {h:Heap} {vs:List V} {us:List Value} (x:VRs P r h vs us): ∀n:Nat,VRs P r h (List.replicate n vs).flatten (List.replicate n us).flatten
 | 0=> .nil
 | n+1=>by rw [ZE,wS,ZE,wS];exact x.append (x.rep n)
set_option tactic.hygienic true in
theorem WJ {xs:List V} {i:Nat} {k:Int} {t:Tok} {ux:Value} (R:c.R r σ s.heap) (hi:σ[i]? =some (.list xs)) (x:c.V r s.heap (.ref i) ux) (hk:k≤1000) (hf:fit k=true) (hlen:xs.length≤1000)
  (e:mkL (List.replicate k.toNat xs).flatten σ=some (v,σ')) (O:Out c r s σ' v Q):wpAny c.M A (binaryOp .Mult ux (.int k t)) Q E s:=by
 refine k35 (R.listAt hi x) fun a its n q20 ω ha hx lx=> ?_;subst q20
 rw [jA] at hf
 refine k03 (YN e) fun hl ω ω=> ?_
 have hsz:its.length*k.toNat≤1000*1000:=Yx (by rw [hx.length];exact hlen) (by lia)
 refine wpAny_binaryOp_repeat_ref (T:="list") (U:="int") (by decide) ⟨_,ha,rfl⟩ (fun s'=>typeIs_int s' k t) noFill_list_mul PySem.F.fills_int_mul PySem.F.slot_int_rmul repeat_list PySem.F.slot_int_index.lookup
  (call_meets PySem.F.slot_int_rmul (typeIs_int s k t) PySem.F.entry_int_rmul (PySem.F.args_int_rmul_2 _ _) (int___rmul___int_list k t a its.toArray n)
   ⟨ha,rfl,⟨_,ha,rfl⟩,call_meets PySem.F.slot_list_mul ⟨_,ha,rfl⟩ PySem.F.entry_list_mul (PySem.F.args_list_mul_2 _ _)
    (AutoListH.list___mul___list_int_3 a its.toArray n k t (by simp [Builtin.List.listFitsIndex];lia) (by simp only [zz];lia) (by simp [Builtin.List.listTooLong,sizeLine];lia))
    ⟨ha,?_⟩⟩)
 have:List.foldl (fun x1 x2=>x1++x2) #[] (List.replicate (if its.toArray.isEmpty=true then 0 else k.toNat) its.toArray)=(List.replicate k.toNat its).flatten.toArray:=by
  rw [flat_fold]
  split
  ·rename_i h0
   have:its= []:=by simpa using h0
   subst this
   simp
  ·rfl
 rw [this]
 exact O.list e R (hx.rep _) s.toks
theorem rmul_bool (b:Bool) (l:Addr) (items:Array Value) (n:Nat):
  Meets (Builtin.«int.__rmul__» ⟨[.bool b,.ref l],[]⟩) (fun ω R s=>s.heap.get? l=some {cls:= .type "list",dict:=none,data:= .seq items n,slots:= #[]} ∧R (.ok (.ret Value.notImplemented)) s):=
 .of_wp fun prog w A R s h=>by obtain ⟨hp,g,d,tk,os⟩:=s;obtain ⟨hl,h⟩:=h;wp_walk;exact ⟨_,rfl,h⟩
theorem mul_bool (l:Addr) (items:Array Value) (n:Nat) (b:Bool) (hs:items.size≤1000000):
  Meets (Builtin.«list.__mul__» ⟨[.ref l,.bool b],[]⟩) (fun ω R s=>s.heap.get? l=some {cls:= .type "list",dict:=none,data:= .seq items n,slots:= #[]} ∧R (.ok (.ret (Value.ref s.heap.objs.size))) {s with heap:=s.heap.push {cls:=Value.type "list",data:=Data.seq (if b then items else #[])},toks:=s.toks}):=
 .of_wp fun prog w A R s h=>by
  obtain ⟨hp,g,d,tk,os⟩:=s;obtain ⟨hl,h⟩:=h
  cases b
  ·wp_walk
   refine ⟨_,rfl,?_⟩
   have q:(if items.isEmpty=true then 0 else (if false=true then (1:Int) else 0).toNat)=0:=ite_self 0
   rw [q]
   exact h
  ·have hc1: ¬items.size*(if true=true then (1:Int) else 0).toNat>(2^63 - 1) / 8:=by show¬items.size*1>_;lia
   have hc2: ¬Builtin.List.listTooLong (items.size*(if true=true then (1:Int) else 0).toNat)=true:=by show¬Builtin.List.listTooLong (items.size*1)=true;simp [Builtin.List.listTooLong,sizeLine];lia
   have hsz:=AutoListH.joined_fits hc2
   wp_walk
   refine wpAny_ite_false (decide_eq_false hc1) ?_
   wp_walk
   refine wpAny_ite_false (decide_eq_false hc2) ?_
   wp_walk
   refine wpAny_ite_false (decide_eq_false (Nat.not_lt.mpr hsz)) ?_
   wp_walk
   refine ⟨_,rfl,?_⟩
   have q:List.foldl (fun x1 x2=>x1++x2) #[] (List.replicate (if items.isEmpty=true then 0 else (if true=true then (1:Int) else 0).toNat) items)=items:=by
    show List.foldl (fun x1 x2=>x1++x2) #[] (List.replicate (if items.isEmpty=true then 0 else 1) items)=items
    by_cases h0:items.isEmpty=true
    ·rw [if_pos h0,Array.isEmpty_iff.mp h0];rfl
    ·rw [if_neg h0];exact Array.empty_append
   rw [q]
   exact h
theorem ZK:Slot "bool" (dunderR "mul") "int.__rmul__":=
 .of (owner:="int") (n:="__rmul__") (by rw [Wq,jR];kernel_rfl) (by decide+kernel) (by decide+kernel) (by decide+kernel) (.inl (by decide+kernel)) (by rw [isSubtype_type];kernel_rfl)
theorem WK {xs:List V} {i:Nat} {b:Bool} {ux:Value} (R:c.R r σ s.heap) (hi:σ[i]? =some (.list xs)) (x:c.V r s.heap (.ref i) ux)
  (e:mkL (if b then xs else []) σ=some (v,σ')) (hlen:xs.length≤1000000) (O:Out c r s σ' v Q):wpAny c.M A (binaryOp .Mult ux (.bool b)) Q E s:=by
 refine k35 (R.listAt hi x) fun a its n q20 ω ha hx lx=> ?_;subst q20
 refine wpAny_binaryOp_repeat_ref (T:="list") (U:="bool") (by decide) ⟨_,ha,rfl⟩ (fun s'=>PySem.typeIs_bool s' b) noFill_list_mul PySem.F.fills_bool_mul ZK repeat_list PySem.F.slot_bool_index.lookup
  (call_meets ZK (PySem.typeIs_bool s b) PySem.F.entry_int_rmul (PySem.F.args_int_rmul_2 _ _) (rmul_bool b a its.toArray n)
   ⟨ha,rfl,⟨_,ha,rfl⟩,call_meets PySem.F.slot_list_mul ⟨_,ha,rfl⟩ PySem.F.entry_list_mul (PySem.F.args_list_mul_2 _ _) (mul_bool a its.toArray n b (by rw [zz,hx.length];exact hlen)) ⟨ha,?_⟩⟩)
 cases b
 ·exact O.list e R .nil s.toks
 ·exact O.list e R hx s.toks
end
mutual
noncomputable def toP:V→PyData
 | .none=> .none
 | .bool b=> .bool b
 | .int i=> .int i
 | .str s=> .str (stO s)
 | .tup vs=> .tuple (toPs vs)
 | .flist vs=> .list (toPs vs)
 | .ref _=> .none
 | .cst _=> .none
 | .rng _ _=> .none
 | .emp=> .none
noncomputable def toPs:List V→List PyData
 | []=> []
 | v::vs=>toP v::toPs vs
end
inductive IsD:V→Prop
 | none:IsD .none
 | bool b:IsD (.bool b)
 | int i:IsD (.int i)
 | str s:okS s=true→IsD (.str s)
 | tup vs:(∀v∈vs,IsD v)→IsD (.tup vs)
 | flist vs:(∀v∈vs,IsD v)→IsD (.flist vs)
theorem Ye {a b:Txt} :yW a b=true↔a=b:=by
 induction a generalizing b with
 | nil=>cases b with
  | nil=>exact ⟨fun ω=>rfl,fun ω=>rfl⟩
  | cons=>exact ⟨fun h=>ft h,fun h=>nomatch h⟩
 | cons x r ih=>cases b with
  | nil=>exact ⟨fun h=>ft h,fun h=>nomatch h⟩
  | cons y q=>
   show (Nat.beq x y&&yW r q)=true↔_
   rw [yC,ih,List.cons.injEq]
   exact ⟨fun h=>⟨wP h.1,h.2⟩,fun h=>⟨h.1▸qp _,h.2⟩⟩
theorem stO_inj {a b:Txt} :stO a=stO b↔a=b:=by
 unfold stO
 constructor
 ·intro h;injection h with h;simpa using h
 ·rintro rfl;rfl
theorem zaG (a b:Txt):yW a b=(stO a==stO b):=by
 rw [wM,Ye,beq_iff_eq,stO_inj]
theorem eqDs_of {xs:List V} (h: ∀v∈xs,∀ {b:V},IsD b→eqD v b=PyData.eqv (toP v) (toP b)) {ys:List V} (hy: ∀v∈ys,IsD v):eqDs xs ys=PyData.eqvAll (toPs xs) (toPs ys):=by
 induction xs generalizing ys with
 | nil=>cases ys <;>rfl
 | cons x xs ih=>cases ys with
  | nil=>rfl
  | cons y ys=>exact congr (congrArg and (h x (.head _) (hy y (.head _)))) (ih (fun v hv=>h v (.tail _ hv)) (fun v hv=>hy v (.tail _ hv)))
theorem zae {a b:V} (ha:IsD a) (hb:IsD b):eqD a b=PyData.eqv (toP a) (toP b):=by
 induction ha generalizing b with
 | none=>cases hb <;>rfl
 | bool x=>cases hb <;>rfl
 | int i=>cases hb <;>rfl
 | str s _=>cases hb with
  | str t _=>exact zaG s t
  | _=>rfl
 | tup vs _ ih=>cases hb with
  | tup ws hb=>exact eqDs_of ih hb
  | _=>rfl
 | flist vs _ ih=>cases hb with
  | flist ws hb=>exact eqDs_of ih hb
  | _=>rfl
theorem Jf {β:Type} {f:List V→β} {o:Option (List V)} {d:β} (e:(match o with
  | some ds=>some (f ds)
  | .none=> .none)=some d): ∃ds,o=some ds∧d=f ds:=by
 cases o with
 | none=>exact ns e
 | some x=>(refine si e fun q3=> ?_;subst q3;clear e);exact ⟨x,rfl,rfl⟩
theorem moV_i {β:Type} {f:V→Option β} {o:Option V} {d:β} (e:(match o with
  | some x=>f x
  | .none=> .none)=some d): ∃x,o=some x∧f x=some d:=by
 cases o with
 | none=>exact ns e
 | some x=>exact ⟨x,rfl,e⟩
theorem Xg {α:Type} {o:Option O} {f:List V→Option α} {y:α} (e:(match o with
  | some (.list vs)=>f vs
  | _=> .none)=some y): ∃vs,o=some (.list vs)∧f vs=some y:=by
 cases o with
 | none=>exact ns e
 | some x=>cases x with
  | list vs=>exact ⟨vs,rfl,e⟩
  | inst C fs=>exact ns e
theorem inst_i {α:Type} {o:Option O} {f:Addr→List (Nat×V)→Option α} {y:α} (e:(match o with
  | some (.inst C fs)=>f C fs
  | _=> .none)=some y): ∃C fs,o=some (.inst C fs)∧f C fs=some y:=by
 cases o with
 | none=>exact ns e
 | some x=>cases x with
  | list vs=>exact ns e
  | inst C fs=>exact ⟨C,fs,rfl,e⟩
theorem XF {f:V→Option V} {x:V} {r ys:List V} (e:mapO f (x::r)=some ys): ∃y q,ys=y::q∧f x=some y∧mapO f r=some q:=by
 refine k12 (moV_i (o:=f x) (f:=fun y=>match mapO f r with | some ys=>some (y::ys) | .none=> .none) e) fun y h e=> ?_
 refine k12 (Jf (o:=mapO f r) (f:=fun ys=>y::ys) e) fun q hq q1=> ?_;subst q1
 exact ⟨y,q,rfl,h,hq⟩
theorem jm {σ:H} : ∀(n:Nat) {v d:V},flat σ n v=some d→IsD d
 | 0,_,_,e=>by exact ns e
 | n+1,v,d,e=>by
  have all: ∀ {vs ds:List V},mapO (flat σ n) vs=some ds→ ∀x∈ds,IsD x:=by
   intro vs
   induction vs with
   | nil=>intro ds e;(refine si e fun q14=> ?_;subst q14;clear e);simp
   | cons a r ih=>
    intro ds e
    refine k23 (XF e) fun y q q2 hy hq=> ?_;subst q2
    intro x hx
    rcases zh.mp hx with rfl | hx
    ·exact jm n hy
    ·exact ih hq x hx
  cases v with
  | none=>(refine si e fun q17=> ?_;subst q17;clear e);exact .none
  | bool b=>(refine si e fun q19=> ?_;subst q19;clear e);exact .bool _
  | int i=>(refine si e fun q21=> ?_;subst q21;clear e);exact .int _
  | str x=>
   refine k02 (xj (b:=okS x) (x:=V.str x) e) fun h q3=> ?_;subst q3
   exact .str _ h
  | tup vs=>
   refine k12 (Jf (o:=mapO (flat σ n) vs) (f:=V.tup) e) fun ds hds q4=> ?_;subst q4
   exact .tup _ (all hds)
  | ref i=>
   refine k12 (Xg (o:=σ[i]?) (f:=fun vs=>match mapO (flat σ n) vs with | some ds=>some (V.flist ds) | .none=> .none) e) fun vs hvs e=> ?_
   refine k12 (Jf (o:=mapO (flat σ n) vs) (f:=V.flist) e) fun ds hds q5=> ?_;subst q5
   exact .flist _ (all hds)
  | cst _=>exact ns e
  | flist _=>exact ns e
  | rng _ _=>exact ns e
  | emp=>exact ns e
theorem strOk_of {s:Txt} (h:okS s=true):PyData.strOk (stO s)=true:=by
 unfold PyData.strOk stO
 unfold okS at h
 rw [←Array.all_toList]
 rw [zq] at h⊢
 intro x hx
 have:=h x hx
 exact decide_eq_true (zg this)
section
variable {P:Params} {ids:List Str} {h₀:Heap} {r:Rh} {σ:H} {h:Heap}
theorem zcU {a b n:Nat} (h1:a≤n) (h2:b≤n):max a b≤n:=Nat.max_le.mpr ⟨h1,h2⟩
noncomputable def Yc (h:Heap) (d:V) (u:Value) (n:Nat):Prop:= ∃as,Reads h u (toP d) as∧(toP d).canLay0=true∧(toP d).depth≤n
noncomputable def zau (h:Heap) (ds:List V) (us:List Value) (n:Nat):Prop:= ∃as,ReadsAll h us (toPs ds) as∧PyData.canLayAll0 (toPs ds)=true∧PyData.depthAll (toPs ds)≤n
theorem Yc.tup {ds:List V} {us:List Value} {n k:Nat} {a:Addr} (H:zau h ds us n) (ha:h.get? a=some (tupO us k)):Yc h (.tup ds) (.ref a) (n+1):=
 H.elim fun ω q=>⟨_,.tuple ha rfl rfl q.1,q.2.1,xc q.2.2⟩
theorem Yc.lst {ds:List V} {us:List Value} {n k:Nat} {a:Addr} (H:zau h ds us n) (ha:h.get? a=some (lstO us k)):Yc h (.flist ds) (.ref a) (n+1):=
 H.elim fun ω q=>⟨_,.list ha rfl rfl q.1,q.2.1,xc q.2.2⟩
theorem zbv {f:V→Option V} {n:Nat} (F: ∀ {v d:V} {u:Value},f v=some d→VR P r h v u→Yc h d u n): ∀ {vs ds:List V} {us:List Value},mapO f vs=some ds→VRs P r h vs us→zau h ds us n:=by
 intro vs
 induction vs with
 | nil=>intro ds us e x;cases x.inv;cases za e;exact ⟨[],.nil,rfl,zK _⟩
 | cons a r ih=>
  intro ds us e x
  refine k23 (XF e) fun y q q6 hy hq=> ?_;subst q6
  refine k23 x.inv fun u us' z x1 x2=> ?_;subst z
  refine k13 (F hy x1) fun as r1 c1 d1=> ?_
  refine k13 (ih hq x2) fun bs r2 c2 d2=> ?_
  exact ⟨_,.cons r1 r2,(congr (congrArg and c1) c2:_=(true&&true)),zcU d1 d2⟩
theorem flat_step (R:Rel P ids h₀ r σ h) {n:Nat} (F: ∀ {v d:V} {u:Value},flat σ n v=some d→VR P r h v u→Yc h d u n) {v d:V} {u:Value} (e:flat σ (n+1) v=some d) (x:VR P r h v u):Yc h d u (n+1):=by
 cases v with
 | none=>cases za e;cases x.inv;exact ⟨_,.none,rfl,zK _⟩
 | bool b=>cases za e;cases x.inv;exact ⟨_,.bool _,rfl,zK _⟩
 | int i=>cases za e;refine k11 x.inv fun t q=> ?_;subst q;exact ⟨_,.int _ _,rfl,zK _⟩
 | str t=>
  refine k02 (xj (b:=okS t) (x:=V.str t) e) fun hs q7=> ?_;subst q7
  refine k11 x.inv fun t q=> ?_;subst q;exact ⟨_,.str _ _,strOk_of hs,zK _⟩
 | tup vs=>
  refine k12 (Jf (o:=mapO (flat σ n) vs) (f:=V.tup) e) fun ds hds q8=> ?_;subst q8
  refine k35 x.inv fun items k a q ha hf hx hl=> ?_;subst q
  exact .tup (zbv F hds hx) ha
 | ref i=>
  refine k12 (Xg (o:=σ[i]?) (f:=fun vs=>match mapO (flat σ n) vs with | some ds=>some (V.flist ds) | .none=> .none) e) fun vs hvs e=> ?_
  refine k12 (Jf (o:=mapO (flat σ n) vs) (f:=V.flist) e) fun ds hds q9=> ?_;subst q9
  refine k35 (R.listAt hvs x) fun a items k q10 ω ha hx hl=> ?_;subst q10
  exact .lst (zbv F hds hx) ha
 | _=>exact ns e
theorem qg (R:Rel P ids h₀ r σ h) (n:Nat): ∀ {v d:V} {u:Value},flat σ n v=some d→VR P r h v u→Yc h d u n:=by
 induction n with
 | zero=>exact fun e ω=>ns e
 | succ n ih=>exact flat_step R ih
end
section
variable {c:Cx} {A:Around} {E:Value→Shared→Prop} {s:Shared} {r:Rh} {σ σ':H} {Q:Value→Shared→Prop} {a b:V} {ua ub:Value} {y:Bool}
theorem eqV_i (e:eqV σ a b=some y): ∃d d',flat σ 12 a=some d∧flat σ 12 b=some d'∧y=eqD d d':=by
 refine k12 (moV_i (o:=flat σ 12 a) (f:=fun x=>match flat σ 12 b with | some y=>some (eqD x y) | .none=> .none) e) fun d h e=> ?_
 refine k12 (moV_i (o:=flat σ 12 b) (f:=fun y=>some (eqD d y)) e) fun d' h' e=> ?_
 (refine si e fun q55=> ?_;subst q55;clear e)
 exact ⟨d,d',h,h',rfl⟩
theorem sound_eq (R:c.R r σ s.heap) (hu:A.units+100 < cLine) (x:c.V r s.heap a ua) (x':c.V r s.heap b ub) (e:eqV σ a b=some y) (h:Q (.bool y) s):wpAny c.M A (compareOp .Eq ua ub) Q E s:=by
 refine k23 (eqV_i e) fun d d' hd hd' q11=> ?_;subst q11
 refine k13 (qg R 12 hd x) fun as r1 c1 l1=> ?_
 refine k13 (qg R 12 hd' x') fun bs r2 c2 l2=> ?_
 exact SeqAt.compareEq_reads r1 r2 c1 c2 (by lia) (zae (jm _ hd) (jm _ hd')▸h)
theorem sound_ne (R:c.R r σ s.heap) (hu:A.units+100 < cLine) (x:c.V r s.heap a ua) (x':c.V r s.heap b ub) (e:eqV σ a b=some y) (h:Q (.bool (!y)) s):wpAny c.M A (compareOp .NotEq ua ub) Q E s:=by
 refine k23 (eqV_i e) fun d d' hd hd' q12=> ?_;subst q12
 refine k13 (qg R 12 hd x) fun as r1 c1 l1=> ?_
 refine k13 (qg R 12 hd' x') fun bs r2 c2 l2=> ?_
 exact SeqAt.compareNe_reads r1 r2 c1 c2 (by lia) (zae (jm _ hd) (jm _ hd')▸h)
theorem zbe {n:Nat} : ∀ {vs ds:List V},mapO (flat σ n) vs=some ds→ ∀x∈ds,IsD x
 | [],_,e=>by (refine si e fun q59=> ?_;subst q59;clear e);simp
 | a::r,_,e=>by
  refine k23 (XF e) fun y q q13 hy hq=> ?_;subst q13
  intro x hx
  rcases zh.mp hx with rfl | hx
  ·exact jm n hy
  ·exact zbe hq x hx
theorem any_eqv {d:V} (hd:IsD d): ∀ {ds:List V},(∀x∈ds,IsD x)→(ds.any fun e=>eqD e d)=(toPs ds).any fun y=>PyData.eqv y (toP d)
 | [],_=>by simp [toPs]
 | e::ds,h=>by
  simp only [toPs,Xs]
  rw [zae (h e (.head _)) hd,any_eqv hd fun x hx=>h x (.tail _ hx)]
theorem zcD (R:c.R r σ s.heap) {n i:Nat} {xs ds:List V} {u:Value} (hi:σ[i]? =some (.list xs)) (x:c.V r s.heap (.ref i) u) (e:mapO (flat σ n) xs=some ds):
  ∃as,Reads s.heap u (.list (toPs ds)) as∧PyData.canLayAll0 (toPs ds)=true∧PyData.depthAll (toPs ds)≤n:=by
 have:flat σ (n+1) (.ref i)=some (.flist ds):=by
  show (match σ[i]? with
   | some (O.list vs)=>(match mapO (flat σ n) vs with
    | some ds=>some (V.flist ds)
    | .none=> .none)
   | _=> .none)=_
  rw [hi]
  simp only [e]
 refine k13 (qg R (n+1) this x) fun as r1 c1 d1=> ?_
 rw [show toP (.flist ds)= .list (toPs ds) from rfl] at r1 c1 d1
 simp only [PyData.canLay0,PyData.depth] at c1 d1
 exact ⟨as,r1,c1,by lia⟩
theorem zb7 (R:c.R r σ s.heap) (hu:A.units+100 < cLine) {i:Nat} {xs:List V} (hi:σ[i]? =some (.list xs)) (x:c.V r s.heap a ua) (x':c.V r s.heap (.ref i) ub) (e:memV σ a xs=some y) (neg:Bool)
  (h:Q (.bool (neg^^y)) s):wpAny c.M A (compareOp (if neg then .NotIn else .In) ua ub) Q E s:=by
 refine k12 (moV_i (o:=flat σ 12 a) (f:=fun d=>match mapO (flat σ 12) xs with | some es=>some (es.any fun e=>eqD e d) | .none=> .none) e) fun d hd e=> ?_
 ·refine k12 (Jf (o:=mapO (flat σ 12) xs) (f:=fun es=>es.any fun e=>eqD e d) e) fun es hes q14=> ?_;subst q14
  refine k13 (qg R 12 hd x) fun as r1 c1 l1=> ?_
  refine k13 (zcD R hi x' hes) fun bs r2 c2 l2=> ?_
  rw [any_eqv (jm _ hd) (zbe hes)] at h
  have hm:=qm (PyData.depthAll (toPs es)) (toP d).depth
  cases neg with
  | true=>exact SeqAt.notIn_list_reads r2 r1 c2 c1 (by lia) (by rw [qI] at h;exact h)
  | false=>exact SeqAt.in_list_reads r2 r1 c2 c1 (by lia) (by rw [qb] at h;exact h)
end
inductive TabRel (P:Params) (r:Rh) (h:Heap):List (Txt×V)→List DictEntry→Prop
 | nil:TabRel P r h [] []
 | cons {k:Txt} {v:V} {e:DictEntry} {kvs es} {t:Tok} :e.key= .str (stO k) t→e.hash=PyData.keyHash P (stO k)→VR P r h v e.val→TabRel P r h kvs es→TabRel P r h ((k,v)::kvs) (e::es)
theorem zcH (k x:Txt) (t:Tok):Value.isStrOf (stO x) (.str (stO k) t)=yW k x:=by
 rw [zaG]
 show (stO k==stO x)=_
 rfl
section
variable {P:Params} {r:Rh} {h:Heap}
theorem TabRel.keys {prog:Program} {w:World} {kvs:List (Txt×V)} {es:List DictEntry} (T:TabRel w.params r h kvs es): ∀e∈es,∃x,(strKind prog w).is x e.key=true∧e.hash=(strKind prog w).hash x:=by
 induction T with
 | nil=>exact fun ω he=>nomatch he
 | cons hk hh hv T ih=>exact fun e he=>(zh.mp he).elim (fun q=>by cases q;exact ⟨_,by rw [hk];exact strKind_is prog w _ _,hh⟩) (ih e)
noncomputable def ORel (P:Params) (r:Rh) (h:Heap) (o:Option V) (q:Option Value):Prop:=match o with
 | some v=> ∃u,q=some u∧VR P r h v u
 | .none=>q= .none
theorem TabRel.find {x:Txt} {kvs:List (Txt×V)} {es:List DictEntry} (T:TabRel P r h kvs es):ORel P r h (qc x kvs) ((es.find? fun d=>Value.isStrOf (stO x) d.key).map (fun ω=>ω.val)):=by
 induction T with
 | nil=>exact rfl
 | @cons k v e kvs es t hk hh hv T ih=>
  have hq:Value.isStrOf (stO x) e.key=yW k x:=by rw [hk,zcH]
  show ORel P r h (if yW k x=true then some v else qc x kvs) _
  by_cases q:yW k x=true
  ·rw [if_pos q,List.find?_cons_of_pos (p:=fun d:DictEntry=>Value.isStrOf (stO x) d.key) (hq.trans q)]
   exact ⟨e.val,rfl,hv⟩
  ·rw [if_neg q,List.find?_cons_of_neg (p:=fun d:DictEntry=>Value.isStrOf (stO x) d.key) (fun z=>q (hq.symm.trans z))]
   exact ih
end
section
variable {prog:Program} {w:World} {r:Rh} {h:Heap} {kvs:List (Txt×V)} {es:List DictEntry} {n:Nat} {a:Addr}
theorem TabRel.mapOf (T:TabRel w.params r h kvs es) (e:h.get? a=some (dctO es n)):h.MapOf (strKind prog w) a (fun x=>findBy Value.isStrOf es.toArray x):=
 ⟨_,es.toArray,n,e,⟨rfl,rfl,rfl⟩,rfl,fun d hd=>T.keys d (by simpa using hd),fun ω=>rfl⟩
theorem TabRel.look (T:TabRel w.params r h kvs es) (x:Txt):ORel w.params r h (qc x kvs) (findBy Value.isStrOf es.toArray (stO x)):=by
 unfold findBy
 rw [List.find?_toArray]
 exact T.find
theorem ORel.isSome {P:Params} {o:Option V} {q:Option Value} (h':ORel P r h o q):q.isSome=o.isSome:=by
 cases o with
 | none=>exact (show q= .none from h')▸rfl
 | some v=>exact h'.elim fun u z=>z.1▸rfl
end
noncomputable def Cx.TabOk (c:Cx):Prop:= ∀a kvs,c.Γ.dicts.lookup a=some kvs→(a==sysModules)=false∧ ∃es n,c.K.lookup a=some (dctO es n)∧TabRel c.w.params ⟨[],[]⟩ c.h₀ kvs es
section
variable {c:Cx} {A:Around} {E:Value→Shared→Prop} {s:Shared} {r:Rh} {σ σ':H} {Q:Value→Shared→Prop} {a b:V} {ua ub:Value} {y:Bool}
theorem VR.base (R:c.R r σ s.heap) {v:V} {u:Value} (x:c.V ⟨[],[]⟩ c.h₀ v u):c.V r s.heap v u:=
 x.mv ⟨fun i p e=>by simp at e,fun a o e ω=>⟨R.base a o e,fun hm=>by have:=R.fresh a hm;rw [this] at e;cases e⟩⟩
theorem TabRel.base (R:c.R r σ s.heap) {kvs:List (Txt×V)} {es:List DictEntry} (T:TabRel c.w.params ⟨[],[]⟩ c.h₀ kvs es):TabRel c.w.params r s.heap kvs es:=by
 induction T with
 | nil=>exact .nil
 | cons hk hh hv T ih=>exact .cons hk hh (VR.base R hv) ih
theorem XY (x y:String):isSame (.type x) (.type y)=pure (x==y):=by
 show (pure (Value.type x==Value.type y):Sem Bool)=_
 congr 1
 rw [wM];simp
theorem is_type {x y:String} (h:Q (.bool (x==y)) s):wpAny c.M A (compareOp .Is (.type x) (.type y)) Q E s:=by
 show wpAny _ _ (isSame _ _>>=fun b=>pure (Value.bool b)) _ _ _
 rw [XY];exact zb (zi (zi h))
theorem zcI {x y:String} (h:Q (.bool (!(x==y))) s):wpAny c.M A (compareOp .IsNot (.type x) (.type y)) Q E s:=by
 show wpAny _ _ (isSame _ _>>=fun b=>pure (Value.bool (!b))) _ _ _
 rw [XY];exact zb (zi (zi h))
theorem VR.int_inv {P:Params} {r:Rh} {h:Heap} {i:Int} {u:Value} (x:VR P r h (.int i) u): ∃t,u= .int i t:=x.inv
theorem VR.str_inv {P:Params} {r:Rh} {h:Heap} {i:Txt} {u:Value} (x:VR P r h (.str i) u): ∃t,u= .str (stO i) t:=x.inv
theorem VR.cst_inv {P:Params} {r:Rh} {h:Heap} {i:Value} {u:Value} (x:VR P r h (.cst i) u):u=i:=x.inv
theorem VR.bool_inv {P:Params} {r:Rh} {h:Heap} {i:Bool} {u:Value} (x:VR P r h (.bool i) u):u= .bool i:=x.inv
theorem VR.none_inv {P:Params} {r:Rh} {h:Heap} {u:Value} (x:VR P r h .none u):u= .none:=x.inv
theorem isN_sound {P:Params} {r:Rh} {h:Heap} (x:VR P r h a ua) (e:wG.isN a=some y):(ua==Value.none)=y:=by
 cases a with
 | none=>cases x.none_inv;exact za e
 | str t=>refine k11 x.str_inv fun t q=> ?_;subst q;exact za e
 | int t=>refine k11 x.int_inv fun t q=> ?_;subst q;exact za e
 | ref t=>refine k12 x.inv fun p q ω=> ?_;subst q;exact za e
 | _=>exact ns e
theorem Jk (x:c.V r s.heap a ua) (x':c.V r s.heap b ub) (e:wG.isV a b=some y) (neg:Bool) (h:Q (.bool (neg^^y)) s):wpAny c.M A (compareOp (if neg then .IsNot else .Is) ua ub) Q E s:=by
 cases b with
 | none=>
  cases x'.none_inv
  cases isN_sound x e
  cases neg with
  | true=>exact isNot_none (by rw [qI] at h;exact h)
  | false=>exact is_none (by rw [qb] at h;exact h)
 | cst w=>cases w with
  | type b=>cases a with
   | cst w=>cases w with
    | type a=>
     cases x.cst_inv
     cases x'.cst_inv
     cases za e
     cases neg with
     | true=>exact zcI (by rw [qI] at h;exact h)
     | false=>exact is_type (by rw [qb] at h;exact h)
    | _=>exact ns e
   | _=>exact ns e
  | _=>exact ns e
 | _=>exact ns e
theorem zak {P:Params} {r:Rh} {h:Heap} {f:Int→Int→Bool} (x:VR P r h a ua) (x':VR P r h b ub) (e:cmpI f a b=some y) {K:Value→Value→Bool→Prop} (k: ∀i j t t',K (.int i t) (.int j t') (f i j)):K ua ub y:=by
 cases a with
 | int i=>cases b with
  | int j=>
   refine k11 x.int_inv fun t q=> ?_;subst q
   refine k11 x'.int_inv fun t' q=> ?_;subst q
   exact za e▸k i j t t'
  | _=>exact ns e
 | _=>exact ns e
theorem moK_i {β:Type} {f:List (Txt×V)→β} {o:Option (List (Txt×V))} {d:β} (e:(match o with
  | some ds=>some (f ds)
  | .none=> .none)=some d): ∃ds,o=some ds∧d=f ds:=by
 cases o with
 | none=>exact ns e
 | some x=>(refine si e fun q31=> ?_;subst q31;clear e);exact ⟨x,rfl,rfl⟩
theorem zaO (HT:c.TabOk) (R:c.R r σ s.heap) (hu:A.units+100 < cLine) (neg:Bool) (x:c.V r s.heap a ua) (x':c.V r s.heap b ub) (e:wG.inV c.Γ σ a b=some y)
  (h: ∀tk,Q (.bool (neg^^y)) {s with toks:=tk}):wpAny c.M A (compareOp (if neg then .NotIn else .In) ua ub) Q E s:=by
 cases b with
 | ref i=>
  refine k12 (Xg (o:=σ[i]?) (f:=fun xs=>memV σ a xs) e) fun xs hi e=> ?_
  exact zb7 R hu hi x x' e neg (h s.toks)
 | cst w=>
  cases w with
  | ref ad=>
   cases a with
   | str k=>
    refine k12 (moK_i (o:=c.Γ.dicts.lookup ad) (f:=fun kvs=>(qc k kvs).isSome) e) fun kvs hk q1=> ?_;subst q1
    obtain ⟨hs,es,n,hK,T⟩:=HT _ _ hk
    have:=x'.cst_inv
    subst this
    refine k11 (x.str_inv) fun t q2=> ?_;subst q2
    have ho:s.heap.get? ad=some (dctO es n):=R.base _ _ (c.X _ _ hK)
    have T':=T.base R
    have L:=T'.look k
    have hm:=T'.mapOf (prog:=c.prog) ho
    have hs':=L.isSome
    cases neg with
    | true=>exact wpAny_notIn_of (strKind_is c.prog c.w _ t) hs hm (by rw [hs',←qI];exact h _)
    | false=>exact wpAny_in_of (strKind_is c.prog c.w _ t) hs hm (by rw [hs',←qb (qc k kvs).isSome];exact h _)
   | _=>exact ns e
  | _=>exact ns e
 | str t=>cases a with
  | str k=>
   refine k11 (x'.str_inv) fun t' q=> ?_;subst q
   refine k11 (x.str_inv) fun t2 q=> ?_;subst q
   refine si e fun q=> ?_
   have h0:=h s.toks
   cases neg with
   | true=>rw [qI,←q] at h0;exact PySem.P.notIn_str (by rw [yY];exact h0)
   | false=>rw [qb,←q] at h0;exact PySem.P.in_str (by rw [yY];exact h0)
  | _=>exact ns e
 | _=>exact ns e
theorem sound_cmp (HT:c.TabOk) (R:c.R r σ s.heap) (hu:A.units+100 < cLine) {op:Cop} (x:c.V r s.heap a ua) (x':c.V r s.heap b ub) (e:wG c.Γ op a b σ=some y)
  (h: ∀tk,Q (.bool y) {s with toks:=tk}):wpAny c.M A (compareOp (unCop op) ua ub) Q E s:=by
 have h0:=h s.toks
 cases op with
 | eq=>exact sound_eq R hu x x' e h0
 | ne=>
  refine k12 (zc.mp e) fun z hz q3=> ?_;subst q3
  exact sound_ne R hu x x' hz h0
 | lt=>exact zak x x' (y:=y) e (K:=fun ua ub y=>Q (.bool y) s→wpAny c.M A (compareOp .Lt ua ub) Q E s) (fun i j t t' h=>PySem.P.lt_int h) h0
 | le=>exact zak x x' (y:=y) e (K:=fun ua ub y=>Q (.bool y) s→wpAny c.M A (compareOp .LtE ua ub) Q E s) (fun i j t t' h=>PySem.P.le_int h) h0
 | gt=>exact zak x x' (y:=y) e (K:=fun ua ub y=>Q (.bool y) s→wpAny c.M A (compareOp .Gt ua ub) Q E s) (fun i j t t' h=>PySem.P.gt_int h) h0
 | ge=>exact zak x x' (y:=y) e (K:=fun ua ub y=>Q (.bool y) s→wpAny c.M A (compareOp .GtE ua ub) Q E s) (fun i j t t' h=>PySem.P.ge_int h) h0
 | isIn=>exact zaO HT R hu false x x' e fun tk=>by rw [qb];exact h tk
 | notIn=>
  refine k12 (zc.mp e) fun z hz q24=> ?_;subst q24
  exact zaO HT R hu true x x' hz fun tk=>by rw [qI];exact h tk
 | is_=>exact Jk x x' e false (by rw [qb];exact h0)
 | isNot=>
  refine k12 (zc.mp e) fun z hz q25=> ?_;subst q25
  exact Jk x x' hz true (by rw [qI];exact h0)
end
theorem vEq_i {w v:V} (h:vEq w v=true):w=v:=by
 cases w with
 | none=>cases v with
  | none=>rfl
  | _=>exact ft h
 | int a=>cases v with
  | int b=>exact congrArg V.int (of_decide_eq_true h)
  | _=>exact ft h
 | str a=>cases v with
  | str b=>exact congrArg V.str (of_decide_eq_true h)
  | _=>exact ft h
 | cst a=>cases v with
  | cst b=>exact congrArg V.cst (of_decide_eq_true h)
  | _=>exact ft h
 | _=>exact ft h
theorem vIs_i {o:Option V} {v:V} (h:vIs o v=true):o=some v:=by
 cases o with
 | none=>exact ft h
 | some w=>exact congrArg some (vEq_i h)
inductive CstR:Const→V→Prop
 | none:CstR .none .none
 | bool b:CstR (.bool b) (.bool b)
 | int i:CstR (.int i) (.int i)
 | str (s:Str):CstR (.str s) (.str s.cps.toList)
theorem cstOk_i {k:Const} {v:V} (h:cstOk k v=true):CstR k v:=by
 cases k with
 | none=>cases v with
  | none=>exact .none
  | _=>exact ft h
 | bool b=>cases v with
  | bool c=>exact eq_of_beq (show (b==c)=true from h)▸ .bool b
  | _=>exact ft h
 | int i=>cases v with
  | int j=>exact of_decide_eq_true (show decide (i=j)=true from h)▸ .int i
  | _=>exact ft h
 | str t=>cases v with
  | str x=>exact of_decide_eq_true (show decide (t.cps.toList=x)=true from h)▸ .str t
  | _=>exact ft h
 | _=>exact ft h
noncomputable def TrT (t:Tx) (sc:Scope) (e:Expr) (u:T):Prop:= ∃a:AT,e=a.un∧u=a.er∧a.ok t sc=true
noncomputable def Tr (t:Tx) (sc:Scope) (e:Expr) (u:E):Prop:= ∃a:AE,e=a.un∧u=a.er∧a.ok t sc=true
noncomputable def TrL (t:Tx) (sc:Scope) (es:List Expr) (us:List E):Prop:= ∃as,es=unL as∧us=erL as∧okL t sc as=true
noncomputable def TrO (t:Tx) (sc:Scope) (e:Option Expr) (u:Option E):Prop:= ∃a,e=unO a∧u=erO a∧okO t sc a=true
noncomputable def TrK (t:Tx) (sc:Scope) (ks:List Keyword) (us:List (Nat×E)):Prop:= ∃as,ks=unK as∧us=erK as∧okK t sc as=true
noncomputable def TrI (t:Tx) (sc:Scope) (e:Expr) (u:It):Prop:= ∃a:AI,e=a.un∧u=a.er∧a.ok t sc=true
section
variable {t:Tx} {sc:Scope}
theorem Tr.mk {a:AE} (h:a.ok t sc=true):Tr t sc a.un a.er:=⟨a,rfl,rfl,h⟩
theorem TrT.mk {a:AT} (h:a.ok t sc=true):TrT t sc a.un a.er:=⟨a,rfl,rfl,h⟩
theorem TrL.mk {as:List AE} (h:okL t sc as=true):TrL t sc (unL as) (erL as):=⟨as,rfl,rfl,h⟩
theorem TrO.mk {a:Option AE} (h:okO t sc a=true):TrO t sc (unO a) (erO a):=⟨a,rfl,rfl,h⟩
theorem TrK.mk {as:List AK} (h:okK t sc as=true):TrK t sc (unK as) (erK as):=⟨as,rfl,rfl,h⟩
theorem TrI.mk {a:AI} (h:a.ok t sc=true):TrI t sc a.un a.er:=⟨a,rfl,rfl,h⟩
theorem TrK.nil:TrK t sc [] []:=⟨[],rfl,rfl,rfl⟩
theorem YI: ∀as:List AE,(unL as).length=as.length
 | []=>rfl
 | a::r=>congrArg Nat.succ (YI r)
theorem WA: ∀as:List AK,(unK as).length=as.length
 | []=>rfl
 | a::r=>congrArg Nat.succ (WA r)
end
structure zY (c:Cx) (sc:Scope) (env:Env) (pv:List Addr):Prop where
 kind:env.scope.kind= .function
 glob:env.globals=mainGlobals
 bi:env.builtins=builtinsNs
 lpv:env.locals∈pv
 cpv: ∀n a,env.cells.lookup n=some a→a∈pv
 loc: ∀x,sc.names.lookup x=some .local→env.kindOf x=some .local
 cel: ∀x,sc.names.lookup x=some .cell→env.kindOf x=some .cell∧(env.cells.lookup x).isSome=true
 fre: ∀x,sc.names.lookup x=some .free→(env.kindOf x=some .cell∨env.kindOf x=some .free)∧(env.cells.lookup x).isSome=true
 glb: ∀x,qw sc x=some false→env.kindOf x=some .globalImplicit
 inj: ∀x y a,env.cells.lookup x=some a→env.cells.lookup y=some a→x=y
 apl: ∀x a,env.cells.lookup x=some a→a≠env.locals
theorem Qs {sc:Scope} {x:Str} (h:qw sc x=some true):sc.names.lookup x=some .local∨sc.names.lookup x=some .cell∨sc.names.lookup x=some .free:=by
 unfold qw at h
 generalize sc.names.lookup x=o at h⊢
 cases o with
 | none=>exact ns h
 | some k=>cases k with
  | «local» =>exact .inl rfl
  | cell=>exact .inr (.inl rfl)
  | free=>exact .inr (.inr rfl)
  | globalImplicit=>exact ft (za h)
  | _=>exact ns h
theorem XX {sc:Scope} {x:Str} (h:qw sc x=some false):sc.names.lookup x=some .globalImplicit:=by
 unfold qw at h
 generalize sc.names.lookup x=o at h⊢
 cases o with
 | none=>exact ns h
 | some k=>cases k with
  | globalImplicit=>rfl
  | «local» =>exact tf (za h)
  | cell=>exact tf (za h)
  | free=>exact tf (za h)
  | _=>exact ns h
noncomputable def Held (env:Env) (h:Heap) (x:Str) (u:Value):Prop:=
 (env.kindOf x=some .local∧ ∃m,h.Ns env.locals m∧m x=some u)∨((env.kindOf x=some .cell∨env.kindOf x=some .free)∧ ∃a,env.cells.lookup x=some a∧h.IsCell a (some u))
structure zN (c:Cx) (sc:Scope) (env:Env) (r:Rh) (h:Heap) (vars:Vars):Prop where
 ns: ∃m,h.Ns env.locals m
 cells: ∀x a,env.cells.lookup x=some a→ ∃v,h.IsCell a v
 held: ∀x i v,c.t.id x=some i→qw sc x=some true→Vars.get i vars=some v→ ∃u,Held env h x u∧c.V r h v u
noncomputable def Cx.GlobOk (c:Cx):Prop:= ∀x v,c.t.glob x=some v→ ∃u,c.V ⟨[],[]⟩ c.h₀ v u∧(nsIn c.K mainGlobals x=some (some u)∨(nsIn c.K mainGlobals x=some .none∧bootBuiltins x=some u∧x≠"__name__"))
section
variable {c:Cx} {sc:Scope} {env:Env} {r r':Rh} {h h':Heap} {vars:Vars} {σ:H}
theorem Held.keep {x:Str} {u:Value} {pv:List Addr} (H:Held env h x u) (eo:zY c sc env pv) (k: ∀b∈pv,∀o,h.get? b=some o→h'.get? b=some o):Held env h' x u:=by
 rcases H with ⟨hk,m,hn,hm⟩ | ⟨hk,a,ha,hc⟩
 ·exact .inl ⟨hk,m,hn.at' fun o e=>k _ eo.lpv o e,hm⟩
 ·refine k12 hc fun o ho hd=> ?_;clear hc
  exact .inr ⟨hk,a,ha,o,k a (eo.cpv _ _ ha) o ho,hd⟩
theorem zN.keep (vo:zN c sc env r h vars) {pv:List Addr} (eo:zY c sc env pv) (k: ∀b∈pv,∀o,h.get? b=some o→h'.get? b=some o) (M:Mv r h r' h'):zN c sc env r' h' vars:=by
 refine ⟨?_,fun x a e=> ?_,fun x i v e1 e2 e3=> ?_⟩
 ·refine k11 (vo.ns) fun m hn=> ?_
  exact ⟨m,hn.at' fun o e=>k _ eo.lpv o e⟩
 ·refine k22 (vo.cells x a e) fun v o ho hd=> ?_
  exact ⟨v,o,k a (eo.cpv _ _ e) o ho,hd⟩
 ·refine k12 (vo.held x i v e1 e2 e3) fun u hu hr=> ?_
  exact ⟨u,hu.keep eo k,hr.mv M⟩
theorem zN.step (vo:zN c sc env r h vars) (eo:zY c sc env r.pv) (R:c.R r σ h) (S:Step r h r' h'):zN c sc env r' h' vars:=
 vo.keep eo (fun b hb o e=>S.keep b o e (R.pvo b hb)) S.mv
theorem zY.step (eo:zY c sc env r.pv) (S:Step r h r' h'):zY c sc env r'.pv:=S.pv▸eo
end
theorem Out.after {c:Cx} {r r':Rh} {s:Shared} {h':Heap} {tk:Nat} {σ':H} {v:V} {Q:Value→Shared→Prop} (O:Out c r s σ' v Q) (S:Step r s.heap r' h'):Out c r' {s with heap:=h',toks:=tk} σ' v Q:=
 fun u r'' h'' tk' R'' S'' x=>O u r'' h'' tk' R'' (S.trans S'') x
noncomputable def EvOk (c:Cx) (A:Around) (ev:Ev):Prop:=
 ∀ {sc:Scope} {e:Expr} {u:E} {env:Env} {r:Rh} {σ σ':H} {s:Shared} {vars:Vars} {v:V},Tr c.t sc e u→zY c sc env r.pv→zN c sc env r s.heap vars→c.R r σ s.heap→ev u vars σ=some (v,σ')→
  ∀ {Q:Value→Shared→Prop} {E':Value→Shared→Prop},Out c r s σ' v Q→wpAny c.M A (eval e env) Q E' s
structure Fits (A:Around):Prop where
 hd:A.handled= .none
 un:A.units+400 < cLine
 dp:A.depth+5 < recursionLimit
section
variable {c:Cx} {A:Around} {E':Value→Shared→Prop} {s:Shared} {sc:Scope} {env:Env} {r:Rh} {σ σ' σ₁:H} {vars:Vars} {v:V} {Q:Value→Shared→Prop} {ev:Ev}
theorem Yp (HG:c.GlobOk) {x:Str} {p:Pos} (hd:(x==("__debug__":Str))=false) (hv:qw sc x=some false) (hg:c.t.glob x=some v) (eo:zY c sc env r.pv) (R:c.R r σ s.heap) (O:Out c r s σ v Q):
  wpAny c.M A (eval (.Name x p) env) Q E' s:=by
 refine k12 (HG x v hg) fun u hu hc=> ?_
 have go:=O.here R (VR.base R hu)
 rcases hc with hc | ⟨h1,h2,h3⟩
 ·exact Name_function_global eo.kind (eo.glb x hv) (loadGlobal_global (eo.glob▸c.T.g.keeps R.base) (mg_of c.X c.T.g hc) go) hd
 ·exact Name_function_global eo.kind (eo.glb x hv) (loadGlobal_builtin (eo.glob▸c.T.g.keeps R.base) (mg_none_of c.X c.T.g h1) (eo.bi▸c.T.b.keeps R.base) ((c.T.builtins x h3).trans h2) go) hd
theorem eval_var {x:Str} {p:Pos} {i:Nat} (hd:(x==("__debug__":Str))=false) (hcd:(x==("__classdict__":Str))=false) (hv:qw sc x=some true) (hi:c.t.id x=some i) (eo:zY c sc env r.pv) (vo:zN c sc env r s.heap vars) (R:c.R r σ s.heap)
  (e:(vars.get i).map (fun ω=>(ω,σ))=some (v,σ')) (O:Out c r s σ' v Q):wpAny c.M A (eval (.Name x p) env) Q E' s:=by
 refine k12 (zc.mp e) fun v' hv' e=> ?_
 cases e
 refine k12 (vo.held x i v hi hv hv') fun u hu hr=> ?_
 have go:=O.here R hr
 rcases hu with ⟨hk,m,hn,hm⟩ | ⟨hk | hk,a,ha,hc⟩
 ·exact wpAny_Name (wpAny_loadName_local eo.kind hk hn hm go) hd
 ·exact wpAny_Name (wpAny_loadName_cell eo.kind hk ha hc go) hd
 ·exact wpAny_Name (wpAny_loadName_free eo.kind hk ha hc go hcd) hd
theorem seq2 (ih:EvOk c A ev) {a b:Expr} {a' b':E} (ta:Tr c.t sc a a') (tb:Tr c.t sc b b') (eo:zY c sc env r.pv) (vo:zN c sc env r s.heap vars) (R:c.R r σ s.heap) {x y:V} {σ₁ σ₂:H}
  (e1:ev a' vars σ=some (x,σ₁)) (e2:ev b' vars σ₁=some (y,σ₂)) {k:Value→Value→Sem Value} (f: ∀ua ub r' h' tk,c.R r' σ₂ h'→Step r s.heap r' h'→c.V r' h' x ua→c.V r' h' y ub→wpAny c.M A (k ua ub) Q E' {s with heap:=h',toks:=tk}):
  wpAny c.M A (eval a env) (fun ua s₁=>wpAny c.M A (eval b env) (fun ub s₂=>wpAny c.M A (k ua ub) Q E' s₂) E' s₁) E' s:=by
 refine ih ta eo vo R e1 fun ua r₁ h₁ tk₁ R₁ S₁ xa=> ?_
 refine ih tb (eo.step S₁) (vo.step eo R S₁) R₁ e2 fun ub r₂ h₂ tk₂ R₂ S₂ xb=> ?_
 exact f ua ub r₂ h₂ tk₂ R₂ (S₁.trans S₂) (xa.step S₂) xb
theorem YV {x:V} {u:Value} {b:Bool} (xr:c.V r s.heap x u) (e:truthy x=some b) {Q:Bool→Shared→Prop} (h:Q b s):wpAny c.M A (PySem.truthy u) Q E' s:=by
 cases x with
 | none=>(refine si e fun q3=> ?_;subst q3;clear e);have:=xr.none_inv;subst this;exact fun ω ω ω=>h
 | bool b=>(refine si e fun q5=> ?_;subst q5;clear e);have:=xr.bool_inv;subst this;exact wpAny_truthy_bool h
 | int i=>
  refine k11 (xr.int_inv) fun t q1=> ?_;subst q1
  (refine si e fun q8=> ?_;subst q8;clear e)
  exact PySem.P.truthy_int (by rw [bne];exact h)
 | _=>exact ns e
noncomputable def OutB (c:Cx) (r:Rh) (s:Shared) (σ':H) (b:Bool) (Q:Bool→Shared→Prop):Prop:= ∀r' h' tk,c.R r' σ' h'→Step r s.heap r' h'→Q b {s with heap:=h',toks:=tk}
theorem zbM (hA:Fits A) {op:Bop} {x y:V} {ua ub:Value} (R:c.R r σ s.heap) (xa:c.V r s.heap x ua) (xb:c.V r s.heap y ub) (e:Ze op x y σ=some (v,σ')) (O:Out c r s σ' v Q):
  wpAny c.M A (binaryOp (unBop op) ua ub) Q E' s:=by
 have rest:binR op x y σ=some (v,σ')→wpAny c.M A (binaryOp (unBop op) ua ub) Q E' s:=fun e=>by
  cases op with
  | add=>
   refine k12 (ze.mp e) fun xs h1 e1=> ?_
   refine k12 (ze.mp e1) fun ys h2 e2=> ?_
   refine k12 (qr h1) fun i q2 hi=> ?_
   refine k12 (qr h2) fun j q3 hj=> ?_
   exact WL R hi hj (q2▸xa) (q3▸xb) e2 O
  | mul=>
   cases y with
   | int k=>
    refine k12 (ze.mp e) fun xs h1 e1=> ?_
    refine k12 (qr h1) fun i q4 hi=> ?_
    refine k02 (if_i e1) fun hc e2=> ?_
    refine k02 (zB hc) fun c1 hc=> ?_
    refine k02 (zB hc) fun c2 c3=> ?_
    refine k11 (xb.int_inv) fun t' q5=> ?_;subst q5
    exact WJ R hi (q4▸xa) (of_decide_eq_true c1) c2 (zg c3) e2 O
   | bool b=>
    refine k12 (ze.mp e) fun xs h1 e1=> ?_
    refine k12 (qr h1) fun i q4 hi=> ?_
    refine k02 (if_i e1) fun hc e2=> ?_
    cases xb.bool_inv
    exact WK R hi (q4▸xa) e2 (zm (zg hc) (by decide)) O
   | _=>exact ns e
  | _=>exact ns e
 cases x with
 | int a=>cases y with
  | int b=>
   refine k11 (xa.int_inv) fun t q6=> ?_;subst q6
   refine k11 (xb.int_inv) fun t' q7=> ?_;subst q7
   exact Wd hA.hd R e O
  | _=>exact ns e
 | str a=>
  cases op with
  | add=>
   cases y with
   | str b=>
    refine k11 (xa.str_inv) fun t q8=> ?_;subst q8
    refine k11 (xb.str_inv) fun t' q9=> ?_;subst q9
    exact QM R e O
   | _=>exact ns e
  | _=>exact ns e
 | _=>exact rest e
end
theorem wk {i:Expr} (h:jy i=false) (o iv:Value):subscripted i false o iv=operate [o,iv] (getItem o iv):=by
 cases i with
 | Slice=>exact tf h
 | _=>rfl
section
variable {c:Cx} {A:Around} {E':Value→Shared→Prop} {s:Shared} {sc:Scope} {env:Env} {r:Rh} {σ σ' σ₁:H} {vars:Vars} {v:V} {Q:Value→Shared→Prop}
theorem Wn {n j:Nat} {k:Int} (e:idx n k=some j):fit k=true∧seqIndex? k n=some j:=if_i e
theorem Xa {n j:Nat} {k:Int} (e:seqIndex? k n=some j):(0≤k∧k < n∧j=k.toNat)∨(k < 0∧ -(n:Int)≤k∧j=(k+n).toNat):=by
 have key: ∀q:Int,(if (decide (0≤q)&&decide (q < n))=true then some q.toNat else none)=some j→0≤q∧q < n∧j=q.toNat:=fun q e=>by
  refine k02 (xj e) fun h q1=> ?_
  refine k02 (zB h) fun h1 h2=> ?_
  exact ⟨of_decide_eq_true h1,of_decide_eq_true h2,q1⟩
 by_cases hk:k < 0
 ·refine k03 (key (k+n) (by unfold seqIndex? at e;rw [if_pos hk] at e;exact e)) fun h1 h2 q=> ?_
  exact .inr ⟨hk,Int.neg_le_of_neg_le (by lia),q⟩
 ·exact .inl (key k (by unfold seqIndex? at e;rw [if_neg hk] at e;exact e))
theorem VR.tup_inv {P:Params} {r:Rh} {h:Heap} {vs:List V} {u:Value} (x:VR P r h (.tup vs) u): ∃items n a,u= .ref a∧h.get? a=some (tupO items n)∧ ¬r.mut a∧VRs P r h vs items∧items.length≤4000000:=x.inv
theorem Za {h:Heap} {a:Addr} {items:List Value} {n:Nat} (e:h.get? a=some (tupO items n)):IsTup h a items.toArray:=⟨_,e,rfl,n,rfl⟩
theorem qh {k:Int} (h:fit k=true): -(2^63)≤k∧k < 2^63:=by rw [jA] at h;lia
theorem sub_sound {i:Expr} (hi:jy i=false) {value:Expr} {x y:V} {ua ub:Value} (R:c.R r σ s.heap) (xa:c.V r s.heap x ua) (xb:c.V r s.heap y ub) (e:wL c.Γ x y σ=some v) (O:Out c r s σ v Q):
  wpAny c.M A (subscriptTail value i ua ub) Q E' s:=by
 cases y with
 | int k=>cases x with
  | ref a=>
   refine k12 (Xg (o:=σ[a]?) (f:=fun xs=>(idx xs.length k).bind fun j=>xs[j]?) e) fun xs hx e=> ?_
   refine k12 (ze.mp e) fun j hj e=> ?_
   refine k02 (Wn hj) fun hf hj=> ?_
   refine k11 (xb.int_inv) fun t q1=> ?_;subst q1
   refine k35 (R.listAt hx xa) fun ad items n q2 ω ha hxs hl=> ?_;subst q2
   refine k12 (hxs.get e) fun u hu hv=> ?_
   have hL:=yt ha
   have hb:=qh hf
   refine tail_any hL.typeIs slot_list_getitem.lookup ?_ (wk hi _ _)
   rcases Xa hj with ⟨h0,h1,rfl⟩ | ⟨h0,h1,rfl⟩
   ·exact wpAny_getItem_list hL h0 hb.2 ((zU ..).trans hu) (O.here R hv)
   ·exact wpAny_getItem_list_neg hL h0 (by rw [zz,hxs.length];exact h1) hb.1 (by rw [zz,hxs.length];exact (zU ..).trans hu) (O.here R hv)
  | tup xs=>
   refine k12 (ze.mp e) fun j hj e=> ?_
   refine k02 (Wn hj) fun hf hj=> ?_
   refine k11 (xb.int_inv) fun t q3=> ?_;subst q3
   refine k35 (xa.tup_inv) fun items n ad q4 ha ω hxs hl=> ?_;subst q4
   refine k12 (hxs.get e) fun u hu hv=> ?_
   have hb:=qh hf
   refine tail_any (Za ha).typeIs slot_tuple_getitem.lookup ?_ (wk hi _ _)
   exact getItem_tuple (Za ha) hb.1 hb.2 (by rw [zz,hxs.length];exact hj) ((zU ..).trans hu) (O.here R hv)
  | str xs=>
   refine k12 (ze.mp e) fun j hj e=> ?_
   refine k12 (zc.mp e) fun ch hc q5=> ?_;subst q5
   refine k02 (Wn hj) fun hf hj=> ?_
   refine k11 (xb.int_inv) fun t q6=> ?_;subst q6
   refine k11 (xa.str_inv) fun t' q7=> ?_;subst q7
   have hb:=qh hf
   refine tail_any (typeIs_str s _ t') PySem.F.slot_str_getitem.lookup ?_ (wk hi _ _)
   refine PySem.P.getItem_str (c:=ch) ?_ ?_ (O.same R (.str [ch] _) _)
   ·exact wi.mpr ⟨decide_eq_false (zbZ.mpr hb.1),decide_eq_false (Int.not_le.mpr hb.2)⟩
   ·rw [yY,hj]
    exact (zU ..).trans hc
  | _=>exact ns e
 | _=>exact ns e
theorem WV {l:V} {lo:Option Int} (e:part l=some lo) {u:Value} (x:c.V r s.heap l u):IsPart u lo:=by
 cases l with
 | none=>cases x.none_inv;exact za e▸ .none
 | int i=>refine k11 x.int_inv fun t q=> ?_;subst q;exact za e▸ .int _ _
 | _=>exact ns e
theorem VRs.pick {P:Params} {r:Rh} {h:Heap} {vs:List V} {us:List Value} (x:VRs P r h vs us): ∀l:List Nat,VRs P r h (l.filterMap fun i=>vs[i]?) (l.filterMap fun i=>us[i]?)
 | []=> .nil
 | i::l=>by
  rw [List.filterMap_cons,List.filterMap_cons]
  cases q:vs[i]? with
  | none=>rw [x.none q];exact x.pick l
  | some v=>
   refine k12 (x.get q) fun u hu hv=> ?_
   rw [hu];exact .cons hv (x.pick l)
theorem WO (items:List Value) (lo hi st:Option Int):slicePick items.toArray lo hi st=((sliceRange (sliceBounds lo hi st items.length).1 (sliceBounds lo hi st items.length).2.1 (sliceBounds lo hi st items.length).2.2).filterMap fun (i:Nat)=>items[i]?).toArray:=by
 unfold slicePick
 simp
theorem YO {u:Value} {lo:Option Int} (p:IsPart u lo): ∃l:Option (Int×Tok),u=partValue l∧l.map (fun ω=>ω.1)=lo:=by
 cases p with
 | none=>exact ⟨.none,rfl,rfl⟩
 | int i t=>exact ⟨some (i,t),rfl,rfl⟩
theorem cps_get (xs:Txt) (l:List Nat):(l.filterMap fun i=>(stO xs).cps[i]?)=l.filterMap fun i=>xs[i]? :=congrArg (fun f=>List.filterMap f l) (funext fun ω=>zU ..)
theorem slice_str {xs:Txt} {t:Tok} {lo hi st:Option Int} {ul uu us:Value} {sl:Addr} (R:c.R r σ s.heap) (hs:s.heap.get? sl=some {cls:= .type "slice",data:= .fields #[ul,uu,us]})
  (pl:IsPart ul lo) (pu:IsPart uu hi) (ps:IsPart us st) (h0:st≠some 0) (hb:Nat.ble (jc xs lo hi st).length 1000000=true) (O:Out c r s σ (.str (jc xs lo hi st)) Q):wpAny c.M A (getItem (.str (stO xs) t) (.ref sl)) Q E' s:=by
 refine k12 (YO pl) fun l q9 hl=> ?_;subst q9
 refine k12 (YO pu) fun u q10 hu=> ?_;subst q10
 refine k12 (YO ps) fun k q11 hk=> ?_;subst q11
 have hk1:((k.map (fun ω=>ω.1)).getD 1==0)=false:=by
  rw [hk]
  cases st with
  | none=>rfl
  | some z=>exact beq_eq_false_iff_ne.mpr fun hz=>h0 (congrArg some hz)
 refine wpAny_getItem_str_slice ⟨_,hs,rfl,rfl⟩ hk1 ?_
 unfold sliceMade slicePicked
 rw [hl,hu,hk,yY]
 rw [cps_get]
 generalize hL:Builtin.Str.strSliceIndices lo hi (st.getD 1) xs.length=L
 have ht:jc xs lo hi st=if (st.getD 1==1&&L.length==xs.length)=true then xs else L.filterMap fun i=>xs[i]? :=by rw [←hL];rfl
 rw [ht] at O hb
 by_cases hc:(st.getD 1==1&&L.length==xs.length)=true
 ·rw [if_pos hc] at O⊢
  exact O.here R (.str _ _)
 ·rw [if_neg hc] at O hb⊢
  refine ⟨?_,O.same R (.str _ _) _⟩
  show (List.toArray _).size≤_
  rw [zz]
  exact zm (zg hb) (by have:=yL;lia)
theorem slice_list {a:Addr} {items:List Value} {xs:List V} {lo hi st:Option Int} {ul uu us:Value} {sl:Addr} (R:c.R r σ s.heap) (hs:s.heap.get? sl=some {cls:= .type "slice",data:= .fields #[ul,uu,us]})
  (pl:IsPart ul lo) (pu:IsPart uu hi) (ps:IsPart us st) (h0:st≠some 0) (ha:s.heap.IsList a items.toArray) (hxs:VRs c.w.params r s.heap xs items) (hl:items.length≤4000000) (e:mkL (qy xs lo hi st) σ=some (v,σ')) (O:Out c r s σ' v Q):
  (∃T id,s.TypeIs (.ref a) T∧typeLookup (.type T) "__getitem__"=pure (some (.builtin id)))∧wpAny c.M A (getItem (.ref a) (.ref sl)) Q E' s:=by
 refine ⟨⟨"list",_,ha.typeIs,slot_list_getitem.lookup⟩,?_⟩
 refine wpAny_getItem_list_slice ha ⟨_,hs,rfl,rfl⟩ pl pu ps h0 ?_ (by simp only [zz];have:=yL;lia)
 rw [WO]
 refine O.list e R ?_ s.toks
 unfold qy
 rw [←hxs.length]
 exact hxs.pick _
theorem zb9 {x:V} {ux:Value} {lo hi st:Option Int} {ul uu us:Value} {sl:Addr} (R:c.R r σ s.heap) (xa:c.V r s.heap x ux) (hs:s.heap.get? sl=some {cls:= .type "slice",data:= .fields #[ul,uu,us]})
  (pl:IsPart ul lo) (pu:IsPart uu hi) (ps:IsPart us st) (h0:st≠some 0)
  (e:zca x lo hi st σ=some (v,σ')) (O:Out c r s σ' v Q):(∃T id,s.TypeIs ux T∧typeLookup (.type T) "__getitem__"=pure (some (.builtin id)))∧wpAny c.M A (getItem ux (.ref sl)) Q E' s:=by
 cases x with
 | str xs=>
  refine k02 (if_i e) fun hb e=> ?_
  refine k11 (xa.str_inv) fun t q8=> ?_;subst q8
  refine sp e fun q1 q2=> ?_;subst q1;subst q2
  exact ⟨⟨"str",_,typeIs_str s _ t,PySem.F.slot_str_getitem.lookup⟩,slice_str R hs pl pu ps h0 hb O⟩
 | flist xs=>
  refine k25 xa.inv fun items a q h1 h2 h3 h4=> ?_;subst q
  exact slice_list R hs pl pu ps h0 h1 h3 h4 e O
 | ref i=>
  refine k12 (Xg (o:=σ[i]?) (f:=fun xs=>mkL (qy xs lo hi st) σ) e) fun xs hx e=> ?_
  refine k35 (R.listAt hx xa) fun ad items n q12 ω ha hxs hl=> ?_;subst q12
  exact slice_list R hs pl pu ps h0 (yt ha) hxs hl e O
 | _=>exact ns e
end
structure Zx (c:Cx) (C:Addr) (k:Cls):Prop where
 pg:plainGet c.K C ""=true
 hd:hasDictIn c.K C=true
 fl: ∀i,k.flds.contains i=true→ ∃x,c.t.ids[i]? =some x∧(∃attr,findIn c.K (.ref C) x=some attr∧noGet c.K attr=true)∧takerIn c.K C x=some .none
 po:plainOver c.K C=true
 sa:findIn c.K (.ref C) "__setattr__"=some (some (.builtin "object.__setattr__"))
 mks:makesIn c.K C=true
 ini:findIn c.K (.ref C) "__init__"=some (some (.ref k.init))∧typeIn c.K (.ref k.init)=some (.type "function")
 me: ∀i f,k.meths.lookup i=some f→ ∃x,c.t.ids[i]? =some x∧findIn c.K (.ref C) x=some (some (.ref f))∧typeIn c.K (.ref f)=some (.type "function")∧keepIn c.K (.ref f)=true
 kp:keepIn c.K (.ref C)=true
 nq:noSeq c.K C=true
noncomputable def Cx.ClsOk (c:Cx):Prop:= ∀C k,c.Γ.clss.lookup C=some k→Zx c C k
theorem idxOf_get {x:Str} {l:List Str} {i:Nat} (h:idxOf x l=some i):l[i]? =some x:=by
 induction l generalizing i with
 | nil=>exact ns h
 | cons y r ih=>
  replace h:(if (y==x)=true then some 0 else (idxOf x r).map Nat.succ)=some i:=h
  by_cases hy:(y==x)=true
  ·rw [if_pos hy] at h
   exact za h▸congrArg some (eq_of_beq hy)
  ·rw [if_neg hy] at h
   refine k12 (zc.mp h) fun j hj q=> ?_;subst q
   exact ih hj
theorem Tx.id_get {t:Tx} {x:Str} {i:Nat} (h:t.id x=some i):t.ids[i]? =some x:=idxOf_get h
theorem zcB (x:Str) (es:List DictEntry) (n:Nat):lookIn x (dctO es n)=getL x es:=rfl
section
variable {c:Cx} {A:Around} {E':Value→Shared→Prop} {s:Shared} {sc:Scope} {env:Env} {r:Rh} {σ σ' σ₁:H} {vars:Vars} {v:V} {Q:Value→Shared→Prop}
theorem Rel.instAt {P:Params} {ids:List Str} {h₀:Heap} {r:Rh} {σ:H} {h:Heap} (R:Rel P ids h₀ r σ h) {i:Nat} {C:Addr} {fs:List (Nat×V)} (e:σ[i]? =some (.inst C fs)) {u:Value} (x:VR P r h (.ref i) u):
  ∃a d es n,u= .ref a∧r.ob[i]? =some (a,d)∧a≠d∧h.get? a=some (instObj C d)∧h.get? d=some (dctO es n)∧es.length≤fs.length∧(es.any (fun ω=>ω.refKey))=false∧
   (∀i x v,ids[i]? =some x→look i fs=some v→ ∃u,getL x es=some (some u)∧VR P r h v u)∧(∀i x,ids[i]? =some x→look i fs= .none→getL x es=some .none):=by
 refine k12 x.inv fun p q hp=> ?_;subst q
 refine k21 (R.obj i _ p e hp).inv fun es n H=> ?_
 exact ⟨p.1,p.2,es,n,rfl,hp,H⟩
theorem qV {h:Heap} {a d C:Addr} {es:List DictEntry} {n:Nat} (h1:h.get? a=some (instObj C d)) (h2:h.get? d=some (dctO es n)):InstAt h a (instObj C d) C (some (dctO es n)):=⟨h1,rfl,rfl,h2⟩
theorem handed_VR {P:Params} {r:Rh} {h:Heap} {v:V} {u:Value} (x:VR P r h v u) (hc: ∀b,v≠ .cst b):handedIn u=true:=by
 cases v with
 | none=>cases x.inv;rfl
 | bool b=>cases x.inv;rfl
 | int i=>refine k11 x.inv fun t q=> ?_;subst q;rfl
 | str i=>refine k11 x.inv fun t q=> ?_;subst q;rfl
 | ref i=>refine k12 x.inv fun p q ω=> ?_;subst q;rfl
 | cst b=>exact (hc b rfl).elim
 | tup vs=>refine k31 x.inv fun items n a H=> ?_;cases H.1;rfl
 | flist vs=>refine k21 x.inv fun items a H=> ?_;cases H.1;rfl
 | rng a b=>refine k43 x.inv fun ω ω ω ω q ω ω=> ?_;subst q;rfl
 | emp=>refine k24 x.inv fun ω ω q ω ω ω=> ?_;subst q;rfl
theorem zcq {o:Option V} {v:V} (e:JU o=some v):o=some v∧ ∀b,v≠ .cst b:=by
 cases o with
 | none=>exact ns e
 | some w=>cases w with
  | cst b=>exact ns e
  | _=>exact za e▸⟨rfl,fun b hb=>nomatch hb⟩
theorem zda (HC:c.ClsOk) {i:Nat} {x:Nat} {name:Str} {ua:Value} {expr:Bool} (R:c.R r σ s.heap) (xa:c.V r s.heap (.ref i) ua) (hx:c.t.ids[x]? =some name) (e:fields c.Γ σ i x=some v) (O:Out c r s σ v Q):
  wpAny c.M A (getAttr ua name expr) Q E' s:=by
 refine k22 (inst_i (o:=σ[i]?) (f:=fun C fs=>if ZV c.Γ C x=true then JU (look x fs) else .none) e) fun C fs hi e=> ?_
 refine k02 (if_i e) fun hf e=> ?_
 refine k12 (QG hf) fun k hk hf=> ?_
 refine k13 ((HC C k hk).fl x hf) fun y hy hn ω=> ?_
 cases hx.symm.trans hy
 refine k12 hn fun attr ha hn=> ?_
 obtain ⟨a,d,es,n,rfl,_,_,h1,h2,_,_,hv,_⟩:=R.instAt hi xa
 refine k02 (zcq e) fun e hc=> ?_
 refine k12 (hv x name v hx e) fun u hu hr=> ?_
 exact get_value (c.X.keeps R.base) (qV h1 h2) (plainGet_of (HC C k hk).pg).1 (findObj_own (HC C k hk).hd ha hn hu) (handed_VR hr hc) (O.same R hr _)
theorem Yn (y:Str) (e:DictEntry) (l:List DictEntry) (h:e.refKey=false):getL y (e::l)=if e.key.isStr y then some (some e.val) else getL y l:=by
 unfold getL
 rw [List.find?_cons]
 cases q:e.key.isStr y with
 | true=>simp
 | false=>simp [h]
theorem Qt (name:Str) (hsh:Int) (t:Tok) (v:Value) (y:Str): ∀es:List DictEntry,(es.any (fun ω=>ω.refKey))=false→getL y (putL name hsh (.str name t) v es)=if y=name then some (some v) else getL y es
 | [],_=>by
  unfold putL
  rw [Yn _ _ _ rfl]
  by_cases h:y=name
  ·subst h;simp [Value.isStr]
  ·have: ¬name=y:=fun e=>h e.symm
   simp [Value.isStr,this,h]
 | e::r,hr=>by
  have hr1:e.refKey=false:=by simp at hr;exact hr.1
  have hr2:(r.any (fun ω=>ω.refKey))=false:=by simp at hr⊢;exact hr.2
  have ih:=Qt name hsh t v y r hr2
  unfold putL
  rw [Yn y e r hr1]
  by_cases he:e.key.isStr name=true
  ·rw [if_pos he,Yn _ _ _ (show DictEntry.refKey ⟨e.hash,e.key,v⟩=false from hr1)]
   by_cases h:y=name
   ·subst h
    simp [he]
   ·have hn: ¬e.key.isStr y=true:=fun q=>h (Value.isStr_inj _ _ _ q he)
    simp [h,hn]
  ·rw [if_neg he,Yn _ _ _ hr1,ih]
   by_cases hy:e.key.isStr y=true
   ·have h: ¬y=name:=fun q=>he (q▸hy)
    simp [hy,h]
   ·simp [hy]
theorem Xx (name:Str) (hsh:Int) (k v:Value) (e:DictEntry) (r:List DictEntry):putL name hsh k v (e::r)=if e.key.isStr name=true then ⟨e.hash,e.key,v⟩::r else e::putL name hsh k v r:=rfl
theorem za1 (name:Str) (hsh:Int) (k v:Value) (es:List DictEntry):(putL name hsh k v es).length≤es.length+1:=by
 induction es with
 | nil=>exact zo _
 | cons e r ih=>
  rw [Xx]
  by_cases q:e.key.isStr name=true
  ·rw [if_pos q];exact wZ _
  ·rw [if_neg q];exact xc ih
theorem za0 (name:Str) (hsh:Int) (k v:Value) (es:List DictEntry) (h:(es.any (fun ω=>ω.key.isStr name))=true):(putL name hsh k v es).length=es.length:=by
 induction es with
 | nil=>exact ft h
 | cons e r ih=>
  rw [Xx]
  by_cases q:e.key.isStr name=true
  ·rw [if_pos q];rfl
  ·rw [if_neg q];exact congrArg Nat.succ (ih ((Bool.or_eq_true _ _▸(Xs▸h)).resolve_left q))
theorem zcg (name:Str) (hsh:Int) (t:Tok) (v:Value) (es:List DictEntry) (h:(es.any (fun ω=>ω.refKey))=false):((putL name hsh (.str name t) v es).any (fun ω=>ω.refKey))=false:=by
 induction es with
 | nil=>rfl
 | cons e r ih=>
  refine k02 (wi.mp (Xs▸h)) fun h1 h2=> ?_
  rw [Xx]
  by_cases q:e.key.isStr name=true
  ·rw [if_pos q,Xs];exact wi.mpr ⟨h1,h2⟩
  ·rw [if_neg q,Xs];exact wi.mpr ⟨h1,ih h2⟩
theorem getL_i {es:List DictEntry} {x:Str} (h:(getL x es).isSome=true):(es.any (fun ω=>ω.key.isStr x))=true∨((es.any (fun ω=>ω.refKey))=false∧getL x es=some .none):=by
 cases q:es.find? (fun ω=>ω.key.isStr x) with
 | some e=>exact .inl (List.any_eq_true.mpr ⟨e,List.mem_of_find?_eq_some q,List.find?_some (p:=fun d:DictEntry=>d.key.isStr x) q⟩)
 | none=>
  unfold getL at h⊢
  rw [q] at h⊢
  dsimp only at h⊢
  cases z:es.any (fun ω=>ω.refKey) with
  | true=>rw [z] at h;exact ft h
  | false=>exact .inr ⟨rfl,rfl⟩
theorem zbS {es:List DictEntry} {x:Str} {u:Value} (h:getL x es=some (some u)):(es.any (fun ω=>ω.key.isStr x))=true:=
 (getL_i (h▸rfl)).resolve_right fun q=>ns (za (q.2.symm.trans h))
theorem WS (x:Nat) (v:V) (z:Nat) (w:V) (r:List (Nat×V)):put x v ((z,w)::r)=if (z==x)=true then (z,v)::r else (z,w)::put x v r:=rfl
theorem qU (x:Nat) (z:Nat) (w:V) (r:List (Nat×V)):look x ((z,w)::r)=if (z==x)=true then some w else look x r:=rfl
theorem zbg {x:Nat} {v:V} {y:Nat} (fs:List (Nat×V)):look y (put x v fs)=if y=x then some v else look y fs:=by
 have one: ∀w r,look y ((x,w)::r)=if y=x then some w else look y r:=fun w r=>by
  rw [qU]
  by_cases h:y=x
  ·rw [if_pos h,if_pos (beq_iff_eq.mpr h.symm)]
  ·rw [if_neg h,if_neg fun q=>h (eq_of_beq q).symm]
 induction fs with
 | nil=>exact one v []
 | cons p r ih=>
  cases p with
  | mk z w=>
   rw [WS]
   by_cases hz:(z==x)=true
   ·cases eq_of_beq hz
    rw [if_pos hz,one,one]
    by_cases h:y=x
    ·rw [if_pos h,if_pos h]
    ·rw [if_neg h,if_neg h,if_neg h]
   ·rw [if_neg hz,qU,qU,ih]
    by_cases hy:(z==y)=true
    ·rw [if_pos hy,if_pos hy,if_neg fun h=>hz (beq_iff_eq.mpr ((eq_of_beq hy).trans h))]
    ·rw [if_neg hy,if_neg hy]
theorem put_len {x:Nat} {v:V} (fs:List (Nat×V)) (h:look x fs= .none):(put x v fs).length=fs.length+1:=by
 induction fs with
 | nil=>rfl
 | cons p r ih=>
  cases p with
  | mk z w=>
   rw [qU] at h
   rw [WS]
   by_cases hz:(z==x)=true
   ·rw [if_pos hz] at h;exact sn h
   ·rw [if_neg hz] at h⊢;exact congrArg Nat.succ (ih h)
theorem zcf {x:Nat} {v:V} (fs:List (Nat×V)):fs.length≤(put x v fs).length:=by
 induction fs with
 | nil=>exact zK _
 | cons p r ih=>
  cases p with
  | mk z w=>
   rw [WS]
   by_cases hz:(z==x)=true
   ·rw [if_pos hz];exact zo _
   ·rw [if_neg hz];exact xc ih
theorem osa_own {R:Result→Shared→Prop} {K:Frag} {C x dx:Addr} {es:List DictEntry} {n:Nat} {name:Str} {tk:Tok} {v:Value} (X:K.In s.heap) (hx:s.heap.get? x=some (instObj C dx)) (hd:s.heap.get? dx=some (dctO es n))
  (hp:plainOver K C=true) (ht:takerIn K C name=some .none) (hh:(clsIn K C).any (fun ω=>ω.hasDict)=true) (hl:(getL name es).isSome=true) (hz:es.length≤900)
  (h:R (.ok (.ret .none)) {s with heap:=s.heap.update dx (Obj.putName name (PyData.keyHash c.w.params name) (.str name s.toks) v),toks:=s.toks+1}):
  codeAny c.M A (.call (.builtin "object.__setattr__") ⟨[.ref x,.str name tk,v],[]⟩) R s:=by
 refine osa_open X (qV hx hd) hp ht fun b=> ?_
 refine k12 (any_some hh) fun cd hc hd'=> ?_
 have e:Obj.putName name (PyData.keyHash c.w.params name) (.str name s.toks) v (dctO es n)=dctO (putL name (PyData.keyHash c.w.params name) (.str name s.toks) v es) (putN name es n):=putName_dict ..
 have D':(s.heap.update dx (Obj.putName name (PyData.keyHash c.w.params name) (.str name s.toks) v)).get? dx=some (dctO (putL name (PyData.keyHash c.w.params name) (.str name s.toks) v es) (putN name es n)):=by
  rw [xY _ hd (by rw [e];rfl),e]
 refine zb (zi (zb (zb (wpAny_loadPart hx (zb ((looks_clsIn X hc).here ?_))))))
 rw [hd']
 refine zi (a:=some dx) (zb (zi (zb ?_)))
 unfold nsSet
 refine zb (zb (wpAny_askSetting (zi (zb (wpAny_mkText (zb (wpAny_loadPart hd ?_)))))))
 have cnd:(!es.toArray.any (fun ω=>ω.key.isStr name)&&es.toArray.any (fun ω=>ω.refKey))=false:=by
  rw [←Array.any_toList,←Array.any_toList]
  rcases getL_i hl with z | ⟨z,_⟩
  ·rw [z];rfl
  ·rw [z,Bool.and_false]
 dsimp only [dctO]
 rw [aRefKeyMayBeTheName_at,cnd]
 refine wpAny_updatePart hd ?_
 refine zb (wpAny_lookBehind D' (pastItsLine_dict (by rw [zz,sizeLine_eq];have:=za1 name (PyData.keyHash c.w.params name) (.str name s.toks) v es;lia)) ?_)
 exact zi h
theorem QO (HC:c.ClsOk) {i x:Nat} {C:Addr} {fs:List (Nat×V)} {name:Str} {ua uv:Value} (R:c.R r σ s.heap) (hi:σ[i]? =some (.inst C fs)) (xa:c.V r s.heap (.ref i) ua) (xv:c.V r s.heap v uv) (hx:c.t.ids[x]? =some name)
  (huniq: ∀i,c.t.ids[i]? =some name→i=x) (hf:ZV c.Γ C x=true) (hl:fs.length≤100) {Q:Unit→Shared→Prop}
  (h: ∀h' tk,c.R r (σ.set i (.inst C (put x v fs))) h'→Step r s.heap r h'→Q () {s with heap:=h',toks:=tk}):wpAny c.M A (setAttr ua name uv) Q E' s:=by
 refine k12 (QG hf) fun k hk hf=> ?_
 have F:=HC C k hk
 refine k13 (F.fl x hf) fun y hy ω htk=> ?_
 rw [hx] at hy;(refine si hy fun q25=> ?_;subst q25;clear hy)
 obtain ⟨a,d,es,n,rfl,hp,hne,h1,h2,hle,hnr,hv,hn⟩:=R.instAt hi xa
 have X:=c.X.keeps R.base
 have hsome:(getL name es).isSome=true:=by
  cases q:look x fs with
  | none=>rw [hn x name hx q];rfl
  | some w=>obtain ⟨u,hu,_⟩:=hv x name w hx q;rw [hu];rfl
 refine set_plain X (qV h1 h2) F.sa (osa_own (s:= {s with toks:=s.toks+1}) X h1 h2 F.po htk F.hd hsome (by lia) ?_)
 dsimp only
 have e: ∀tk,Obj.putName name (PyData.keyHash c.w.params name) (.str name tk) uv (dctO es n)=dctO (putL name (PyData.keyHash c.w.params name) (.str name tk) uv es) (putN name es n):=fun tk=>putName_dict ..
 obtain ⟨R',S'⟩:=R.upd (h':=s.heap.update d (Obj.putName name (PyData.keyHash c.w.params name) (.str name (s.toks+1)) uv)) (o:= .inst C (put x v fs)) hp (fun b ob eb n1 n2=>by
  rw [Wi _ _ (Ne.symm n2)];exact eb) (fun b ob eb=>by
  by_cases q:b=d
  ·subst q;rw [eb] at h2;(refine si h2 fun q27=> ?_;subst q27;clear h2);exact ⟨_,by rw [xY _ eb (by rw [e];rfl)]⟩
  ·exact ⟨ob,by rw [Wi _ _ (Ne.symm q)];exact eb⟩) fun M=>by
  refine .inst C _ a d (putL name (PyData.keyHash c.w.params name) (.str name (s.toks+1)) uv es) (putN name es n) hne (by rw [Wi _ _ (Ne.symm hne)];exact h1) (by rw [xY _ h2 (by rw [e];rfl),e]) ?_ (zcg _ _ _ _ _ hnr) ?_ ?_
  ·cases q:look x fs with
   | none=>rw [put_len fs q];have:=za1 name (PyData.keyHash c.w.params name) (.str name (s.toks+1)) uv es;lia
   | some w=>
    refine k12 (hv x name w hx q) fun u hu ω=> ?_
    rw [za0 _ _ _ _ _ (zbS hu)]
    have:=zcf (x:=x) (v:=v) fs;lia
  ·intro j y w ej ew
   rw [Qt _ _ _ _ _ _ hnr]
   rw [zbg] at ew
   by_cases hj:j=x
   ·subst hj
    rw [hx] at ej;(refine si ej fun q29=> ?_;subst q29;clear ej)
    rw [if_pos rfl] at ew⊢;(refine si ew fun q31=> ?_;subst q31;clear ew)
    exact ⟨uv,rfl,xv.mv M⟩
   ·have hy: ¬y=name:=fun q=>hj (huniq j (q▸ej))
    rw [if_neg hj] at ew
    rw [if_neg hy]
    refine k12 (hv j y w ej ew) fun u hu hr=> ?_
    exact ⟨u,hu,hr.mv M⟩
  ·intro j y ej ew
   rw [Qt _ _ _ _ _ _ hnr]
   rw [zbg] at ew
   by_cases hj:j=x
   ·subst hj;rw [if_pos rfl] at ew;exact sn ew
   ·have hy: ¬y=name:=fun q=>hj (huniq j (q▸ej))
    rw [if_neg hj] at ew
    rw [if_neg hy]
    exact hn j y ej ew
 exact h _ _ R' S'
end
noncomputable def isStar (e:Expr):Bool:=Nat.beq e.ctorIdx 22
theorem un_star (a:AE):isStar a.un=false:=by cases a <;>rfl
theorem ZJ (a:AE) (rest:List Expr) (env:Env):starEach (a.un::rest) env=(false,eval a.un env)::starEach rest env:=by
 have h:=un_star a
 revert h
 generalize a.un=e
 intro h
 cases e <;>first | rfl | exact tf h
theorem star_un {env:Env} : ∀as:List AE,(starEach (unL as) env).all (fun p=> !p.1)=true
 | []=>rfl
 | a::r=>by
  show (starEach (a.un::unL r) env).all _=true
  rw [ZJ];exact star_un r
theorem TrL.star {t:Tx} {sc:Scope} {env:Env} {es:List Expr} {us:List E} (h:TrL t sc es us):(starEach es env).all (fun p=> !p.1)=true:=by
 refine k13 h fun as q1 ω ω=> ?_;clear h;subst q1
 exact star_un as
theorem QE {p:Pos} {l:List (Bool×Sem Value)} :(backTo p l).all (fun q=> !q.1)=l.all fun q=> !q.1:=by
 unfold backTo;rw [List.all_map];rfl
section
variable {c:Cx} {A:Around} {E':Value→Shared→Prop} {s:Shared} {sc:Scope} {env:Env} {r:Rh} {σ σ' σ₁:H} {vars:Vars} {v:V} {ev:Ev}
theorem all_i {e₁:E} {r:List E} {vs:List V} {σ σ':H} (e:yO ev (e₁::r) vars σ=some (vs,σ')): ∃v σ₁ ws,ev e₁ vars σ=some (v,σ₁)∧yO ev r vars σ₁=some (ws,σ')∧vs=v::ws:=by
 replace e:(match ev e₁ vars σ with
  | some (v,σ')=>match yO ev r vars σ' with
   | some (vs,σ'')=>some (v::vs,σ'')
   | .none=> .none
  | .none=> .none)=some (vs,σ'):=e
 refine k22 (vh_i e) fun v σ₁ e1 e=> ?_
 refine k22 (vs_i e) fun ws σ₂ e2 e=> ?_
 refine sp e fun q1 q2=> ?_;subst q2
 exact ⟨v,σ₁,ws,e1,e2,q1.symm⟩
theorem evAll_un (ih:EvOk c A ev) {p:Pos} : ∀(as:List AE),okL c.t sc as=true→ ∀ {r:Rh} {σ σ':H} {s:Shared} {vs:List V} {Q:List Value→Shared→Prop},zY c sc env r.pv→zN c sc env r s.heap vars→c.R r σ s.heap→
  yO ev (erL as) vars σ=some (vs,σ')→(∀items r' h' tk,c.R r' σ' h'→Step r s.heap r' h'→VRs c.w.params r' h' vs items→Q items {s with heap:=h',toks:=tk})→wpAny c.M A (spliced (backTo p (starEach (unL as) env))) Q E' s:=by
 intro as
 induction as with
 | nil=>exact fun _ {r σ σ' s vs Q} eo vo R e O=>by (refine sp e fun q10 q11=> ?_;subst q10;subst q11;clear e);exact wpAny_items_nil (O [] r s.heap s.toks R (Step.refl _ _) .nil)
 | cons a rest ih'=>
  intro h r σ σ' s vs Q eo vo R e O
  refine k02 (zB h) fun h hr=> ?_
  refine k33 (all_i e) fun v σ₁ ws e1 e2 q2=> ?_;subst q2
  refine wpAny_items_cons ?_ (ZJ a _ env)
  refine ih (.mk h) eo vo R e1 fun u r₁ h₁ tk₁ R₁ S₁ x₁=> ?_
  refine ih' hr (eo.step S₁) (vo.step eo R S₁) R₁ e2 fun items r₂ h₂ tk₂ R₂ S₂ x₂=> ?_
  exact O (u::items) r₂ h₂ tk₂ R₂ (S₁.trans S₂) (.cons (x₁.step S₂) x₂)
theorem ZY (ih:EvOk c A ev) {p:Pos} {es:List Expr} {us:List E} (tr:TrL c.t sc es us) {r:Rh} {σ σ':H} {s:Shared} {vs:List V} {Q:List Value→Shared→Prop} (eo:zY c sc env r.pv) (vo:zN c sc env r s.heap vars) (R:c.R r σ s.heap)
  (e:yO ev us vars σ=some (vs,σ')) (O: ∀items r' h' tk,c.R r' σ' h'→Step r s.heap r' h'→VRs c.w.params r' h' vs items→Q items {s with heap:=h',toks:=tk}):wpAny c.M A (spliced (backTo p (starEach es env))) Q E' s:=by
 refine k13 tr fun as q3 q4 h=> ?_;clear tr;subst q3;subst q4
 exact evAll_un ih as h eo vo R e O
inductive KwR (c:Cx) (r:Rh) (h:Heap):List (Nat×V)→List (Str×Value)→Prop
 | nil:KwR c r h [] []
 | cons {i x v u ks us} :c.t.ids[i]? =some x→c.V r h v u→KwR c r h ks us→KwR c r h ((i,v)::ks) ((x,u)::us)
theorem kw_all {p:Pos} {l:List (Option Str×Sem Value)} :(backToKw p l).all (fun ω=>ω.1.isSome)=l.all (fun ω=>ω.1.isSome):=by unfold backToKw;rw [List.all_map];rfl
theorem kw_any {p:Pos} {l:List (Option Str×Sem Value)} :(backToKw p l).any (fun ω=>ω.1.isNone)=l.any (fun ω=>ω.1.isNone):=by unfold backToKw;rw [List.any_map];rfl
theorem Qh {env:Env} : ∀ks:List AK,(keywordEach (unK ks) env).all (fun ω=>ω.1.isSome)=true∧(keywordEach (unK ks) env).any (fun ω=>ω.1.isNone)=false
 | []=>⟨rfl,rfl⟩
 | .mk _ _ _ _::r=>Qh r
theorem TrK.names {t:Tx} {sc:Scope} {env:Env} {p:Pos} {ks:List Keyword} {us:List (Nat×E)} (h:TrK t sc ks us):(backToKw p (keywordEach ks env)).all (fun ω=>ω.1.isSome)=true∧(backToKw p (keywordEach ks env)).any (fun ω=>ω.1.isNone)=false:=by
 refine k13 h fun as q5 ω ω=> ?_;clear h;subst q5
 exact ⟨kw_all.trans (Qh as).1,kw_any.trans (Qh as).2⟩
theorem kw_i {i:Nat} {e₁:E} {r:List (Nat×E)} {vs:List (Nat×V)} {σ σ':H} (e:evKw ev ((i,e₁)::r) vars σ=some (vs,σ')): ∃v σ₁ ws,ev e₁ vars σ=some (v,σ₁)∧evKw ev r vars σ₁=some (ws,σ')∧vs=(i,v)::ws:=by
 replace e:(match ev e₁ vars σ with
  | some (v,σ')=>match evKw ev r vars σ' with
   | some (vs,σ'')=>some ((i,v)::vs,σ'')
   | .none=> .none
  | .none=> .none)=some (vs,σ'):=e
 refine k22 (vh_i e) fun v σ₁ e1 e=> ?_
 refine k22 (kv_i e) fun ws σ₂ e2 e=> ?_
 refine sp e fun q1 q2=> ?_;subst q2
 exact ⟨v,σ₁,ws,e1,e2,q1.symm⟩
theorem evKw_un (ih:EvOk c A ev) {p:Pos} : ∀(ks:List AK),okK c.t sc ks=true→ ∀ {r:Rh} {σ σ':H} {s:Shared} {vs:List (Nat×V)} {Q:List Value→Shared→Prop},zY c sc env r.pv→zN c sc env r s.heap vars→c.R r σ s.heap→
  evKw ev (erK ks) vars σ=some (vs,σ')→(∀items r' h' tk,c.R r' σ' h'→Step r s.heap r' h'→KwR c r' h' vs (((backToKw p (keywordEach (unK ks) env)).filterMap (fun ω=>ω.1)).zip items)→Q items {s with heap:=h',toks:=tk})→
  wpAny c.M A (evalAll ((backToKw p (keywordEach (unK ks) env)).map (fun ω=>ω.2))) Q E' s:=by
 intro ks
 induction ks with
 | nil=>exact fun _ {r σ σ' s vs Q} eo vo R e O=>by (refine sp e fun q22 q23=> ?_;subst q22;subst q23;clear e);exact zi (O [] r s.heap s.toks R (Step.refl _ _) .nil)
 | cons k rest ih'=>
 intro h r σ σ' s vs Q eo vo R e O
 cases k with
 | mk x i a q=>
  refine k02 (zB h) fun h hr=> ?_
  refine k02 (zB h) fun hi h=> ?_
  refine k33 (kw_i e) fun v σ₁ ws e1 e2 q6=> ?_;subst q6
  show wpAny _ _ (evalAll ((do let v←eval a.un env;standAt p;pure v)::(backToKw p (keywordEach (unK rest) env)).map (fun ω=>ω.2))) _ _ _
  unfold evalAll
  refine zb (zb (ih (.mk h) eo vo R e1 fun u r₁ h₁ tk₁ R₁ S₁ x₁=>zb (wp (zi ?_))))
  refine zb (yT ?_)
  refine ih' hr (eo.step S₁) (vo.step eo R S₁) R₁ e2 fun items r₂ h₂ tk₂ R₂ S₂ x₂=>zi ?_
  exact O (u::items) r₂ h₂ tk₂ R₂ (S₁.trans S₂) (.cons (Tx.id_get (of_decide_eq_true hi)) (x₁.step S₂) x₂)
theorem Qw (ih:EvOk c A ev) {p:Pos} {ks:List Keyword} {us:List (Nat×E)} (tr:TrK c.t sc ks us) {r:Rh} {σ σ':H} {s:Shared} {vs:List (Nat×V)} {Q:List Value→Shared→Prop} (eo:zY c sc env r.pv) (vo:zN c sc env r s.heap vars) (R:c.R r σ s.heap)
  (e:evKw ev us vars σ=some (vs,σ')) (O: ∀items r' h' tk,c.R r' σ' h'→Step r s.heap r' h'→KwR c r' h' vs (((backToKw p (keywordEach ks env)).filterMap (fun ω=>ω.1)).zip items)→Q items {s with heap:=h',toks:=tk}):
  wpAny c.M A (evalAll ((backToKw p (keywordEach ks env)).map (fun ω=>ω.2))) Q E' s:=by
 refine k13 tr fun as q7 q8 h=> ?_;clear tr;subst q7;subst q8
 exact evKw_un ih as h eo vo R e O
theorem zdc (ih:EvOk c A ev) {p:Pos} {f:Value} {es:List Expr} {us:List E} {ks:List Keyword} {kus:List (Nat×E)} (ha:TrL c.t sc es us) (hk:TrK c.t sc ks kus) {r:Rh} {σ σ₁ σ':H} {s:Shared} {vs:List V} {kvs:List (Nat×V)}
  {Q:Args→Shared→Prop} (eo:zY c sc env r.pv) (vo:zN c sc env r s.heap vars) (R:c.R r σ s.heap) (e1:yO ev us vars σ=some (vs,σ₁)) (e2:evKw ev kus vars σ₁=some (kvs,σ'))
  (O: ∀items kitems r' h' tk,c.R r' σ' h'→Step r s.heap r' h'→VRs c.w.params r' h' vs items→KwR c r' h' kvs kitems→Q ⟨items,kitems⟩ {s with heap:=h',toks:=tk}):
  wpAny c.M A (evalArgs f true (backTo p (starEach es env)) (backToKw p (keywordEach ks env))) Q E' s:=by
 have hall:=(hk.names (env:=env) (p:=p)).1
 refine k13 ha fun as q9 q10 ho=> ?_;clear ha;subst q9;subst q10
 cases as with
 | nil=>
  (refine sp e1 fun q29 q30=> ?_;subst q29;subst q30;clear e1)
  refine evalArgs_kw2_nil hall ?_
  exact Qw ih hk eo vo R e2 fun kit r₂ h₂ tk₂ R₂ S₂ x₂=>O [] _ r₂ h₂ tk₂ R₂ S₂ .nil x₂
 | cons a rest=>
  refine evalArgs_kw2 hall ?_ (ZJ a _ env)
  refine ZY ih (.mk ho) eo vo R e1 fun items r₁ h₁ tk₁ R₁ S₁ x₁=> ?_
  exact Qw ih hk (eo.step S₁) (vo.step eo R S₁) R₁ e2 fun kit r₂ h₂ tk₂ R₂ S₂ x₂=>O items _ r₂ h₂ tk₂ R₂ (S₁.trans S₂) (x₁.step S₂) x₂
end
theorem qO {o:Expr} {x:Str} {env:Env} {m:Sem Value} (hn:jl o=false):attributeBase o x env m=m:=by
 cases o with
 | Call f as ks p=>cases f with
  | Name=>cases as with
   | nil=>cases ks with
    | nil=>exact tf hn
    | cons=>rfl
   | cons=>rfl
  | _=>rfl
 | _=>rfl
noncomputable def ZC (c:Cx) (f:Value):Prop:= ∀h:Heap,(∀b o,c.h₀.get? b=some o→h.get? b=some o)→ ∃k,(k=Keeper.frame∨k=Keeper.machine∨k=Keeper.boundFrame)∧Looks c.M h (keeperOf f) k
theorem ZC.fn {c:Cx} {f:Value} (h:keepIn c.K f=true):ZC c f:=fun ω b=>keeps_K h _ (c.X.keeps b)
theorem ZC.builtin {c:Cx} {id:String} :ZC c (.builtin id):=fun ω ω=>⟨.machine,.inr (.inl rfl),Looks.of_pure rfl⟩
theorem ZC.type {c:Cx} {T:String} :ZC c (.type T):=fun ω ω=>⟨.machine,.inr (.inl rfl),Looks.of_pure rfl⟩
section
variable {c:Cx} {A:Around} {E':Value→Shared→Prop} {s:Shared} {sc:Scope} {env:Env} {r:Rh} {σ σ' σ₁:H} {vars:Vars} {v:V} {ev:Ev}
theorem xn (ih:EvOk c A ev) {p:Pos} {f:Value} {first:List Value} (kf:ZC c f) {es:List Expr} {us:List E} {ks:List Keyword} {kus:List (Nat×E)} (ha:TrL c.t sc es us) (hk:TrK c.t sc ks kus) {r:Rh} {σ σ₁ σ':H} {s:Shared} {vs:List V} {kvs:List (Nat×V)}
  {Q:Value→Shared→Prop} (eo:zY c sc env r.pv) (vo:zN c sc env r s.heap vars) (R:c.R r σ s.heap) (e1:yO ev us vars σ=some (vs,σ₁)) (e2:evKw ev kus vars σ₁=some (kvs,σ'))
  (O: ∀items kitems r' h' tk,c.R r' σ' h'→Step r s.heap r' h'→VRs c.w.params r' h' vs items→KwR c r' h' kvs kitems→wpAny c.M A (call f (first++items) kitems) Q E' {s with heap:=h',toks:=tk}):
  wpAny c.M A (callWith p f first (backTo p (starEach es env)) (backToKw p (keywordEach ks env))) Q E' s:=by
 have hst:=ha.star (env:=env)
 rw [←QE (p:=p)] at hst
 have h1:((backTo p (starEach es env)).any fun x=>x.1)=false:=by
  rw [List.any_eq_false];intro x hx
  have:=zq.mp hst x hx
  simpa using this
 refine callWith_of (P:=fun h=> ∀b o,c.h₀.get? b=some o→h.get? b=some o) (by rw [h1,(hk.names (env:=env) (p:=p)).2];rfl) kf ?_
 refine zdc ih ha hk eo vo R e1 e2 fun items kit r' h' tk R' S' x y=>⟨R'.base,O items kit r' h' tk R' S' x y⟩
theorem ZW {o:Expr} {x:Str} {q p:Pos} {es:List Expr} {ks:List Keyword} {us:List E} {kus:List (Nat×E)} {Q:Value→Shared→Prop} (hq:q.endLine=p.line) (hn:jl o=false) (hl:es.length+ks.length≤20) (ha:TrL c.t sc es us) (hk:TrK c.t sc ks kus)
  (h:wpAny c.M A (eval o env) (fun ov s₁=>wpAny c.M A (getMethod ov x (do return (←importBound o env).getD true)) (fun fx s₂=>wpAny c.M A (callWith p fx.1 fx.2 (backTo p (starEach es env)) (backToKw p (keywordEach ks env))) Q E' s₂) E' s₁) E' s):
  wpAny c.M A (eval (.Call (.Attribute o x q) es ks p) env) Q E' s:=by
 have hb:attributeBase o x env (eval o env)=eval o env:=qO hn
 show wpAny _ _ (do
  let ov←attributeBase o x env (eval o env)
  standAt q.atName
  methodCall o x q p env ov (es.length+ks.length) (backTo p (starEach es env)) (backToKw p (keywordEach ks env))) _ _ _
 rw [hb]
 refine zb (yD h (fun ov s₁ h₁=>zb (wp ?_)) fun ω ω x=>x)
 have hst:=ha.star (env:=env)
 rw [←QE (p:=p)] at hst
 have few:methodCallForm (es.length+ks.length) (backTo p (starEach es env)) (backToKw p (keywordEach ks env))=true:=by
  unfold methodCallForm
  rw [hst,(hk.names (env:=env) (p:=p)).1]
  simp only [Bool.true_and,decide_eq_true_eq]
  split <;>lia
 have hpos:methodCallPos true o env q p=pure p:=by unfold methodCallPos;simp [hq]
 unfold methodCall calleeOf
 rw [few,hpos]
 refine zb (yT (yD h₁ (fun fx s₂ h₂=> ?_) fun ω ω x=>x))
 exact zb (zi h₂)
end
section
variable {c:Cx} {A:Around} {E':Value→Shared→Prop} {s:Shared} {sc:Scope} {env:Env} {r:Rh} {σ σ' σ₁:H} {vars:Vars} {v:V} {ev:Ev}
theorem OutB.after {r r':Rh} {s:Shared} {h':Heap} {tk:Nat} {σ':H} {b:Bool} {Q:Bool→Shared→Prop} (O:OutB c r s σ' b Q) (S:Step r s.heap r' h'):OutB c r' {s with heap:=h',toks:=tk} σ' b Q:=
 fun r'' h'' tk' R'' S''=>O r'' h'' tk' R'' (S.trans S'')
theorem zaF (a:AE) (op:CmpOp):behindInMarks op a.un=false:=by cases a <;>rfl
noncomputable def zck:AE→Bool
 | .not .. =>false
 | .and .. =>false
 | .or .. =>false
 | .ite .. =>false
 | .cmp .. =>false
 | _=>true
theorem isTrue_un {a:AE} {env:Env} {whole:Sem Value} (h:zck a=true):isTrue a.un env whole=(do let v←whole;standAt a.un.pos;holding [v] (PySem.truthy v)):=by
 cases a <;>first | rfl | (cases h;done) | skip
theorem evB_plain {ev:Ev} {a:AE} (h:zck a=true):evB ev a.er vars σ=(match ev a.er vars σ with | some (v,σ')=>(truthy v).map (fun ω=>(ω,σ')) | .none=> .none):=by
 cases a <;>first | rfl | exact ft h
theorem tr_i {v:V} {b:Bool} (e:(truthy v).map (fun ω=>(ω,σ))=some (b,σ')):truthy v=some b∧σ'=σ:=by
 refine k12 (zc.mp e) fun x h e=> ?_
 cases e
 exact ⟨h,rfl⟩
theorem YB (ih:EvOk c A ev) (HT:c.TabOk) (hu:A.units+100 < cLine) {a b:Expr} {a' b':E} {o:Cop} (ta:Tr c.t sc a a') (tb:Tr c.t sc b b') (eo:zY c sc env r.pv) (vo:zN c sc env r s.heap vars) (R:c.R r σ s.heap)
  {x y:V} {σ₂:H} (e1:ev a' vars σ=some (x,σ₁)) (e2:ev b' vars σ₁=some (y,σ₂)) {z:Bool} (e3:wG c.Γ o x y σ₂=some z) {Q:Value→Shared→Prop}
  (O: ∀r' h' tk,c.R r' σ₂ h'→Step r s.heap r' h'→Q (.bool z) {s with heap:=h',toks:=tk}):
  wpAny c.M A (eval a env) (fun ua s₁=>wpAny c.M A (eval b env) (fun ub s₂=>wpAny c.M A (compareOp (unCop o) ua ub) Q E' s₂) E' s₁) E' s:=
 seq2 ih ta tb eo vo R e1 e2 fun ua ub r' h' tk R' S' xa xb=>sound_cmp (s:= {s with heap:=h',toks:=tk}) HT R' hu xa xb e3 fun tk'=>O r' h' tk' R' S'
theorem cmp_inv {op:Cop} {a b:E} {Γ:G} {cf:Cf} {n:Nat} {vars:Vars} {σ σ':H} {v:V} (e:MI.ev Γ cf (n+1) (.cmp op a b) vars σ=some (v,σ')): ∃x y z σ₁,MI.ev Γ cf n a vars σ=some (x,σ₁)∧MI.ev Γ cf n b vars σ₁=some (y,σ')∧wG Γ op x y σ'=some z∧v= .bool z:=by
 refine k22 (vh_i (o:=MI.ev Γ cf n a vars σ) (f:=fun x σ=>match MI.ev Γ cf n b vars σ with | some (y,σ)=>(wG Γ op x y σ).map fun b=>(V.bool b,σ) | .none=> .none) e) fun x σ₁ e1 e=> ?_
 refine k22 (vh_i (o:=MI.ev Γ cf n b vars σ₁) (f:=fun y σ=>(wG Γ op x y σ).map fun b=>(V.bool b,σ)) e) fun y σ₂ e2 e=> ?_
 refine k12 (zc.mp e) fun z hz e=> ?_
 cases e
 exact ⟨x,y,z,σ₁,e1,e2,hz,rfl⟩
noncomputable def BOk (c:Cx) (A:Around) (sc:Scope) (env:Env) (ev:Ev) (e:Expr) (u:E):Prop:= ∀ ⦃vars:Vars⦄ ⦃r:Rh⦄ ⦃σ σ':H⦄ ⦃s:Shared⦄ ⦃b:Bool⦄ ⦃Q:Bool→Shared→Prop⦄ ⦃E':Value→Shared→Prop⦄,zY c sc env r.pv→zN c sc env r s.heap vars→c.R r σ s.heap→
  evB ev u vars σ=some (b,σ')→OutB c r s σ' b Q→wpAny c.M A (isTrue e env (eval e env)) Q E' s
theorem xP (ih:EvOk c A ev) {a:AE} (h:a.ok c.t sc=true) (hp:zck a=true):BOk c A sc env ev a.un a.er:=by
 intro vars r σ σ' s b Q E' eo vo R eq O
 refine k22 (vh_i (o:=ev a.er vars σ) (f:=fun v σ'=>(truthy v).map (fun ω=>(ω,σ'))) ((evB_plain hp).symm.trans eq)) fun v σ₁ e1 e=> ?_
 refine k02 (tr_i e) fun hb q1=> ?_;subst q1
 exact wpAny_isTrue_value (ih (.mk h) eo vo R e1 fun u r' h' tk R' S' x=>YV x hb (O r' h' tk R' S')) (isTrue_un hp)
theorem Zm {n:Nat} {cf:Cf} (HT:c.TabOk) (hu:A.units+100 < cLine) (ih0: ∀m,m < n→EvOk c A (MI.ev c.Γ cf m)) (ih:EvOk c A (MI.ev c.Γ cf n)): ∀(a:AE),a.ok c.t sc=true→BOk c A sc env (MI.ev c.Γ cf n) a.un a.er
 | .not a p,h=>by
  intro vars r σ σ' s b Q E' eo vo R eq O
  refine k22 (bb_i (o:=evB (MI.ev c.Γ cf n) a.er vars σ) (f:=fun b σ'=>some (!b,σ')) eq) fun b' σ₁ e1 e=> ?_
  (refine sp e fun q12 q13=> ?_;subst q12;subst q13;clear e)
  exact wpAny_isTrue_Not (Zm HT hu ih0 ih a h eo vo R e1 O)
 | .and a d p,h=>by
  intro vars r σ σ' s b Q E' eo vo R eq O
  refine k02 (zB h) fun h1 h2=> ?_
  refine k22 (bb_i (o:=evB (MI.ev c.Γ cf n) a.er vars σ) (f:=fun x σ'=>match x with | true=>evB (MI.ev c.Γ cf n) d.er vars σ' | false=>some (false,σ')) eq) fun x σ₁ e1 e=> ?_
  refine wpAny_isTrue_BoolOp (wpAny_allTrue_And_cons ?_)
  refine Zm HT hu ih0 ih a h1 eo vo R e1 fun r' h' tk R' S'=> ?_
  cases x with
  | true=>
   refine (if_pos rfl).mpr ?_
   refine wpAny_allTrue_And_cons ?_
   refine Zm HT hu ih0 ih d h2 (eo.step S') (vo.step eo R S') R' e fun r'' h'' tk'' R'' S''=> ?_
   have q:=O r'' h'' tk'' R'' (S'.trans S'')
   cases b with
   | true=>exact wpAny_allTrue_And_nil q
   | false=>exact q
  | false=>
   (refine sp e fun q14 q15=> ?_;subst q14;subst q15;clear e)
   exact O r' h' tk R' S'
 | .or a d p,h=>by
  intro vars r σ σ' s b Q E' eo vo R eq O
  refine k02 (zB h) fun h1 h2=> ?_
  refine k22 (bb_i (o:=evB (MI.ev c.Γ cf n) a.er vars σ) (f:=fun x σ'=>match x with | true=>some (true,σ') | false=>evB (MI.ev c.Γ cf n) d.er vars σ') eq) fun x σ₁ e1 e=> ?_
  refine wpAny_isTrue_BoolOp (wpAny_allTrue_Or_cons ?_)
  refine Zm HT hu ih0 ih a h1 eo vo R e1 fun r' h' tk R' S'=> ?_
  cases x with
  | true=>
   (refine sp e fun q16 q17=> ?_;subst q16;subst q17;clear e)
   exact O r' h' tk R' S'
  | false=>
   refine wpAny_allTrue_Or_cons ?_
   refine Zm HT hu ih0 ih d h2 (eo.step S') (vo.step eo R S') R' e fun r'' h'' tk'' R'' S''=> ?_
   have q:=O r'' h'' tk'' R'' (S'.trans S'')
   cases b with
   | true=>exact q
   | false=>exact wpAny_allTrue_Or_nil q
 | .ite t a d p,h=>by
  intro vars r σ σ' s b Q E' eo vo R eq O
  refine k02 (zB h) fun h0 h=> ?_
  refine k02 (zB h) fun h1 h2=> ?_
  refine k22 (bb_i (o:=evB (MI.ev c.Γ cf n) t.er vars σ) (f:=fun x σ'=>match x with | true=>evB (MI.ev c.Γ cf n) a.er vars σ' | false=>evB (MI.ev c.Γ cf n) d.er vars σ') eq) fun x σ₁ e1 e=> ?_
  refine isTrue_IfExp ?_
  refine Zm HT hu ih0 ih t h0 eo vo R e1 fun r' h' tk R' S'=> ?_
  cases x with
  | true=>exact Zm HT hu ih0 ih a h1 (eo.step S') (vo.step eo R S') R' e (O.after S')
  | false=>exact Zm HT hu ih0 ih d h2 (eo.step S') (vo.step eo R S') R' e (O.after S')
 | .cmp o a d p,h=>by
  intro vars r σ σ' s b Q E' eo vo R eq O
  refine k02 (zB h) fun h1 h2=> ?_
  refine k22 (vh_i (o:=MI.ev c.Γ cf n (.cmp o a.er d.er) vars σ) (f:=fun v σ'=>(truthy v).map (fun ω=>(ω,σ'))) eq) fun v σ₁ e1 e=> ?_
  refine k02 (tr_i e) fun hb q2=> ?_;subst q2
  cases n with
  | zero=>exact ns e1
  | succ n=>
   refine k44 (cmp_inv e1) fun x y z σ₂ f1 f2 f3 q3=> ?_;subst q3
   (refine si hb fun q22=> ?_;subst q22;clear hb)
   refine wpAny_isTrue_Compare1 (YB (ih0 n (yc n)) HT hu (.mk h1) (.mk h2) eo vo R f1 f2 f3 fun r' h' tk R' S'=> ?_) (zaF d _)
   exact wpAny_truthy_bool (O r' h' tk R' S')
 | .cst ..,h=>xP ih h rfl
 | .dbg ..,h=>xP ih h rfl
 | .glob ..,h=>xP ih h rfl
 | .clsA ..,h=>xP ih h rfl
 | .var ..,h=>xP ih h rfl
 | .bin ..,h=>xP ih h rfl
 | .neg ..,h=>xP ih h rfl
 | .list ..,h=>xP ih h rfl
 | .tup ..,h=>xP ih h rfl
 | .slice ..,h=>xP ih h rfl
 | .sub ..,h=>xP ih h rfl
 | .attr ..,h=>xP ih h rfl
 | .callM ..,h=>xP ih h rfl
 | .call ..,h=>xP ih h rfl
 | .dsub ..,h=>xP ih h rfl
 | .comp ..,h=>xP ih h rfl
theorem Yq {n:Nat} {cf:Cf} (HT:c.TabOk) (hu:A.units+100 < cLine) (ih0: ∀m,m < n→EvOk c A (MI.ev c.Γ cf m)) (ih:EvOk c A (MI.ev c.Γ cf n)) (u:E) {e:Expr} (tr:Tr c.t sc e u) {r:Rh} {σ σ':H} {s:Shared} {b:Bool} {Q:Bool→Shared→Prop} (eo:zY c sc env r.pv) (vo:zN c sc env r s.heap vars) (R:c.R r σ s.heap)
  (eq:evB (MI.ev c.Γ cf n) u vars σ=some (b,σ')) (O:OutB c r s σ' b Q):wpAny c.M A (isTrue e env (eval e env)) Q E' s:=by
 refine k13 tr fun a q4 q5 h=> ?_;clear tr;subst q4;subst q5
 exact Zm HT hu ih0 ih a h eo vo R eq O
end
structure YH (A:Around) (n:Nat):Prop where
 hd:A.handled= .none
 dp:A.depth+2*n+9 < recursionLimit
 un:A.units+8*n+500 < cLine
structure qP (A:Around) (n:Nat):Prop where
 hd:A.handled= .none
 dp:A.depth+1+2*n+9 < recursionLimit
 un:A.units+4+8*n+500 < cLine
theorem qP.n {A:Around} {n:Nat} (F:qP A n):YH A n:=⟨F.hd,by have:=F.dp;lia,by have:=F.un;lia⟩
theorem qP.fits {A:Around} {n:Nat} (F:qP A n):Fits A:=⟨F.hd,by have:=F.un;lia,by have:=F.dp;lia⟩
theorem qP.under {A:Around} {n:Nat} (F:qP A n) (C:Addr) (vals:List Value):YH (A.under (.builtin "type.__call__" ⟨.ref C::vals,[]⟩)) n:=
 ⟨F.hd,by rw [depth_under_make];have:=F.dp;lia,by rw [units_under_make];have:=F.un;lia⟩
theorem YH.deeper {A:Around} {n:Nat} (F:YH A (n+1)) (env:Env):qP (A.deeper env) n:=
 ⟨F.hd,by rw [depth_deeper];have:=F.dp;lia,by rw [Around.deeper_units];have:=F.un;lia⟩
structure CfOk (c:Cx) (n:Nat) (cf:Cf):Prop where
 keep: ∀f as ks σ x,cf f as ks σ=some x→keepIn c.K (.ref f)=true
 run: ∀ {A:Around} {f:Addr} {as:List V} {ks:List (Nat×V)} {σ σ':H} {v:V} {r:Rh} {s:Shared} {us:List Value} {kus:List (Str×Value)} {Rr:Result→Shared→Prop},YH A n→
  cf f as ks σ=some (v,σ')→c.R r σ s.heap→VRs c.w.params r s.heap as us→KwR c r s.heap ks kus→
  Out c r s σ' v (fun u s'=>Rr (.ok (.ret u)) s')→codeAny c.M A (.call (.ref f) ⟨us,kus⟩) Rr s
noncomputable def BiOk (c:Cx) (A:Around):Prop:= ∀f as σ v σ',builtin f as σ=some (v,σ')→ZC c f∧ ∀r s us,c.R r σ s.heap→VRs c.w.params r s.heap as us→ ∀Q E',Out c r s σ' v Q→wpAny c.M A (call f us []) Q E' s
noncomputable def MeOk (c:Cx) (A:Around) (cf:Cf):Prop:= ∀ov x name m u r σ s,yA c.Γ ov x σ=some m→(∀f self,m≠ .fn f self)→c.t.ids[x]? =some name→c.R r σ s.heap→c.V r s.heap ov u→
 ∃f first,ZC c f∧(∀Q E' pl,(∀tk,Q (f,first) {s with toks:=tk})→wpAny c.M A (getMethod u name pl) Q E' s)∧
  ∀as ks r' σ₁ σ' s' v items kit,xS c.Γ cf m as ks σ₁=some (v,σ')→Step r s.heap r' s'.heap→c.R r' σ₁ s'.heap→VRs c.w.params r' s'.heap as items→KwR c r' s'.heap ks kit→ ∀Q E',Out c r' s' σ' v Q→wpAny c.M A (call f (first++items) kit) Q E' s'
noncomputable def Cx.CatOk (c:Cx):Prop:= ∀ad x v,c.t.clsAttr ad x=some v→ ∃mc u,readsIn c.K ad mc=true∧findCls c.K (.ref ad) mc x=some (.val u)∧handedIn u=true∧c.V ⟨[],[]⟩ c.h₀ v u
section
variable {c:Cx} {A:Around} {E':Value→Shared→Prop} {s:Shared} {sc:Scope} {env:Env} {r:Rh} {σ σ' σ₁:H} {vars:Vars} {v:V} {ev:Ev} {n:Nat} {cf:Cf}
theorem zcy (HC:c.ClsOk) (HF:CfOk c n cf) (hA:qP A n) {C:Addr} {k:Cls} (hk:c.Γ.clss.lookup C=some k) {as:List V} {us:List Value} (R:c.R r σ s.heap) (x:VRs c.w.params r s.heap as us) {σ':H}
  (e:cf k.init (.ref σ.length::as) [] (σ++ [.inst C []])=some (.none,σ')) {Q:Value→Shared→Prop} (O:Out c r s σ' (.ref σ.length) Q):wpAny c.M A (call (.ref C) us []) Q E' s:=by
 obtain ⟨h,g,d,t,os⟩:=s
 have F:=HC C k hk
 have X:=c.X.keeps R.base
 refine We ?_
 refine make_core (makes_of X F.mks) (looks_findIn X F.ini.1) (fun self=>bind_fn X self F.ini.2) (.inl rfl) ?_
 have no: ∀i,h.objs.size≤i→h.get? i= .none:=fun i hi=>by
  cases q:h.get? i with
  | none=>rfl
  | some o=>exact absurd (yr q) (Nat.not_lt.mpr hi)
 have k1: ∀b o,h.get? b=some o→((h.push emptyDict).push (instObj C h.objs.size)).get? b=some o:=fun b o e=>zn _ (zn _ e)
 have hx:((h.push emptyDict).push (instObj C h.objs.size)).get? (h.objs.size+1)=some (instObj C h.objs.size):=by heap_get
 have hd:((h.push emptyDict).push (instObj C h.objs.size)).get? h.objs.size=some (dctO [] 0):=zn _ (zD _ rfl)
 obtain ⟨R',S'⟩:=R.push (p:=(h.objs.size+1,h.objs.size)) (o:= .inst C []) k1 (no _ (wZ _)) (no _ (zo _)) (.inst C [] _ _ [] 0 (Nat.succ_ne_self _) hx hd (zo _) rfl (fun i x v ω q=>by cases q) (fun i x ω ω=>rfl))
 have hob:(r.ob++ [(h.objs.size+1,h.objs.size)])[σ.length]? =some (h.objs.size+1,h.objs.size):=by rw [←R.len,zJ (zo _),xG];rfl
 refine HF.run (s:=⟨(h.push emptyDict).push (instObj C h.objs.size),g,d,t,os⟩) (hA.under C us) e R' (.cons (.ref _ (h.objs.size+1,h.objs.size) hob) (x.step S')) .nil fun u r₂ h₂ tk₂ R₂ S₂ x₂=> ?_
 have:=x₂.none_inv
 subst this
 refine ⟨rfl,?_⟩
 exact O _ r₂ h₂ tk₂ R₂ (S'.trans S₂) (.ref _ (h.objs.size+1,h.objs.size) (S₂.at_ob hob))
end
section
variable {c:Cx} {A:Around} {E':Value→Shared→Prop} {s:Shared} {sc:Scope} {env:Env} {r:Rh} {σ σ' σ₁:H} {vars:Vars} {v:V} {ev:Ev} {n:Nat} {cf:Cf}
theorem Out.tup {r:Rh} {s:Shared} {σ:H} {Q:Value→Shared→Prop} {vs:List V} {items:List Value} (O:Out c r s σ (.tup vs) Q) (R:c.R r σ s.heap) (x:VRs c.w.params r s.heap vs items) (hl:vs.length≤1000000) (tk:Nat):
  Q (.ref s.heap.objs.size) {s with heap:=s.heap.push (tupO items 0),toks:=tk} :=by
 have none_:s.heap.get? s.heap.objs.size= .none:=by
  cases q:s.heap.get? s.heap.objs.size with
  | none=>rfl
  | some o=>exact absurd (yr q) (yI _)
 have k: ∀b ob,s.heap.get? b=some ob→(s.heap.push (tupO items 0)).get? b=some ob:=fun b ob e=>zn _ e
 have S:=Step.grow (r:=r) k
 refine O _ r _ tk (R.grow k) S (.tup vs items 0 _ (zD _ rfl) (fun hm=> ?_) (x.step S) (by rw [x.length];lia))
 refine k11 (R.mutLive hm) fun o ho=> ?_
 rw [none_] at ho;exact ns ho
theorem Xy (ih:EvOk c A ev) {e:Option Expr} {u:Option E} (tr:TrO c.t sc e u) (eo:zY c sc env r.pv) (vo:zN c sc env r s.heap vars) (R:c.R r σ s.heap) (eq:qd ev u vars σ=some (v,σ')) {Q:Value→Shared→Prop} (O:Out c r s σ' v Q):
  wpAny c.M A (evalPart e env) Q E' s:=by
 refine k13 tr fun a q1 q2 h=> ?_;clear tr;subst q1;subst q2
 cases a with
 | none=>(refine sp eq fun q5 q6=> ?_;subst q5;subst q6;clear eq);exact zi (O.here R .none)
 | some a=>exact ih (.mk h) eo vo R eq O
theorem zcm {β:Type} {f:Option Int→Option β} {o:Option (Option Int)} {y:β} (e:(match o with
  | .none=> .none
  | some x=>f x)=some y): ∃x,o=some x∧f x=some y:=by
 cases o with
 | none=>exact ns e
 | some x=>exact ⟨x,rfl,e⟩
theorem zcO {x l u t:V} {σ σ':H} {v:V} (e:Zb x l u t σ=some (v,σ')): ∃lo hi st,part l=some lo∧part u=some hi∧part t=some st∧(st==some 0)=false∧zca x lo hi st σ=some (v,σ'):=by
 unfold Zb at e
 refine k12 (zcm e) fun lo h1 e=> ?_
 refine k12 (zcm e) fun hi h2 e=> ?_
 refine k12 (zcm e) fun st h3 e=> ?_
 by_cases h:(st==some 0)=true
 ·rw [if_pos h] at e;exact ns e
 ·rw [if_neg h] at e
  exact ⟨lo,hi,st,h1,h2,h3,zdi.mpr h,e⟩
theorem zaP (ih:EvOk c A ev) {a:Expr} {l u st:Option Expr} {q p:Pos} {a':E} {l' u' s':Option E} (ta:Tr c.t sc a a') (tl:TrO c.t sc l l') (tu:TrO c.t sc u u') (ts:TrO c.t sc st s') (eo:zY c sc env r.pv) (vo:zN c sc env r s.heap vars) (R:c.R r σ s.heap)
  {x lv uv sv:V} {σ₂ σ₃ σ₄:H} (e1:ev a' vars σ=some (x,σ₁)) (e2:qd ev l' vars σ₁=some (lv,σ₂)) (e3:qd ev u' vars σ₂=some (uv,σ₃)) (e4:qd ev s' vars σ₃=some (sv,σ₄)) (e5:Zb x lv uv sv σ₄=some (v,σ'))
  {Q:Value→Shared→Prop} (O:Out c r s σ' v Q):wpAny c.M A (eval (.Subscript a (.Slice l u st q) p) env) Q E' s:=by
 refine Subscript_ (ih ta eo vo R e1 fun ua r₁ h₁ tk₁ R₁ S₁ xa=>wpAny_Slice ?_)
 refine Xy ih tl (eo.step S₁) (vo.step eo R S₁) R₁ e2 fun ul r₂ h₂ tk₂ R₂ S₂ xl=> ?_
 have S12:=S₁.trans S₂
 refine Xy ih tu (eo.step S12) (vo.step eo R S12) R₂ e3 fun uu r₃ h₃ tk₃ R₃ S₃ xu=> ?_
 have S13:=S12.trans S₃
 refine Xy ih ts (eo.step S13) (vo.step eo R S13) R₃ e4 fun us r₄ h₄ tk₄ R₄ S₄ xs=> ?_
 have S14:=S13.trans S₄
 have k: ∀b ob,h₄.get? b=some ob→(h₄.push {cls:= .type "slice",data:= .fields #[ul,uu,us]}).get? b=some ob:=fun b ob e=>zn _ e
 have S5:=Step.grow (r:=r₄) k
 have R5:=R₄.grow k
 refine k35 (zcO e5) fun lo hi stp hlo hhi hstp h0 e5=> ?_
 let s5:Shared:= {s with heap:=h₄.push {cls:= .type "slice",data:= .fields #[ul,uu,us]},toks:=tk₄}
 have pl:=WV (s:=s5) hlo (xl.step ((S₃.trans S₄).trans S5))
 have pu:=WV (s:=s5) hhi (xu.step (S₄.trans S5))
 have ps:=WV (s:=s5) hstp (xs.step S5)
 have I:=zb9 (A:=A) (E':=E') (s:=s5) R5 (xa.step (((S₂.trans S₃).trans S₄).trans S5)) (zD _ rfl) pl pu ps (fun q=>by rw [q] at h0;cases h0) e5 (O.after (S14.trans S5))
 obtain ⟨⟨T,id,hT,hlk⟩,hw⟩:=I
 unfold subscriptTail
 refine zb ?_
 rw [getitemInPython_of_ne hT.not_modules]
 refine zb (wpAny_specialOf hT hlk ?_)
 refine zi (zb ?_)
 have fin: ∀vs,wpAny c.M A (operate vs (getItem ua (.ref h₄.objs.size))) (fun r s₃=>wpAny c.M A (letTemporaryGo a ua r>>=fun ω=>pure r) Q E' s₃) E' {s with heap:=h₄.push {cls:= .type "slice",data:= .fields #[ul,uu,us]},toks:=tk₄} :=fun vs=>
  wpAny_operating (yD hw (fun r s₃ h₃=>zb (wpAny_letTemporaryGo (zi h₃))) fun ω ω x=>x)
 cases st with
 | none=>exact fin _
 | some e=>exact fin _
end
end MI
end T3
section T4
open PySem
namespace MI
section
variable (Γ:G) (cf:Cf) (n:Nat) (vars:Vars) (σ:H)
theorem ev_bin (op:Bop) (a b:E):ev Γ cf (n+1) (.bin op a b) vars σ=(match ev Γ cf n a vars σ with
   | some (x,σ)=>match ev Γ cf n b vars σ with
    | some (y,σ)=>Ze op x y σ
    | .none=> .none
   | .none=> .none):=rfl
theorem ev_list (es:List E):ev Γ cf (n+1) (.list es) vars σ=(match yO (ev Γ cf n) es vars σ with
   | some (vs,σ)=>mkL vs σ
   | .none=> .none):=rfl
theorem ev_tup (es:List E):ev Γ cf (n+1) (.tup es) vars σ=(match yO (ev Γ cf n) es vars σ with
   | some (vs,σ)=>if szOk vs.length then some (.tup vs,σ) else .none
   | .none=> .none):=rfl
theorem ev_cmp (op:Cop) (a b:E):ev Γ cf (n+1) (.cmp op a b) vars σ=(match ev Γ cf n a vars σ with
   | some (x,σ)=>match ev Γ cf n b vars σ with
    | some (y,σ)=>(wG Γ op x y σ).map fun b=>(.bool b,σ)
    | .none=> .none
   | .none=> .none):=rfl
theorem ev_sub (a i:E):ev Γ cf (n+1) (.sub a i) vars σ=(match ev Γ cf n a vars σ with
   | some (x,σ)=>match ev Γ cf n i vars σ with
    | some (y,σ)=>(wL Γ x y σ).map (fun ω=>(ω,σ))
    | .none=> .none
   | .none=> .none):=rfl
theorem ev_attr (a:E) (x:Nat):ev Γ cf (n+1) (.attr a x) vars σ=(match ev Γ cf n a vars σ with
   | some (.ref i,σ)=>(fields Γ σ i x).map (fun ω=>(ω,σ))
   | _=> .none):=rfl
theorem ev_call (f:E) (as:List E):ev Γ cf (n+1) (.call f as) vars σ=(match ev Γ cf n f vars σ with
   | some (fv,σ)=>match yO (ev Γ cf n) as vars σ with
    | some (vs,σ)=>jC Γ cf fv vs σ
    | .none=> .none
   | .none=> .none):=rfl
theorem zbB (o:E) (x:Nat) (as:List E) (ks:List (Nat×E)):ev Γ cf (n+1) (.callM o x as ks) vars σ=(match ev Γ cf n o vars σ with
   | some (ov,σ)=>match yA Γ ov x σ with
    | some m=>match yO (ev Γ cf n) as vars σ with
     | some (vs,σ)=>match evKw (ev Γ cf n) ks vars σ with
      | some (kv,σ)=>xS Γ cf m vs kv σ
      | .none=> .none
     | .none=> .none
    | .none=> .none
   | .none=> .none):=rfl
theorem zcQ (t a b:E):ev Γ cf (n+1) (.ite t a b) vars σ=(match evB (ev Γ cf n) t vars σ with
   | some (x,σ)=>match x with
    | true=>ev Γ cf n a vars σ
    | false=>ev Γ cf n b vars σ
   | .none=> .none):=rfl
theorem zbA (a:E) (l u s:Option E):ev Γ cf (n+1) (.slice a l u s) vars σ=(match ev Γ cf n a vars σ with
   | some (x,σ)=>match qd (ev Γ cf n) l vars σ with
    | some (lv,σ)=>match qd (ev Γ cf n) u vars σ with
     | some (uv,σ)=>match qd (ev Γ cf n) s vars σ with
      | some (sv,σ)=>Zb x lv uv sv σ
      | .none=> .none
     | .none=> .none
    | .none=> .none
   | .none=> .none):=rfl
end
section
variable (e1:Ev) (vars:Vars) (σ:H)
theorem Qy (e:E) (r:List E):yO e1 (e::r) vars σ=(match e1 e vars σ with
  | some (v,σ')=>match yO e1 r vars σ' with
   | some (vs,σ'')=>some (v::vs,σ'')
   | .none=> .none
  | .none=> .none):=rfl
theorem evKw_cons (x:Nat) (e:E) (r:List (Nat×E)):evKw e1 ((x,e)::r) vars σ=(match e1 e vars σ with
  | some (v,σ')=>match evKw e1 r vars σ' with
   | some (vs,σ'')=>some ((x,v)::vs,σ'')
   | .none=> .none
  | .none=> .none):=rfl
end
section
variable (Γ:G) (cf:Cf) (fe n:Nat) (vars:Vars) (σ:H)
theorem Qu (s:S) (r:List S):exs Γ cf fe (n+1) (s::r) vars σ=(match ex Γ cf fe n s vars σ with
  | some (fl,vars,σ)=>match fl with
   | .next=>exs Γ cf fe n r vars σ
   | .brk=>some (.brk,vars,σ)
   | .ret v=>some (.ret v,vars,σ)
  | .none=> .none):=rfl
theorem zby (xs:List Nat) (e:E):ex Γ cf fe (n+1) (.names xs e) vars σ=(match ev Γ cf fe e vars σ with
   | some (v,σ)=>some (.next,xs.foldl (fun vs x=>vs.set x v) vars,σ)
   | .none=> .none):=rfl
theorem Js (ts:List T) (e:E):ex Γ cf fe (n+1) (.unpack ts e) vars σ=(match ev Γ cf fe e vars σ with
   | some (v,σ)=>match wn (.tup ts) v σ vars with
    | some vars=>some (.next,vars,σ)
    | .none=> .none
   | .none=> .none):=rfl
theorem ex_expr (e:E):ex Γ cf fe (n+1) (.expr e) vars σ=(match ev Γ cf fe e vars σ with
   | some (_,σ)=>some (.next,vars,σ)
   | .none=> .none):=rfl
theorem zcP (t:E) (a b:List S):ex Γ cf fe (n+1) (.ite t a b) vars σ=(match evB (ev Γ cf fe) t vars σ with
   | some (x,σ)=>match x with
    | true=>exs Γ cf fe n a vars σ
    | false=>exs Γ cf fe n b vars σ
   | .none=> .none):=rfl
theorem ex_ret (e:E):ex Γ cf fe (n+1) (.ret (some e)) vars σ=(match ev Γ cf fe e vars σ with
   | some (v,σ)=>some (.ret v,vars,σ)
   | .none=> .none):=rfl
theorem Qv (o:E) (x:Nat) (e:E):ex Γ cf fe (n+1) (.setAttr o x e) vars σ=(match ev Γ cf fe e vars σ with
   | some (v,σ)=>match ev Γ cf fe o vars σ with
    | some (.ref i,σ)=>match σ[i]? with
     | some (.inst C fs)=>if ZV Γ C x&&Nat.ble fs.length 100 then some (.next,vars,σ.set i (.inst C (put x v fs))) else .none
     | _=> .none
    | _=> .none
   | .none=> .none):=rfl
end
section
variable (e1:Ev) (vars:Vars) (σ:H)
theorem evB_and (a b:E):evB e1 (.and a b) vars σ=(match evB e1 a vars σ with
  | some (x,σ')=>match x with
   | true=>evB e1 b vars σ'
   | false=>some (false,σ')
  | .none=> .none):=rfl
theorem evB_or (a b:E):evB e1 (.or a b) vars σ=(match evB e1 a vars σ with
  | some (x,σ')=>match x with
   | true=>some (true,σ')
   | false=>evB e1 b vars σ'
  | .none=> .none):=rfl
theorem evB_not (a:E):evB e1 (.not a) vars σ=(match evB e1 a vars σ with
  | some (b,σ')=>some (!b,σ')
  | .none=> .none):=rfl
end
end MI
end T4
section T5
open PySem PySem.Spec PySem.Calls PyProof.Rows PySem.W
namespace MI
structure Cx.Ok (c:Cx):Prop where
 tab:c.TabOk
 glob:c.GlobOk
 cls:c.ClsOk
 cat:c.CatOk
 ids:c.Γ.ids=c.t.ids.map fun x=>x.cps.toList
 uniq: ∀(i j:Nat) (x:Str),c.t.ids[i]? =some x→c.t.ids[j]? =some x→i=j
 dot:c.t.id (".0":Str)= .none
 setN:c.t.ids[c.Γ.setId]? =some ("__setitem__":Str)
 delN:c.t.ids[c.Γ.delId]? =some ("__delitem__":Str)
section
variable {c:Cx} {A:Around} {n:Nat} {cf:Cf}
noncomputable def zar (c:Cx) (A:Around) (n:Nat) (cf:Cf) (P:E→Bool):Prop:= ∀ {sc:Scope} {e:Expr} {u:E} {env:Env} {r:Rh} {σ σ':H} {s:Shared} {vars:Vars} {v:V},P u=true→Tr c.t sc e u→zY c sc env r.pv→zN c sc env r s.heap vars→c.R r σ s.heap→ev c.Γ cf n u vars σ=some (v,σ')→
  ∀ {Q:Value→Shared→Prop} {E':Value→Shared→Prop},Out c r s σ' v Q→wpAny c.M A (eval e env) Q E' s
noncomputable def zac (e:E):Bool:=Nat.beq e.ctorIdx (E.ctorIdx (.dsub [] [] (.lit .none))) || Nat.beq e.ctorIdx (E.ctorIdx (.comp (.lit .none) [] []))
theorem Zh:1000000≤sizeLine:=by have:=yL;lia
theorem me_i {β:Type} {f:Meth→Option β} {o:Option Meth} {y:β} (e:(match o with
  | some m=>f m
  | .none=> .none)=some y): ∃m,o=some m∧f m=some y:=by
 cases o with
 | none=>exact ns e
 | some x=>exact ⟨x,rfl,e⟩
theorem tb_i {β:Type} {f:Bool→Option β} {o:Option Bool} {y:β} (e:(match o with
  | some m=>f m
  | .none=> .none)=some y): ∃m,o=some m∧f m=some y:=by
 cases o with
 | none=>exact ns e
 | some x=>exact ⟨x,rfl,e⟩
theorem zb1 {β:Type} {f:Nat→H→Option β} {o:Option (V×H)} {y:β} (e:(match o with
  | some (.ref i,σ')=>f i σ'
  | _=> .none)=some y): ∃i σ',o=some (.ref i,σ')∧f i σ'=some y:=by
 cases o with
 | none=>exact ns e
 | some x=>
  obtain ⟨v,σ'⟩:=x
  cases v with
  | ref i=>exact ⟨i,σ',rfl,e⟩
  | _=>exact ns e
theorem zad {a:AE} {es:List Expr} {p:Pos} {env:Env} (hn:isAttr a.un=false):eval (.Call a.un es [] p) env=(do callWith p (←eval a.un env) [] (backTo p (starEach es env)) (backToKw p (keywordEach [] env))):=by
 cases a <;>first | rfl | exact tf hn
section
variable {E':Value→Shared→Prop} {s:Shared} {sc:Scope} {env:Env} {r:Rh} {σ σ' σ₁:H} {vars:Vars} {v:V} {ev:Ev}
theorem zbI (hOk:c.Ok) (hA:qP A n) (HF:CfOk c n cf) (HB:BiOk c A) (ih:EvOk c A ev) {es:List Expr} {us:List E} {p:Pos} (tas:TrL c.t sc es us) (eo:zY c sc env r.pv) (vo:zN c sc env r s.heap vars) (R:c.R r σ s.heap) {fv:V} {uf:Value} (xf:c.V r s.heap fv uf) {vs:List V}
  (e2:yO ev us vars σ=some (vs,σ₁)) (eq:jC c.Γ cf fv vs σ₁=some (v,σ')) {Q:Value→Shared→Prop} (O:Out c r s σ' v Q):wpAny c.M A (callWith p uf [] (backTo p (starEach es env)) (backToKw p (keywordEach [] env))) Q E' s:=by
 cases fv with
 | cst w=>
  have:=xf.cst_inv
  subst this
  have go:builtin uf vs σ₁=some (v,σ')→wpAny c.M A (callWith p uf [] (backTo p (starEach es env)) (backToKw p (keywordEach [] env))) Q E' s:=fun eq=>by
   refine k02 (HB _ _ _ _ _ eq) fun kf go=> ?_
   refine xn ih kf tas (.nil (t:=c.t) (sc:=sc)) eo vo R e2 (kvs:= []) rfl fun items kit r' h' tk R' S' x y=> ?_
   cases y
   exact go r' {s with heap:=h',toks:=tk} items R' x _ _ (O.after S')
  cases uf with
  | ref a=>
   replace eq:callR c.Γ cf a vs σ₁=some (v,σ'):=eq
   unfold callR at eq
   cases hk:c.Γ.clss.lookup a with
   | none=>
    rw [hk] at eq
    refine xn ih (.fn (HF.keep _ _ _ _ _ eq)) tas (.nil (t:=c.t) (sc:=sc)) eo vo R e2 (kvs:= []) rfl fun items kit r' h' tk R' S' x y=> ?_
    exact We (HF.run (s:= {s with heap:=h',toks:=tk}) hA.n eq R' x y (O.after S'))
   | some k=>
    rw [hk] at eq
    replace eq:newI a σ₁ (cf k.init (.ref σ₁.length::vs) [] (σ₁++ [.inst a []]))=some (v,σ'):=eq
    unfold newI at eq
    refine k22 (vh_i eq) fun w σ₂ e3 eq=> ?_
    cases w with
    | none=>
     (refine sp eq fun q17 q18=> ?_;subst q17;subst q18;clear eq)
     refine xn ih (.fn (hOk.cls _ _ hk).kp) tas (.nil (t:=c.t) (sc:=sc)) eo vo R e2 (kvs:= []) rfl fun items kit r' h' tk R' S' x y=> ?_
     cases y
     exact zcy (s:= {s with heap:=h',toks:=tk}) hOk.cls HF hA hk R' x e3 (O.after S')
    | _=>exact ns eq
  | _=>exact go eq
 | _=>exact ns eq
theorem meth_fn_i {Γ:G} {ov:V} {x:Nat} {σ:H} {f:Addr} {self:V} (hm:yA Γ ov x σ=some (.fn f self)): ∃i C fs k,ov= .ref i∧self= .ref i∧σ[i]? =some (.inst C fs)∧look x fs= .none∧Γ.clss.lookup C=some k∧k.meths.lookup x=some f:=by
 have no: ∀ {m:Option Txt} {g:Txt→Option Meth},(∀t,g t≠some (.fn f self))→(match m with | some m=>g m | .none=> .none)≠some (.fn f self):=fun {m g} h e=>by
  cases m with
  | none=>exact ns e
  | some m=>exact h m e
 have ife: ∀ {b:Bool} {y:Meth} {z:Option Meth},y≠ .fn f self→z≠some (.fn f self)→(if b=true then some y else z)≠some (.fn f self):=fun {b y z} h h' e=>by
  cases b with
  | true=>exact h (za e)
  | false=>exact h' e
 cases ov with
 | ref i=>
  unfold yA at hm
  dsimp only at hm
  cases hi:σ[i]? with
  | none=>rw [hi] at hm;exact ns hm
  | some o=>
   rw [hi] at hm
   cases o with
   | list xs=>exact absurd hm (no fun t=>ife (by intro h;cases h) (by intro h;cases h))
   | inst C fs=>
    dsimp only at hm
    cases hl:look x fs with
    | some w=>rw [hl] at hm;exact ns hm
    | none=>
     rw [hl] at hm
     refine k12 (zc.mp hm) fun f' hf' hm=> ?_
     cases hm
     unfold xJ at hf'
     cases hk:Γ.clss.lookup C with
     | none=>rw [hk] at hf';exact ns hf'
     | some k=>rw [hk] at hf';exact ⟨i,C,fs,k,rfl,rfl,hi,hl,hk,hf'⟩
 | str s=>exact absurd hm (no (m:=Γ.ids[x]?) (g:=fun m=>if YY.any (yW m) then some (.str s m) else .none) fun t=>ife (by intro h;cases h) (by intro h;cases h))
 | cst w=>
  cases w with
  | ref a=>exact absurd hm (no (m:=Γ.ids[x]?) fun t=>ife (by intro h;cases h) (ife (by intro h;cases h) (by intro h;cases h)))
  | _=>exact ns hm
 | _=>exact ns hm
theorem zcv (hOk:c.Ok) (hA:qP A n) (HF:CfOk c n cf) (HM:MeOk c A cf) (ih:EvOk c A ev) {es:List Expr} {us:List E} {ks:List Keyword} {kus:List (Nat×E)} {p:Pos} {pl:Sem Bool} {x:Nat} {name:Str} {m:Meth} {ov:V} {uo:Value} (hm:yA c.Γ ov x σ=some m) (hx:c.t.ids[x]? =some name)
  (tas:TrL c.t sc es us) (tks:TrK c.t sc ks kus) (eo:zY c sc env r.pv) (vo:zN c sc env r s.heap vars) (R:c.R r σ s.heap) (xo:c.V r s.heap ov uo) {vs:List V} {kv:List (Nat×V)} {σ₂:H}
  (e2:yO ev us vars σ=some (vs,σ₁)) (e3:evKw ev kus vars σ₁=some (kv,σ₂)) (eq:xS c.Γ cf m vs kv σ₂=some (v,σ')) {Q:Value→Shared→Prop} (O:Out c r s σ' v Q):
  wpAny c.M A (getMethod uo name pl) (fun fx s₂=>wpAny c.M A (callWith p fx.1 fx.2 (backTo p (starEach es env)) (backToKw p (keywordEach ks env))) Q E' s₂) E' s:=by
 by_cases hf: ∃f self,m= .fn f self
 ·refine k21 hf fun f self q1=> ?_;clear hf;subst q1
  obtain ⟨i,C,fs,k,rfl,rfl,hi,hl,hk,hf'⟩:=meth_fn_i hm
  have F:=hOk.cls _ _ hk
  refine k14 (F.me _ _ hf') fun y hy g1 g2 g3=> ?_
  rw [hx] at hy;(refine si hy fun q40=> ?_;subst q40;clear hy)
  obtain ⟨a,d,es',n',rfl,hp,hne,h1,h2,hle,hnr,hv,hn⟩:=R.instAt hi xo
  have X:=c.X.keeps R.base
  have hs:shadowIn (some (dctO es' n')) name=some false:=by
   show (lookIn name (dctO es' n')).map (fun ω=>ω.isSome)=some false
   rw [zcB,hn x name hx hl];rfl
  refine method_fn X (qV h1 h2) (plainGet_of F.pg).1 (plainGet_of F.pg).2 g1 g2 hs ?_
  refine xn ih (.fn g3) tas tks eo vo R e2 e3 fun items kit r' h' tk R' S' x' y'=> ?_
  exact We (HF.run (s:= {s with heap:=h',toks:=tk}) hA.n (as:= .ref i::vs) eq R' (.cons (xo.step S') x') y' (O.after S'))
 ·refine k23 (HM ov x name m uo r σ s hm (fun f self e=>hf ⟨f,self,e⟩) hx R xo) fun f first kf g1 g2=> ?_
  refine g1 _ _ _ fun tk=> ?_
  refine xn (s:= {s with toks:=tk}) ih kf tas tks eo vo R e2 e3 fun items kit r' h' tk' R' S' x' y'=> ?_
  exact g2 vs kv r' σ₂ σ' {s with heap:=h',toks:=tk'} v items kit eq S' R' x' y' _ _ (O.after S')
end
theorem ev_step (hOk:c.Ok) (hA:qP A n) (HF:CfOk c n cf) (HB:BiOk c A) (HM:MeOk c A cf) {m:Nat} (ih0: ∀k,k≤m→EvOk c A (ev c.Γ cf k)) (far:zar c A (m+1) cf zac):EvOk c A (ev c.Γ cf (m+1)):=by
 have ih:EvOk c A (ev c.Γ cf m):= @ih0 m (zo _)
 have hA':=hA.fits
 have hu:A.units+100 < cLine:=by have:=hA.un;lia
 intro sc e u env r σ σ' s vars v tr eo vo R eq Q E' O
 refine k13 tr fun a q2 q3 h=> ?_;clear tr;subst q2;subst q3
 cases a with
 | cst k w n p=>
  replace O:=O.cast (v₀:=w) (σ₀:=σ) eq
  cases cstOk_i h with
  | none=>exact zi (O.here R .none)
  | bool b=>exact zi (O.here R (.bool b))
  | int i=>exact wpAny_Constant_int (O.same R (.int i _) _)
  | str x=>exact wpAny_Constant_str (O.same R (.str _ _) _)
 | dbg x p=>
  replace O:=O.cast (v₀:= .bool true) (σ₀:=σ) eq
  show wpAny _ _ (eval (.Name x p) env) _ _ _
  rw [arm_eval_Name,if_pos (show (x==Str.ofString "__debug__")=true from h)]
  exact zb (wp (by unfold debugConstant;exact zb (zbT (zi (O.here R (.bool true))))))
 | var x i p=>
  refine k02 (zB h) fun h1 h=> ?_
  refine k02 (zB h) fun h2 h=> ?_
  refine k02 (zB h) fun h3 h4=> ?_
  exact eval_var (jh h1) (jh h2) (of_decide_eq_true h3) (of_decide_eq_true h4) eo vo R eq O
 | glob x w p=>
  refine k02 (zB h) fun h1 h=> ?_
  refine k02 (zB h) fun h2 h3=> ?_
  exact Yp hOk.glob (jh h1) (of_decide_eq_true h2) (vIs_i h3) eo R (O.cast eq)
 | bin o a b p=>
  refine k02 (zB h) fun h1 h2=> ?_
  refine k22 (vh_i ((ev_bin c.Γ cf m vars σ o a.er b.er).symm.trans eq)) fun x σ₁ e1 e=> ?_
  refine k22 (vh_i e) fun y σ₂ e2 e=> ?_
  exact wpAny_BinOp (seq2 ih (.mk h1) (.mk h2) eo vo R e1 e2 fun ua ub r' h' tk R' S' xa xb=>zbM (s:= {s with heap:=h',toks:=tk}) hA' R' xa xb e (O.after S'))
 | neg a p=>
  refine k22 (vh_i (o:=MI.ev c.Γ cf m a.er vars σ) (f:=fun x σ=>negV x σ) eq) fun x σ₁ e1 e=> ?_
  cases x with
  | int i=>
   refine k03 (JX e) fun hf q4 q5=> ?_
   refine wpAny_UnaryOp (ih (Tr.mk (a:=a) h) eo vo R e1 fun u r' h' tk R' S' x=> ?_)
   refine k11 (x.int_inv) fun t q6=> ?_;subst q6
   exact neg_int (((O.to q4 q5).after S').same R' (.int _ _) _)
  | _=>exact ns e
 | not a p=>exact ns eq
 | and a b p=>
  refine k02 (zB h) fun h1 h2=> ?_
  refine k22 (vh_i (o:=MI.ev c.Γ cf m a.er vars σ) (f:=fun x σ=>match truthy x with | some t=>(match t with | true=>MI.ev c.Γ cf m b.er vars σ | false=>some (x,σ)) | .none=> .none) eq) fun x σ₁ e1 e=> ?_
  refine BoolOp_and (ih (.mk h1) eo vo R e1 fun u r' h' tk R' S' xa=> ?_)
  refine k12 (tb_i e) fun t ht e=> ?_
  refine YV (s:= {s with heap:=h',toks:=tk}) xa ht ?_
  cases t with
  | true=>exact ih (.mk h2) (eo.step S') (vo.step eo R S') R' e (O.after S')
  | false=>
   exact (O.cast e) _ r' h' tk R' S' xa
 | or a b p=>exact ns eq
 | ite q a b p=>
  refine k02 (zB h) fun h0 h=> ?_
  refine k02 (zB h) fun h1 h2=> ?_
  refine k22 (bb_i ((zcQ c.Γ cf m vars σ q.er a.er b.er).symm.trans eq)) fun x σ₁ e1 e=> ?_
  refine wpAny_IfExp (Yq hOk.tab hu (fun k hk=> @ih0 k (wI hk)) ih _ (.mk h0) eo vo R e1 fun r' h' tk R' S'=> ?_)
  cases x with
  | true=>exact ih (.mk h1) (eo.step S') (vo.step eo R S') R' e (O.after S')
  | false=>exact ih (.mk h2) (eo.step S') (vo.step eo R S') R' e (O.after S')
 | list es p=>
  refine k22 (vs_i ((ev_list c.Γ cf m vars σ (erL es)).symm.trans eq)) fun vs σ₁ e1 e=> ?_
  show wpAny _ _ (do standAt _;newList (←spliced (backTo _ (starEach _ env)))) _ _ _
  refine zb (wp (zb (ZY ih (.mk h) eo vo R e1 fun items r' h' tk R' S' x=> ?_)))
  have hl:=(YN e).1
  exact zax ((O.after S').list (s:= {s with heap:=h',toks:=tk}) e R' x tk) (by rw [x.length];exact zm hl Zh)
 | tup es k p=>
  refine k22 (vs_i ((ev_tup c.Γ cf m vars σ (erL es)).symm.trans eq)) fun vs σ₁ e1 e=> ?_
  refine k02 (xj e) fun hz e=> ?_
  replace O:=O.cast (congrArg some e.symm)
  have hl:=jv hz
  show wpAny _ _ (do standAt _;newTuple (←spliced (backTo _ (starEach _ env)))) _ _ _
  refine zb (wp (zb (ZY ih (.mk h) eo vo R e1 fun items r' h' tk R' S' x=> ?_)))
  exact wpAny_newTuple ((O.after S').tup (s:= {s with heap:=h',toks:=tk}) R' x hl tk) (by rw [x.length];exact zm hl Zh)
 | cmp o a b p=>
  refine k02 (zB h) fun h1 h2=> ?_
  refine k44 (cmp_inv eq) fun x y z σ₂ f1 f2 f3 q7=> ?_
  exact wpAny_Compare1 (YB ih hOk.tab hu (.mk h1) (.mk h2) eo vo R f1 f2 f3 fun r' h' tk R' S'=>O _ r' h' tk R' S' (q7▸ .bool z)) (zaF b _)
 | slice a l u t q p=>
  refine k02 (zB h) fun h1 h=> ?_
  refine k02 (zB h) fun h2 h=> ?_
  refine k02 (zB h) fun h3 h4=> ?_
  refine k22 (vh_i ((zbA c.Γ cf m vars σ a.er (erO l) (erO u) (erO t)).symm.trans eq)) fun x σ₁ e1 e=> ?_
  refine k22 (vh_i e) fun lv σ₂ e2 e=> ?_
  refine k22 (vh_i e) fun uv σ₃ e3 e=> ?_
  refine k22 (vh_i e) fun sv σ₄ e4 e=> ?_
  exact zaP ih (.mk h1) (.mk h2) (.mk h3) (.mk h4) eo vo R e1 e2 e3 e4 e O
 | sub a i p=>
  refine k02 (zB h) fun hs h=> ?_
  refine k02 (zB h) fun h1 h2=> ?_
  refine k22 (vh_i ((ev_sub c.Γ cf m vars σ a.er i.er).symm.trans eq)) fun x σ₁ e1 e=> ?_
  refine k22 (vh_i e) fun y σ₂ e2 e=> ?_
  refine k12 (zc.mp e) fun v' hv e=> ?_
  replace O:=O.cast (congrArg some e)
  exact Subscript_ (seq2 ih (.mk h1) (.mk h2) eo vo R e1 e2 fun ua ub r' h' tk R' S' xa xb=>sub_sound (s:= {s with heap:=h',toks:=tk}) (jh hs) R' xa xb hv (O.after S'))
 | clsA k p x q w=>
  refine k02 (zB h) fun h1 h=> ?_
  refine k02 (zB h) fun h2 h3=> ?_
  replace O:=O.cast (v₀:=w) (σ₀:=σ) eq
  cases hg:c.t.glob k with
  | none=>rw [hg] at h3;exact ft h3
  | some gw=>
   rw [hg] at h3
   cases gw with
   | cst cw=>
    cases cw with
    | ref ad=>
     refine k24 (hOk.cat _ _ _ (vIs_i h3)) fun mc u a1 a2 a3 a4=> ?_
     refine Attribute_any_ (Yp hOk.glob (jh h2) (of_decide_eq_true h1) hg eo R fun u' r' h' tk R' S' x=> ?_)
     cases x.cst_inv
     exact cls_value (s:= {s with heap:=h',toks:=tk}) (c.X.keeps R'.base) a1 a2 a3 ((O.after S').same R' (VR.base (s:= {s with heap:=h',toks:=tk}) R' a4) _)
    | _=>exact ft h3
   | _=>exact ft h3
 | attr a x i p=>
  refine k02 (zB h) fun hn h=> ?_
  refine k02 (zB h) fun h1 hi=> ?_
  refine k22 (zb1 ((ev_attr c.Γ cf m vars σ a.er i).symm.trans eq)) fun j σ₁ e1 e=> ?_
  refine k12 (zc.mp e) fun v' hv e=> ?_
  replace O:=O.cast (congrArg some e)
  refine Attribute_any_ (ih (.mk h1) eo vo R e1 fun ua r' h' tk R' S' xa=>zda (s:= {s with heap:=h',toks:=tk}) hOk.cls R' xa (Tx.id_get (of_decide_eq_true hi)) hv (O.after S')) ?_
  show eval (.Attribute a.un x p) env=_
  rw [arm_eval_Attribute]
  rw [qO (jh hn)]
 | callM o x i q as ks p=>
  refine k02 (zB h) fun h1 h=> ?_
  refine k02 (zB h) fun h2 h=> ?_
  refine k02 (zB h) fun h3 h=> ?_
  refine k02 (zB h) fun h4 h=> ?_
  refine k02 (zB h) fun h5 h=> ?_
  refine k02 (zB h) fun h6 h7=> ?_
  refine k22 (vh_i ((zbB c.Γ cf m vars σ o.er i (erL as) (erK ks)).symm.trans eq)) fun ov σ₁ e1 e=> ?_
  refine k12 (me_i e) fun me hm e=> ?_
  refine k22 (vs_i e) fun vs σ₂ e2 e=> ?_
  refine k22 (kv_i e) fun kv σ₃ e3 e=> ?_
  refine ZW (of_decide_eq_true h1) (jh h2) (by rw [YI,WA];exact zg h3) (.mk h6) (.mk h7) (ih (.mk h4) eo vo R e1 fun uo r₁ h₁ tk₁ R₁ S₁ xo=> ?_)
  exact zcv hOk hA HF HM ih hm (Tx.id_get (of_decide_eq_true h5)) (.mk h6) (.mk h7) (eo.step S₁) (vo.step eo R S₁) R₁ xo e2 e3 e (O.after S₁)
 | call f as p=>
  refine k02 (zB h) fun h1 h=> ?_
  refine k02 (zB h) fun h2 h3=> ?_
  refine k22 (vh_i ((ev_call c.Γ cf m vars σ f.er (erL as)).symm.trans eq)) fun fv σ₁ e1 e=> ?_
  refine k22 (vs_i e) fun vs σ₂ e2 e=> ?_
  show wpAny _ _ (eval (.Call f.un (unL as) [] p) env) _ _ _
  rw [zad (jh h1)]
  refine zb (ih (.mk h2) eo vo R e1 fun uf r₁ h₁ tk₁ R₁ S₁ xf=> ?_)
  exact zbI hOk hA HF HB ih (.mk h3) (eo.step S₁) (vo.step eo R S₁) R₁ xf e2 e (O.after S₁)
 | dsub ks vs q i p=>exact far rfl (.mk h) eo vo R eq O
 | comp elt tg it ifs sc' own p=>exact far rfl (.mk h) eo vo R eq O
end
structure yB (X:Addr→Prop) (r:Rh) (h:Heap) (r':Rh) (h':Heap):Prop where
 ext: ∃τ,r'.ob=r.ob++τ∧ ∀p∈τ,h.get? p.1=none∧h.get? p.2=none
 pv:r'.pv=r.pv
 keep: ∀b o,h.get? b=some o→ ¬r.own b→ ¬X b→h'.get? b=some o
 live: ∀b o,h.get? b=some o→ ∃o',h'.get? b=some o'
section
variable {X Y:Addr→Prop} {r r' r'':Rh} {h h' h'':Heap}
theorem Step.x (S:Step r h r' h'):yB X r h r' h':=⟨S.ext,S.pv,fun b o e n ω=>S.keep b o e n,S.live⟩
theorem yB.mono (S:yB X r h r' h') (hX: ∀b,X b→Y b):yB Y r h r' h':=⟨S.ext,S.pv,fun b o e n m=>S.keep b o e n fun q=>m (hX b q),S.live⟩
theorem yB.own_old (S:yB X r h r' h') {b:Addr} {o:Obj} (e:h.get? b=some o) (hb:r'.own b):r.own b:=by
 refine k12 (S.ext) fun τ hτ hf=> ?_
 refine k12 hb fun p hp hb=> ?_
 rw [hτ] at hp
 rcases zt.mp hp with hp | hp
 ·exact ⟨p,hp,hb⟩
 ·refine k02 (hf p hp) fun h1 h2=> ?_
  rcases hb with rfl | rfl
  ·rw [h1] at e;exact ns e
  ·rw [h2] at e;exact ns e
theorem yB.mut_old (S:yB X r h r' h') {b:Addr} {o:Obj} (e:h.get? b=some o) (hb:r'.mut b):r.mut b:=by
 rcases hb with hb | hb
 ·exact .inl (S.own_old e hb)
 ·exact .inr (S.pv▸hb)
theorem yB.trans (S:yB X r h r' h') (S':yB X r' h' r'' h''):yB X r h r'' h'':=by
 refine ⟨?_,S'.pv.trans S.pv,fun b o e hb hx=>S'.keep b o (S.keep b o e hb hx) (fun hb'=>hb (S.own_old e hb')) hx,fun b o e=> ?_⟩
 ·refine k12 (S.ext) fun τ hτ hf=> ?_
  refine k12 (S'.ext) fun τ' hτ' hf'=> ?_
  refine ⟨τ++τ',by rw [hτ',hτ,zW],fun p hp=> ?_⟩
  rcases zt.mp hp with hp | hp
  ·exact hf p hp
  ·have no: ∀a,h'.get? a=none→h.get? a=none:=fun a ha=>by
    cases q:h.get? a with
    | none=>rfl
    | some o=>obtain ⟨o',e'⟩:=S.live a o q;rw [ha] at e';exact ns e'
   exact ⟨no _ (hf' p hp).1,no _ (hf' p hp).2⟩
 ·refine k11 (S.live b o e) fun o' e'=> ?_
  exact S'.live b o' e'
theorem yB.at_ob (S:yB X r h r' h') {i:Nat} {p:Addr×Addr} (e:r.ob[i]? =some p):r'.ob[i]? =some p:=by
 refine k12 (S.ext) fun τ hτ ω=> ?_
 have hl:=zV e
 rw [hτ,zH hl];exact e
theorem yB.mv (S:yB X r h r' h') (hX: ∀b,X b→b∈r.pv):Mv r h r' h':=
 ⟨fun ω ω e=>S.at_ob e,fun a o e f=>⟨S.keep a o e (fun q=>f (.inl q)) fun q=>f (.inr (hX a q)),fun q=>f (S.mut_old e q)⟩⟩
theorem yB.refl:yB X r h r h:=(Step.refl r h).x
theorem Rel.chg {P:Params} {ids:List Str} {h₀:Heap} {σ:MI.H} (R:Rel P ids h₀ r σ h) (hX: ∀b,X b→b∈r.pv) (k: ∀b o,h.get? b=some o→ ¬X b→h'.get? b=some o) (lv: ∀b o,h.get? b=some o→ ∃o',h'.get? b=some o'):
  Rel P ids h₀ r σ h'∧yB X r h r h':=by
 have S:yB X r h r h':=⟨⟨[],by simp,fun ω hq=>nomatch hq⟩,rfl,fun b o e ω n=>k b o e n,lv⟩
 have ow: ∀b,r.own b→ ¬X b:=fun b hb hx=>R.pvo b (hX b hx) hb
 refine ⟨⟨fun b o e=>k b o (R.base b o e) fun hx=> ?_,R.len,fun i o p e e'=> ?_,R.fresh,R.apart,R.pvo,fun b hb=> ?_⟩,S⟩
 ·exact ns ((R.fresh b (.inr (hX b hx))).symm.trans e)
 ·have hm:p∈r.ob:=zM e'
  exact (R.obj i o p e e').mv (S.mv hX) (fun ob q=>k _ ob q (ow _ ⟨p,hm,.inl rfl⟩)) fun ob q=>k _ ob q (ow _ ⟨p,hm,.inr rfl⟩)
 ·obtain ⟨o,e⟩:=R.pvl b hb;exact lv b o e
theorem Rel.enter {P:Params} {ids:List Str} {h₀:Heap} {σ:MI.H} (R:Rel P ids h₀ r σ h) {L:List Addr} (k: ∀b o,h.get? b=some o→h'.get? b=some o) (n: ∀b∈L,h.get? b= .none) (l: ∀b∈L,∃o,h'.get? b=some o):
  Rel P ids h₀ {r with pv:=r.pv++L} σ h'∧Mv r h {r with pv:=r.pv++L} h':=by
 have M:Mv r h {r with pv:=r.pv++L} h':=⟨fun ω ω e=>e,fun a o e f=>⟨k a o e,fun q=>by
  rcases q with q | q
  ·exact f (.inl q)
  ·rcases zt.mp q with q | q
   ·exact f (.inr q)
   ·exact ns ((n a q).symm.trans e)⟩⟩
 refine ⟨⟨fun b o e=>k b o (R.base b o e),R.len,fun i o p e e'=>(R.obj i o p e e').mv M (fun ω q=>k _ _ q) fun ω q=>k _ _ q,fun b hb=> ?_,R.apart,fun b hb ho=> ?_,fun b hb=> ?_⟩,M⟩
 ·rcases hb with hb | hb
  ·exact R.fresh b (.inl hb)
  ·rcases zt.mp hb with hb | hb
   ·exact R.fresh b (.inr hb)
   ·cases q:h₀.get? b with
    | none=>rfl
    | some o=>have:=R.base b o q;rw [n b hb] at this;exact ns this
 ·rcases zt.mp hb with hb | hb
  ·exact R.pvo b hb ho
  ·obtain ⟨o,e⟩:=R.ownLive ho
   exact ns ((n b hb).symm.trans e)
 ·rcases zt.mp hb with hb | hb
  ·obtain ⟨o,e⟩:=R.pvl b hb;exact ⟨o,k b o e⟩
  ·exact l b hb
theorem yB.exit {L:List Addr} {h₁:Heap} (k: ∀b o,h.get? b=some o→h₁.get? b=some o) (n: ∀b∈L,h.get? b= .none) (S:yB X {r with pv:=r.pv++L} h₁ r' h') (hX: ∀b,X b→b∈L):Step r h {r' with pv:=r.pv} h':=by
 refine ⟨?_,rfl,fun b o e hb=>S.keep b o (k b o e) hb fun q=> ?_,fun b o e=>S.live b o (k b o e)⟩
 ·refine k12 (S.ext) fun τ hτ hf=> ?_
  have no: ∀a,h₁.get? a=none→h.get? a=none:=fun a ha=>by
   cases q:h.get? a with
   | none=>rfl
   | some o=>have:=k a o q;rw [ha] at this;exact ns this
  exact ⟨τ,hτ,fun p hp=>⟨no _ (hf p hp).1,no _ (hf p hp).2⟩⟩
 ·have:=n b (hX b q);rw [e] at this;exact sn this
end
theorem nsUniq {h:Heap} {a:Addr} {m m':Str→Option Value} (x:h.Ns a m) (y:h.Ns a m'):m=m':=by
 refine k34 x fun o es ep e d k f=> ?_;clear x
 refine k34 y fun o' es' ep' e' d' k' f'=> ?_;clear y
 rw [e] at e';(refine si e' fun q1=> ?_;subst q1;clear e')
 rw [d] at d';cases d'
 funext z;rw [←f z,←f' z]
noncomputable def FrX (sc:Scope) (env:Env) (b:Addr):Prop:=b=env.locals∨ ∃x,sc.names.lookup x=some .cell∧env.cells.lookup x=some b
theorem Vars.get_set {x y:Nat} {v:V} {vars:Vars} :Vars.get y (Vars.set x v vars)=if y=x then some v else Vars.get y vars:=by
 have one: ∀w r,Vars.get y ((x,w)::r)=if y=x then w else Vars.get y r:=fun w r=>by
  rw [Vars.get_cons]
  by_cases h:y=x
  ·rw [if_pos h,if_pos (beq_iff_eq.mpr h.symm)]
  ·rw [if_neg h,if_neg fun q=>h (eq_of_beq q).symm]
 induction vars with
 | nil=>exact one _ []
 | cons p r ih=>
  cases p with
  | mk z w=>
   rw [Vars.set_cons]
   by_cases hz:(z==x)=true
   ·cases eq_of_beq hz
    rw [if_pos hz,one,one]
    by_cases h:y=x
    ·rw [if_pos h,if_pos h]
    ·rw [if_neg h,if_neg h,if_neg h]
   ·rw [if_neg hz,Vars.get_cons,Vars.get_cons,ih]
    by_cases hy:(z==y)=true
    ·rw [if_pos hy,if_pos hy,if_neg fun h=>hz (beq_iff_eq.mpr ((eq_of_beq hy).trans h))]
    ·rw [if_neg hy,if_neg hy]
section
variable {c:Cx} {A:Around} {E':Value→Shared→Prop} {s:Shared} {sc:Scope} {env:Env} {r:Rh} {σ:H} {vars vars':Vars} {v:V} {u:Value}
theorem FrX.pv (eo:zY c sc env r.pv): ∀b,FrX sc env b→b∈r.pv:=fun b hb=>by
 rcases hb with rfl | ⟨x,_,hx⟩
 ·exact eo.lpv
 ·exact eo.cpv _ _ hx
noncomputable def OutS (c:Cx) (sc:Scope) (env:Env) (r:Rh) (s:Shared) (σ':H) (vars':Vars) (Q:Shared→Prop):Prop:=
 ∀r' h' tk,c.R r' σ' h'→yB (FrX sc env) r s.heap r' h'→zN c sc env r' h' vars'→Q {s with heap:=h',toks:=tk}
theorem OutS.after {r':Rh} {h':Heap} {tk:Nat} {σ':H} {Q:Shared→Prop} (O:OutS c sc env r s σ' vars' Q) (S:yB (FrX sc env) r s.heap r' h'):OutS c sc env r' {s with heap:=h',toks:=tk} σ' vars' Q:=
 fun r'' h'' tk' R'' S'' vo=>O r'' h'' tk' R'' (S.trans S'') vo
theorem ownB_i {x:Str} (h:ownB sc x=true):sc.names.lookup x=some .local∨sc.names.lookup x=some .cell:=by
 unfold ownB at h
 generalize sc.names.lookup x=o at h⊢
 cases o with
 | none=>exact ft h
 | some k=>cases k with
  | «local» =>exact .inl rfl
  | cell=>exact .inr rfl
  | _=>exact ft h
theorem ZI {x:Str} {i:Nat} (ho:ownB sc x=true) (hi:c.t.id x=some i) (eo:zY c sc env r.pv) (vo:zN c sc env r s.heap vars) (R:c.R r σ s.heap) (xv:c.V r s.heap v u) {Q:Unit→Shared→Prop}
  (O:OutS c sc env r s σ (vars.set i v) (Q ())):wpAny c.M A (storeName env x u) Q E' s:=by
 refine k11 (vo.ns) fun m hm=> ?_
 have idInj: ∀y,c.t.id y=some i→y=x:=fun y hy=>by
  have h1:=Tx.id_get hy
  rw [Tx.id_get hi] at h1;(refine si h1 fun q5=> ?_;subst q5;clear h1);rfl
 rcases ownB_i ho with hl | hl
 ·have hk:=eo.loc x hl
  refine wpAny_storeName_local hk hm (fun h' hn' hs'=> ?_) (by rw [eo.kind];rfl)
  obtain ⟨R',S'⟩:=R.chg (h':=h') (FrX.pv eo) (fun b o e n=>(hs'.2 b fun q=>n (.inl q)).trans e) (fun b o e=>by
   by_cases q:b=env.locals
   ·subst q;obtain ⟨o',es,ep,e',_⟩:=hn';exact ⟨o',e'⟩
   ·exact ⟨o,(hs'.2 b q).trans e⟩)
  refine O r h' _ R' S' ⟨⟨_,hn'⟩,fun y a e=> ?_,fun y j w e1 e2 e3=> ?_⟩
  ·refine k22 (vo.cells y a e) fun v o ho hd=> ?_
   exact ⟨v,o,(hs'.2 a (eo.apl y a e)).trans ho,hd⟩
  ·rw [Vars.get_set] at e3
   by_cases hj:j=i
   ·subst hj
    rw [if_pos rfl] at e3;(refine si e3 fun q7=> ?_;subst q7;clear e3)
    have:=idInj y e1;subst this
    exact ⟨u,.inl ⟨hk,_,hn',by simp⟩,xv.mv (S'.mv (FrX.pv eo))⟩
   ·rw [if_neg hj] at e3
    have hne:y≠x:=fun q=>by subst q;rw [hi] at e1;(refine si e1 fun q9=> ?_;subst q9;clear e1);exact hj rfl
    refine k12 (vo.held y j w e1 e2 e3) fun w' hw hr=> ?_
    refine ⟨w',?_,hr.mv (S'.mv (FrX.pv eo))⟩
    rcases hw with ⟨k1,m1,n1,q1⟩ | ⟨k1,a,a1,o,b1,b2⟩
    ·refine .inl ⟨k1,_,hn',?_⟩
     simp only [hne,if_false]
     rw [←q1];exact congrFun (nsUniq hm n1) y
    ·exact .inr ⟨k1,a,a1,o,(hs'.2 a (eo.apl y a a1)).trans b1,b2⟩
 ·refine k02 (eo.cel x hl) fun hk hs=> ?_
  refine k11 (zP.mp hs) fun a ha=> ?_
  refine k11 (vo.cells x a ha) fun v0 hc=> ?_
  refine wpAny_storeName_cell eo.kind hk ha hc fun h' hn' hs'=> ?_
  obtain ⟨R',S'⟩:=R.chg (h':=h') (FrX.pv eo) (fun b o e n=>(hs'.2 b fun q=>n (.inr ⟨x,hl,q▸ha⟩)).trans e) (fun b o e=>by
   by_cases q:b=a
   ·subst q;obtain ⟨o',e',_⟩:=hn';exact ⟨o',e'⟩
   ·exact ⟨o,(hs'.2 b q).trans e⟩)
  have hLa:env.locals≠a:=Ne.symm (eo.apl x a ha)
  have hm':h'.Ns env.locals m:=hm.at' fun o e=>(hs'.2 _ hLa).trans e
  refine O r h' s.toks R' S' ⟨⟨_,hm'⟩,fun y b e=> ?_,fun y j w e1 e2 e3=> ?_⟩
  ·by_cases q:b=a
   ·subst q;exact ⟨_,hn'⟩
   ·refine k22 (vo.cells y b e) fun v o ho hd=> ?_
    exact ⟨v,o,(hs'.2 b q).trans ho,hd⟩
  ·rw [Vars.get_set] at e3
   by_cases hj:j=i
   ·subst hj
    rw [if_pos rfl] at e3;(refine si e3 fun q11=> ?_;subst q11;clear e3)
    have:=idInj y e1;subst this
    exact ⟨u,.inr ⟨.inl hk,a,ha,hn'⟩,xv.mv (S'.mv (FrX.pv eo))⟩
   ·rw [if_neg hj] at e3
    have hne:y≠x:=fun q=>by subst q;rw [hi] at e1;(refine si e1 fun q13=> ?_;subst q13;clear e1);exact hj rfl
    refine k12 (vo.held y j w e1 e2 e3) fun w' hw hr=> ?_
    refine ⟨w',?_,hr.mv (S'.mv (FrX.pv eo))⟩
    rcases hw with ⟨k1,m1,n1,q1⟩ | ⟨k1,b,a1,o,b1,b2⟩
    ·exact .inl ⟨k1,m1,n1.at' fun o e=>(hs'.2 _ hLa).trans e,q1⟩
    ·have:b≠a:=fun q=>hne (eo.inj y x b a1 (q▸ha))
     exact .inr ⟨k1,b,a1,o,(hs'.2 b this).trans b1,b2⟩
theorem YA (a:AT) (rest:List Expr):assignEach (a.un::rest) env=(false,assign a.un env)::assignEach rest env:=by cases a <;>rfl
theorem YE: ∀as:List AT,(assignEach (unTs as) env).findIdx? (fun ω=>ω.1)=none∧(assignEach (unTs as) env).length=(erTs as).length
 | []=>⟨rfl,rfl⟩
 | a::r=>by
  refine k02 (YE r) fun h1 h2=> ?_
  show (assignEach (a.un::unTs r) env).findIdx? (fun ω=>ω.1)=none∧(assignEach (a.un::unTs r) env).length=(erTs r).length+1
  rw [YA]
  constructor
  ·rw [List.findIdx?_cons,if_neg zQ,h1];rfl
  ·rw [xg,h2]
theorem Ww {β:Type} {f:Vars→Option β} {o:Option Vars} {y:β} (e:(match o with
  | some x=>f x
  | .none=> .none)=some y): ∃x,o=some x∧f x=some y:=by
 cases o with
 | none=>exact ns e
 | some x=>exact ⟨x,rfl,e⟩
theorem zbN {t:T} {ts:List T} {vs:List V} {σ:H} {vars vars':Vars} (e:jQ (t::ts) vs σ vars=some vars'): ∃v ws vars₁,vs=v::ws∧wn t v σ vars=some vars₁∧jQ ts ws σ vars₁=some vars':=by
 cases vs with
 | nil=>exact ns e
 | cons v ws=>
  refine k12 (Ww (o:=wn t v σ vars) (f:=fun vars'=>jQ ts ws σ vars') e) fun vars₁ e1 e2=> ?_
  exact ⟨v,ws,vars₁,rfl,e1,e2⟩
theorem zc5 {ts:List T} {vs:List V} {σ:H} {vars vars':Vars} (e:jQ ts vs σ vars=some vars'):ts.length=vs.length:=by
 induction ts generalizing vs vars with
 | nil=>cases vs with
  | nil=>rfl
  | cons _ _=>exact ns e
 | cons t ts ih=>
  refine k33 (zbN e) fun v ws ω q ω e2=> ?_;subst q
  exact congrArg Nat.succ (ih e2)
theorem zY.stepX {X:Addr→Prop} {r':Rh} {h h':Heap} (eo:zY c sc env r.pv) (S:yB X r h r' h'):zY c sc env r'.pv:=S.pv▸eo
mutual
theorem JA (hh:A.handled=none): ∀(a:AT),a.ok c.t sc=true→ ∀ {r:Rh} {s:Shared} {v:V} {u:Value} {vars vars':Vars},zY c sc env r.pv→zN c sc env r s.heap vars→c.R r σ s.heap→c.V r s.heap v u→
  wn a.er v σ vars=some vars'→ ∀ {Q:Unit→Shared→Prop},OutS c sc env r s σ vars' (Q ())→wpAny c.M A (assign a.un env u) Q E' s
 | .name x i p,h,r,s,v,u,vars,vars',eo,vo,R,xv,eq,Q,O=>by
  refine k02 (zB h) fun h1 h2=> ?_
  (refine si eq fun q21=> ?_;subst q21;clear eq)
  exact wpAny_assign_Name (ZI h1 (of_decide_eq_true h2) eo vo R xv O)
 | .tup ts k p,h,r,s,v,u,vars,vars',eo,vo,R,xv,eq,Q,O=>by
  cases v with
  | tup vs=>
   refine k35 (xv.tup_inv) fun items n a q1 ha hm hx hz=> ?_;subst q1
   refine k02 (YE (env:=env) ts) fun h1 h2=> ?_
   refine assign_Tuple_tuple hh (Za ha) (by rw [h2,zc5 eq,zz,hx.length]) h1 fun h' he=> ?_
   have kp: ∀b o,s.heap.get? b=some o→h'.get? b=some o:=fun b o e=>he b o (yi (yr e)) e
   have S:=Step.grow (r:=r) kp
   exact QF hh ts h eo (vo.step eo R S) (R.grow kp) (hx.step S) eq (O.after (tk:=s.toks) S.x)
  | _=>exact ns eq
theorem QF (hh:A.handled=none): ∀(as:List AT),okTs c.t sc as=true→ ∀ {r:Rh} {s:Shared} {vs:List V} {us:List Value} {vars vars':Vars},zY c sc env r.pv→zN c sc env r s.heap vars→c.R r σ s.heap→VRs c.w.params r s.heap vs us→
  jQ (erTs as) vs σ vars=some vars'→ ∀ {Q:Unit→Shared→Prop},OutS c sc env r s σ vars' (Q ())→wpAny c.M A (assignInOrder ((assignEach (unTs as) env).map (fun ω=>ω.2)) us) Q E' s
 | [],h,r,s,vs,us,vars,vars',eo,vo,R,xv,eq,Q,O=>by
  cases vs with
  | nil=>cases xv.inv;cases za eq;exact zi (O r s.heap s.toks R .refl vo)
  | cons _ _=>exact ns eq
 | a::as,h,r,s,vs,us,vars,vars',eo,vo,R,xv,eq,Q,O=>by
  refine k02 (zB h) fun h1 h2=> ?_
  refine k33 (zbN eq) fun v ws vars₁ q2 e1 e2=> ?_;subst q2
  refine k23 xv.inv fun u us' q x y=> ?_;subst q
  show wpAny _ _ (assignInOrder ((assignEach (a.un::unTs as) env).map (fun ω=>ω.2)) _) _ _ _
  rw [YA]
  show wpAny _ _ (holding us' (assign a.un env u)>>=fun ω=>assignInOrder ((assignEach (unTs as) env).map (fun ω=>ω.2)) us') _ _ _
  refine zb (yT (JA hh a h1 eo vo R x e1 fun r₁ h₁ tk₁ R₁ S₁ vo₁=> ?_))
  exact QF hh as h2 (eo.stepX S₁) vo₁ R₁ (y.mv (S₁.mv (FrX.pv eo))) e2 (O.after S₁)
end
theorem Zq (hh:A.handled=none) (T':T) {e:Expr} (tr:TrT c.t sc e T') {r:Rh} {s:Shared} {v:V} {u:Value} {vars vars':Vars} (eo:zY c sc env r.pv) (vo:zN c sc env r s.heap vars) (R:c.R r σ s.heap) (xv:c.V r s.heap v u)
  (eq:wn T' v σ vars=some vars') {Q:Unit→Shared→Prop} (O:OutS c sc env r s σ vars' (Q ())):wpAny c.M A (assign e env u) Q E' s:=by
 refine k13 tr fun a q3 q4 h=> ?_;clear tr;subst q3;subst q4
 exact JA hh a h eo vo R xv eq O
end
inductive ItR (c:Cx) (A:Around) (r:Rh) (h:Heap):Itr→Addr→List Addr→Prop
 | ls (i k:Nat) (I a:Addr):r.ob[i]? =some (a,a)→h.IsListIter I a k→ItR c A r h (.one (.ls i k)) I [I]
 | vs (l:List V) (I:Addr) (fp wr:List Addr) (n k:Nat) (P:Nat→Value→Prop) (St:Nat→Heap→Prop):Walks c.prog c.w A I fp wr n P St→(∀b∈wr,b=I)→(∀b∈fp,b=I∨(¬r.mut b∧ ∃o,h.get? b=some o))→St k h→k+l.length=n→
   (∀i h,St i h→ ∃o,h.get? I=some o)→(∀j w,l[j]? =some w→ ∀v,P (k+j) v→VR c.w.params r h w v)→ItR c A r h (.one (.vs l)) I [I]
 | enum (i k:Nat) (I it a:Addr) (old:Value):r.ob[i]? =some (a,a)→IsEnum h I it (k:Int) old→h.IsListIter it a k→I≠it→ItR c A r h (.enum i k) I [I,it]
 | zip (i j k:Nat) (z TI TO i1 i2 a1 a2:Addr):r.ob[i]? =some (a1,a1)→r.ob[j]? =some (a2,a2)→ZipApart z TI TO i1 i2 a1 a2→IsZip h z TI TO .none→IsPair h TI (.ref i1) (.ref i2)→(∃a b,IsPair h TO a b)→h.IsListIter i1 a1 k→h.IsListIter i2 a2 k→ItR c A r h (.zip i j k) z [z,TI,TO,i1,i2]
 | nil (I d:Addr) (ep:Nat):IsItemIter h I d 0 0 ep .none .none→h.get? d=some (dctO [] ep)→ ¬r.mut d→ItR c A r h .nil I [I]
section
variable {c:Cx} {A:Around} {E':Value→Shared→Prop} {s:Shared} {sc:Scope} {env:Env} {r r':Rh} {h h':Heap} {σ:H} {it it':Itr} {I:Addr} {L:List Addr} {v:V}
theorem ItR.keep (M:Mv r h r' h') (k: ∀b∈L,∀o,h.get? b=some o→h'.get? b=some o) (x:ItR c A r h it I L):ItR c A r' h' it I L:=by
 revert k
 refine ItR.rec (motive:=fun it I L ω=>(∀b∈L,∀o,h.get? b=some o→h'.get? b=some o)→ItR c A r' h' it I L) ?_ ?_ ?_ ?_ ?_ x
 ·intro i k' I a h1 h2 k
  exact .ls i k' I a (M.ob _ _ h1) (h2.at fun o e=>k I (.head _) o e)
 ·intro l I fp wr n k' P St W h1 h2 h3 h4 h5 h6 k
  refine .vs l I fp wr n k' P St W h1 (fun b hb=> ?_) (W.frame _ _ _ h3 fun b hb o e=> ?_) h4 h5 fun j w e v p=>(h6 j w e v p).mv M
  ·rcases h2 b hb with q | ⟨q,o,e⟩
   ·exact .inl q
   ·exact .inr ⟨(M.fz b o e q).2,o,(M.fz b o e q).1⟩
  ·rcases h2 b hb with q | ⟨q,_⟩
   ·exact k b (q▸ .head _) o e
   ·exact (M.fz b o e q).1
 ·intro i k' I it a old h1 h2 h3 h4 k
  exact .enum i k' I it a old (M.ob _ _ h1) (k I (.head _) _ h2) (h3.at fun o e=>k it (.tail _ (.head _)) o e) h4
 ·intro i j k' z TI TO i1 i2 a1 a2 p1 p2 D hz hTI hTO h1 h2 k
  exact .zip i j k' z TI TO i1 i2 a1 a2 (M.ob _ _ p1) (M.ob _ _ p2) D (k z (.head _) _ hz) (k TI (.tail _ (.head _)) _ hTI) (hTO.imp fun a q=>q.imp fun b q=>k TO (.tail _ (.tail _ (.head _))) _ q) (h1.at fun o e=>k i1 (.tail _ (.tail _ (.tail _ (.head _)))) o e) (h2.at fun o e=>k i2 (.tail _ (.tail _ (.tail _ (.tail _ (.head _))))) o e)
 ·intro I d ep h1 h2 h3 k
  exact .nil I d ep (k I (.head _) _ h1) (M.fz d _ h2 h3).1 (M.fz d _ h2 h3).2
theorem name_go {tg:Expr} {t:Tx} {i:Nat} (ht:TrT t sc tg (.name i)) (it v:Value):letOwnedTupleGo tg it v=pure ():=by
 refine k13 ht fun a q1 e ω=> ?_;clear ht;subst q1
 cases a with
 | name _ _ _=>rfl
 | tup _ _ _=>cases e
theorem zcN {tg:Expr} {t:Tx} {ts:List T} (ht:TrT t sc tg (.tup ts)) {it u:Value} {P:Sem Unit→Prop} (h: ∀es k p,P (letOwnedTupleGo (.Tuple es k p) it u)):P (letOwnedTupleGo tg it u):=by
 refine k13 ht fun b q3 eb ω=> ?_;subst q3
 cases b with
 | name _ _ _=>exact nomatch eb
 | tup es' k' p'=>exact h _ _ _
theorem ls_next {i k:Nat} (e:(Itr.one (.ls i k)).next σ=some (some (v,it'))): ∃xs,σ[i]? =some (.list xs)∧xs[k]? =some v∧it'= .one (.ls i (k+1)):=by
 unfold Itr.next Zc.next at e
 dsimp only at e
 generalize σ[i]? =o at e
 cases o with
 | none=>exact ns e
 | some o=>cases o with
  | inst C fs=>exact ns e
  | list xs=>
   dsimp only at e
   cases q':xs[k]? with
   | none=>rw [q'] at e;exact ns (za e)
   | some w=>rw [q'] at e;refine sp (za e) fun q1 q2=> ?_;subst q1;exact ⟨xs,rfl,q',q2.symm⟩
theorem ls_end {i k:Nat} (e:(Itr.one (.ls i k)).next σ=some .none): ∃xs,σ[i]? =some (.list xs)∧xs[k]? = .none:=by
 unfold Itr.next Zc.next at e
 dsimp only at e
 generalize σ[i]? =o at e
 cases o with
 | none=>exact ns e
 | some o=>cases o with
  | inst C fs=>exact ns e
  | list xs=>
   dsimp only at e
   cases q':xs[k]? with
   | some w=>rw [q'] at e;exact sn (za e)
   | none=>exact ⟨xs,rfl,q'⟩
theorem XL {i k:Nat} {o:Option (V×Itr)} (e:(Itr.enum i k).next σ=some o): ∃xs,σ[i]? =some (.list xs)∧o=(xs[k]?).map fun v=>(.tup [.int (k:Int),v],.enum i (k+1)):=by
 unfold Itr.next at e
 dsimp only at e
 generalize σ[i]? =x at e
 cases x with
 | none=>exact ns e
 | some x=>cases x with
  | inst C fs=>exact ns e
  | list xs=>
   refine ⟨xs,rfl,?_⟩
   dsimp only at e
   cases q':xs[k]? with
   | none=>rw [q'] at e;exact (za e).symm
   | some w=>rw [q'] at e;exact (za e).symm
theorem zb0 {i j k:Nat} {o:Option (V×Itr)} (e:(Itr.zip i j k).next σ=some o): ∃xs ys,σ[i]? =some (.list xs)∧σ[j]? =some (.list ys)∧((∃v w,xs[k]? =some v∧ys[k]? =some w∧o=some (.tup [v,w],.zip i j (k+1)))∨(xs[k]? = .none∧o= .none)):=by
 refine k12 (ze.mp e) fun xs h1 e=> ?_
 refine k12 (ze.mp e) fun ys h2 e=> ?_
 have hi:=Yj h1
 have hj:=Yj h2
 refine ⟨xs,ys,hi,hj,?_⟩
 cases hv:xs[k]? with
 | none=>rw [hv] at e;exact .inr ⟨rfl,(za e).symm⟩
 | some v=>
  rw [hv] at e
  cases hw:ys[k]? with
  | none=>rw [hw] at e;exact ns e
  | some w=>rw [hw] at e;exact .inl ⟨v,w,rfl,rfl,(za e).symm⟩
theorem tup_go {es:List Expr} {k:Nat} {p:Pos} {a:Addr} {n:Nat} {u:Value} {Q:Unit→Shared→Prop} (hit:s.heap.IsListIter I a n) (h:Q () s):wpAny c.M A (letOwnedTupleGo (.Tuple es k p) (.ref I) u) Q E' s:=by
 cases u with
 | ref b=>
  refine k13 hit fun o ho hc hd=> ?_
  refine zb (wpAny_load ho ?_)
  rw [hc,hd]
  dsimp only
  rw [if_neg (by rw [yC];exact fun q=>absurd q.1 (by decide))]
  exact zi h
 | _=>exact zi h
theorem Yh (h:Heap):h.get? h.objs.size= .none:=by
 cases q:h.get? h.objs.size with
 | none=>rfl
 | some o=>exact absurd (yr q) (yI _)
theorem yz {b I:Addr} :b∈ [I]↔b=I:=zv
theorem next_ls {i k a:Nat} (R:c.R r σ s.heap) (hL: ∀b∈ [I],b∈r.pv) (h1:r.ob[i]? =some (a,a)) (h2:s.heap.IsListIter I a k) (e:(Itr.one (.ls i k)).next σ=some (some (v,it'))) {tg:Expr} {t:T} (ht:TrT c.t sc tg t) {Q:Value→Shared→Prop}
  (O: ∀u h' tk,c.R r σ h'→yB (fun ω=>ω∈ [I]) r s.heap r h'→c.V r h' v u→ItR c A r h' it' I [I]→Q u {s with heap:=h',toks:=tk}):
  wpAny c.M A (pyNext (.ref I)) (fun o s₁=> ∃u,o=some u∧wpAny c.M A (letOwnedTupleGo tg (.ref I) u) (fun ω s₂=>Q u s₂) E' s₁) E' s:=by
 refine k13 (ls_next e) fun xs hx hw q2=> ?_
 refine k22 (R.listIs hx h1) fun items n hg hxs=> ?_
 refine k12 (hxs.get hw) fun u hu hv=> ?_
 refine wpAny_pyNext_list_item h2 (yt hg) (x:=u) ((zU ..).trans hu) fun h' hit' hs'=>⟨u,rfl,?_⟩
 refine k02 (R.chg (X:=(fun ω=>ω∈ [I])) (h':=h') hL (fun b o eb n=>(hs'.2 b fun q=>n (yz.mpr q)).trans eb) (fun b o eb=>by
  by_cases q:b=I
  ·subst q;exact hit'.elim fun o' z=>⟨o',z.1⟩
  ·exact ⟨o,(hs'.2 b q).trans eb⟩)) fun R' S'=> ?_
 have fin:=O u h' s.toks R' S' (hv.mv (S'.mv hL)) (q2▸ .ls i (k+1) I a h1 hit')
 cases t with
 | name j=>rw [name_go ht];exact zi fin
 | tup ts=>
  exact zcN ht (P:=fun m=>wpAny c.M A m (fun ω s₂=>Q u s₂) E' _) fun es' k' p'=>tup_go hit' fin
theorem next_vs {l:List V} {fp wr:List Addr} {n k:Nat} {P:Nat→Value→Prop} {St:Nat→Heap→Prop} (R:c.R r σ s.heap) (hL: ∀b∈ [I],b∈r.pv) (W:Walks c.prog c.w A I fp wr n P St) (h1: ∀b∈wr,b=I) (h2: ∀b∈fp,b=I∨(¬r.mut b∧ ∃o,s.heap.get? b=some o)) (h3:St k s.heap) (h4:k+l.length=n)
  (h5: ∀i h,St i h→ ∃o,h.get? I=some o) (h6: ∀j w,l[j]? =some w→ ∀v,P (k+j) v→VR c.w.params r s.heap w v) (e:(Itr.one (.vs l)).next σ=some (some (v,it'))) {tg:Expr} {t:T} (ht:TrT c.t sc tg t) (ok:okT t (.one (.vs l))=true) {Q:Value→Shared→Prop}
  (O: ∀u h' tk,c.R r σ h'→yB (fun ω=>ω∈ [I]) r s.heap r h'→c.V r h' v u→ItR c A r h' it' I [I]→Q u {s with heap:=h',toks:=tk}):
  wpAny c.M A (pyNext (.ref I)) (fun o s₁=> ∃u,o=some u∧wpAny c.M A (letOwnedTupleGo tg (.ref I) u) (fun ω s₂=>Q u s₂) E' s₁) E' s:=by
 cases l with
 | nil=>exact ns (za e)
 | cons w l=>
  refine sp (za e) fun q1 q2=> ?_;subst q1;subst q2
  cases t with
  | tup ts=>exact ft ok
  | name j=>
   refine W.item k s _ E' (h4▸Nat.lt_add_of_pos_right (Nat.succ_pos _)) h3 fun u h' tk hp st hk=>⟨u,rfl,?_⟩
   rw [name_go ht]
   refine zi ?_
   have kx: ∀b o,s.heap.get? b=some o→ ¬b∈ [I]→h'.get? b=some o:=fun b o eb nb=>hk b o (fun q=>nb (yz.mpr (h1 b q))) eb
   refine k02 (R.chg (X:=(fun ω=>ω∈ [I])) (h':=h') hL kx (fun b o eb=>by
    by_cases q:b=I
    ·subst q;exact h5 _ _ st
    ·exact ⟨o,kx b o eb (mt yz.mp q)⟩)) fun R' S'=> ?_
   have M:=S'.mv hL
   refine O u h' tk R' S' ((h6 0 w rfl u hp).mv M) (.vs l I fp wr n (k+1) P St W h1 (fun b hb=>(h2 b hb).imp id fun q=>q.2.elim fun o eo=>⟨(M.fz b o eo q.1).2,o,(M.fz b o eo q.1).1⟩) st ((Nat.succ_add_eq_add_succ k l.length).trans h4) h5 fun j w' ew v' pv'=> ?_)
   exact (h6 (j+1) w' ew v' (Nat.succ_add_eq_add_succ k j▸pv')).mv M
theorem next_enum {i k:Nat} {it a:Addr} {old:Value} (R:c.R r σ s.heap) (hL: ∀b∈ [I,it],b∈r.pv) (h1:r.ob[i]? =some (a,a)) (h2:IsEnum s.heap I it (k:Int) old) (h3:s.heap.IsListIter it a k) (h4:I≠it) (e:(Itr.enum i k).next σ=some (some (v,it'))) {tg:Expr} {t:T} (ht:TrT c.t sc tg t) (ok:okT t (.enum i k)=true) {Q:Value→Shared→Prop}
  (O: ∀u h' tk,c.R r σ h'→yB (fun ω=>ω∈ [I,it]) r s.heap r h'→c.V r h' v u→ItR c A r h' it' I [I,it]→Q u {s with heap:=h',toks:=tk}):
  wpAny c.M A (pyNext (.ref I)) (fun o s₁=> ∃u,o=some u∧wpAny c.M A (letOwnedTupleGo tg (.ref I) u) (fun ω s₂=>Q u s₂) E' s₁) E' s:=by
 refine k12 (XL e) fun xs hx hw=> ?_
 refine k12 (zc.mp hw.symm) fun w hw2 q=> ?_
 cases q
 refine k22 (R.listIs hx h1) fun items n hg hxs=> ?_
 refine k12 (hxs.get hw2) fun u hu hv=> ?_
 have none_:=Yh s.heap
 refine wpAny_pyNext_enum_item h2 h3 (yt hg) (x:=u) ((zU ..).trans hu) h4 fun h₁ ho hit' hT hz hk=>⟨_,rfl,?_⟩
 cases t with
 | name j=>exact ft ok
 | tup ts=>
  refine zcN ht (P:=fun m=>wpAny c.M A m (fun ω s₂=>Q _ s₂) E' _) fun es' k' p'=> ?_
  refine wpAny_letOwnedTupleGo_enum (s:= {s with heap:=h₁,toks:=s.toks+1}) ho fun h' he' hs'=> ?_
  have kx: ∀b o,s.heap.get? b=some o→ ¬b∈ [I,it]→h'.get? b=some o:=fun b o eb n=>(hs'.2 b fun q=>n (q▸ .head _)).trans (hk b o (fun q=>n (q▸ .head _)) (fun q=>n (q▸ .tail _ (.head _))) eb)
  have hit₂:h'.IsListIter it a (k+1):=hit'.at fun o eb=>(hs'.2 it (Ne.symm h4)).trans eb
  refine k02 (R.chg (X:=(fun ω=>ω∈ [I,it])) (h':=h') hL kx (fun b o eb=>by
   by_cases q:b=I
   ·subst q;exact ⟨_,he'⟩
   ·by_cases q':b=it
    ·subst q';exact hit₂.elim fun o' z=>⟨o',z.1⟩
    ·exact ⟨o,kx b o eb fun z=>(zh.mp z).elim q fun z=>q' (yz.mp z)⟩)) fun R' S'=> ?_
  have hTI:s.heap.objs.size≠I:=fun q=>ns (none_.symm.trans (q▸h2))
  have hT':h'.get? s.heap.objs.size=some (tupO [.int k s.toks,u] 0):=(hs'.2 _ hTI).trans hT
  exact O _ h' _ R' S' (.tup _ [.int k s.toks,u] 0 _ hT' (fun hm=>(R.mutLive hm).elim fun o eo=>ns (none_.symm.trans eo)) (.cons (.int _ _) (.cons (hv.mv (S'.mv hL)) .nil)) (by decide:2≤4000000)) (.enum i (k+1) I it a u h1 he' hit₂ h4)
theorem next_zip {i j k z TI TO i1 i2 a1 a2:Addr} (R:c.R r σ s.heap) (hL: ∀b∈ [z,TI,TO,i1,i2],b∈r.pv) (p1:r.ob[i]? =some (a1,a1)) (p2:r.ob[j]? =some (a2,a2)) (D:ZipApart z TI TO i1 i2 a1 a2) (hz:IsZip s.heap z TI TO .none) (hTI:IsPair s.heap TI (.ref i1) (.ref i2)) (hTO: ∃a b,IsPair s.heap TO a b)
  (h1:s.heap.IsListIter i1 a1 k) (h2:s.heap.IsListIter i2 a2 k) (e:(Itr.zip i j k).next σ=some (some (v,it'))) {tg:Expr} {t:T} (ht:TrT c.t sc tg t) (ok:okT t (.zip i j k)=true) {Q:Value→Shared→Prop}
  (O: ∀u h' tk,c.R r σ h'→yB (fun ω=>ω∈ [z,TI,TO,i1,i2]) r s.heap r h'→c.V r h' v u→ItR c A r h' it' z [z,TI,TO,i1,i2]→Q u {s with heap:=h',toks:=tk}):
  wpAny c.M A (pyNext (.ref z)) (fun o s₁=> ∃u,o=some u∧wpAny c.M A (letOwnedTupleGo tg (.ref z) u) (fun ω s₂=>Q u s₂) E' s₁) E' s:=by
 refine k23 (zb0 e) fun xs ys hx hy hv=> ?_
 refine hv.elim (fun hv=> ?_) fun hv=>sn hv.2
 refine k23 hv fun v1 v2 g1 g2 q=> ?_
 refine sp q fun q1 q2=> ?_;subst q1;subst q2
 refine k22 (R.listIs hx p1) fun items n hg hxs=> ?_
 refine k22 (R.listIs hy p2) fun items' n' hg' hys=> ?_
 refine k12 (hxs.get g1) fun u1 hu1 hr1=> ?_
 refine k12 (hys.get g2) fun u2 hu2 hr2=> ?_
 refine k21 hTO fun ta tb hTO=> ?_
 have none_:=Yh s.heap
 refine wpAny_pyNext_zip_item D hz hTI hTO h1 h2 (yt hg) (yt hg') (x:=u1) (y:=u2) ((zU ..).trans hu1) ((zU ..).trans hu2) fun h₁ a1' a2' a3' a4' a5' a6' hk=>⟨_,rfl,?_⟩
 cases t with
 | name j=>exact ft ok
 | tup ts=>
  refine zcN ht (P:=fun m=>wpAny c.M A m (fun ω s₂=>Q _ s₂) E' _) fun es' k' p'=> ?_
  refine wpAny_letOwnedTupleGo_zip (s:= {s with heap:=h₁}) a1' fun h' hz' hs'=> ?_
  have kx: ∀b o,s.heap.get? b=some o→ ¬b∈ [z,TI,TO,i1,i2]→h'.get? b=some o:=fun b o eb n=>(hs'.2 b fun q=>n (q▸ .head _)).trans (hk b o (fun q=>n (q▸ .head _)) (fun q=>n (q▸ .tail _ (.tail _ (.head _)))) (fun q=>n (q▸ .tail _ (.tail _ (.tail _ (.head _))))) (fun q=>n (q▸ .tail _ (.tail _ (.tail _ (.tail _ (.head _)))))) eb)
  have hTI':IsPair h' TI (.ref i1) (.ref i2):=(hs'.2 _ D.TIz).trans (hk _ _ D.TIz D.TITO D.TIi1 D.TIi2 hTI)
  have hTO':IsPair h' TO u1 u2:=(hs'.2 _ D.TOz).trans a2'
  have hi1:h'.IsListIter i1 a1 (k+1):=a3'.at fun o eb=>(hs'.2 i1 D.i1z).trans eb
  have hi2:h'.IsListIter i2 a2 (k+1):=a4'.at fun o eb=>(hs'.2 i2 D.i2z).trans eb
  refine k02 (R.chg (X:=(fun ω=>ω∈ [z,TI,TO,i1,i2])) (h':=h') hL kx (fun b o eb=>by
   by_cases q:b∈ [z,TI,TO,i1,i2]
   ·rcases zh.mp q with q | q
    ·subst q;exact ⟨_,hz'⟩
    rcases zh.mp q with q | q
    ·subst q;exact ⟨_,hTI'⟩
    rcases zh.mp q with q | q
    ·subst q;exact ⟨_,hTO'⟩
    rcases zh.mp q with q | q
    ·subst q;exact hi1.elim fun o' z=>⟨o',z.1⟩
    ·cases yz.mp q;exact hi2.elim fun o' z=>⟨o',z.1⟩
   ·exact ⟨o,kx b o eb q⟩)) fun R' S'=> ?_
  have hTz:s.heap.objs.size≠z:=fun q=>ns (none_.symm.trans (q▸hz))
  have hT':h'.get? s.heap.objs.size=some (tupO [u1,u2] 0):=(hs'.2 _ hTz).trans a5'
  exact O _ h' _ R' S' (.tup _ [u1,u2] 0 _ hT' (fun hm=>(R.mutLive hm).elim fun o eo=>ns (none_.symm.trans eo)) (.cons (hr1.mv (S'.mv hL)) (.cons (hr2.mv (S'.mv hL)) .nil)) (by decide:2≤4000000)) (.zip i j (k+1) z TI TO i1 i2 a1 a2 p1 p2 D hz' hTI' ⟨_,_,hTO'⟩ hi1 hi2)
theorem Qf (R:c.R r σ s.heap) (hL: ∀b∈L,b∈r.pv) (x:ItR c A r s.heap it I L) (e:it.next σ=some (some (v,it'))) {tg:Expr} {t:T} (ht:TrT c.t sc tg t) (ok:okT t it=true) {Q:Value→Shared→Prop}
  (O: ∀u h' tk,c.R r σ h'→yB (fun ω=>ω∈L) r s.heap r h'→c.V r h' v u→ItR c A r h' it' I L→Q u {s with heap:=h',toks:=tk}):
  wpAny c.M A (pyNext (.ref I)) (fun o s₁=> ∃u,o=some u∧wpAny c.M A (letOwnedTupleGo tg (.ref I) u) (fun ω s₂=>Q u s₂) E' s₁) E' s:=
 ItR.rec (motive:=fun it I L ω=>(∀b∈L,b∈r.pv)→it.next σ=some (some (v,it'))→okT t it=true→(∀u h' tk,c.R r σ h'→yB (fun ω=>ω∈L) r s.heap r h'→c.V r h' v u→ItR c A r h' it' I L→Q u {s with heap:=h',toks:=tk})→
   wpAny c.M A (pyNext (.ref I)) (fun o s₁=> ∃u,o=some u∧wpAny c.M A (letOwnedTupleGo tg (.ref I) u) (fun ω s₂=>Q u s₂) E' s₁) E' s)
  (fun ω ω ω ω h1 h2 hL e ω O=>next_ls R hL h1 h2 e ht O) (fun ω ω ω ω ω ω ω ω W h1 h2 h3 h4 h5 h6 hL e ok O=>next_vs R hL W h1 h2 h3 h4 h5 h6 e ht ok O)
  (fun ω ω ω ω ω ω h1 h2 h3 h4 hL e ok O=>next_enum R hL h1 h2 h3 h4 e ht ok O) (fun ω ω ω ω ω ω ω ω ω ω p1 p2 D hz hTI hTO h1 h2 hL e ok O=>next_zip R hL p1 p2 D hz hTI hTO h1 h2 e ht ok O)
  (fun ω ω ω ω ω ω ω e ω ω=>ns (za e)) x hL e ok O
theorem zcR {h:Heap} {d:Addr} {ep:Nat} (e:h.get? d=some (dctO [] ep)):h.DictAt (strKind c.prog c.w) d [] ep:=
 ⟨_,#[],e,⟨rfl,rfl,rfl⟩,rfl,fun ω hd=>absurd hd (Array.not_mem_empty _),.nil,.nil⟩
theorem za8 (hh:A.handled=none) (R:c.R r σ s.heap) (x:ItR c A r s.heap it I L) (e:it.next σ=some .none) {Q:Option Value→Shared→Prop}
  (O: ∀h' tk,(∀b o,b ∉ L→s.heap.get? b=some o→h'.get? b=some o)→Q none {s with heap:=h',toks:=tk}):wpAny c.M A (pyNext (.ref I)) Q E' s:=by
 revert e O
 refine ItR.rec (motive:=fun it I L ω=>it.next σ=some .none→(∀h' tk,(∀b o,b ∉ L→s.heap.get? b=some o→h'.get? b=some o)→Q none {s with heap:=h',toks:=tk})→wpAny c.M A (pyNext (.ref I)) Q E' s) ?_ ?_ ?_ ?_ ?_ x
 ·intro i k I a h1 h2 e O
  refine k12 (ls_end e) fun xs hx hn=> ?_
  refine k22 (R.listIs hx h1) fun items n hg hxs=> ?_
  exact wpAny_pyNext_list_end hh h2 (yt hg) ((zU ..).trans (hxs.none hn)) fun h' hs'=>O h' s.toks fun b o nb eb=>hs' b o (fun q=>nb (yz.mpr q)) eb
 ·intro l I fp wr n k P St W h1 h2 h3 h4 h5 h6 e O
  cases l with
  | cons w l=>exact sn (za e)
  | nil=>
   cases h4
   exact W.done s _ E' h3 fun h' tk hk=>O h' tk fun b o nb eb=>hk b o (fun q=>nb (yz.mpr (h1 b q))) eb
 ·intro i k I it a old h1 h2 h3 h4 e O
  refine k12 (XL e) fun xs hx hn=> ?_
  refine k22 (R.listIs hx h1) fun items n hg hxs=> ?_
  exact wpAny_pyNext_enum_end hh h2 h3 (yt hg) ((zU ..).trans (hxs.none (Option.map_eq_none_iff.mp hn.symm))) fun h' hs'=>O h' s.toks fun b o nb eb=>hs' b o (fun q=>nb (q▸ .tail _ (.head _))) eb
 ·intro i j k z TI TO i1 i2 a1 a2 p1 p2 D hz hTI hTO h1 h2 e O
  refine k23 (zb0 e) fun xs ys hx hy hv=> ?_
  refine hv.elim (fun hv=>k23 hv fun ω ω ω ω q=>ns q) fun hv=> ?_
  refine k22 (R.listIs hx p1) fun items n hg hxs=> ?_
  refine k22 (R.listIs hy p2) fun items' n' hg' hys=> ?_
  refine k21 hTO fun ta tb hTO=> ?_
  exact wpAny_pyNext_zip_end hh D hz hTI hTO h1 h2 (yt hg) (yt hg') (.inl ((zU ..).trans (hxs.none hv.1))) fun h' hs'=>O h' s.toks fun b o n eb=>hs' b o (fun q=>n (q▸ .head _)) (fun q=>n (q▸ .tail _ (.tail _ (.head _)))) (fun q=>n (q▸ .tail _ (.tail _ (.tail _ (.head _))))) (fun q=>n (q▸ .tail _ (.tail _ (.tail _ (.tail _ (.head _)))))) eb
 ·intro I d ep h1 h2 h3 e O
  exact wpAny_pyNext_items_end hh h1 (zcR h2) rfl fun h' hs'=>O h' s.toks fun b o nb eb=>hs' b o (fun q=>nb (yz.mpr q)) eb
end
theorem Zj {n:Nat} {a:Int} {j:Nat} {w:V} (e:(yq a n)[j]? =some w):w= .int (a+j):=by
 induction n generalizing a j with
 | zero=>exact ns e
 | succ n ih=>cases j with
  | zero=>exact (za e).symm.trans (congrArg V.int (Int.add_zero a).symm)
  | succ j=>exact (ih (show (yq (a+1) n)[j]? =some w from e)).trans (congrArg V.int (by push_cast;lia))
theorem wK (n:Nat) (a:Int):(yq a n).length=n:=by
 induction n generalizing a with
 | zero=>rfl
 | succ n ih=>exact congrArg Nat.succ (ih (a+1))
section
variable {c:Cx} {A:Around} {E':Value→Shared→Prop} {s:Shared} {sc:Scope} {env:Env} {r r':Rh} {h h':Heap} {σ σ':H} {I:Addr} {L:List Addr} {v:V} {vars:Vars} {ev:Ev}
noncomputable def OutI (c:Cx) (A:Around) (r:Rh) (s:Shared) (σ':H) (itr:Itr) (Q:Addr→Shared→Prop):Prop:=
 ∀r' h₁ h' tk I L,c.R r' σ' h₁→Step r s.heap r' h₁→(∀b o,h₁.get? b=some o→h'.get? b=some o)→(∀b∈L,h₁.get? b=none)→(∀b∈L,∃o,h'.get? b=some o)→ItR c A {r' with pv:=r'.pv++L} h' itr I L→Q I {s with heap:=h',toks:=tk}
theorem OutI.cast {s:Shared} {itr z:Itr} {σ₀:H} {Q:Addr→Shared→Prop} (O:OutI c A r s σ' itr Q) (e:some (z,σ₀)=some (itr,σ')):OutI c A r s σ₀ z Q:=by cases e;exact O
theorem OutI.after {s:Shared} {h₁:Heap} {tk:Nat} {itr:Itr} {Q:Addr→Shared→Prop} (O:OutI c A r s σ' itr Q) (S:Step r s.heap r' h₁):OutI c A r' {s with heap:=h₁,toks:=tk} σ' itr Q:=
 fun r'' h₂ h' tk' I L R'' S''=>O r'' h₂ h' tk' I L R'' (S.trans S'')
theorem yS (h:Heap) {i:Nat} (hi:h.objs.size≤i):h.get? i= .none:=by
 cases q:h.get? i with
 | none=>rfl
 | some o=>exact absurd (yr q) (Nat.not_lt.mpr hi)
theorem ZU (R:c.R r σ s.heap) {z:Zc} {Q:Addr→Shared→Prop} (O:OutI c A r s σ (.one z) Q) {o:Obj} (hf:o.isFreed=false) (hi:ItR c A {r with pv:=r.pv++ [s.heap.objs.size]} (s.heap.push o) (.one z) s.heap.objs.size [s.heap.objs.size]): ∃I,Value.ref s.heap.objs.size= .ref I∧Q I {s with heap:=s.heap.push o} :=
 ⟨_,rfl,O r s.heap _ s.toks _ [s.heap.objs.size] R (Step.refl _ _) (fun b ob e=>zn _ e) (fun b hb=>yz.mp hb▸Yh s.heap) (fun b hb=>yz.mp hb▸⟨_,zD _ hf⟩) hi⟩
theorem iter_tup (hh:A.handled=none) (R:c.R r σ s.heap) {u:Value} {vs:List V} (x:c.V r s.heap (.tup vs) u) {Q:Addr→Shared→Prop} (O:OutI c A r s σ (.one (.vs vs)) Q):
  wpAny c.M A (pyIter u) (fun o s'=> ∃I,o= .ref I∧Q I s') E' s:=by
 have n0:=Yh s.heap
 refine k35 (x.tup_inv) fun items n a q2 hg hm hxs hl=> ?_;subst q2
 have hne:a≠s.heap.objs.size:=fun q=>ns (n0.symm.trans (q▸hg))
 have hm': ¬({r with pv:=r.pv++ [s.heap.objs.size]} :Rh).mut a:=fun q=>q.elim (fun q=>hm (.inl q)) fun q=>(zt.mp q).elim (fun q=>hm (.inr q)) fun q=>hne (yz.mp q)
 have hg':(s.heap.push {cls:= .type "tuple_iterator",data:= .fields #[.ref a,.int 0 0]}).get? a=_:=zn _ hg
 have hM:=(R.enter (L:= [s.heap.objs.size]) (h':=s.heap.push {cls:= .type "tuple_iterator",data:= .fields #[.ref a,.int 0 0]}) (fun b ob e=>zn _ e) (fun b hb=>yz.mp hb▸n0) (fun b hb=>yz.mp hb▸⟨_,zD _ rfl⟩)).2
 refine wpAny_pyIter_tuple (show s.heap.IsTuple a items.toArray from Za hg) (ZU R O rfl (.vs vs _ [s.heap.objs.size,a] [s.heap.objs.size] items.toArray.size 0 _ _ (Walks.tuple hh _ a hne items.toArray) (fun b hb=>yz.mp hb) (fun b hb=> ?_) ⟨⟨_,zD _ rfl,rfl,rfl⟩,⟨_,hg',rfl,n,rfl⟩⟩ ((xO _).trans (hxs.length.symm.trans zz.symm)) (fun i h st=>st.1.elim fun o ho=>⟨o,ho.1⟩) fun j w ew v pv=> ?_))
 ·refine (zh.mp hb).imp id fun q=> ?_
  cases yz.mp q
  exact ⟨hm',_,hg'⟩
 ·refine k12 (hxs.get ew) fun u hu hr=> ?_
  have pv':items[0+j]? =some v:=(zU ..).symm.trans pv
  rw [xO] at pv'
  exact za (hu.symm.trans pv')▸hr.mv hM
theorem iter_str (hh:A.handled=none) (R:c.R r σ s.heap) {u:Value} {x':Txt} (x:c.V r s.heap (.str x') u) {Q:Addr→Shared→Prop} (O:OutI c A r s σ (.one (.vs (x'.map fun c=> .str [c]))) Q):
  wpAny c.M A (pyIter u) (fun o s'=> ∃I,o= .ref I∧Q I s') E' s:=by
 refine k11 (x.str_inv) fun t q3=> ?_;subst q3
 have items': ∀(o:Obj) (j:Nat) (w:V),(x'.map fun c=>V.str [c])[j]? =some w→ ∀v,SignAt (stO x') (0+j) v→VR c.w.params {r with pv:=r.pv++ [s.heap.objs.size]} (s.heap.push o) w v:=fun o j w ew v pv=>by
  refine k22 pv fun ch u hu q4=> ?_;subst q4
  refine k12 (zc.mp ((zA ..).symm.trans ew)) fun c' hc' q5=> ?_;subst q5
  have hu':x'[0+j]? =some ch:=(zU ..).symm.trans hu
  rw [xO] at hu'
  exact za (hu'.symm.trans hc')▸ .str [ch] u
 have hlen:0+(x'.map fun c=>V.str [c]).length=(stO x').cps.size:=(xO _).trans ((zf ..).trans zz.symm)
 cases hb:(stO x').cps.all (fun ω=>ω < 128)
 ·exact wpAny_pyIter_wide hb (ZU R O rfl (.vs _ _ [s.heap.objs.size] [s.heap.objs.size] (stO x').cps.size 0 _ _ (Walks.strWide hh _ (stO x') t) (fun b hb=>yz.mp hb) (fun b hb=> .inl (yz.mp hb)) ⟨_,zD _ rfl,rfl,rfl⟩ hlen (fun i h st=>st.elim fun o ho=>⟨o,ho.1⟩) (items' _)))
 ·exact wpAny_pyIter_ascii hb (ZU R O rfl (.vs _ _ [s.heap.objs.size] [s.heap.objs.size] (stO x').cps.size 0 _ _ (Walks.strAscii hh _ (stO x') t) (fun b hb=>yz.mp hb) (fun b hb=> .inl (yz.mp hb)) ⟨_,zD _ rfl,rfl,rfl⟩ hlen (fun i h st=>st.elim fun o ho=>⟨o,ho.1⟩) (items' _)))
theorem iter_rng (hh:A.handled=none) (R:c.R r σ s.heap) {u:Value} {a b:Int} (x:c.V r s.heap (.rng a b) u) (hc:(decide (b - a < 1000)&&fit a&&fit b)=true) {Q:Addr→Shared→Prop} (O:OutI c A r s σ (.one (.vs (xZ a b))) Q):
  wpAny c.M A (pyIter u) (fun o s'=> ∃I,o= .ref I∧Q I s') E' s:=by
 refine k02 (zB hc) fun hc hfb=> ?_
 refine k02 (zB hc) fun hab hfa=> ?_
 have hab:=of_decide_eq_true hab
 refine k43 x.inv fun t u' v' y q hg hm=> ?_;subst q
 refine wpAny_pyIter_range (a:=a) (b:=b) (c:=1) hg ?_ (ZU R O rfl (.vs (xZ a b) _ [s.heap.objs.size] [s.heap.objs.size] (b - a).toNat 0 _ _ (Walks.range hh _ a 1 (b - a).toNat) (fun b hb=>yz.mp hb) (fun b hb=> .inl (yz.mp hb)) ?_ ((xO _).trans (wK _ _)) (fun i h st=>⟨_,st⟩) fun j w ew v pv=> ?_))
 ·have f1:=jA.mp hfa
  have f2:=jA.mp hfb
  exact small_one (by lia) (by lia) (by lia) (by lia)
 ·show IsRangeIter _ _ _ _ _
  unfold IsRangeIter
  rw [zD _ rfl,rangeSize_nat]
  simp
 ·refine k11 pv fun t q6=> ?_;subst q6
  cases Zj ew
  rw [show a+((0+j:Nat):Int)*1=a+j by rw [xO,Int.mul_one]]
  exact .int _ _
theorem zcG (hh:A.handled=none) (R:c.R r σ s.heap) {u:Value} (x:c.V r s.heap v u) {z:Zc} (e:zcOf v σ=some z) {Q:Addr→Shared→Prop} (O:OutI c A r s σ (.one z) Q):
  wpAny c.M A (pyIter u) (fun o s'=> ∃I,o= .ref I∧Q I s') E' s:=by
 cases v with
 | ref i=>
  refine k12 (Xg (o:=σ[i]?) (f:=fun ω=>some (Zc.ls i 0)) e) fun xs hx e=> ?_
  cases za e
  refine k35 (R.listAt hx x) fun a items n q1 hp hg hxs hl=> ?_;subst q1
  exact wpAny_pyIter_list (yt hg) (ZU R O rfl (.ls i 0 _ a hp ⟨_,zD _ rfl,rfl,rfl⟩))
 | tup vs=>cases za e;exact iter_tup hh R x O
 | str x'=>cases (xj e).2;exact iter_str hh R x O
 | rng a b=>refine k02 (xj e) fun hc q=> ?_;subst q;exact iter_rng hh R x hc O
 | _=>exact ns e
theorem Yw:entryFor table "dict_itemiterator.__iter__"=some Builtin.«dict_keyiterator.__iter__» :=
 entryFor_alias (id':="dict_keyiterator.__iter__") (by kernel_rfl) (by first | rfl | decide+kernel | (unfold String.splitOn;simp+decide [String.splitOnAux])) (by decide+kernel) (by kernel_rfl)
theorem QQ {it d:Addr} {i n ep:Nat} {ok ov:Value} {Q:Value→Shared→Prop} (hz:IsItemIter s.heap it d i n ep ok ov) (h:Q (.ref it) s):wpAny c.M A (pyIter (.ref it)) Q E' s:=by
 have hT:s.TypeIs (.ref it) "dict_itemiterator":=⟨_,hz,rfl⟩
 refine wpAny_pyIter_slot hT zay (qk zay hT Yw ?_ (PySem.F.args_dict_itemiterator_iter_1 _))
 show wpAny _ _ (ret (.ref it)) _ _ s
 exact zi ⟨_,rfl,"dict_itemiterator",_,hT,PySem.F.slot_dict_itemiterator_next.lookup,h⟩
theorem iter_self {itr:Itr} (x:ItR c A r s.heap itr I L) {Q:Value→Shared→Prop} (h:Q (.ref I) s):wpAny c.M A (pyIter (.ref I)) Q E' s:=
 ItR.rec (motive:=fun ω I ω ω=>Q (.ref I) s→wpAny c.M A (pyIter (.ref I)) Q E' s) (fun ω ω ω ω ω h2 h=>wpAny_pyIter_listiter h2 h) (fun ω ω ω ω ω ω ω ω W ω ω h3 ω ω ω h=>W.self _ _ _ _ h3 h)
  (fun ω ω ω ω ω ω ω h2 ω ω h=>wpAny_pyIter_enum h2 h) (fun ω ω ω ω ω ω ω ω ω ω ω ω ω hz ω ω ω ω h=>wpAny_pyIter_zip hz h) (fun ω ω ω h1 ω ω h=>QQ h1 h) x h
theorem zbr {name:Str} {id:String} {pl:Sem Bool} {Q:Value×List Value→Shared→Prop} (slot:Slot "dict" name id) (hty:typeOf (.builtin id)=pure (.type "method_descriptor")) {a:Addr} {es:List DictEntry} {n:Nat} (hg:s.heap.get? a=some (dctO es n)) (h:Q (.builtin id,[.ref a]) s):wpAny c.M A (getMethod (.ref a) name pl) Q E' s:=
 zdf ⟨_,hg,rfl⟩ PySem.F.plainAttrs_dict slot hty (fun b e=>by cases e;exact ⟨_,hg,rfl⟩) h
theorem five_le {n b:Nat} (h:b∈ [n+4,n+2,n+3,n,n+1]):n≤b:=by
 have: ∀x∈ [4,2,3,0,1],n≤n+x:=fun x ω=>xC n x
 exact k12 (zy.mp (show b∈ [4,2,3,0,1].map (fun ω=>n+ω) from h)) fun x hx e=>e▸this x hx
theorem JO {v:V} {i:Nat} (e:WR v=some i):v= .ref i:=by
 cases v with
 | ref j=>exact za e▸rfl
 | _=>exact ns e
theorem WQ {ov:V} {j:Nat} {σ₁:H} {x:Option (V×H)} (h:WR ov=some j) (e:x=some (ov,σ₁)):x=some (.ref j,σ₁):=JO h▸e
theorem YD {t:Tx} {z:Str} {u:Value} (h:qY t sc z u=true):qw sc z=some false∧t.glob z=some (.cst u)∧(z==("__debug__":Str))=false:=by
 unfold qY at h
 refine k02 (zB h) fun h h3=> ?_
 refine k02 (zB h) fun h1 h2=> ?_
 exact ⟨of_decide_eq_true h1,vIs_i h2,jh h3⟩
theorem all1 {e:E} {v:V} {σ₁:H} (h:ev e vars σ=some (v,σ₁)):yO ev [e] vars σ=some ([v],σ₁):=by
 show (match ev e vars σ with | some (v,σ')=>(match yO ev [] vars σ' with | some (vs,σ'')=>some (v::vs,σ'') | .none=> .none) | .none=> .none)=_
 rw [h];rfl
theorem all2 {e e':E} {v v':V} {σ₁ σ₂:H} (h:ev e vars σ=some (v,σ₁)) (h':ev e' vars σ₁=some (v',σ₂)):yO ev [e,e'] vars σ=some ([v,v'],σ₂):=by
 show (match ev e vars σ with | some (v,σ')=>(match yO ev [e'] vars σ' with | some (vs,σ'')=>some (v::vs,σ'') | .none=> .none) | .none=> .none)=_
 rw [h];dsimp only;rw [all1 h']
theorem zbL {z:Str} {zp q:Pos} {es:List Expr} {Q:Value→Shared→Prop} (h:wpAny c.M A (do callWith q (←eval (.Name z zp) env) [] (backTo q (starEach es env)) (backToKw q (keywordEach [] env))) Q E' s) (hr:eval (.Call (.Name z zp) es [] q) env=(do callWith q (←eval (.Name z zp) env) [] (backTo q (starEach es env)) (backToKw q (keywordEach [] env)))):wpAny c.M A (eval (.Call (.Name z zp) es [] q) env) Q E' s:=hr▸h
theorem Qx (hOk:c.Ok) (hh:A.handled=none) (ih:EvOk c A ev) {e:Expr} {u:It} (tr:TrI c.t sc e u) (eo:zY c sc env r.pv) (vo:zN c sc env r s.heap vars) (R:c.R r σ s.heap) {itr:Itr} (eq:evIt ev u vars σ=some (itr,σ')) {Q:Addr→Shared→Prop} (O:OutI c A r s σ' itr Q):
  wpAny c.M A (eval e env) (fun u s₁=>wpAny c.M A (pyIter u) (fun o s₂=> ∃I,o= .ref I∧Q I s₂) E' s₁) E' s:=by
 refine k13 tr fun a q7 q8 h=> ?_;clear tr;subst q7;subst q8
 cases a with
 | plain a=>
  refine k22 (vh_i (o:=ev a.er vars σ) (f:=fun v σ'=>(zcOf v σ').map fun z=>(Itr.one z,σ')) eq) fun v σ₁ e1 e=> ?_
  refine k12 (zc.mp e) fun z hz e=> ?_
  exact ih (.mk h) eo vo R e1 fun u r₁ h₁ tk₁ R₁ S₁ x₁=>zcG (s:= {s with heap:=h₁,toks:=tk₁}) hh R₁ x₁ hz ((O.cast (congrArg some e)).after (tk:=tk₁) S₁)
 | enum z zp a q=>
  refine k02 (zB h) fun hz h=> ?_
  refine k22 (zb1 (o:=ev a.er vars σ) (f:=fun i σ'=>match σ'[i]? with | some (.list _)=>some (Itr.enum i 0,σ') | _=> .none) eq) fun i σ₁ e1 e=> ?_
  refine k12 (Xg (o:=σ₁[i]?) (f:=fun ω=>some (Itr.enum i 0,σ₁)) e) fun xs hx e=> ?_
  replace O:=O.cast e
  refine k03 (YD hz) fun hv hg hd=> ?_
  refine zbL (es:= [a.un]) (zb (Yp hOk.glob hd hv hg eo R fun uf r₁ h₁ tk₁ R₁ S₁ xf=> ?_)) rfl
  cases xf.cst_inv
  refine xn (s:= {s with heap:=h₁,toks:=tk₁}) ih .type (TrL.mk (as:= [a]) (by show (a.ok c.t sc&&true)=true;rw [h];rfl)) (.nil (t:=c.t) (sc:=sc)) (eo.step S₁) (vo.step eo R S₁) R₁ (vs:= [.ref i]) (kvs:= []) (all1 e1) rfl fun items kit r₂ h₂ tk₂ R₂ S₂ x₂ y₂=> ?_
  cases y₂
  refine k23 x₂.inv fun u us' q x₄ x₃=> ?_;subst q
  cases x₃.inv
  refine k35 (R₂.listAt hx x₄) fun a items n q9 hp hg' hxs hl=> ?_;subst q9
  refine call_enumerate_list (yt hg') fun h₃ he hi hz' hk=> ?_
  have n0:=yS h₂ (zo _)
  have n1:=yS h₂ (wZ _)
  refine wpAny_pyIter_enum he ⟨_,rfl,O r₂ h₂ h₃ tk₂ _ [h₂.objs.size+1,h₂.objs.size] R₂ (S₁.trans S₂) hk (fun b hb=> ?_) (fun b hb=> ?_) (.enum i 0 _ _ a .none hp he hi (Nat.succ_ne_self _))⟩
  ·rcases zh.mp hb with q | q
   ·rw [q];exact n1
   ·rw [zv.mp q];exact n0
  ·rcases zh.mp hb with q | q
   ·rw [q];exact ⟨_,he⟩
   ·rw [zv.mp q];obtain ⟨o,ho,_⟩:=hi;exact ⟨o,ho⟩
 | zip z zp a b q=>
  refine k02 (zB h) fun hz h=> ?_
  refine k02 (zB h) fun ha hb=> ?_
  refine k22 (vh_i (o:=ev a.er vars σ) (f:=fun v σ'=>match ev b.er vars σ' with | some (w,σ'')=>zipOf v w σ'' | .none=> .none) eq) fun v σ₁ e1 e=> ?_
  refine k22 (vh_i (o:=ev b.er vars σ₁) (f:=fun w σ''=>zipOf v w σ'') e) fun w σ₂ e2 e=> ?_
  refine k12 (ze.mp e) fun i hi e=> ?_
  refine k12 (ze.mp e) fun j hj e=> ?_
  refine k12 (ze.mp e) fun xs hx e=> ?_
  refine k12 (zc.mp e) fun ys hy e=> ?_
  replace O:=O.cast (congrArg some e)
  replace e1:=WQ hi e1
  replace e2:=WQ hj e2
  cases JO hi
  cases JO hj
  have hx:=Yj hx
  have hy:=Yj hy
  refine k03 (YD hz) fun hv hg hd=> ?_
  refine zbL (es:= [a.un,b.un]) (zb (Yp hOk.glob hd hv hg eo R fun uf r₁ h₁ tk₁ R₁ S₁ xf=> ?_)) rfl
  cases xf.cst_inv
  refine xn (s:= {s with heap:=h₁,toks:=tk₁}) ih .type (TrL.mk (as:= [a,b]) (by show (a.ok c.t sc&&(b.ok c.t sc&&true))=true;rw [ha,hb];rfl)) (.nil (t:=c.t) (sc:=sc)) (eo.step S₁) (vo.step eo R S₁) R₁ (vs:= [.ref i,.ref j]) (kvs:= []) (all2 e1 e2) rfl fun items kit r₂ h₂ tk₂ R₂ S₂ x₂ y₂=> ?_
  cases y₂
  refine k23 x₂.inv fun u us' q x₄ x₃=> ?_;subst q
  refine k23 x₃.inv fun u' us'' q x₅ x₆=> ?_;subst q
  cases x₆.inv
  refine k35 (R₂.listAt hx x₄) fun a1 items1 n1 q9 hp1 hg1 hxs1 hl1=> ?_;subst q9
  refine k35 (R₂.listAt hy x₅) fun a2 items2 n2 q9 hp2 hg2 hxs2 hl2=> ?_;subst q9
  refine call_zip_2 (yt hg1) (yt hg2) fun h₃ hz3 hTI hTO hi1 hi2 hsz hk=> ?_
  refine wpAny_pyIter_zip hz3 ⟨_,rfl,O r₂ h₂ h₃ tk₂ _ [h₂.objs.size+4,h₂.objs.size+2,h₂.objs.size+3,h₂.objs.size,h₂.objs.size+1] R₂ (S₁.trans S₂) hk (fun b hb=> ?_) (fun b hb=> ?_) (.zip i j 0 _ _ _ _ _ a1 a2 hp1 hp2 (zipApart_new (yr hg1) (yr hg2)) hz3 hTI ⟨_,_,hTO⟩ hi1 hi2)⟩
  ·exact yS h₂ (five_le hb)
  ·rcases zh.mp hb with q | hb
   ·rw [q];exact ⟨_,hz3⟩
   rcases zh.mp hb with q | hb
   ·rw [q];exact ⟨_,hTI⟩
   rcases zh.mp hb with q | hb
   ·rw [q];exact ⟨_,hTO⟩
   rcases zh.mp hb with q | hb
   ·rw [q];exact hi1.elim fun o z=>⟨o,z.1⟩
   ·rw [yz.mp hb];exact hi2.elim fun o z=>⟨o,z.1⟩
 | items a x xp q=>
  refine k02 (zB h) fun hx h=> ?_
  refine k02 (zB h) fun hq h=> ?_
  refine k02 (zB h) fun hn h9=> ?_
  refine k22 (vh_i (o:=ev a.er vars σ) (f:=fun v σ'=>match v with | .emp=>some (Itr.nil,σ') | _=> .none) eq) fun v σ₁ e1 e=> ?_
  cases v with
  | emp=>
   replace O:=O.cast e
   cases eq_of_beq hx
   refine ZW (of_decide_eq_true hq) (jh hn) (by decide) (TrL.mk (as:= []) rfl) (.nil (t:=c.t) (sc:=sc)) (ih (.mk h9) eo vo R e1 fun u r₁ h₁ tk₁ R₁ S₁ xu=> ?_)
   refine k24 xu.inv fun n d q hd hm hsm=> ?_;subst q
   refine zbr (s:= {s with heap:=h₁,toks:=tk₁}) PySem.F.slot_dict_items PySem.F.type_dict_items hd ?_
   refine xn (s:= {s with heap:=h₁,toks:=tk₁}) ih .builtin (TrL.mk (as:= []) rfl) (.nil (t:=c.t) (sc:=sc)) (eo.step S₁) (vo.step eo R S₁) R₁ (vs:= []) (kvs:= []) rfl rfl fun items kit r₂ h₂ tk₂ R₂ S₂ x₂ y₂=> ?_
   cases y₂
   cases x₂.inv
   refine k24 (xu.step S₂).inv fun n' d' q hd' hm' hsm'=> ?_;cases q
   refine call_meetsIn PySem.F.slot_dict_items ⟨_,hd',rfl⟩ PySem.F.entry_dict_items (PySem.F.args_dict_items_1 _) (meets_dict_items (strKind c.prog c.w) d hsm') ⟨⟨[],(zcR hd').dictOf⟩,?_⟩
   have n0:=yS h₂ (zo _)
   have n1:=yS h₂ (wZ _)
   have z1:(h₂.push {cls:= .type "dict_items",data:= .fields #[.ref d]}).objs.size=h₂.objs.size+1:=xX ..
   refine wpAny_pyIter_items (s:= {s with heap:=h₂.push {cls:= .type "dict_items",data:= .fields #[.ref d]},toks:=tk₂}) (knd:=strKind c.prog c.w) (kvs:= []) (v:=h₂.objs.size) ⟨_,zD _ rfl,rfl,rfl⟩ ((zcR hd').push _) ⟨_,rfl,?_⟩
   refine O r₂ h₂ _ tk₂ _ [h₂.objs.size+1] R₂ (S₁.trans S₂) (fun b o e=>zn _ (zn _ e)) (fun b hb=>yz.mp hb▸n1) (fun b hb=>yz.mp hb▸z1▸⟨_,zD _ rfl⟩) ?_
   show ItR c A _ _ .nil (h₂.push {cls:= .type "dict_items",data:= .fields #[.ref d]}).objs.size _
   rw [z1]
   refine .nil _ d n' (z1▸zD _ rfl) (zn _ (zn _ hd')) fun q=>q.elim (fun q=>hm' (.inl q)) fun q=>(zt.mp q).elim (fun q=>hm' (.inr q)) fun q=>ns (n1.symm.trans (yz.mp q▸hd'))
  | _=>exact ns e
end
theorem zai (elt target iter:Expr) (ifs:List Expr) (scope:Scope) (pos:Pos) (it acc:Value) (env:Env):
  compTurn (.ListComp elt [⟨target,iter,ifs,0⟩] scope pos) 0 it acc env=(do
   standAt iter.pos
   match←pyNext it with
   | none=>pure (.done .next)
   | some v=>
    letOwnedTupleGo target it v
    assign target env v
    let mut ok:=true
    for c in ifs do
     if ok then ok←isTrue c env (eval c env)
    if ok then
     (do let _←call (.builtin "list.append") [acc,←eval elt env])
    again (.compLoop (.ListComp elt [⟨target,iter,ifs,0⟩] scope pos) 0 it acc env)):=by rfl
noncomputable abbrev zaK (ifs:List Expr) (env:Env) (b:Bool):Sem Bool:=forIn ifs b fun c r=>if r=true then do let ok←isTrue c env (eval c env);pure (ForInStep.yield ok) else pure (ForInStep.yield r)
theorem ZZ {prog:Program} {w:World} {A:Around} {R:Result→Shared→Prop} {s:Shared} {elt target iter:Expr} {ifs:List Expr} {scope:Scope} {pos:Pos} {it acc:Value} {env:Env} (I:Nat→Shared→Prop)
  (turn: ∀n s E',I n s→wpAny (model prog w) A (pyNext it) (fun r s₁=>match r with
   | none=>R (.ok .next) s₁
   | some v=>wpAny (model prog w) A (letOwnedTupleGo target it v) (fun ω s₁=>wpAny (model prog w) A (assign target env v) (fun ω s₂=>
     wpAny (model prog w) A (zaK ifs env true) (fun ok s₃=>
      if ok=true then wpAny (model prog w) A (eval elt env) (fun x s₄=>
       wpAny (model prog w) A (call (.builtin "list.append") [acc,x]) (fun ω s₅=> ∃m,m < n∧I m s₅) E' s₄) E' s₃
      else∃m,m < n∧I m s₃) E' s₂) E' s₁) E' s₁) E' s)
  (n:Nat) (h:I n s):
  codeAny (model prog w) A (.compLoop (.ListComp elt [⟨target,iter,ifs,0⟩] scope pos) 0 it acc env) R s:=by
 refine codeAny_loop rfl I (fun n s hI=> ?_) n h
 show wpAny _ A ((compTurn (.ListComp elt [⟨target,iter,ifs,0⟩] scope pos) 0 it acc env).onRaise (fun x=>do noteFrame x env;theTreesLotGoes x)) _ _ s
 refine wpAny_noted ?_
 rw [zai]
 refine zb (wp (zb (yD (turn n s _ hI) (fun r s₁ h₁=> ?_) fun ω ω h'=>h')))
 cases r with
 | none=>exact zi h₁
 | some v=>
  refine zb (yD h₁ (fun ω s₁ h₁=> ?_) fun ω ω h'=>h')
  refine zb (yD h₁ (fun ω s₂ h₂=>zb (yD h₂ (fun ok s₃ h₃=> ?_) fun ω ω h'=>h')) fun ω ω h'=>h')
  cases ok with
  | false=>exact zi ⟨rfl,h₃⟩
  | true=>
   exact zb (zb (yD h₃ (fun x s₄ h₄=>zb (yD h₄ (fun ω s₅ h₅=>zi (zi ⟨rfl,h₅⟩)) fun ω ω h'=>h')) fun ω ω h'=>h'))
theorem xk: ∀(names:List (Str×NameKind)) (n:Nat) (acc:List (Str×Addr)),cellsFrom n names acc=cellsFrom n names []++acc
 | [],_,_=>rfl
 | (x,k)::r,n,acc=>by
  unfold cellsFrom
  split
  ·rw [xk r (n+1) ((x,n)::acc),xk r (n+1) [(x,n)],zW];rfl
  ·exact xk r n acc
set_option tactic.hygienic true in
theorem jP: ∀(names:List (Str×NameKind)) (n:Nat) {x:Str} {a:Addr},(x,a)∈cellsFrom n names []→(x,NameKind.cell)∈names
 | [],_,_,_,h=>by cases h
 | (y,k)::r,n,x,a,h=>by
  unfold cellsFrom at h
  split at h
  ·rename_i hk
   rw [xk] at h
   rcases zt.mp h with h | h
   ·exact .tail _ (jP r _ h)
   ·have:=zv.mp h;cases this
    have:k= .cell:=by simpa using hk
    rw [this];exact .head _
  ·exact .tail _ (jP r _ h)
theorem jJ {α:Type} {l:List (Str×α)} {x:Str} {a:α} (h:(x,a)∈l):(l.lookup x).isSome=true:=by
 induction l with
 | nil=>exact nomatch h
 | cons p r ih=>
  cases p with
  | mk y b=>
   rw [yl]
   cases q:x==y with
   | true=>rfl
   | false=>exact ih ((zh.mp h).resolve_left fun z=>by cases z;exact tf ((beq_self_eq_true x).symm.trans q))
theorem cellsFrom_some: ∀(names:List (Str×NameKind)) (n:Nat) {x:Str},(x,NameKind.cell)∈names→ ∃a,(x,a)∈cellsFrom n names []
 | (y,k)::r,n,x,h=>by
  unfold cellsFrom
  rcases zh.mp h with h | h
  ·cases h
   rw [if_pos (by rfl),xk]
   exact ⟨n,zr _ (.head _)⟩
  ·split
   ·refine k11 (cellsFrom_some r (n+1) h) fun a ha=> ?_
    rw [xk]
    exact ⟨a,zC _ ha⟩
   ·exact cellsFrom_some r n h
theorem jk {α:Type} {l l':List (Str×α)} {x:Str} :(l++l').lookup x=(match l.lookup x with | some a=>some a | none=>l'.lookup x):=by
 induction l with
 | nil=>rfl
 | cons p r ih=>
  cases p with
  | mk y b=>
   rw [List.cons_append,yl,yl]
   cases q:x==y with
   | true=>rfl
   | false=>exact ih
noncomputable def clOf (env:Env):List (Str×NameKind)→List (Str×Addr)→List (Str×Addr)
 | [],acc=>acc
 | (x,k)::r,acc=>if k== .free then clOf env r ((x,(env.cells.lookup x).getD 0)::acc) else clOf env r acc
theorem clOf_cons (env:Env) (x:Str) (k:NameKind) (r:List (Str×NameKind)) (acc:List (Str×Addr)):clOf env ((x,k)::r) acc=if k== .free then clOf env r ((x,(env.cells.lookup x).getD 0)::acc) else clOf env r acc:=rfl
theorem QR {scope:Scope} {env:Env} (h: ∀x∈scope.names,x.2= .free→(env.cells.lookup x.1).isSome=true):closureFor scope env=pure (clOf env scope.names []):=by
 unfold closureFor
 have: ∀(names:List (Str×NameKind)) (acc:List (Str×Addr)),(∀x∈names,x.2= .free→(env.cells.lookup x.1).isSome=true)→
   (forIn names acc (fun x r=>match x with | (name,kind)=>if (kind== .free)=true then do let a←cellOf env name;pure (ForInStep.yield ((name,a)::r)) else pure (ForInStep.yield r)):Sem (List (Str×Addr)))=pure (clOf env names acc):=by
  intro names
  induction names with
  | nil=>intro acc _;rfl
  | cons y r ih=>
   obtain ⟨y,k⟩:=y
   intro acc hh
   rw [Wt]
   rw [clOf_cons]
   dsimp only
   by_cases hk:(k==NameKind.free)=true
   ·rw [if_pos hk,if_pos hk]
    have hk':k= .free:=by simpa using hk
    refine k11 (zP.mp (hh (y,k) (.head _) hk')) fun a ha=> ?_
    have ha:env.cells.lookup y=some a:=ha
    have hc:cellOf env y=pure a:=by unfold cellOf;rw [ha]
    rw [hc,ha]
    simp only [pure_bind,Option.getD_some]
    exact ih _ fun x hx=>hh x (.tail _ hx)
   ·rw [if_neg hk,if_neg hk]
    simp only [pure_bind]
    exact ih _ fun x hx=>hh x (.tail _ hx)
 have:=this scope.names [] h
 simp only [bind_pure]
 exact this
theorem zbH (env:Env) {x:Str} (names:List (Str×NameKind)): ∀(acc:List (Str×Addr)),(∀a,acc.lookup x=some a→env.cells.lookup x=some a)→(∀y∈names,y.2= .free→(env.cells.lookup y.1).isSome=true)→
  (∀a,(clOf env names acc).lookup x=some a→env.cells.lookup x=some a)∧((acc.lookup x).isSome=true∨(x,NameKind.free)∈names→(clOf env names acc).lookup x=env.cells.lookup x):=by
 induction names with
 | nil=>exact fun acc ha hn=>⟨ha,fun h=>h.elim (fun h=>(zP.mp h).elim fun a e=>e.trans (ha a e).symm) fun h=>nomatch h⟩
 | cons p r ih=>
  cases p with
  | mk y k=>
   intro acc ha hn
   show (∀a,(if (k== .free)=true then clOf env r ((y,(env.cells.lookup y).getD 0)::acc) else clOf env r acc).lookup x=some a→_)∧(_→(if (k== .free)=true then clOf env r ((y,(env.cells.lookup y).getD 0)::acc) else clOf env r acc).lookup x=_)
   have hn': ∀z∈r,z.2= .free→(env.cells.lookup z.1).isSome=true:=fun z hz=>hn z (.tail _ hz)
   by_cases hk:(k== .free)=true
   ·rw [if_pos hk]
    cases eq_of_beq hk
    refine k11 (zP.mp (hn (y,.free) (.head _) rfl)) fun a e=> ?_
    have e:env.cells.lookup y=some a:=e
    rw [e]
    have hl:((y,a)::acc).lookup x=if x=y then some a else acc.lookup x:=by
     rw [yl]
     by_cases q:x=y
     ·rw [if_pos q,beq_iff_eq.mpr q]
     ·rw [if_neg q,beq_eq_false_iff_ne.mpr q]
    refine k02 (ih ((y,a)::acc) (fun b hb=>by
     rw [hl] at hb
     by_cases q:x=y
     ·rw [if_pos q] at hb;rw [q];exact e.trans hb
     ·rw [if_neg q] at hb;exact ha b hb) hn') fun h1 h2=> ?_
    refine ⟨h1,fun h=>h2 ?_⟩
    rw [hl]
    by_cases q:x=y
    ·rw [if_pos q];exact .inl rfl
    ·rw [if_neg q];exact h.imp id fun h=>(zh.mp h).resolve_left fun z=>q (congrArg Prod.fst z)
   ·rw [if_neg hk]
    refine k02 (ih acc ha hn') fun h1 h2=> ?_
    exact ⟨h1,fun h=>h2 (h.imp id fun h=>(zh.mp h).resolve_left fun z=>hk (beq_iff_eq.mpr (congrArg Prod.snd z).symm))⟩
theorem ZS {env:Env} : ∀ {names:List (Str×NameKind)} {x:Str},(names.map fun (n,k)=>if (k==NameKind.free&&env.scope.kind== .function&&env.kindOf n==some .cell) then (n,NameKind.cell) else (n,k)).lookup x=
  (names.lookup x).map fun k=>if (k==NameKind.free&&env.scope.kind== .function&&env.kindOf x==some .cell) then NameKind.cell else k
 | [],_=>rfl
 | (n,k)::r,x=>by
  have ih:= @ZS env r x
  rw [List.map_cons]
  dsimp only
  by_cases hc:(k==NameKind.free&&env.scope.kind== .function&&env.kindOf n==some .cell)=true
  ·rw [if_pos hc,yl,yl,ih]
   cases q:x==n with
   | true=>
    have:x=n:=by simpa using q
    subst this
    simp only [Option.map_some,if_pos hc]
   | false=>rfl
  ·rw [if_neg hc,yl,yl,ih]
   cases q:x==n with
   | true=>
    have:x=n:=by simpa using q
    subst this
    simp only [Option.map_some,if_neg hc]
   | false=>rfl
theorem za9 {M:Model} {A:Around} {E:Value→Shared→Prop} {s:Shared} {scope:Scope} {globals:Addr} {cl:List (Str×Addr)} {qual:Str} {env:Env} {Q:Env→Shared→Prop}
  (h:Q (newEnv scope s.heap.objs.size globals (cellsFrom (s.heap.objs.size+1) scope.names cl) qual none .none (some env) builtinsNs) {s with heap:=pushCells (s.heap.push {cls:= .type "dict",data:= .dict #[]}) scope.names}):
  wpAny M A (newFunctionEnv scope globals cl [] qual none .none (some env)) Q E s:=by
 simp only [newFunctionEnv,Option.isSome_some,if_true]
 refine zb (wpAny_alloc ?_)
 refine zb (wpAny_layCells _ (fun name kind cells=>by cases hkc:kind==NameKind.cell <;>simp [hkc]) _ _ _ _ ?_)
 rw [show ({s with heap:=s.heap.push {cls:= .type "dict",data:= .dict #[]}} :Shared).heap.objs.size=s.heap.objs.size+1 from xX ..]
 exact zb (zi (zi h))
noncomputable abbrev cEnv (scope:Scope) (C:Addr) (env:Env):Env:=compEnvC scope (cellsFrom (C+1) scope.names (clOf env scope.names [])) C env
section
variable {c:Cx} {A:Around} {E':Value→Shared→Prop} {s:Shared} {sc sc':Scope} {env:Env} {r r':Rh} {h h':Heap} {σ σ':H} {v:V} {vars:Vars} {ev:Ev} {pv pv':List Addr} {C:Addr}
theorem Zn (hc:jM sc sc'=true) {x:Str} {k:NameKind} (hm:(x,k)∈sc'.names):sc'.names.lookup x=some k∧(k= .free→sc.names.lookup x=some .cell∨sc.names.lookup x=some .free):=by
 refine k02 (zB (zq.mp hc (x,k) hm)) fun h1 h2=> ?_
 refine ⟨eq_of_beq h1,fun hk=> ?_⟩
 subst hk
 exact ((Bool.or_eq_true _ _).mp (show (sc.names.lookup x==some NameKind.cell || sc.names.lookup x==some NameKind.free)=true from h2)).imp eq_of_beq eq_of_beq
theorem jL (eo:zY c sc env pv) (hc:jM sc sc'=true): ∀x∈sc'.names,x.2= .free→(env.cells.lookup x.1).isSome=true:=fun x hm hk=>by
 obtain ⟨x,k⟩:=x
 rcases (Zn hc hm).2 hk with q | q
 ·exact (eo.cel x q).2
 ·exact (eo.fre x q).2
theorem xK (eo:zY c sc env pv) (hc:jM sc sc'=true) (x:Str):
  (sc'.names.lookup x=some .free→(cEnv sc' C env).cells.lookup x=env.cells.lookup x)∧
  (∀a,(cEnv sc' C env).cells.lookup x=some a→((x,a)∈cellsFrom (C+1) sc'.names []∧sc'.names.lookup x=some .cell)∨env.cells.lookup x=some a):=by
 have hcl:=zbH env (x:=x) sc'.names [] (fun a e=>by cases e) (jL eo hc)
 have e:(cEnv sc' C env).cells=cellsFrom (C+1) sc'.names []++clOf env sc'.names []:=xk _ _ _
 have nocell: ∀a,(cellsFrom (C+1) sc'.names []).lookup x=some a→sc'.names.lookup x=some .cell:=fun a ha=>(Zn hc (jP _ _ (mem_of_lookup ha))).1
 rw [e,jk]
 cases q:(cellsFrom (C+1) sc'.names []).lookup x with
 | none=>exact ⟨fun hf=>hcl.2 (.inr (mem_of_lookup hf)),fun a ha=> .inr (hcl.1 a ha)⟩
 | some b=>
  have hb:=nocell b q
  exact ⟨fun hf=>(nomatch hf.symm.trans hb),fun a ha=> .inl ⟨mem_of_lookup (q.trans ha),hb⟩⟩
theorem Zd (x:Str):(cEnv sc' C env).kindOf x=(sc'.names.lookup x).map fun k=>if (k==NameKind.free&&(env.scope.kind== .function&&env.kindOf x==some .cell))=true then NameKind.cell else k:=by
 simp only [←Bool.and_assoc];exact ZS
theorem Jn {b:Bool} :(some NameKind.free).map (fun k=>if (k==NameKind.free&&b)=true then NameKind.cell else k)=some .cell∨(some NameKind.free).map (fun k=>if (k==NameKind.free&&b)=true then NameKind.cell else k)=some .free:=by
 cases b with
 | true=>exact .inl rfl
 | false=>exact .inr rfl
theorem zcX (eo:zY c sc env pv) (hk:sc'.kind= .function) (hc:jM sc sc'=true) (live: ∀b∈pv,b < C) (hsub: ∀b∈pv,b∈pv') (hC:C∈pv') (hnew: ∀x a,(x,a)∈cellsFrom (C+1) sc'.names []→a∈pv') (ok:CellsOk h (C+1) (cellsFrom (C+1) sc'.names [])):
  zY c sc' (cEnv sc' C env) pv' where
 kind:=hk
 glob:=eo.glob
 bi:=eo.bi
 lpv:=hC
 cpv:=fun n a e=>by
  rcases (xK eo hc n).2 a e with q | q
  ·exact hnew n a q.1
  ·exact hsub a (eo.cpv n a q)
 loc:=fun x hx=>by rw [Zd,hx];rfl
 cel:=fun x hx=>by
  refine ⟨by rw [Zd,hx];rfl,?_⟩
  refine k11 (cellsFrom_some sc'.names (C+1) (mem_of_lookup hx)) fun a ha=> ?_
  have e:(cEnv sc' C env).cells=cellsFrom (C+1) sc'.names []++clOf env sc'.names []:=xk _ _ _
  rw [e]
  exact jJ (zC _ ha)
 fre:=fun x hx=>by
  refine ⟨?_,?_⟩
  ·rw [Zd,hx];exact Jn
  ·rw [(xK eo hc x).1 hx]
   exact jL eo hc _ (mem_of_lookup hx) rfl
 glb:=fun x hx=>by
  rw [Zd,XX hx];rfl
 inj:=fun x y a hx hy=>by
  rcases (xK eo hc x).2 a hx with ⟨q,_⟩ | q <;>rcases (xK eo hc y).2 a hy with ⟨q',_⟩ | q'
  ·exact name_of_addr ok.apart q q'
  ·have h1:=(ok.empty _ _ q).2
   have h2:=live a (eo.cpv _ _ q')
   exact (yI _ (we h2 h1)).elim
  ·have h1:=(ok.empty _ _ q').2
   have h2:=live a (eo.cpv _ _ q)
   exact (yI _ (we h2 h1)).elim
  ·exact eo.inj x y a q q'
 apl:=fun x a hx=>by
  rcases (xK eo hc x).2 a hx with ⟨q,_⟩ | q
  ·have h1:=(ok.empty _ _ q).2
   intro e
   have:a=C:=e
   subst this
   exact yI _ h1
  ·have h2:=live a (eo.cpv _ _ q)
   intro e
   have:a=C:=e
   subst this
   exact yI _ h2
theorem own_get {i:Nat} {own:List Nat} {vars:Vars} :Vars.get i (own.map (fun ω=>(ω,Option.none))++vars)=(if i∈own then Option.none else Vars.get i vars):=by
 induction own with
 | nil=>exact (if_neg yu).symm
 | cons y own ih=>
  show (if (y==i)=true then Option.none else Vars.get i (own.map (fun ω=>(ω,Option.none))++vars))=_
  by_cases q:y=i
  ·subst q;rw [if_pos (beq_self_eq_true y),if_pos (List.mem_cons_self ..)]
  ·rw [if_neg (mt eq_of_beq q),ih]
   by_cases m:i∈own
   ·rw [if_pos m,if_pos (List.mem_cons_of_mem _ m)]
   ·rw [if_neg m,if_neg fun z=>(zh.mp z).elim (fun z=>q z.symm) m]
theorem Xc {t:Tx} {names:List (Str×NameKind)} {own:List Nat} {x:Str} {i:Nat} {k:NameKind} (e:wa t names=some own) (hm:(x,k)∈names) (hk:(k== .local || k== .cell)=true) (h0:x≠(".0":Str)) (hi:t.id x=some i):i∈own:=by
 induction names generalizing own with
 | nil=>exact nomatch hm
 | cons y r ih=>
  replace e:(if ((y.2== .local || y.2== .cell)&& !(y.1==(".0":Str)))=true then (t.id y.1).bind fun i=>(wa t r).map (fun ω=>i::ω) else wa t r)=some own:=e
  by_cases q:((y.2== .local || y.2== .cell)&& !(y.1==(".0":Str)))=true
  ·rw [if_pos q] at e
   refine k12 (ze.mp e) fun j hj e=> ?_
   refine k12 (zc.mp e) fun own' he q1=> ?_;subst q1
   rcases zh.mp hm with z | z
   ·subst z;exact za (hi.symm.trans hj)▸ .head _
   ·exact .tail _ (ih he z)
  ·rw [if_neg q] at e
   rcases zh.mp hm with z | z
   ·subst z;exact absurd (zu.mpr ⟨hk,(Bool.not_eq_true' _).mpr (beq_eq_false_iff_ne.mpr h0)⟩) q
   ·exact ih e z
theorem zbD (eo:zY c sc env r.pv) (vo:zN c sc env r h vars) (hc:jM sc sc'=true) {own:List Nat} (ho:wa c.t sc'.names=some own) (h0:c.t.id (".0":Str)= .none) (ok:CellsOk h' (C+1) (cellsFrom (C+1) sc'.names [])) (hns: ∃m,h'.Ns C m)
  (k: ∀b o,h.get? b=some o→h'.get? b=some o) (M:Mv r h r' h'):zN c sc' (cEnv sc' C env) r' h' (own.map (fun ω=>(ω,Option.none))++vars):=by
 refine ⟨hns,fun x a e=> ?_,fun x i v e1 e2 e3=> ?_⟩
 ·rcases (xK eo hc x).2 a e with ⟨q,_⟩ | q
  ·exact ⟨_,(ok.empty _ _ q).1⟩
  ·refine k22 (vo.cells x a q) fun v o ho hd=> ?_
   exact ⟨v,o,k _ _ ho,hd⟩
 ·rw [own_get] at e3
  by_cases hn:i∈own
  ·rw [if_pos hn] at e3;exact ns e3
  ·rw [if_neg hn] at e3
   have hx0:x≠(".0":Str):=fun q=>by rw [q,h0] at e1;exact ns e1
   rcases Qs e2 with q | q | q
   ·exact (hn (Xc ho (mem_of_lookup q) rfl hx0 e1)).elim
   ·exact (hn (Xc ho (mem_of_lookup q) rfl hx0 e1)).elim
   ·have hv:=(Zn hc (mem_of_lookup q)).2 rfl
    have hv':qw sc x=some true:=by
     unfold qw;rcases hv with hv | hv <;>rw [hv]
    refine k12 (vo.held x i v e1 hv' e3) fun u hu hr=> ?_
    refine ⟨u,?_,hr.mv M⟩
    have hkind:env.kindOf x=some .cell∨env.kindOf x=some .free:=by
     rcases hv with hv | hv
     ·exact .inl (eo.cel x hv).1
     ·exact (eo.fre x hv).1
    rcases hu with ⟨hk,_⟩ | ⟨hk,a,ha,o,ho',hd⟩
    ·rcases hkind with q' | q' <;>(rw [hk] at q';cases q')
    ·refine .inr ⟨?_,a,by rw [(xK eo hc x).1 q,ha],o,k _ _ ho',hd⟩
     rw [Zd,q];exact Jn
end
section
variable {c:Cx} {A:Around} {E':Value→Shared→Prop} {s:Shared} {sc sc':Scope} {env:Env} {r r':Rh} {h h':Heap} {σ σ':H} {v:V} {vars:Vars} {ev:Ev} {pv pv':List Addr} {C D I:Addr} {n:Nat} {cf:Cf}
theorem Rel.finish {L:List Addr} (R:c.R r σ h) (hL: ∀b∈L,b∈r.pv) (sub': ∀b∈pv,b∈r.pv) (hpL: ∀b∈pv,b ∉ L) (hD:D∈r.pv) (hDp:D ∉ pv) (k: ∀b o,h.get? b=some o→b ∉ L→h'.get? b=some o) {items:List Value} {m:Nat} {acc:List V} (hl:h'.get? D=some (lstO items m)) (x:VRs c.w.params r h acc items) (hz:items.length≤4000000):
  c.R {ob:=r.ob++ [(D,D)],pv:=pv} (σ++ [.list acc]) h'∧Mv r h {ob:=r.ob++ [(D,D)],pv:=pv} h':=by
 have sub: ∀b,({ob:=r.ob++ [(D,D)],pv:=pv} :Rh).mut b→r.mut b:=fun b hb=>by
  rcases hb with ⟨p,hp,hb⟩ | hb
  ·rcases zt.mp hp with hp | hp
   ·exact .inl ⟨p,hp,hb⟩
   ·rw [zv.mp hp] at hb
    rcases hb with rfl | rfl <;>exact .inr hD
  ·exact .inr (sub' b hb)
 have ow: ∀b,r.own b→b ∉ L:=fun b hb hn=>R.pvo b (hL b hn) hb
 have M:Mv r h {ob:=r.ob++ [(D,D)],pv:=pv} h':=⟨fun i p ep=>by
   have hl:=zV ep
   rw [zH hl];exact ep,
  fun a o ea f=>⟨k a o ea fun q=>f (.inr (hL a q)),fun q=>f (sub a q)⟩⟩
 have ob: ∀(i:Nat) o p,σ[i]? =some o→r.ob[i]? =some p→OR c.w.params c.t.ids {ob:=r.ob++ [(D,D)],pv:=pv} h' o p:=fun i o p e1 e2=>by
  have hp:p∈r.ob:=zM e2
  exact (R.obj i o p e1 e2).mv M (fun q eq=>k _ _ eq (ow _ ⟨p,hp,.inl rfl⟩)) fun q eq=>k _ _ eq (ow _ ⟨p,hp,.inr rfl⟩)
 refine ⟨⟨fun b o eb=>k b o (R.base b o eb) fun q=> ?_,by simp [R.len],fun i o p e1 e2=> ?_,fun b hb=>R.fresh b (sub b hb),?_,fun b hb ho=> ?_,fun b hb=> ?_⟩,M⟩
 ·have:=R.fresh b (.inr (hL b q));rw [eb] at this;exact sn this
 ·by_cases hi:i < σ.length
  ·rw [zH hi] at e1
   rw [zH (R.len▸hi)] at e2
   exact ob i o p e1 e2
  ·have hi':i=σ.length:=by
    have hl:=zV e1
    simp at hl;lia
   subst hi'
   rw [zJ (zo _),xG] at e1
   rw [←R.len,zJ (zo _),xG] at e2
   (refine si e1 fun q3=> ?_;subst q3;clear e1);cases e2
   exact .list acc items m D hl (x.mv M) hz
 ·refine Zz.mpr ⟨R.apart,XO _ _,fun q hq q' hq'=> ?_⟩
  rw [zv.mp hq']
  have h1:q.1≠D:=fun z=>R.pvo q.1 (z▸hD) ⟨q,hq,.inl rfl⟩
  have h2:q.2≠D:=fun z=>R.pvo q.2 (z▸hD) ⟨q,hq,.inr rfl⟩
  exact ⟨h1,h1,h2,h2⟩
 ·refine k12 ho fun p hp hb'=> ?_;clear ho
  rcases zt.mp hp with hp | hp
  ·exact R.pvo b (sub' b hb) ⟨p,hp,hb'⟩
  ·rw [zv.mp hp] at hb'
   rcases hb' with rfl | rfl <;>exact hDp hb
 ·refine k11 (R.pvl b (sub' b hb)) fun o eo=> ?_
  exact ⟨o,k b o eo (hpL b hb)⟩
theorem Rel.leave {L:List Addr} (R:c.R r σ h) (e:r.pv=pv++L) (hpL: ∀b∈pv,b ∉ L) (k: ∀b o,h.get? b=some o→b ∉ L→h'.get? b=some o):c.R {r with pv:=pv} σ h'∧Mv r h {r with pv:=pv} h':=by
 have hL: ∀b∈L,b∈r.pv:=fun b hb=>by rw [e];exact zr _ hb
 have sub: ∀b,({r with pv:=pv} :Rh).mut b→r.mut b:=fun b hb=>hb.elim .inl fun q=> .inr (by rw [e];exact zC _ q)
 have ow: ∀b,r.own b→b ∉ L:=fun b hb hn=>R.pvo b (hL b hn) hb
 have M:Mv r h {r with pv:=pv} h':=⟨fun ω ω e=>e,fun a o ea f=>⟨k a o ea fun q=>f (.inr (hL a q)),fun q=>f (sub a q)⟩⟩
 refine ⟨⟨fun b o eb=>k b o (R.base b o eb) fun q=> ?_,R.len,fun i o p e1 e2=> ?_,fun b hb=>R.fresh b (sub b hb),R.apart,fun b hb=>R.pvo b (by rw [e];exact zC _ hb),fun b hb=> ?_⟩,M⟩
 ·have:=R.fresh b (.inr (hL b q));rw [eb] at this;exact sn this
 ·have hp:p∈r.ob:=zM e2
  exact (R.obj i o p e1 e2).mv M (fun q eq=>k _ _ eq (ow _ ⟨p,hp,.inl rfl⟩)) fun q eq=>k _ _ eq (ow _ ⟨p,hp,.inr rfl⟩)
 ·refine k11 (R.pvl b (by rw [e];exact zC _ hb)) fun o eo=> ?_
  exact ⟨o,k b o eo (hpL b hb)⟩
theorem WD: ∀(rest:List Expr) {s:Shared} {Q:Bool→Shared→Prop},Q false s→wpAny c.M A (zaK rest env false) Q E' s
 | [],s,Q,h=>zi h
 | x::r,s,Q,h=>by
  show wpAny _ _ (forIn (x::r) false _) _ _ _
  rw [Wt,if_neg zQ]
  exact zb (zi (WD r h))
theorem tests_un {m:Nat} (hOk:c.Ok) (hu:A.units+100 < cLine) (ih0: ∀k,k < m→EvOk c A (MI.ev c.Γ cf k)) (ih:EvOk c A (MI.ev c.Γ cf m)): ∀(as:List AE),okL c.t sc as=true→ ∀ {r:Rh} {σ σ':H} {s:Shared} {b:Bool} {Q:Bool→Shared→Prop},zY c sc env r.pv→zN c sc env r s.heap vars→c.R r σ s.heap→
  jB (MI.ev c.Γ cf m) (erL as) vars σ=some (b,σ')→OutB c r s σ' b Q→wpAny c.M A (zaK (unL as) env true) Q E' s:=by
 intro as
 induction as with
 | nil=>
  intro _ r σ σ' s b Q eo vo R eq O
  (refine sp eq fun q7 q8=> ?_;subst q7;subst q8;clear eq)
  exact zi (O r s.heap s.toks R (Step.refl _ _))
 | cons a as ih1=>
  intro h r σ σ' s b Q eo vo R eq O
  refine k02 (zB h) fun h1 h2=> ?_
  refine k22 (bb_i (o:=evB (MI.ev c.Γ cf m) a.er vars σ) (f:=fun x σ'=>match x with | true=>jB (MI.ev c.Γ cf m) (erL as) vars σ' | false=>some (false,σ')) eq) fun x σ₁ e1 e=> ?_
  show wpAny _ _ (forIn (a.un::unL as) true _) _ _ _
  rw [Wt,if_pos rfl]
  refine zb (zb (Yq hOk.tab hu ih0 ih _ (.mk h1) eo vo R e1 fun r' h' tk R' S'=>zi ?_))
  cases x with
  | true=>exact ih1 h2 (eo.step S') (vo.step eo R S') R' e (O.after S')
  | false=>
   (refine sp e fun q9 q10=> ?_;subst q9;subst q10;clear e)
   exact WD (unL as) (O r' h' tk R' S')
theorem zaJ {m:Nat} (hOk:c.Ok) (hu:A.units+100 < cLine) (ih0: ∀k,k < m→EvOk c A (MI.ev c.Γ cf k)) (ih:EvOk c A (MI.ev c.Γ cf m)) {ifs:List Expr} {us:List E} (tr:TrL c.t sc ifs us) {r:Rh} {σ σ':H} {s:Shared} {b:Bool} {Q:Bool→Shared→Prop} (eo:zY c sc env r.pv) (vo:zN c sc env r s.heap vars) (R:c.R r σ s.heap)
  (eq:jB (MI.ev c.Γ cf m) us vars σ=some (b,σ')) (O:OutB c r s σ' b Q):wpAny c.M A (zaK ifs env true) Q E' s:=by
 refine k13 tr fun as q1 q2 h=> ?_;clear tr;subst q1;subst q2
 exact tests_un hOk hu ih0 ih as h eo vo R eq O
end
section
variable {c:Cx} {A:Around} {E':Value→Shared→Prop} {s:Shared} {sc sc':Scope} {env:Env} {r r':Rh} {h h':Heap} {σ σ':H} {v:V} {vars:Vars} {ev:Ev} {pv pv':List Addr} {C D I:Addr} {n:Nat} {cf:Cf}
noncomputable def qt (env:Env) (b:Addr):Prop:=b=env.locals∨ ∃x,env.cells.lookup x=some b
theorem FrX.toEnv {b:Addr} (h:FrX sc env b):qt env b:=h.imp id fun ⟨x,_,e⟩=>⟨x,e⟩
theorem zN.keepE (vo:zN c sc env r h vars) (k: ∀b,qt env b→ ∀o,h.get? b=some o→h'.get? b=some o) (M:Mv r h r' h'):zN c sc env r' h' vars:=by
 refine ⟨?_,fun x a e=> ?_,fun x i v e1 e2 e3=> ?_⟩
 ·refine k11 (vo.ns) fun m hn=> ?_
  exact ⟨m,hn.at' fun o e=>k _ (.inl rfl) o e⟩
 ·refine k22 (vo.cells x a e) fun v o ho hd=> ?_
  exact ⟨v,o,k a (.inr ⟨x,e⟩) o ho,hd⟩
 ·refine k12 (vo.held x i v e1 e2 e3) fun u hu hr=> ?_
  refine ⟨u,?_,hr.mv M⟩
  rcases hu with ⟨hk,m,hn,hm⟩ | ⟨hk,a,ha,o,ho,hd⟩
  ·exact .inl ⟨hk,m,hn.at' fun o e=>k _ (.inl rfl) o e,hm⟩
  ·exact .inr ⟨hk,a,ha,o,k a (.inr ⟨x,ha⟩) o ho,hd⟩
theorem loopC_i {next:H→Itr→Option (Option (V×Itr))} {body:V→Vars→List V→H→Option (Vars×List V×H)} {n:Nat} {it:Itr} {vars:Vars} {acc:List V} {res:Vars×List V×H} (e:qL next body (n+1) it vars acc σ=some res):
  (next σ it=some .none∧(vars,acc,σ)=res)∨ ∃v it' vars' acc' σ',next σ it=some (some (v,it'))∧body v vars acc σ=some (vars',acc',σ')∧qL next body n it' vars' acc' σ'=some res:=by
 rw [Ql] at e
 cases hn:next σ it with
 | none=>rw [hn] at e;exact ns e
 | some o=>
  rw [hn] at e
  cases o with
  | none=>exact .inl ⟨rfl,za e⟩
  | some q=>
   obtain ⟨v,it'⟩:=q
   dsimp only at e
   cases hb:body v vars acc σ with
   | none=>rw [hb] at e;exact ns e
   | some q=>rw [hb] at e;exact .inr ⟨v,it',q.1,q.2.1,q.2.2,rfl,hb,e⟩
theorem Qb {t:T} {it it':Itr} (e:it.next σ=some (some (v,it'))) (ok:okT t it=true):okT t it'=true:=by
 cases it with
 | one z=>cases z with
  | ls i k=>obtain ⟨xs,_,_,rfl⟩:=ls_next e;cases t <;>rfl
  | vs l=>cases l with
   | nil=>cases e
   | cons w l=>cases e;cases t with
    | name=>rfl
    | tup=>exact ft ok
 | enum i k=>
  refine k12 (XL e) fun xs ω q=> ?_
  refine k12 (zc.mp q.symm) fun w ω q=> ?_
  cases q
  cases t with
  | name=>exact ft ok
  | tup=>rfl
 | zip i j k=>
  refine k23 (zb0 e) fun xs ys ω ω hv=> ?_
  refine hv.elim (fun hv=> ?_) fun hv=>sn hv.2
  refine k23 hv fun v1 v2 ω ω q=> ?_
  cases q
  cases t with
  | name=>exact ft ok
  | tup=>rfl
 | nil=>exact ns (za e)
structure CompI (c:Cx) (A:Around) (sc':Scope) (cenv:Env) (N L:List Addr) (D I:Addr) (r₀:Rh) (h₀:Heap) (t:T) (r:Rh) (itr:Itr) (vars:Vars) (acc:List V) (σ:H) (h:Heap):Prop where
 R:c.R r σ h
 S:yB (fun ω=>ω∈N) r₀ h₀ r h
 vo:zN c sc' cenv r h vars
 it:ItR c A r h itr I L
 ok:okT t itr=true
 acc: ∃items m,h.get? D=some (lstO items m)∧VRs c.w.params r h acc items∧items.length≤1000001
noncomputable def jo (ev:Ev) (elt:E) (t:T) (ifs:List E):V→Vars→List V→H→Option (Vars×List V×H):=fun v vars acc σ=>
 match wn t v σ vars with
 | some vars=>match jB ev ifs vars σ with
  | some (x,σ)=>match x with
   | false=>some (vars,acc,σ)
   | true=>match ev elt vars σ with
    | some (v,σ)=>if szOk acc.length then some (vars,acc++ [v],σ) else .none
    | .none=> .none
  | .none=> .none
 | .none=> .none
theorem trip {α β γ:Type} {a a':α} {b b':β} {d d':γ} (e:some (a,b,d)=some (a',b',d')):a'=a∧b'=b∧d'=d:=by cases e;exact ⟨rfl,rfl,rfl⟩
theorem zcY {ev:Ev} {elt:E} {t:T} {ifs:List E} {v:V} {vars vars':Vars} {acc acc':List V} {σ σ':H} (e:jo ev elt t ifs v vars acc σ=some (vars',acc',σ')): ∃vars₁ x σ₁,wn t v σ vars=some vars₁∧jB ev ifs vars₁ σ=some (x,σ₁)∧
  ((x=false∧vars'=vars₁∧acc'=acc∧σ'=σ₁)∨(x=true∧ ∃w,ev elt vars₁ σ₁=some (w,σ')∧szOk acc.length=true∧vars'=vars₁∧acc'=acc++ [w])):=by
 unfold jo at e
 refine k12 (Ww e) fun vars₁ e1 e=> ?_
 refine k22 (bb_i e) fun x σ₁ e2 e=> ?_
 refine ⟨vars₁,x,σ₁,e1,e2,?_⟩
 cases x with
 | false=>exact k03 (trip e) fun q1 q2 q3=> .inl ⟨rfl,q1,q2,q3⟩
 | true=>
  refine k22 (vh_i e) fun w σ₂ e3 e=> ?_
  refine k02 (xj e) fun hz e=> ?_
  exact k03 (trip (congrArg some e.symm)) fun q1 q2 q3=> .inr ⟨rfl,w,q3▸e3,hz,q1,q2⟩
theorem compGo_eq (ev:Ev) (elt:E) (t:T) (ifs:List E):jO ev elt t ifs=qL (fun σ it=>it.next σ) (jo ev elt t ifs) xE:=rfl
noncomputable def CompP (c:Cx) (A:Around) (sc':Scope) (cenv:Env) (N L:List Addr) (D I:Addr) (r₀:Rh) (s₀:Shared) (t:T) (body:V→Vars→List V→H→Option (Vars×List V×H)) (res:Vars×List V×H) (n:Nat) (s:Shared):Prop:=
 ∃r itr vars acc σ h tk,s= {s₀ with heap:=h,toks:=tk} ∧CompI c A sc' cenv N L D I r₀ s₀.heap t r itr vars acc σ h∧qL (fun σ it=>it.next σ) body n itr vars acc σ=some res
theorem comp_loop {m:Nat} (hOk:c.Ok) (hh:A.handled=none) (hu:A.units+100 < cLine) (ih0: ∀k,k < m→EvOk c A (MI.ev c.Γ cf k)) (ih:EvOk c A (MI.ev c.Γ cf m)) {cenv:Env} {r₀:Rh} {s₀:Shared} (eo:zY c sc' cenv r₀.pv) {elt target iter:Expr} {ifs:List Expr} {elt':E} {t:T} {ifs':List E} {scope:Scope} {pos:Pos}
  (te:Tr c.t sc' elt elt') (tt:TrT c.t sc' target t) (ti:TrL c.t sc' ifs ifs') {N L:List Addr} (hN: ∀b∈N,b∈r₀.pv) (hL: ∀b∈L,b∈N) (hF: ∀b,FrX sc' cenv b→b∈N) (hD:D∈N) (hLE: ∀b∈L,¬qt cenv b) (hDE: ¬qt cenv D) (hDL:D ∉ L)
  {res:Vars×List V×H} {Rr:Result→Shared→Prop}
  (O: ∀r vars acc σ h h' tk itr,CompI c A sc' cenv N L D I r₀ s₀.heap t r itr vars acc σ h→res=(vars,acc,σ)→(∀b o,b ∉ L→h.get? b=some o→h'.get? b=some o)→Rr (.ok .next) {s₀ with heap:=h',toks:=tk})
  (fuel:Nat) {r:Rh} {itr:Itr} {vars:Vars} {acc:List V} {σ:H} {h:Heap} {tk:Nat} (J:CompI c A sc' cenv N L D I r₀ s₀.heap t r itr vars acc σ h)
  (eq:qL (fun σ it=>it.next σ) (jo (MI.ev c.Γ cf m) elt' t ifs') fuel itr vars acc σ=some res):
  codeAny c.M A (.compLoop (.ListComp elt [⟨target,iter,ifs,0⟩] scope pos) 0 (.ref I) (.ref D) cenv) Rr {s₀ with heap:=h,toks:=tk} :=by
 refine ZZ (CompP c A sc' cenv N L D I r₀ s₀ t (jo (MI.ev c.Γ cf m) elt' t ifs') res) ?_ fuel ⟨r,itr,vars,acc,σ,h,tk,rfl,J,eq⟩
 clear J eq
 rintro n s E' ⟨r,itr,vars,acc,σ,h,tk,rfl,J,eq⟩
 cases n with
 | zero=>exact ns eq
 | succ n=>
  have hNr: ∀b∈N,b∈r.pv:=fun b hb=>J.S.pv▸hN b hb
  have hLr: ∀b∈L,b∈r.pv:=fun b hb=>hNr b (hL b hb)
  refine (loopC_i eq).elim (fun q=> ?_) fun q=> ?_
  ·exact za8 (s:= {s₀ with heap:=h,toks:=tk}) hh J.R J.it q.1 fun h' tk' k=>O r vars acc σ h h' tk' itr J q.2.symm k
  ·refine k53 q fun v it' vars' acc' σ' hn hb eq2=> ?_
   ·refine yD (Qf (s:= {s₀ with heap:=h,toks:=tk}) J.R hLr J.it hn tt J.ok (E':=E') (Q:=fun u s₂=>wpAny c.M A (assign target cenv u) (fun ω s₂=>wpAny c.M A (zaK ifs cenv true) (fun ok s₃=>
      if ok=true then wpAny c.M A (eval elt cenv) (fun x s₄=>
       wpAny c.M A (call (.builtin "list.append") [.ref D,x]) (fun ω s₅=> ∃m',m' < n+1∧CompP c A sc' cenv N L D I r₀ s₀ t (jo (MI.ev c.Γ cf m) elt' t ifs') res m' s₅) E' s₄) E' s₃
      else∃m',m' < n+1∧CompP c A sc' cenv N L D I r₀ s₀ t (jo (MI.ev c.Γ cf m) elt' t ifs') res m' s₃) E' s₂) E' s₂) fun u h₁ tk₁ R₁ S₁ x₁ it₁=> ?_) (fun o s₁ h₁=> ?_) fun ω ω x=>x
    rotate_left
    ·obtain ⟨u,rfl,h₁⟩:=h₁
     exact h₁
    ·refine k23 (J.acc) fun items mm hd hx hz=> ?_
     have M₁:=S₁.mv hLr
     have vo₁:zN c sc' cenv r h₁ vars:=J.vo.keepE (fun b hb o e=>S₁.keep b o e (fun q=>J.R.pvo b (J.S.pv▸(by
      rcases hb with rfl | ⟨x,hx⟩
      ·exact eo.lpv
      ·exact eo.cpv _ _ hx)) q) fun q=>hLE b q hb) M₁
     have Dk: ∀ {r:Rh} {h h':Heap} {X:Addr→Prop} {o:Obj},¬r.own D→ ¬X D→yB X r h r h'→h.get? D=some o→h'.get? D=some o:=fun ho hX S e=>S.keep D _ e ho hX
     have hDo: ¬r.own D:=J.R.pvo D (hNr D hD)
     have hd₁:=Dk hDo hDL S₁ hd
     have eo₁:zY c sc' cenv r.pv:=J.S.pv▸eo
     refine k33 (zcY hb) fun vars₁ xb σ₃ hbind hif hcase=> ?_
     refine Zq (s:= {s₀ with heap:=h₁,toks:=tk₁}) (σ:=σ) hh t tt eo₁ vo₁ R₁ x₁ hbind fun r₂ h₂ tk₂ R₂ S₂ vo₂=> ?_
     have hFr: ∀b,FrX sc' cenv b→b∈r.pv:=fun b hb=>hNr b (hF b hb)
     have M₂:=S₂.mv hFr
     have hd₂:=S₂.keep D _ hd₁ hDo fun q=>hDE q.toEnv
     have it₂:=it₁.keep M₂ fun b hb o e=>S₂.keep b o e (R₁.pvo b (hLr b hb)) fun q=>hLE b hb q.toEnv
     have hpv₂:r₂.pv=r.pv:=S₂.pv
     have eo₂:zY c sc' cenv r₂.pv:=hpv₂▸eo₁
     have S02:yB (fun ω=>ω∈N) r₀ s₀.heap r₂ h₂:=(J.S.trans (S₁.mono fun b hb=>hL b hb)).trans (S₂.mono hF)
     refine zaJ (s:= {s₀ with heap:=h₂,toks:=tk₂}) hOk hu ih0 ih ti eo₂ vo₂ R₂ hif fun r₃ h₃ tk₃ R₃ S₃=> ?_
     have kp: ∀b,b∈r.pv→ ∀o,h₂.get? b=some o→h₃.get? b=some o:=fun b hb o e=>S₃.keep b o e (R₂.pvo b (hpv₂▸hb))
     rcases hcase with ⟨rfl,rfl,rfl,rfl⟩ | ⟨rfl,w,hev,hsz,rfl,rfl⟩
     ·refine (if_neg zQ).mpr ⟨n,yc n,r₃,it',_,_,_,h₃,tk₃,rfl,⟨R₃,S02.trans S₃.x,vo₂.step eo₂ R₂ S₃,it₂.keep S₃.mv fun b hb o e=>kp b (hLr b hb) o e,Qb hn J.ok,?_⟩,eq2⟩
      exact ⟨items,mm,kp D (hNr D hD) _ hd₂,((hx.mv M₁).mv M₂).step S₃,hz⟩
     ·refine (if_pos rfl).mpr ?_
      refine ih (s:= {s₀ with heap:=h₃,toks:=tk₃}) te (eo₂.step S₃) (vo₂.step eo₂ R₂ S₃) R₃ hev fun uw r₄ h₄ tk₄ R₄ S₄ xw=> ?_
      have hpv₃:r₃.pv=r.pv:=S₃.pv.trans hpv₂
      have hpv₄:r₄.pv=r.pv:=S₄.pv.trans hpv₃
      have kp': ∀b,b∈r.pv→ ∀o,h₂.get? b=some o→h₄.get? b=some o:=fun b hb o e=>S₄.keep b o (kp b hb o e) (R₃.pvo b (hpv₃▸hb))
      have hd₄:=kp' D (hNr D hD) _ hd₂
      have hx₄:=(((hx.mv M₁).mv M₂).step S₃).step S₄
      have hlen:items.length≤1000000:=by rw [hx.length];exact jv hsz
      refine wpAny_list_append_plain (s:= {s₀ with heap:=h₄,toks:=tk₄}) (items:=items.toArray) ⟨mm,hd₄⟩ (fun h₅ hp₅ hs₅=> ?_) (by rw [zz];exact zm hlen Zh)
      refine k11 hp₅ fun mm' hd₅=> ?_;clear hp₅
      obtain ⟨R₅,S₅⟩:=R₄.chg (X:=(fun ω=>ω∈N)) (h':=h₅) (fun b hb=>hpv₄▸hNr b hb) (fun b o e nb=>(hs₅.2 b fun q=>nb (q▸hD)).trans e) (fun b o e=>by
       by_cases q:b=D
       ·subst q;exact ⟨_,hd₅⟩
       ·exact ⟨o,(hs₅.2 b q).trans e⟩)
      have M₅:=S₅.mv fun b hb=>hpv₄▸hNr b hb
      have S04:yB (fun ω=>ω∈N) r₀ s₀.heap r₄ h₄:=(S02.trans S₃.x).trans S₄.x
      refine ⟨n,yc n,r₄,it',_,_,_,h₅,tk₄,rfl,⟨R₅,S04.trans S₅,?_,?_,Qb hn J.ok,items++ [uw],mm',?_,(hx₄.append (.cons xw .nil)).mv M₅,by rw [zd];exact xc hlen⟩,eq2⟩
      ·exact ((vo₂.step eo₂ R₂ S₃).step (eo₂.step S₃) R₃ S₄).keepE (fun b hb o e=>(hs₅.2 b fun q=>hDE (q▸hb)).trans e) M₅
      ·exact (it₂.keep (S₃.trans S₄).mv fun b hb o e=>kp' b (hLr b hb) o e).keep M₅ fun b hb o e=>(hs₅.2 b fun q=>hDL (q▸hb)).trans e
      ·rw [hd₅];simp [lstO]
end
theorem folded_un (a:AE) (env:Env) (x:Value):foldedSetIterable a.un env x=pure x:=by cases a <;>rfl
theorem Jo {t:Tx} {sc:Scope} {e:Expr} {u:It} {env:Env} (h:TrI t sc e u) (x:Value):foldedSetIterable e env x=pure x:=by
 refine k13 h fun a q1 ω ω=> ?_;clear h;subst q1
 cases a with
 | plain a=>exact folded_un a env x
 | enum _ _ _ _=>rfl
 | zip _ _ _ _ _=>rfl
 | items _ _ _ _=>rfl
section
variable {c:Cx} {A:Around} {E':Value→Shared→Prop} {s:Shared} {sc sc':Scope} {env:Env} {r:Rh} {σ σ':H} {v:V} {vars:Vars} {cf:Cf}
theorem zY.wider {pv pv':List Addr} (eo:zY c sc env pv) (h: ∀b∈pv,b∈pv'):zY c sc env pv':=
 ⟨eo.kind,eo.glob,eo.bi,h _ eo.lpv,fun n a e=>h a (eo.cpv n a e),eo.loc,eo.cel,eo.fre,eo.glb,eo.inj,eo.apl⟩
theorem Jv {m:Nat} (hOk:c.Ok) (hh:A.handled=none) (hu:A.units+100 < cLine) (ih0: ∀k,k < m→EvOk c A (MI.ev c.Γ cf k)) (ih:EvOk c A (MI.ev c.Γ cf m)) (eo:zY c sc env r.pv) (vo:zN c sc env r s.heap vars) (R:c.R r σ s.heap) {elt target iter:Expr} {ifs:List Expr} {elt':E} {t:T} {it':It} {ifs':List E} {p:Pos} {own:List Nat}
  (hk:sc'.kind= .function) (hc:jM sc sc'=true) (te:Tr c.t sc' elt elt') (tt:TrT c.t sc' target t) (tit:TrI c.t sc iter it') (ti:TrL c.t sc' ifs ifs') (ho:wa c.t sc'.names=some own)
  {itr:Itr} {σ₁ σ₂:H} {varsF:Vars} {acc:List V} (e1:evIt (MI.ev c.Γ cf m) it' vars σ=some (itr,σ₁)) (ok:okT t itr=true) (e2:jO (MI.ev c.Γ cf m) elt' t ifs' itr (own.map (fun ω=>(ω,Option.none))++vars) [] σ₁=some (varsF,acc,σ₂)) (e3:mkL acc σ₂=some (v,σ')) {Q:Value→Shared→Prop} {use:Option (Value→Sem Unit)}
  (O: ∀(r₁:Rh) (h₁:Heap) (rm:Rh) (hm:Heap) (tk:Nat) (C D:Addr) (M:List Addr),Step r s.heap r₁ h₁→c.R {rm with pv:=r₁.pv++M} σ' hm→(∀b∈M,h₁.get? b= .none)→(∀b∈r₁.pv,b ∉ M)→Step r₁ h₁ {rm with pv:=r₁.pv} hm→zY c sc env (r₁.pv++M)→zN c sc env {rm with pv:=r₁.pv++M} hm vars→C∈M→c.V {rm with pv:=r₁.pv++M} hm v (.ref D)→(∃m,hm.Ns C m)→
   compPost c.M A E' use Q (.ref D) C (.ok .next) {s with heap:=hm,toks:=tk}):
  wpAny c.M A (comprehension (.ListComp elt [⟨target,iter,ifs,0⟩] sc' p) sc' env (firstIterPos [⟨target,iter,ifs,0⟩] p) (newList []) (firstAsync [⟨target,iter,ifs,0⟩]) (firstIter [⟨target,iter,ifs,0⟩] env) use) Q E' s:=by
 refine wpAny_comprehension_free (use:=use) (e:= .ListComp elt [⟨target,iter,ifs,0⟩] sc' p) rfl (Jo tit) (QR (jL eo hc)) hk (fun x hx hl=>by
  obtain ⟨x,k⟩:=x
  have hl:k= .local:=hl
  subst hl
  exact (Zn hc hx).1) ?_
 refine yD (Qx (Q:=fun I s₂=>wpAny c.M A (newList []) (fun acc s₃=>wpAny c.M A (newFunctionEnv sc' env.globals (clOf env sc'.names []) [] env.qual none .none (some env)) (fun cenv s₄=>
    codeAny c.M A (.compStart (.ListComp elt [⟨target,iter,ifs,0⟩] sc' p) 0 (.ref I) acc {cenv with scope:=relabel sc' env}) (compPost c.M A E' use Q acc cenv.locals) s₄) E' s₃) E' s₂) hOk hh ih tit eo vo R e1 ?_) (fun x s₁ h₁=>yD h₁ (fun o s₂ h₂=>by obtain ⟨I,rfl,h₂⟩:=h₂;exact h₂) fun ω ω x=>x) fun ω ω x=>x
 intro r₁ h₁ h₂ tk I L R₁ S₁ k n l it₁
 refine zax ?_ (zK _)
 refine za9 ?_
 dsimp only
 have hsz:(h₂.push {cls:= .type "list",data:= .seq ([]:List Value).toArray}).objs.size=h₂.objs.size+1:=xX ..
 generalize hC:(h₂.push {cls:= .type "list",data:= .seq ([]:List Value).toArray}).objs.size=C at hsz⊢
 generalize hD:h₂.objs.size=D at hsz⊢
 have hh1:((h₂.push {cls:= .type "list",data:= .seq ([]:List Value).toArray}).push {cls:= .type "dict",data:= .dict #[]}).objs.size=C+1:=by rw [xX,hC]
 have ok':=cellsFrom_ok sc'.names ((h₂.push {cls:= .type "list",data:= .seq ([]:List Value).toArray}).push {cls:= .type "dict",data:= .dict #[]}) (C+1) [] ⟨fun ω ω hm=>(nomatch hm),List.Pairwise.nil⟩ (by rw [hh1];exact zo _)
 rw [hh1] at ok'
 have kE: ∀b o,h₂.get? b=some o→(pushCells ((h₂.push {cls:= .type "list",data:= .seq ([]:List Value).toArray}).push {cls:= .type "dict",data:= .dict #[]}) sc'.names).get? b=some o:=fun b o e=>pushCells_keeps _ _ b o (zn _ (zn _ e))
 have gD:(pushCells ((h₂.push {cls:= .type "list",data:= .seq ([]:List Value).toArray}).push {cls:= .type "dict",data:= .dict #[]}) sc'.names).get? D=some (lstO [] 0):=pushCells_keeps _ _ _ _ (zn _ (hD▸zD _ rfl))
 have nsC:(pushCells ((h₂.push {cls:= .type "list",data:= .seq ([]:List Value).toArray}).push {cls:= .type "dict",data:= .dict #[]}) sc'.names).Ns C (fun ω=>none):=by
  have:=Heap.Ns.new (h₂.push {cls:= .type "list",data:= .seq ([]:List Value).toArray}) (.type "dict")
  rw [hC] at this
  exact this.keeps (pushCells_keeps _ _)
 generalize pushCells ((h₂.push {cls:= .type "list",data:= .seq ([]:List Value).toArray}).push {cls:= .type "dict",data:= .dict #[]}) sc'.names=hE at kE gD nsC ok'⊢
 have gnone: ∀b:Nat,h₂.objs.size≤b→h₂.get? b= .none:=fun b hb=>yS h₂ hb
 obtain ⟨RA,MA⟩:=R₁.enter k n l
 let N2:List Addr:=D::C::(cellsFrom (C+1) sc'.names []).map (fun ω=>ω.2)
 have memN2: ∀b∈N2,b=D∨b=C∨ ∃x,(x,b)∈cellsFrom (C+1) sc'.names []:=fun b hb=>by
  rcases zh.mp hb with q | q
  ·exact .inl q
  ·rcases zh.mp q with q | q
   ·exact .inr (.inl q)
   ·obtain ⟨⟨x,a⟩,hx,rfl⟩:=zy.mp q
    exact .inr (.inr ⟨x,hx⟩)
 have geN2: ∀b∈N2,D≤b:=fun b hb=>by
  rcases memN2 b hb with rfl | rfl | ⟨x,hx⟩
  ·exact zo _
  ·rw [hsz];exact wZ _
  ·have:=(ok'.empty x b hx).2
   have h1:D≤C+1:=by rw [hsz];exact zdg (wZ _)
   exact zm h1 this
 have newN2: ∀b∈N2,h₂.get? b= .none:=fun b hb=>gnone b (by rw [hD];exact geN2 b hb)
 have liveN2: ∀b∈N2,∃o,hE.get? b=some o:=fun b hb=>by
  rcases memN2 b hb with rfl | rfl | ⟨x,hx⟩
  ·exact ⟨_,gD⟩
  ·obtain ⟨o,es,ep,e,_⟩:=nsC;exact ⟨o,e⟩
  ·obtain ⟨o,e,_⟩:=(ok'.empty x b hx).1;exact ⟨o,e⟩
 obtain ⟨RB,MB⟩:=RA.enter (L:=N2) kE newN2 liveN2
 dsimp only at RB MB
 have eN:(r₁.pv++L)++N2=r₁.pv++(L++N2):=zW _ _ _
 have eo₁:zY c sc env r₁.pv:=eo.step S₁
 have vo₁:=vo.step eo R S₁
 have ltC: ∀b,(∃o,h₂.get? b=some o)→b < D:=fun b ⟨o,e⟩=>hD▸yr e
 have live1: ∀b∈r₁.pv,b < D:=fun b hb=>by obtain ⟨o,e⟩:=R₁.pvl b hb;exact ltC b ⟨o,k b o e⟩
 have DC:D < C:=by rw [hsz];exact yc _
 have eoB:zY c sc' (cEnv sc' C env) ((r₁.pv++L)++N2):=zcX eo₁ hk hc (fun b hb=>we (live1 b hb) DC) (fun b hb=>zC _ (zC _ hb)) (zr _ (.tail _ (.head _))) (fun x a hx=>zr _ (.tail _ (.tail _ (zy.mpr ⟨(x,a),hx,rfl⟩)))) ok'
 have voB:zN c sc' (cEnv sc' C env) {r₁ with pv:=(r₁.pv++L)++N2} hE (own.map (fun ω=>(ω,Option.none))++vars):=zbD eo₁ vo₁ hc ho hOk.dot ok' ⟨_,nsC⟩ (fun b o e=>kE b o (k b o e)) ⟨fun ω ω e=>e,fun a o e f=>by
  obtain ⟨q1,q2⟩:=MA.fz a o e f
  exact MB.fz a o q1 q2⟩
 have newL: ∀b∈L,h₁.get? b= .none:=n
 have newN: ∀b∈L++N2,h₁.get? b= .none:=fun b hb=>by
  rcases zt.mp hb with q | q
  ·exact n b q
  ·cases e:h₁.get? b with
   | none=>rfl
   | some o=>exact ns ((newN2 b q).symm.trans (k b o e))
 have envN2: ∀b,qt (cEnv sc' C env) b→b∈N2∧b≠D∨b∈r₁.pv:=fun b hb=>by
  rcases hb with hb | ⟨x,hx⟩
  ·rw [show b=C from hb]
   exact .inl ⟨.tail _ (.head _),fun q=>by
    have q:C=D:=q
    rw [q] at DC;exact yI _ DC⟩
  ·rcases (xK eo₁ hc x).2 b hx with ⟨q,_⟩ | q
   ·refine .inl ⟨.tail _ (.tail _ (zy.mpr ⟨(x,b),q,rfl⟩)),fun z=> ?_⟩
    have h1:=(ok'.empty x b q).2
    rw [z] at h1
    exact yI _ (we DC h1)
   ·exact .inr (eo₁.cpv _ _ q)
 have DL:D ∉ L:=fun q=>by
  obtain ⟨o,e⟩:=l D q
  have:=yr e
  rw [hD] at this;exact yI _ this
 have notEnvD: ¬qt (cEnv sc' C env) D:=fun q=>by
  rcases envN2 D q with ⟨_,q⟩ | q
  ·exact q rfl
  ·exact yI _ (live1 D q)
 have notEnvL: ∀b∈L,¬qt (cEnv sc' C env) b:=fun b hb q=>by
  obtain ⟨o,e⟩:=l b hb
  rcases envN2 b q with ⟨q,_⟩ | q
  ·exact ns ((newN2 b q).symm.trans e)
  ·obtain ⟨o',e'⟩:=R₁.pvl b q
   exact ns ((n b hb).symm.trans e')
 have frN: ∀b,FrX sc' (cEnv sc' C env) b→b∈L++N2:=fun b hb=>by
  rcases hb with hb | ⟨x,hx,hb⟩
  ·rw [show b=C from hb]
   exact zr _ (.tail _ (.head _))
  ·rcases (xK eo₁ hc x).2 b hb with ⟨q,_⟩ | q
   ·exact zr _ (.tail _ (.tail _ (zy.mpr ⟨(x,b),q,rfl⟩)))
   ·obtain ⟨a,ha⟩:=cellsFrom_some sc'.names (C+1) (mem_of_lookup hx)
    have e:(cEnv sc' C env).cells=cellsFrom (C+1) sc'.names []++clOf env sc'.names []:=xk _ _ _
    rw [e,jk] at hb
    obtain ⟨a',ha'⟩:=zP.mp (jJ ha)
    rw [ha'] at hb
    cases hb
    exact zr _ (.tail _ (.tail _ (zy.mpr ⟨(x,b),mem_of_lookup ha',rfl⟩)))
 rw [compGo_eq] at e2
 have itB:ItR c A {r₁ with pv:=(r₁.pv++L)++N2} hE itr I L:=it₁.keep MB fun b hb o e=>kE b o e
 have loop:codeAny c.M A (.compLoop (.ListComp elt [⟨target,iter,ifs,0⟩] sc' p) 0 (.ref I) (.ref D) (cEnv sc' C env)) (compPost c.M A E' use Q (.ref D) C) {s with heap:=hE,toks:=tk} :=by
  refine comp_loop (s₀:= {s with heap:=hE,toks:=tk}) (r₀:= {r₁ with pv:=(r₁.pv++L)++N2}) (N:=L++N2) (L:=L) (D:=D) (I:=I) (σ:=σ₁) (itr:=itr) (acc:= []) (vars:=own.map (fun ω=>(ω,Option.none))++vars) (tk:=tk) hOk hh hu ih0 ih eoB te tt ti (fun b hb=>by rw [eN];exact zr _ hb) (fun b hb=>zC _ hb) frN (zr _ (.head _)) notEnvL notEnvD DL ?_ xE
   ⟨RB,yB.refl,voB,itB,ok,⟨[],0,gD,.nil,zK _⟩⟩ e2
  rintro r₂ vars₂ acc₂ σ₃ h₃ h₄ tk₂ itr₂ J heq kk
  cases heq
  obtain ⟨hl3,rfl,rfl⟩:=YN e3
  have CL:C ∉ L:=fun q=>notEnvL C q (.inl rfl)
  obtain ⟨mC,hC3⟩:=J.vo.ns
  obtain ⟨items,mm,hd,hx,hz⟩:=J.acc
  have hpv:r₂.pv=(r₁.pv++L)++N2:=J.S.pv
  let M:List Addr:=C::(cellsFrom (C+1) sc'.names []).map (fun ω=>ω.2)
  have MN: ∀b∈M,b∈N2:=fun b hb=> .tail _ hb
  have geM: ∀b∈M,C≤b:=fun b hb=>by
   rcases zh.mp hb with rfl | q
   ·exact zo _
   ·obtain ⟨⟨x,a⟩,hx,rfl⟩:=zy.mp q
    exact jr (ok'.empty x a hx).2
  have ML: ∀b∈M,b ∉ L:=fun b hb q=>by
   obtain ⟨o,e⟩:=l b q
   have:=newN2 b (MN b hb)
   exact ns (this.symm.trans e)
  have DM:D ∉ M:=fun q=>yI _ (yX DC (geM D q))
  have pL: ∀b∈r₁.pv,b ∉ L++N2:=fun b hb q=>by
   obtain ⟨o,e⟩:=R₁.pvl b hb
   exact ns ((newN b q).symm.trans e)
  have DpV:D ∉ r₁.pv:=fun q=>pL D q (zr _ (.head _))
  have k4: ∀b o,h₃.get? b=some o→b ∉ L→h₄.get? b=some o:=fun b o e nb=>kk b o nb e
  have hd4:h₄.get? D=some (lstO items mm):=kk D _ DL hd
  obtain ⟨RF,MF⟩:=Rel.finish (pv:=r₁.pv++M) (L:=L) J.R (fun b hb=>by rw [hpv];exact zC _ (zr _ hb)) (fun b hb=>by
   rw [hpv]
   rcases zt.mp hb with q | q
   ·exact zC _ (zC _ q)
   ·exact zr _ (MN b q)) (fun b hb=>by
   rcases zt.mp hb with q | q
   ·exact fun z=>pL b q (zC _ z)
   ·exact ML b q) (by rw [hpv];exact zr _ (.head _)) (fun q=>by
   rcases zt.mp q with q | q
   ·exact DpV q
   ·exact DM q) k4 hd4 hx (by lia)
  have kE1: ∀b o,h₁.get? b=some o→hE.get? b=some o:=fun b o e=>kE b o (k b o e)
  have no: ∀a,hE.get? a=none→h₁.get? a=none:=fun a ha=>by
   cases q:h₁.get? a with
   | none=>rfl
   | some o=>exact ns (ha.symm.trans (kE1 a o q))
  obtain ⟨τ,hτ,hf⟩:=J.S.ext
  have SF:Step r₁ h₁ {ob:=r₂.ob++ [(D,D)],pv:=r₁.pv} h₄:=by
   refine ⟨⟨τ++ [(D,D)],by rw [←zW];exact congrArg (· ++ [(D,D)]) hτ,fun q hq=> ?_⟩,rfl,fun b o e hb=>k4 b o (J.S.keep b o (kE1 b o e) hb fun q=> ?_) fun q=> ?_,fun b o e=> ?_⟩
   ·rcases zt.mp hq with hq | hq
    ·exact ⟨no _ (hf q hq).1,no _ (hf q hq).2⟩
    ·rw [zv.mp hq]
     have:=newN D (zr _ (.head _))
     exact ⟨this,this⟩
   ·exact ns ((newN b q).symm.trans e)
   ·exact ns ((newL b q).symm.trans e)
   ·obtain ⟨o',e'⟩:=J.S.live b o (kE1 b o e)
    exact ⟨o',k4 b o' e' fun q=>by exact ns ((newL b q).symm.trans e)⟩
  have MM:Mv r₁ h₁ {ob:=r₂.ob++ [(D,D)],pv:=r₁.pv++M} h₄:=⟨fun i p e=>SF.at_ob e,fun a o e f=>⟨(SF.mv.fz a o e f).1,fun q=>by
   rcases q with q | q
   ·exact (SF.mv.fz a o e f).2 (.inl q)
   ·rcases zt.mp q with q | q
    ·exact f (.inr q)
    ·exact ns ((newN a (zr _ (MN a q))).symm.trans e)⟩⟩
  have envKeep: ∀b,qt env b→ ∀o,h₁.get? b=some o→h₄.get? b=some o:=fun b hb o e=>SF.keep b o e (R₁.pvo b (by
   rcases hb with rfl | ⟨x,hx⟩
   ·exact eo₁.lpv
   ·exact eo₁.cpv _ _ hx))
  refine O r₁ h₁ {ob:=r₂.ob++ [(D,D)],pv:=r₁.pv} h₄ tk₂ C D M S₁ RF (fun b hb=>newN b (zr _ (MN b hb))) (fun b hb q=>pL b hb (zr _ (MN b q))) SF (eo₁.wider fun b hb=>zC _ hb) (vo₁.keepE envKeep MM) (.head _) (.ref _ (D,D) ?_) ⟨mC,hC3.at' fun o e=>kk _ o CL e⟩
  show (r₂.ob++ [(D,D)])[σ₂.length]? =_
  rw [←J.R.len,zJ (zo _),xG];rfl
 exact codeAny_compStart_list loop (iter_self (s:= {s with heap:=hE,toks:=tk}) itB loop)
theorem zcW {m:Nat} (hOk:c.Ok) (hh:A.handled=none) (hu:A.units+100 < cLine) (ih0: ∀k,k < m→EvOk c A (MI.ev c.Γ cf k)) (ih:EvOk c A (MI.ev c.Γ cf m)) (eo:zY c sc env r.pv) (vo:zN c sc env r s.heap vars) (R:c.R r σ s.heap) {elt target iter:Expr} {ifs:List Expr} {elt':E} {t:T} {it':It} {ifs':List E} {p:Pos} {own:List Nat}
  (hk:sc'.kind= .function) (hc:jM sc sc'=true) (te:Tr c.t sc' elt elt') (tt:TrT c.t sc' target t) (tit:TrI c.t sc iter it') (ti:TrL c.t sc' ifs ifs') (ho:wa c.t sc'.names=some own)
  {itr:Itr} {σ₁ σ₂:H} {varsF:Vars} {acc:List V} (e1:evIt (MI.ev c.Γ cf m) it' vars σ=some (itr,σ₁)) (ok:okT t itr=true) (e2:jO (MI.ev c.Γ cf m) elt' t ifs' itr (own.map (fun ω=>(ω,Option.none))++vars) [] σ₁=some (varsF,acc,σ₂)) (e3:mkL acc σ₂=some (v,σ')) {Q:Value→Shared→Prop} (O:Out c r s σ' v Q):
  wpAny c.M A (eval (.ListComp elt [⟨target,iter,ifs,0⟩] sc' p) env) Q E' s:=by
 rw [eval_ListComp]
 refine Jv hOk hh hu ih0 ih eo vo R hk hc te tt tit ti ho e1 ok e2 e3 fun r₁ h₁ rm hm tk C D M S₁ Rm nM pM Sm eom vom CM xv nsC=> ?_
 refine k11 nsC fun m hn=> ?_;clear nsC
 refine ⟨m,hn,fun h' hs'=> ?_⟩
 have k: ∀b o,hm.get? b=some o→b ∉ M→h'.get? b=some o:=fun b o e nb=>(hs'.2 b fun q=>nb (q▸CM)).trans e
 refine k02 (Rel.leave Rm rfl pM k) fun RL ML=> ?_
 refine O (.ref D) {rm with pv:=r₁.pv} h' tk RL (S₁.trans ⟨Sm.ext,rfl,fun b o e hb=>k b o (Sm.keep b o e hb) fun q=> ?_,fun b o e=> ?_⟩) (xv.mv ML)
 ·rw [nM b q] at e;exact ns e
 ·refine k11 (Sm.live b o e) fun o' e'=> ?_
  exact ⟨o',k b o' e' fun q=>by exact ns ((nM b q).symm.trans e)⟩
theorem comp_use {m:Nat} (hOk:c.Ok) (hh:A.handled=none) (hu:A.units+100 < cLine) (ih0: ∀k,k < m→EvOk c A (MI.ev c.Γ cf k)) (ih:EvOk c A (MI.ev c.Γ cf m)) (eo:zY c sc env r.pv) (vo:zN c sc env r s.heap vars) (R:c.R r σ s.heap) {elt target iter:Expr} {ifs:List Expr} {elt':E} {t:T} {it':It} {ifs':List E} {p:Pos} {own:List Nat}
  (hk:sc'.kind= .function) (hc:jM sc sc'=true) (te:Tr c.t sc' elt elt') (tt:TrT c.t sc' target t) (tit:TrI c.t sc iter it') (ti:TrL c.t sc' ifs ifs') (ho:wa c.t sc'.names=some own)
  {itr:Itr} {σ₁ σ₂:H} {varsF vars':Vars} {acc:List V} (e1:evIt (MI.ev c.Γ cf m) it' vars σ=some (itr,σ₁)) (ok:okT t itr=true) (e2:jO (MI.ev c.Γ cf m) elt' t ifs' itr (own.map (fun ω=>(ω,Option.none))++vars) [] σ₁=some (varsF,acc,σ₂)) (e3:mkL acc σ₂=some (v,σ')) {u:Value→Sem Unit}
  (hu': ∀ {r:Rh} {s:Shared} {x:Value} {Q:Unit→Shared→Prop},zY c sc env r.pv→zN c sc env r s.heap vars→c.R r σ' s.heap→c.V r s.heap v x→OutS c sc env r s σ' vars' (Q ())→wpAny c.M A (u x) Q E' s) {Q:Value→Shared→Prop} (O:OutS c sc env r s σ' vars' (Q .none)):
  wpAny c.M A (comprehension (.ListComp elt [⟨target,iter,ifs,0⟩] sc' p) sc' env (firstIterPos [⟨target,iter,ifs,0⟩] p) (newList []) (firstAsync [⟨target,iter,ifs,0⟩]) (firstIter [⟨target,iter,ifs,0⟩] env) (some u)) Q E' s:=by
 refine Jv hOk hh hu ih0 ih eo vo R hk hc te tt tit ti ho e1 ok e2 e3 fun r₁ h₁ rm hm tk C D M S₁ Rm nM pM Sm eom vom CM xv nsC=> ?_
 refine k11 nsC fun mC hn=> ?_;clear nsC
 have eo₁:zY c sc env r₁.pv:=eo.step S₁
 have CF: ¬FrX sc env C:=fun q=>pM C (FrX.pv (r:=r₁) eo₁ C q) CM
 refine hu' (s:= {s with heap:=hm,toks:=tk}) eom vom Rm xv fun r₂ h₂ tk₂ R₂ S₂ vo₂=> ?_
 have Cown: ¬({rm with pv:=r₁.pv++M} :Rh).own C:=Rm.pvo C (zr _ CM)
 refine ⟨mC,hn.at' fun o e=>S₂.keep C o e Cown CF,fun h' hs'=> ?_⟩
 have k: ∀b o,h₂.get? b=some o→b ∉ M→h'.get? b=some o:=fun b o e nb=>(hs'.2 b fun q=>nb (q▸CM)).trans e
 refine k02 (Rel.leave R₂ S₂.pv pM k) fun RL ML=> ?_
 refine k12 (Sm.ext) fun τ hτ hf=> ?_
 refine k12 (S₂.ext) fun τ' hτ' hf'=> ?_
 have no: ∀a,hm.get? a=none→h₁.get? a=none:=fun a ha=>by
  cases q:h₁.get? a with
  | none=>rfl
  | some o=>obtain ⟨o',e'⟩:=Sm.live a o q;rw [ha] at e';exact ns e'
 have SF:yB (FrX sc env) r₁ h₁ {r₂ with pv:=r₁.pv} h':=by
  refine ⟨⟨τ++τ',by rw [←zW];exact hτ'.trans (congrArg (fun ω=>ω++τ') hτ),fun q hq=> ?_⟩,rfl,fun b o e hb hx=> ?_,fun b o e=> ?_⟩
  ·rcases zt.mp hq with hq | hq
   ·exact hf q hq
   ·exact ⟨no _ (hf' q hq).1,no _ (hf' q hq).2⟩
  ·refine k b o (S₂.keep b o (Sm.keep b o e hb) (fun q=>hb (Sm.own_old e q)) hx) fun q=> ?_
   rw [nM b q] at e;exact ns e
  ·refine k11 (Sm.live b o e) fun o' e'=> ?_
   refine k11 (S₂.live b o' e') fun o'' e''=> ?_
   exact ⟨o'',k b o'' e'' fun q=>by exact ns ((nM b q).symm.trans e)⟩
 refine O {r₂ with pv:=r₁.pv} h' tk₂ (S₁.pv▸RL) (S₁.x.trans SF) (vo₂.keepE (fun b hb o e=>k b o e fun q=>pM b (by
  rcases hb with rfl | ⟨x,hx⟩
  ·exact eo₁.lpv
  ·exact eo₁.cpv _ _ hx) q) ML)
end
noncomputable def TrS (t:Tx) (sc:Scope) (s:Stmt) (u:S):Prop:= ∃a:AS,s=a.un∧u=a.er∧a.ok t sc=true
noncomputable def TrSs (t:Tx) (sc:Scope) (ss:List Stmt) (us:List S):Prop:= ∃as,ss=unSs as∧us=erSs as∧okSs t sc as=true
theorem TrSs.mk {t:Tx} {sc:Scope} {as:List AS} (h:okSs t sc as=true):TrSs t sc (unSs as) (erSs as):=⟨as,rfl,rfl,h⟩
theorem WH {a:AE} (h:XI a.un=false) (t:Option Expr) (line:Nat) (env:Env):swapsWith a.un t line env=pure false:=by
 cases a <;>first | rfl | exact tf h
theorem Xv (a:AE) (x y:Expr) (q:Pos) (line:Nat) (env:Env):swapsWith a.un (some (.Subscript x y q)) line env=pure false:=by cases a <;>rfl
theorem swaps_tup (a:AE) (es:List Expr) (k:Nat) (q:Pos) (line:Nat) (env:Env):swapsWith a.un (some (.Tuple es k q)) line env=pure false:=by cases a <;>rfl
noncomputable def FlR (c:Cx) (r:Rh) (h:Heap):Fl→Flow→Prop
 | .next,f=>f= .next
 | .brk,f=>f= .brk
 | .ret v,f=> ∃u,f= .ret u∧c.V r h v u
noncomputable def OutX (c:Cx) (sc:Scope) (env:Env) (r:Rh) (s:Shared) (σ':H) (fl:Fl) (vars':Vars) (Q:Flow→Shared→Prop):Prop:=
 ∀f r' h' tk,c.R r' σ' h'→yB (FrX sc env) r s.heap r' h'→zN c sc env r' h' vars'→FlR c r' h' fl f→Q f {s with heap:=h',toks:=tk}
section
variable {c:Cx} {A:Around} {E':Value→Shared→Prop} {s:Shared} {sc sc':Scope} {env:Env} {r r':Rh} {σ σ' σ₁:H} {v:V} {vars vars':Vars} {ev:Ev} {cf:Cf} {h':Heap} {tk:Nat} {fl:Fl}
theorem OutX.cast {Q:Flow→Shared→Prop} {fl₀:Fl} {vars₀:Vars} {σ₀:H} (O:OutX c sc env r s σ' fl vars' Q) (e:some (fl₀,vars₀,σ₀)=some (fl,vars',σ')):OutX c sc env r s σ₀ fl₀ vars₀ Q:=by cases e;exact O
theorem OutX.after {Q:Flow→Shared→Prop} (O:OutX c sc env r s σ' fl vars' Q) (S:yB (FrX sc env) r s.heap r' h'):OutX c sc env r' {s with heap:=h',toks:=tk} σ' fl vars' Q:=
 fun f r'' h'' tk' R'' S'' vo=>O f r'' h'' tk' R'' (S.trans S'') vo
theorem Xm: ∀(as:List AN),as.all (AN.ok c.t sc)=true→ ∀ {r:Rh} {s:Shared} {v:V} {u:Value} {vars:Vars} {Q:Unit→Shared→Prop},zY c sc env r.pv→zN c sc env r s.heap vars→c.R r σ s.heap→c.V r s.heap v u→
  OutS c sc env r s σ ((as.map AN.er).foldl (fun vs x=>vs.set x v) vars) (Q ())→wpAny c.M A (assignAll u ((assignEach (as.map AN.un) env).map (fun ω=>ω.2))) Q E' s:=by
 intro as
 induction as with
 | nil=>intro _ r s v u vars Q eo vo R xv O;exact zi (O r s.heap s.toks R .refl vo)
 | cons a rest ih=>
  intro h r s v u vars Q eo vo R xv O
  obtain ⟨x,i,p⟩:=a
  refine k02 (zB h) fun h hr=> ?_
  refine k02 (zB h) fun ho hi=> ?_
  have st: ∀ {Q:Unit→Shared→Prop},OutS c sc env r s σ (vars.set i v) (Q ())→wpAny c.M A (assign (.Name x p) env u) Q E' s:=fun O=>wpAny_assign_Name (ZI ho (of_decide_eq_true hi) eo vo R xv O)
  cases rest with
  | nil=>
   show wpAny _ _ (assign (.Name x p) env u) _ _ _
   exact st O
  | cons b rest=>
   obtain ⟨y,j,p'⟩:=b
   show wpAny _ _ (holding [u] (assign (.Name x p) env u)>>=fun ω=>assignAll u ((assignEach ((AN.mk y j p'::rest).map AN.un) env).map (fun ω=>ω.2))) _ _ _
   refine zb (yT (st fun r₁ h₁ tk₁ R₁ S₁ vo₁=> ?_))
   exact ih hr (eo.stepX S₁) vo₁ R₁ (xv.mv (S₁.mv (FrX.pv eo))) (fun r₂ h₂ tk₂ R₂ S₂ vo₂=>O r₂ h₂ tk₂ R₂ (S₁.trans S₂) vo₂)
theorem itr_i {β:Type} {f:Itr→H→Option β} {o:Option (Itr×H)} {y:β} (e:(match o with
  | some (v,σ')=>f v σ'
  | .none=> .none)=some y): ∃v σ',o=some (v,σ')∧f v σ'=some y:=by
 cases o with
 | none=>exact ns e
 | some x=>exact ⟨x.1,x.2,rfl,e⟩
theorem go_i {β:Type} {f:List V→H→Option β} {o:Option (Vars×List V×H)} {y:β} (e:(match o with
  | some (_,acc,σ')=>f acc σ'
  | .none=> .none)=some y): ∃vars acc σ',o=some (vars,acc,σ')∧f acc σ'=some y:=by
 cases o with
 | none=>exact ns e
 | some x=>exact ⟨x.1,x.2.1,x.2.2,rfl,e⟩
theorem ev_compE (Γ:G) (cf:Cf) (n:Nat) (elt:E) (t:T) (iter:It) (ifs:List E) (own:List Nat) (vars:Vars) (σ:H):MI.ev Γ cf (n+1) (.comp elt [.mk t iter ifs] own) vars σ=(match evIt (MI.ev Γ cf n) iter vars σ with
    | some (itr,σ)=>if okT t itr then match jO (MI.ev Γ cf n) elt t ifs itr (own.map (fun ω=>(ω,.none))++vars) [] σ with
     | some (_,acc,σ)=>mkL acc σ
     | .none=> .none else .none
    | .none=> .none):=rfl
theorem XZ {n:Nat} {elt:E} {t:T} {it:It} {ifs:List E} {own:List Nat} (e:MI.ev c.Γ cf (n+1) (.comp elt [.mk t it ifs] own) vars σ=some (v,σ')): ∃itr σ₁ varsF acc σ₂,evIt (MI.ev c.Γ cf n) it vars σ=some (itr,σ₁)∧okT t itr=true∧
  jO (MI.ev c.Γ cf n) elt t ifs itr (own.map (fun ω=>(ω,Option.none))++vars) [] σ₁=some (varsF,acc,σ₂)∧mkL acc σ₂=some (v,σ'):=by
 refine k22 (itr_i ((ev_compE ..).symm.trans e)) fun itr σ₁ e1 e=> ?_
 refine k02 (if_i e) fun ok e=> ?_
 refine k32 (go_i e) fun varsF acc σ₂ e2 e=> ?_
 exact ⟨itr,σ₁,varsF,acc,σ₂,e1,ok,e2,e⟩
theorem XK {elt:Expr} {gens:List Comprehension} {s':Scope} {q:Pos} {use:Value→Sem Unit} :evalThenUse (.ListComp elt gens s' q) env use=(comprehension (.ListComp elt gens s' q) s' env (firstIterPos gens q) (newList []) (firstAsync gens) (firstIter gens env) (some use)>>=fun ω=>pure ()):=rfl
theorem zct {n:Nat} (hOk:c.Ok) (hh:A.handled=none) (hu:A.units+100 < cLine) (ih: ∀m,EvOk c A (MI.ev c.Γ cf m)) {x:Str} {i:Nat} {px q p:Pos} (tn: [AN.mk x i px].all (AN.ok c.t sc)=true) {elt target iter:Expr} {ifs:List Expr} {elt':E} {t:T} {it:It} {ifs':List E} {own:List Nat}
  (hb:swapsWith (.ListComp elt [⟨target,iter,ifs,0⟩] sc' q) (some (.Name x px)) p.line env=pure true) (eo:zY c sc env r.pv) (vo:zN c sc env r s.heap vars) (R:c.R r σ s.heap)
  (hk:sc'.kind= .function) (hc:jM sc sc'=true) (te:Tr c.t sc' elt elt') (tt:TrT c.t sc' target t) (tit:TrI c.t sc iter it) (ti:TrL c.t sc' ifs ifs') (hown:wa c.t sc'.names=some own)
  {itr:Itr} {σ₂:H} {varsF:Vars} {acc:List V} (e1:evIt (MI.ev c.Γ cf n) it vars σ=some (itr,σ₁)) (ok:okT t itr=true) (e2:jO (MI.ev c.Γ cf n) elt' t ifs' itr (own.map (fun ω=>(ω,Option.none))++vars) [] σ₁=some (varsF,acc,σ₂)) (e3:mkL acc σ₂=some (v,σ'))
  {Q:Flow→Shared→Prop} (O:OutX c sc env r s σ' .next (vars.set i v) Q):wpAny c.M A (exec (.Assign [.Name x px] (.ListComp elt [⟨target,iter,ifs,0⟩] sc' q) p) env) Q E' s:=by
 rw [arm_exec_Assign]
 refine zb (wp ?_)
 rw [show swapsWithSole [Expr.Name x px] (.ListComp elt [⟨target,iter,ifs,0⟩] sc' q) p.line env=pure true from hb]
 refine zb (zi ?_)
 rw [if_pos rfl]
 rw [XK]
 refine zb (zb ?_)
 have O':OutS c sc env r s σ' (vars.set i v) (fun s'=>wpAny c.M A (pure ()) (fun a s'=>wpAny c.M A (pure Flow.next) Q E' s') E' s'):=fun r' h' tk' R' S' vo'=>zi (zi (O .next r' h' tk' R' S' vo' rfl))
 have hus: ∀ {r:Rh} {s:Shared} {x':Value} {Q:Unit→Shared→Prop},zY c sc env r.pv→zN c sc env r s.heap vars→c.R r σ' s.heap→c.V r s.heap v x'→OutS c sc env r s σ' (vars.set i v) (Q ())→wpAny c.M A (assignAll x' ((assignEach [.Name x px] env).map (fun ω=>ω.2))) Q E' s:=fun eo vo R xv O=>Xm [.mk x i px] tn eo vo R xv O
 have key:=comp_use (p:=q) (target:=target) (iter:=iter) (ifs:=ifs) (elt:=elt) (E':=E') (Q:=fun ω s'=>wpAny c.M A (pure ()) (fun a s'=>wpAny c.M A (pure Flow.next) Q E' s') E' s') hOk hh hu (fun k ω=> @ih k) (@ih n) eo vo R hk hc te tt tit ti hown e1 ok e2 e3 (u:=fun v=>assignAll v ((assignEach [.Name x px] env).map (fun ω=>ω.2))) hus O'
 exact key
theorem isComp_i {a:AE} (h:XI a.un=true): ∃elt tg it ifs sc' own p,a= .comp elt tg it ifs sc' own p:=by
 cases a with
 | comp elt tg it ifs sc' own p=>exact ⟨elt,tg,it,ifs,sc',own,p,rfl⟩
 | _=>exact nomatch h
theorem zba {n:Nat} (hOk:c.Ok) (hh:A.handled=none) (hu:A.units+100 < cLine) (ih: ∀m,EvOk c A (MI.ev c.Γ cf m)) {xs:List AN} {a:AE} {p:Pos} (hne:xs.isEmpty=false) (tn:xs.all (AN.ok c.t sc)=true) (tv:a.ok c.t sc=true) (eo:zY c sc env r.pv) (vo:zN c sc env r s.heap vars) (R:c.R r σ s.heap)
  (e:MI.ev c.Γ cf n a.er vars σ=some (v,σ')) {Q:Flow→Shared→Prop} (O:OutX c sc env r s σ' .next ((xs.map AN.er).foldl (fun vs x=>vs.set x v) vars) Q):wpAny c.M A (exec (.Assign (xs.map AN.un) a.un p) env) Q E' s:=by
 have normal:swapsWithSole (xs.map AN.un) a.un p.line env=pure false→swappedStores (xs.map AN.un) a.un env=pure none→wpAny c.M A (exec (.Assign (xs.map AN.un) a.un p) env) Q E' s:=fun hs hw=>by
  refine wpAny_Assign_stores ?_ hs hw
  refine ih n (.mk tv) eo vo R e fun u r₁ h₁ tk₁ R₁ S₁ x₁=> ?_
  exact Xm xs tn (eo.step S₁) (vo.step eo R S₁) R₁ x₁ fun r₂ h₂ tk₂ R₂ S₂ vo₂=>O .next r₂ h₂ tk₂ R₂ (S₁.x.trans S₂) vo₂ rfl
 cases xs with
 | nil=>exact tf hne
 | cons b rest=>
  obtain ⟨x,i,px⟩:=b
  cases rest with
  | cons b' rest'=>obtain ⟨_,_,_⟩:=b';exact normal rfl rfl
  | nil=>
   by_cases hc:XI a.un=false
   ·exact normal (show swapsWithSole [Expr.Name x px] a.un p.line env=pure false from WH hc (some (.Name x px)) p.line env) rfl
   ·refine (isComp_i ((Bool.not_eq_false _).mp hc)).elim fun elt h'=>h'.elim fun tg h'=>h'.elim fun it h'=>h'.elim fun ifs h'=>h'.elim fun sc' h'=>h'.elim fun own h'=>h'.elim fun q qa=> ?_
    subst qa
    have hb: ∃b,swapsWith (AE.comp elt tg it ifs sc' own q).un (some (.Name x px)) p.line env=pure b:=⟨_,rfl⟩
    refine k11 hb fun b hb=> ?_
    cases b with
    | false=>exact normal hb rfl
    | true=>
     refine k02 (zB tv) fun hk h=> ?_
     refine k02 (zB h) fun hc h=> ?_
     refine k02 (zB h) fun h1 h=> ?_
     refine k02 (zB h) fun h2 h=> ?_
     refine k02 (zB h) fun h3 h=> ?_
     refine k02 (zB h) fun h4 h5=> ?_
     cases n with
     | zero=>exact ns e
     | succ n=>
      refine k54 (XZ (elt:=elt.er) (t:=tg.er) (it:=it.er) (ifs:=erL ifs) (own:=own) e) fun itr σ₁ varsF acc σ₂ e1 ok e2 e3=> ?_
      exact zct hOk hh hu ih tn hb eo vo R (of_decide_eq_true hk) hc (.mk h1) (.mk h2) (.mk h3) (.mk h4) (of_decide_eq_true h5) e1 ok e2 e3 O
end
noncomputable def setAll (vars:Vars) (l:List (Nat×V)):Vars:=l.foldl (fun vs p=>vs.set p.1 p.2) vars
theorem Zi {i:Nat} (l:List (Nat×V)): ∀vars:Vars,(i ∉ l.map (fun ω=>ω.1)→Vars.get i (setAll vars l)=Vars.get i vars)∧((l.map (fun ω=>ω.1)).Nodup→ ∀v,(i,v)∈l→Vars.get i (setAll vars l)=some v):=by
 induction l with
 | nil=>exact fun vars=>⟨fun ω=>rfl,fun ω v h=>nomatch h⟩
 | cons p r ih=>
  intro vars
  cases p with
  | mk j w=>
   refine k02 (ih (vars.set j w)) fun h1 h2=> ?_
   refine ⟨fun h=> ?_,fun hn v hv=> ?_⟩
   ·refine k02 (not_or.mp (mt zh.mpr h)) fun n1 n2=> ?_
    exact (h1 n2).trans ((Vars.get_set ..).trans (if_neg n1))
   ·refine k02 (List.nodup_cons.mp hn) fun n1 n2=> ?_
    rcases zh.mp hv with q | q
    ·cases q
     exact (h1 n1).trans ((Vars.get_set ..).trans (if_pos rfl))
    ·exact h2 n2 v q
theorem zcb {i:Nat} (l:List (Nat×V)) (vars:Vars) (hn:(l.map (fun ω=>ω.1)).Nodup):Vars.get i (setAll vars l.reverse)=Vars.get i (setAll vars l):=by
 have hn':(l.reverse.map (fun ω=>ω.1)).Nodup:=by rw [List.map_reverse];exact List.pairwise_reverse.mpr (hn.imp fun h=>Ne.symm h)
 by_cases h:i∈l.map (fun ω=>ω.1)
 ·obtain ⟨⟨j,v⟩,hm,rfl⟩:=zy.mp h
  rw [(Zi l vars).2 hn v hm,(Zi l.reverse vars).2 hn' v (List.mem_reverse.mpr hm)]
 ·rw [(Zi l vars).1 h,(Zi l.reverse vars).1 (by rw [List.map_reverse];simpa using h)]
theorem zip_rev {α β:Type} {a:List α} {b:List β} (h:a.length=b.length):a.reverse.zip b.reverse=(a.zip b).reverse:=(List.reverse_zipWith h).symm
theorem idq_map (is:List Nat):(is.map T.name).filterMap T.id? =is:=by
 induction is with
 | nil=>rfl
 | cons i r ih=>exact congrArg (fun ω=>i::ω) ih
inductive IdsOf (t:Tx) (sc:Scope):List Str→List Nat→Prop
 | nil:IdsOf t sc [] []
 | cons {x i r r'} :ownB sc x=true→t.id x=some i→IdsOf t sc r r'→IdsOf t sc (x::r) (i::r')
theorem IdsOf.append {t:Tx} {sc:Scope} {a:List Str} {b:List Nat} {a':List Str} {b':List Nat} (x:IdsOf t sc a b) (y:IdsOf t sc a' b'):IdsOf t sc (a++a') (b++b'):=by
 induction x with
 | nil=>exact y
 | cons h1 h2 _ ih=>exact .cons h1 h2 ih
theorem IdsOf.reverse {t:Tx} {sc:Scope} {a:List Str} {b:List Nat} (x:IdsOf t sc a b):IdsOf t sc a.reverse b.reverse:=by
 induction x with
 | nil=>exact .nil
 | cons h1 h2 _ ih=>rw [yF,yF];exact ih.append (.cons h1 h2 .nil)
theorem IdsOf.length {t:Tx} {sc:Scope} {a:List Str} {b:List Nat} (x:IdsOf t sc a b):a.length=b.length:=by
 induction x with
 | nil=>rfl
 | cons h1 h2 _ ih=>exact congrArg Nat.succ ih
theorem ids_shape {t:Tx} {sc:Scope} {f:Expr→Option Str} (hf: ∀e x,f e=some x→ ∃p,e= .Name x p) (as:List AT) (h:okTs t sc as=true) (hn:((unTs as).filterMap f).length=(unTs as).length):
  ∃is,erTs as=is.map T.name∧IdsOf t sc ((unTs as).filterMap f) is:=by
 induction as with
 | nil=>exact ⟨[],rfl,.nil⟩
 | cons a as ih=>
  refine k02 (zB h) fun h1 h2=> ?_
  replace hn:((a.un::unTs as).filterMap f).length=(unTs as).length+1:=hn
  show∃is,a.er::erTs as=is.map T.name∧IdsOf t sc ((a.un::unTs as).filterMap f) is
  cases q:f a.un with
  | none=>rw [List.filterMap_cons_none q] at hn;exact absurd (hn▸List.length_filterMap_le f (unTs as)) (Nat.not_succ_le_self _)
  | some x=>
   rw [List.filterMap_cons_some q] at hn⊢
   refine k11 (hf a.un x q) fun p hp=> ?_
   refine k12 (ih h2 (ql hn)) fun is h3 h4=> ?_
   cases a with
   | tup _ _ _=>exact nomatch hp
   | name y i p'=>
    refine k02 (zB h1) fun ho hi=> ?_
    injection hp with e1 e2
    subst e1
    exact ⟨i::is,congrArg (fun ω=>T.name i::ω) h3,.cons ho (of_decide_eq_true hi) h4⟩
theorem zam {σ:H} {is:List Nat} {vs:List V} {vars vars':Vars} (e:jQ (is.map T.name) vs σ vars=some vars'):vars'=setAll vars (is.zip vs)∧is.length=vs.length:=by
 induction is generalizing vs vars with
 | nil=>cases vs with
  | nil=>exact ⟨(za e).symm,rfl⟩
  | cons=>exact ns e
 | cons i is ih=>cases vs with
  | nil=>exact ns e
  | cons v vs=>exact (ih (show jQ (is.map T.name) vs σ (vars.set i v)=some vars' from e)).imp id (congrArg Nat.succ)
section
variable {c:Cx} {A:Around} {E':Value→Shared→Prop} {s:Shared} {sc sc':Scope} {env:Env} {r r':Rh} {h h':Heap} {σ σ' σ₁:H} {v:V} {vars vars':Vars} {ev:Ev} {cf:Cf} {fl:Fl}
theorem zN.congr (vo:zN c sc env r h vars) (e: ∀i,Vars.get i vars'=Vars.get i vars):zN c sc env r h vars':=
 ⟨vo.ns,vo.cells,fun x i v e1 e2 e3=>vo.held x i v e1 e2 ((e i)▸e3)⟩
theorem JH {names:List Str} {is:List Nat} (H:IdsOf c.t sc names is): ∀ {r:Rh} {s:Shared} {vs:List V} {us:List Value} {vars:Vars} {Q:Unit→Shared→Prop},vs.length=is.length→zY c sc env r.pv→zN c sc env r s.heap vars→c.R r σ s.heap→VRs c.w.params r s.heap vs us→
  OutS c sc env r s σ (setAll vars (is.zip vs)) (Q ())→wpAny c.M A (assignInOrder (names.map fun n=>bindName env n) us) Q E' s:=by
 induction H with
 | nil=>
  intro r s vs us vars Q hl eo vo R xv O
  cases yG.mp hl
  cases xv.inv
  exact zi (O r s.heap s.toks R .refl vo)
 | @cons x i names is ho hi hr ih=>
  intro r s vs us vars Q hl eo vo R xv O
  cases vs with
  | nil=>exact absurd hl (yZ _).symm
  | cons v vs=>
   refine k23 xv.inv fun u us' q x1 xr=> ?_;subst q
   show wpAny _ _ (holding us' (bindName env x u)>>=fun ω=>assignInOrder (names.map fun n=>bindName env n) us') _ _ _
   refine zb (yT (wpAny_bindName (ZI ho hi eo vo R x1 fun r₁ h₁ tk₁ R₁ S₁ vo₁=> ?_)))
   exact ih (ql hl) (eo.stepX S₁) vo₁ R₁ (xr.mv (S₁.mv (FrX.pv eo))) fun r₂ h₂ tk₂ R₂ S₂ vo₂=>O r₂ h₂ tk₂ R₂ (S₁.trans S₂) vo₂
noncomputable def Qi (env:Env) (line:Nat):Expr→Option Str
 | .Name id pos=>if env.kindOf id==some .local&&pos.line==line then some id else none
 | _=>none
theorem nameOn_i {env:Env} {line:Nat} {e:Expr} {x:Str} (h:Qi env line e=some x): ∃p,e= .Name x p:=by
 cases e with
 | Name id pos=>exact (xj h).2▸⟨pos,rfl⟩
 | _=>exact ns h
noncomputable def SwOk (es:List Expr) (env:Env) (m:Sem (Option (List Str))):Prop:=m=pure none∨ ∃line,m=pure (some (es.filterMap (Qi env line)))∧(es.filterMap (Qi env line)).length=es.length
theorem SwOk.ite {es:List Expr} {env:Env} {m:Sem (Option (List Str))} {b:Prop} [Decidable b] (h: ¬b→SwOk es env m):SwOk es env (if b then pure none else m):=by
 by_cases q:b
 ·rw [if_pos q];exact .inl rfl
 ·rw [if_neg q];exact h q
theorem zaL (es:List Expr) (k:Nat) (q:Pos) (vs:List Expr) (k':Nat) (p':Pos) (env:Env) (hs:JG (.Tuple vs k' p')=true):SwOk es env (swappedStores [.Tuple es k q] (.Tuple vs k' p') env):=by
 have hs':(vs.all (constantsAlone 8))=true→(vs.all (foldedForSure 8))=true:=fun h=>by
  have hs:(!vs.all (constantsAlone 8) || vs.all (foldedForSure 8))=true:=hs
  rw [h] at hs;exact hs
 show SwOk es env (if _ then pure none else if _ then pure none else if _ then pure none else if _ then pure none else _)
 refine .ite fun ω=> .ite fun ω=> .ite fun hn=> .ite fun hf=> ?_
 have hf': ¬(vs.all (constantsAlone 8))=true:=fun h=>hf (hs' h)
 have hl:=(not_or.mp (mt (Bool.or_eq_true _ _).mpr hn)).1
 refine .inr ⟨((es.head?.map fun x:Expr=>x.pos.line).getD 0),?_,?_⟩
 ·exact if_neg hf'
 ·exact Decidable.not_not.mp (mt bne_iff_ne.mpr hl)
theorem QL (es:List Expr) (k:Nat) (q:Pos) (a:AE) (env:Env) (hs:JG a.un=true):SwOk es env (swappedStores [.Tuple es k q] a.un env):=by
 cases a <;>first | exact .inl rfl | exact zaL es k q _ _ _ env hs
theorem bindT_tup {ts:List T} {v:V} {σ:H} {vars vars':Vars} (e:wn (.tup ts) v σ vars=some vars'): ∃vs,v= .tup vs∧jQ ts vs σ vars=some vars':=by
 cases v with
 | tup vs=>exact ⟨vs,rfl,e⟩
 | _=>exact ns e
theorem JE {n:Nat} (hh:A.handled=none) (ih:EvOk c A (MI.ev c.Γ cf n)) {ts:List AT} {k:Nat} {q:Pos} {a:AE} {p:Pos} (hs:JG a.un=true) (hnd:((erTs ts).filterMap T.id?).Nodup) (ht:okTs c.t sc ts=true) (tv:a.ok c.t sc=true)
  (eo:zY c sc env r.pv) (vo:zN c sc env r s.heap vars) (R:c.R r σ s.heap) (e:MI.ev c.Γ cf n a.er vars σ=some (v,σ')) (eb:wn (.tup (erTs ts)) v σ' vars=some vars') {Q:Flow→Shared→Prop} (O:OutX c sc env r s σ' .next vars' Q):wpAny c.M A (exec (.Assign [.Tuple (unTs ts) k q] a.un p) env) Q E' s:=by
 have hsw:swapsWithSole [.Tuple (unTs ts) k q] a.un p.line env=pure false:=swaps_tup a (unTs ts) k q p.line env
 rcases QL (unTs ts) k q a env hs with hw | ⟨line,hw,hlen⟩
 ·refine wpAny_Assign_stores ?_ hsw hw
  refine ih (.mk tv) eo vo R e fun u r₁ h₁ tk₁ R₁ S₁ x₁=> ?_
  show wpAny _ _ (assign (.Tuple (unTs ts) k q) env u) _ _ _
  exact Zq (s:= {s with heap:=h₁,toks:=tk₁}) hh (.tup (erTs ts)) (TrT.mk (a:= .tup ts k q) ht) (eo.step S₁) (vo.step eo R S₁) R₁ x₁ eb fun r₂ h₂ tk₂ R₂ S₂ vo₂=>O .next r₂ h₂ tk₂ R₂ (S₁.x.trans S₂) vo₂ rfl
 ·rw [arm_exec_Assign]
  refine zb (wp ?_)
  rw [hsw]
  refine zb (zi ?_)
  rw [if_neg (by decide)]
  refine zb (ih (.mk tv) eo vo R e fun u r₁ h₁ tk₁ R₁ S₁ x₁=> ?_)
  rw [hw]
  refine zb (zi ?_)
  unfold assignStores
  dsimp only
  refine zb (zbT ?_)
  refine k12 (bindT_tup eb) fun vs q1 eb=> ?_;subst q1
  refine k12 (ids_shape (f:=Qi env line) (fun e x h=>nameOn_i h) ts ht hlen) fun is his hids=> ?_
  rw [his] at eb hnd
  refine k02 (zam eb) fun q2 hvl=> ?_;subst q2
  refine k35 (x₁.tup_inv) fun items m a q3 ha hm hx hz=> ?_;subst q3
  have hsz:((unTs ts).filterMap (Qi env line)).length=items.toArray.size:=by rw [hids.length,hvl,zz,hx.length]
  rw [hsz]
  refine zb (unpackItems_tuple (s:= {s with heap:=h₁,toks:=tk₁}) hh (Za ha) fun h₂ he=> ?_)
  have kp: ∀b o,h₁.get? b=some o→h₂.get? b=some o:=fun b o e=>he b o (yi (yr e)) e
  have S₂:=Step.grow (r:=r₁) kp
  have S12:=S₁.trans S₂
  have hids':=hids.reverse
  have hmap:=idq_map is
  rw [hmap] at hnd
  have hkeys:((is.zip vs).map (fun ω=>ω.1))=is:=by rw [List.map_fst_zip];lia
  refine zb (JH (s:= {s with heap:=h₂,toks:=tk₁}) hids' (vs:=vs.reverse) (by simp [hvl]) (eo.step S12) (vo.step eo R S12) (R₁.grow kp) (by simpa using (hx.step S₂).reverse) fun r₃ h₃ tk₃ R₃ S₃ vo₃=>zi (O .next r₃ h₃ tk₃ R₃ (S12.x.trans S₃) (vo₃.congr fun i=> ?_) rfl))
  have:is.reverse.zip vs.reverse=(is.zip vs).reverse:=zip_rev hvl
  rw [this,zcb _ _ (by rw [hkeys];exact hnd)]
end
theorem XD (its:List Value) (n j:Nat) (x:Value): ∃m,Obj.mapSeq (fun ω=>ω.setIfInBounds j x) (lstO its n)=lstO (its.set j x) m:=by
 simp [Obj.mapSeq,lstO]
section
variable {prog:Program} {w:World} {A:Around} {E:Value→Shared→Prop} {s:Shared}
theorem QN {l:Addr} {items:List Value} {n:Nat} {k:Int} {t:Tok} {v:Value} {Q:Unit→Shared→Prop} (ho:s.heap.get? l=some (lstO items n))
  (h0:0≤k) (hfit:k < 2^63) (hn:k < items.length)
  (hQ':Q () {s with heap:=s.heap.update l (Obj.mapSeq (fun ω=>ω.setIfInBounds k.toNat v))}):
  wpAny (model prog w) A (setItem (.ref l) (.int k t) v) Q E s:=by
 have hT:s.TypeIs (.ref l) "list":=⟨_,ho,rfl⟩
 unfold setItem
 try with_reducible refine yT ?_
 first | refine zb (zi ?_) | skip
 refine zb (wpAny_sequenceKey hT (by decide) ?_)
 refine zb (wpAny_callSpecial?_slot (name:=Str.ofString "__setitem__") hT YU
  (qk YU hT entry_list_setitem ?_ (args_list_setitem _ _ _)))
 show wpAny _ _ (Builtin.List.listSubscript? (.int k t)>>=_) _ _ s
 refine zb (wpAny_listSubscript_int (fitsIndex_of h0 hfit) ?_)
 clear hfit
 refine k11 (ja h0) fun j q1=> ?_;subst q1
 have hj:j < items.toArray.size:=by simp;lia
 have hx':items.toArray[j]? =some items.toArray[j]:=Array.getElem?_eq_getElem hj
 show wpAny _ _ ((seqItemAt l j>>=fun r=>pure (r.map (fun ω=>(j,ω))))>>=_) _ _ s
 refine zb (zb (wpAny_seqItemAt ho rfl (zi ?_)))
 rw [hx']
 show wpAny _ _ (setSeqItemAt l j v>>=_) _ _ s
 refine zb (wpAny_setSeqItemAt ho rfl ?_)
 first
  | exact zb (zi (zi ⟨.none,rfl,zi hQ'⟩))
  | exact zi ⟨.none,rfl,zi hQ'⟩
theorem zaS {l sl src:Addr} {xs ys:List Value} {n m:Nat} {Q:Unit→Shared→Prop} (hl:s.heap.get? l=some (lstO xs n)) (hs:s.heap.IsSliceOf sl .none .none .none) (hy:s.heap.get? src=some (lstO ys m))
  (hx:xs.length≤4000000) (hz:ys.length≤4000000) (hQ: ∀f:Array Value→Array Value,f xs.toArray=ys.toArray→Q () {s with heap:=s.heap.update l (Obj.mapSeq f)}):wpAny (model prog w) A (setItem (.ref l) (.ref sl) (.ref src)) Q E s:=by
 have hT:s.TypeIs (.ref l) "list":=⟨_,hl,rfl⟩
 refine k13 hs fun os hos hcs hds=> ?_
 have hTs:s.TypeIs (.ref sl) "slice":=⟨os,hos,hcs⟩
 have big:=yL
 unfold setItem
 try with_reducible refine yT ?_
 first | refine zb (zi ?_) | skip
 refine zb (wpAny_sequenceKey hT (by decide) ?_)
 refine zb (wpAny_callSpecial?_slot (name:=Str.ofString "__setitem__") hT YU
  (qk YU hT entry_list_setitem ?_ (args_list_setitem _ _ _)))
 show wpAny _ _ (Builtin.List.listSubscript? (.ref sl)>>=_) _ _ s
 refine zb ?_
 unfold Builtin.List.listSubscript?
 refine zb (wpAny_specialOf hTs slice_no_index ?_)
 simp only [Option.isNone_none,if_true]
 refine zi ?_
 show wpAny _ _ (typeOf (.ref sl)>>=_) _ _ s
 refine zb (wpAny_typeOf hTs ?_)
 rw [if_neg (by decide),listSliceParts_eq]
 refine zb (zb (wpAny_field hos hds (x:= .none) rfl (zb (wpAny_listPart .none ?_))))
 rw [if_neg (show¬((rawPart .none==rawInt 0)=true) from zQ)]
 refine zb (wpAny_field hos hds (x:= .none) rfl (zb (wpAny_listPart .none ?_)))
 refine zb (wpAny_field hos hds (x:= .none) rfl (zb (wpAny_listPart .none (zi ?_))))
 have items: ∀ {a:Addr} {zs:List Value} {k:Nat} {Q:Array Value→Shared→Prop},s.heap.get? a=some (lstO zs k)→Q zs.toArray s→wpAny (model prog w) A.in1 (Builtin.List.listItems (.ref a)) Q E s:=fun ho h=>by
  unfold Builtin.List.listItems
  exact zb (wpAny_seqItems ho rfl (zi h))
 have fin: ∀ {f:Array Value→Array Value} {g:List Value} {R:Fin→Shared→Prop} {R':Value→Shared→Prop},f xs.toArray=ys.toArray→(Q () {s with heap:=s.heap.update l (Obj.mapSeq f)} →R (.done (.ret .none)) {s with heap:=s.heap.update l (Obj.mapSeq f)})→
   wpAny (model prog w) A.in1 (Builtin.List.listUpdate (.ref l) f>>=fun ω=>letGo g>>=fun ω=>ret .none) R R' s:=fun {f g R R'} hf h=>by
  refine zb (m:=updateSeq l f) (wpAny_updateSeq hl rfl ?_ (by rw [zz];lia) (by rw [hf,zz];lia))
  exact zb (wpAny_letGo (zi (h (hQ f hf))))
 have hsum: ¬Builtin.List.listTooLong (xs.toArray.size+ys.toArray.size)=true:=by
  unfold Builtin.List.listTooLong
  rw [decide_eq_true_eq,zz,zz,sizeLine_eq];lia
 have hf:(fun zs:Array Value=>zs.extract 0 (0:Int).toNat++ys.toArray++zs.extract (max 0 (xs.toArray.size:Int)).toNat) xs.toArray=ys.toArray:=by
  simp
 cases Builtin.List.listSameRef (.ref l) (.ref src)
 ·rw [if_neg zQ]
  refine zb (m:=Builtin.List.listAllItems _ _) (zb (wpAny_typeOf (T:="list") ⟨_,hy,rfl⟩ ?_))
  rw [if_pos (by rfl)]
  refine items hy ?_
  refine zb (items hl ?_)
  refine zb (YT (sliceIndices_raw .none .none .none _ (by intro h;cases h)) ?_)
  rw [if_pos (by rfl)]
  refine zb (zbT ?_)
  rw [if_neg hsum]
  exact fin hf fun h=>⟨_,rfl,zi h⟩
 ·rw [if_pos rfl]
  refine zb (items hy ?_)
  refine zb (items hl ?_)
  refine zb (YT (sliceIndices_raw .none .none .none _ (by intro h;cases h)) ?_)
  rw [if_pos (by rfl)]
  refine zb (zbT ?_)
  rw [if_neg hsum]
  exact fin hf fun h=>⟨_,rfl,zi h⟩
theorem JK {K:Frag} {x C f:Addr} {ox:Obj} {od:Option Obj} {i v:Value} {Q:Unit→Shared→Prop} (X:K.In s.heap) (I:InstAt s.heap x ox C od) (hq:noSeq K C=true) (hs:findIn K (.ref C) "__setitem__"=some (some (.ref f))) (hf:typeIn K (.ref f)=some (.type "function"))
  (h:wpAny (model prog w) A (call (.ref f) [.ref x,i,v]) (fun ω s'=>Q () s') E s):wpAny (model prog w) A (setItem (.ref x) i v) Q E s:=by
 unfold setItem sequenceKey
 refine yT (zb (zb (I.type.here ?_)))
 refine zb ((anyM_none X hq).here ?_)
 rw [if_pos (show (!false)=true from rfl)]
 exact zi (zb (special_fn X I hs hf (yD h (fun ω ω z=>zi z) fun ω ω z=>z)))
theorem zag {K:Frag} {x C f:Addr} {ox:Obj} {od:Option Obj} {i:Value} {Q:Unit→Shared→Prop} (X:K.In s.heap) (I:InstAt s.heap x ox C od) (hq:noSeq K C=true) (hs:findIn K (.ref C) "__delitem__"=some (some (.ref f))) (hf:typeIn K (.ref f)=some (.type "function"))
  (h:wpAny (model prog w) A (call (.ref f) [.ref x,i]) (fun ω s'=>Q () s') E s):wpAny (model prog w) A (delItem (.ref x) i) Q E s:=by
 unfold delItem sequenceKey
 refine yT (zb (zb (I.type.here ?_)))
 refine zb ((anyM_none X hq).here ?_)
 rw [if_pos (show (!false)=true from rfl)]
 exact zi (zb (special_fn X I hs hf (yD h (fun ω ω z=>zi z) fun ω ω z=>z)))
end
section
variable {c:Cx} {A:Around} {E':Value→Shared→Prop} {s:Shared} {sc sc':Scope} {env:Env} {r r':Rh} {h h':Heap} {σ σ' σ₁:H} {v:V} {vars vars':Vars} {ev:Ev} {cf:Cf} {fl:Fl} {n:Nat}
theorem Jx {Γ:G} {C f:Addr} {x:Nat} (e:xJ Γ C x=some f): ∃k,Γ.clss.lookup C=some k∧k.meths.lookup x=some f:=by
 unfold xJ at e
 cases hk:Γ.clss.lookup C with
 | none=>rw [hk] at e;exact ns e
 | some k=>rw [hk] at e;exact ⟨k,rfl,e⟩
theorem Jl {σ:H} {j:Nat} {C:Addr} (e:wm σ j=some C): ∃fs,σ[j]? =some (.inst C fs):=by
 unfold wm at e
 cases h:σ[j]? with
 | none=>rw [h] at e;exact ns e
 | some o=>
  rw [h] at e
  cases o with
  | list xs=>exact ns e
  | inst C' fs=>exact ⟨fs,by cases za e;rfl⟩
theorem OutX.next {Q:Flow→Shared→Prop} (O:OutX c sc env r s σ' .next vars' Q) {r':Rh} {h':Heap} {tk:Nat} (R:c.R r' σ' h') (S:yB (FrX sc env) r s.heap r' h') (vo:zN c sc env r' h' vars'):Q .next {s with heap:=h',toks:=tk} :=O .next r' h' tk R S vo rfl
theorem seq2g (ih:EvOk c A ev) {a b:Expr} {a' b':E} (ta:Tr c.t sc a a') (tb:Tr c.t sc b b') (eo:zY c sc env r.pv) (vo:zN c sc env r s.heap vars) (R:c.R r σ s.heap) {x y:V} {σ₁ σ₂:H}
  (e1:ev a' vars σ=some (x,σ₁)) (e2:ev b' vars σ₁=some (y,σ₂)) {P:Value→Value→Shared→Prop} (f: ∀ua ub r' h' tk,c.R r' σ₂ h'→Step r s.heap r' h'→c.V r' h' x ua→c.V r' h' y ub→P ua ub {s with heap:=h',toks:=tk}):
  wpAny c.M A (eval a env) (fun ua s₁=>wpAny c.M A (eval b env) (fun ub s₂=>P ua ub s₂) E' s₁) E' s:=by
 refine ih ta eo vo R e1 fun ua r₁ h₁ tk₁ R₁ S₁ xa=> ?_
 refine ih tb (eo.step S₁) (vo.step eo R S₁) R₁ e2 fun ub r₂ h₂ tk₂ R₂ S₂ xb=> ?_
 exact f ua ub r₂ h₂ tk₂ R₂ (S₁.trans S₂) (xa.step S₂) xb
theorem YZ {i:Nat} {vs:List V} {v w:V} {σ σ':H} (e:setL σ i vs v=some (w,σ')):vs.length≤1000000∧w=v∧σ'=σ.set i (.list vs):=by
 refine k02 (xj e) fun h e=> ?_
 cases e
 exact ⟨jv h,rfl,rfl⟩
theorem Xh {h':Heap} (R:c.R r σ s.heap) {i:Nat} {a:Addr} (hp:r.ob[i]? =some (a,a)) {items:List Value} {n:Nat} {vs:List V} (g:h'.get? a=some (lstO items n)) (sb:Heap.SameBut a s.heap h') (x:VRs c.w.params r s.heap vs items) (hz:items.length≤4000000):
  c.R r (σ.set i (.list vs)) h'∧Step r s.heap r h':=
 R.upd (h':=h') (o:= .list vs) hp (fun b ob eb n1 ω=>(sb.2 b n1).trans eb) (fun b ob eb=>by
  by_cases z:b=a
  ·subst z;exact ⟨_,g⟩
  ·exact ⟨ob,(sb.2 b z).trans eb⟩) fun M=> .list _ _ n a g (x.mv M) hz
theorem JL (hOk:c.Ok) {n:Nat} (ih:EvOk c A (MI.ev c.Γ cf n)) {o val:AE} {x:Str} {q p:Pos} {i:Nat} (hc:XI val.un=false) (to:o.ok c.t sc=true) (hi:c.t.id x=some i) (tv:val.ok c.t sc=true) (eo:zY c sc env r.pv) (vo:zN c sc env r s.heap vars) (R:c.R r σ s.heap)
  {σ₂:H} {C:Addr} {fs:List (Nat×V)} {j:Nat} (e1:MI.ev c.Γ cf n val.er vars σ=some (v,σ₁)) (e2:MI.ev c.Γ cf n o.er vars σ₁=some (.ref j,σ₂)) (hj:σ₂[j]? =some (.inst C fs)) (hf:ZV c.Γ C i=true) (hl:fs.length≤100) {Q:Flow→Shared→Prop}
  (O:OutX c sc env r s (σ₂.set j (.inst C (put i v fs))) .next vars Q):wpAny c.M A (exec (.Assign [.Attribute o.un x q] val.un p) env) Q E' s:=by
 refine plainObj_wpAny_Assign_Attribute (seq2g ih (.mk tv) (.mk to) eo vo R e1 e2 fun uv uo r' h' tk R' S' xv xo=> ?_) (WH hc _ p.line env)
 refine QO (s:= {s with heap:=h',toks:=tk}) hOk.cls R' hj xo xv (Tx.id_get hi) (fun i' hi'=>hOk.uniq i' i x hi' (Tx.id_get hi)) hf hl fun h'' tk' R'' S''=> ?_
 exact O.next R'' (S'.trans S'').x ((vo.step eo R S').step (eo.step S') R' S'')
theorem zaR {n:Nat} (ih:EvOk c A (MI.ev c.Γ cf n)) {o i val:AE} {q p:Pos} (to:o.ok c.t sc=true) (ti:i.ok c.t sc=true) (tv:val.ok c.t sc=true) (eo:zY c sc env r.pv) (vo:zN c sc env r s.heap vars) (R:c.R r σ s.heap)
  {σ₂ σ₃ σ₄:H} {xs:List V} {j qn:Nat} {k:Int} {w:V} (e1:MI.ev c.Γ cf n val.er vars σ=some (v,σ₁)) (e2:MI.ev c.Γ cf n o.er vars σ₁=some (.ref j,σ₂)) (e3:MI.ev c.Γ cf n i.er vars σ₂=some (.int k,σ₃)) (hj:σ₃[j]? =some (.list xs)) (h0: ¬k < 0) (hk:idx xs.length k=some qn) (hs:setL σ₃ j (xs.set qn v) .none=some (w,σ₄)) {Q:Flow→Shared→Prop}
  (O:OutX c sc env r s σ₄ .next vars Q):wpAny c.M A (exec (.Assign [.Subscript o.un i.un q] val.un p) env) Q E' s:=by
 refine Wg (seq2g ih (.mk tv) (.mk to) eo vo R e1 e2 fun uv uo r' h' tk R' S' xv xo=> ?_) (Xv val o.un i.un q p.line env)
 refine ih (.mk ti) (eo.step S') (vo.step eo R S') R' e3 fun ui r₃ h₃ tk₃ R₃ S₃ xi=> ?_
 refine k11 (xi.int_inv) fun t q1=> ?_;subst q1
 have S13:=S'.trans S₃
 refine k35 (R₃.listAt hj (xo.step S₃)) fun a items m q2 hp hg hxs hz=> ?_;subst q2
 refine k02 (Wn hk) fun hf hq=> ?_
 have hb:=qh hf
 rcases Xa hq with ⟨h1,h2,rfl⟩ | ⟨h1,_⟩
 ·refine k11 (XD items m k.toNat uv) fun m' em=> ?_
  refine QN (s:= {s with heap:=h₃,toks:=tk₃}) hg h1 hb.2 (by rw [hxs.length];exact h2) ?_
  refine k03 (YZ hs) fun ω q3 q4=> ?_;subst q3;subst q4
  have hg':(h₃.update a (Obj.mapSeq (fun ω=>ω.setIfInBounds k.toNat uv))).get? a=some (lstO (items.set k.toNat uv) m'):=by rw [xY _ hg (by rw [em];rfl),em]
  refine k02 (Xh (s:= {s with heap:=h₃,toks:=tk₃}) R₃ hp hg' (ZH ..) (hxs.set (xv.step S₃)) (by simpa using hz)) fun R₄ S₄=> ?_
  exact O.next R₄ (S13.trans S₄).x ((vo.step eo R S13).step (eo.step S13) R₃ S₄)
 ·exact (h0 h1).elim
theorem zcx {f:Array Value→Array Value} {xs ys:List Value} {n:Nat} (h:f xs.toArray=ys.toArray): ∃m,Obj.mapSeq f (lstO xs n)=lstO ys m:=by
 simp [Obj.mapSeq,lstO,h]
theorem zaT {n:Nat} (ih:EvOk c A (MI.ev c.Γ cf n)) {o val:AE} {qs q p:Pos} (to:o.ok c.t sc=true) (tv:val.ok c.t sc=true) (eo:zY c sc env r.pv) (vo:zN c sc env r s.heap vars) (R:c.R r σ s.heap)
  {σ₂ σ₄:H} {xs ys:List V} {i j:Nat} {w:V} (e1:MI.ev c.Γ cf n val.er vars σ=some (.ref j,σ₁)) (e2:MI.ev c.Γ cf n o.er vars σ₁=some (.ref i,σ₂)) (hi:σ₂[i]? =some (.list xs)) (hj:σ₂[j]? =some (.list ys)) (hs:setL σ₂ i ys .none=some (w,σ₄)) {Q:Flow→Shared→Prop}
  (O:OutX c sc env r s σ₄ .next vars Q):wpAny c.M A (exec (.Assign [.Subscript o.un (.Slice none none none qs) q] val.un p) env) Q E' s:=by
 refine Wg (seq2g ih (.mk tv) (.mk to) eo vo R e1 e2 fun uv uo r' h' tk R' S' xv xo=> ?_) (Xv val o.un (.Slice none none none qs) q p.line env)
 refine wpAny_Slice (zi (zi (zi ?_)))
 have k: ∀b ob,h'.get? b=some ob→(h'.push {cls:= .type "slice",data:= .fields #[.none,.none,.none]}).get? b=some ob:=fun b ob e=>zn _ e
 have S2:=Step.grow (r:=r') k
 have R2:=R'.grow k
 have S12:=S'.trans S2
 refine k35 (R2.listAt hi (xo.step S2)) fun a items m q2 hp hg hxs hz=> ?_;subst q2
 refine k35 (R2.listAt hj (xv.step S2)) fun a2 items2 m2 q2 hp2 hg2 hxs2 hz2=> ?_;subst q2
 refine zaS (s:= {s with heap:=h'.push {cls:= .type "slice",data:= .fields #[.none,.none,.none]},toks:=tk}) hg (Heap.IsSliceOf.new ..) hg2 hz hz2 fun f hf=> ?_
 refine k03 (YZ hs) fun ω q3 q4=> ?_;subst q3;subst q4
 refine k11 (zcx (n:=m) hf) fun m' em=> ?_
 refine k02 (Xh (s:= {s with heap:=h'.push {cls:= .type "slice",data:= .fields #[.none,.none,.none]},toks:=tk}) R2 hp (h':=(h'.push {cls:= .type "slice",data:= .fields #[.none,.none,.none]}).update a (Obj.mapSeq f)) (n:=m') (by rw [xY _ hg (by rw [em];rfl),em]) (ZH ..) hxs2 hz2) fun R₄ S₄=> ?_
 exact O.next R₄ (S12.trans S₄).x ((vo.step eo R S12).step (eo.step S12) R2 S₄)
theorem JY (hOk:c.Ok) {nc:Nat} (hA:qP A nc) (HF:CfOk c nc cf) {n:Nat} (ih:EvOk c A (MI.ev c.Γ cf n)) {o i val:AE} {q p:Pos} (to:o.ok c.t sc=true) (ti:i.ok c.t sc=true) (tv:val.ok c.t sc=true) (eo:zY c sc env r.pv) (vo:zN c sc env r s.heap vars) (R:c.R r σ s.heap)
  {σ₂ σ₃ σ₄:H} {j:Nat} {iv w:V} {C f:Addr} {fs:List (Nat×V)} (e1:MI.ev c.Γ cf n val.er vars σ=some (v,σ₁)) (e2:MI.ev c.Γ cf n o.er vars σ₁=some (.ref j,σ₂)) (e3:MI.ev c.Γ cf n i.er vars σ₂=some (iv,σ₃)) (hj:σ₃[j]? =some (.inst C fs)) (hm:xJ c.Γ C c.Γ.setId=some f) (e4:cf f [.ref j,iv,v] [] σ₃=some (w,σ₄)) {Q:Flow→Shared→Prop}
  (O:OutX c sc env r s σ₄ .next vars Q):wpAny c.M A (exec (.Assign [.Subscript o.un i.un q] val.un p) env) Q E' s:=by
 refine Wg (seq2g ih (.mk tv) (.mk to) eo vo R e1 e2 fun uv uo r' h' tk R' S' xv xo=> ?_) (Xv val o.un i.un q p.line env)
 refine ih (.mk ti) (eo.step S') (vo.step eo R S') R' e3 fun ui r₃ h₃ tk₃ R₃ S₃ xi=> ?_
 have S13:=S'.trans S₃
 refine k12 (Jx hm) fun k hk hf=> ?_
 have F:=hOk.cls _ _ hk
 refine k14 (F.me _ _ hf) fun y hy g1 g2 g3=> ?_
 cases hOk.setN.symm.trans hy
 obtain ⟨a,d,es',n',rfl,hp,hne,h1,h2,_⟩:=R₃.instAt hj (xo.step S₃)
 refine JK (s:= {s with heap:=h₃,toks:=tk₃}) (c.X.keeps R₃.base) (qV h1 h2) F.nq g1 g2 ?_
 refine We (HF.run (s:= {s with heap:=h₃,toks:=tk₃}) hA.n (as:= [.ref j,iv,v]) e4 R₃ (.cons (xo.step S₃) (.cons xi (.cons (xv.step S₃) .nil))) .nil fun u r₄ h₄ tk₄ R₄ S₄ ω=> ?_)
 exact O.next R₄ (S13.trans S₄).x ((vo.step eo R S13).step (eo.step S13) R₃ S₄)
theorem zaa (hOk:c.Ok) {nc:Nat} (hA:qP A nc) (HF:CfOk c nc cf) {n:Nat} (ih:EvOk c A (MI.ev c.Γ cf n)) {o i:AE} {q p:Pos} (to:o.ok c.t sc=true) (ti:i.ok c.t sc=true) (eo:zY c sc env r.pv) (vo:zN c sc env r s.heap vars) (R:c.R r σ s.heap)
  {σ₃ σ₄:H} {j:Nat} {iv w:V} {C f:Addr} {fs:List (Nat×V)} (e2:MI.ev c.Γ cf n o.er vars σ=some (.ref j,σ₁)) (e3:MI.ev c.Γ cf n i.er vars σ₁=some (iv,σ₃)) (hj:σ₃[j]? =some (.inst C fs)) (hm:xJ c.Γ C c.Γ.delId=some f) (e4:cf f [.ref j,iv] [] σ₃=some (w,σ₄)) {Q:Flow→Shared→Prop}
  (O:OutX c sc env r s σ₄ .next vars Q):wpAny c.M A (exec (.Delete [.Subscript o.un i.un q] p) env) Q E' s:=by
 refine wpAny_Delete (wpAny_deleteEach_cons ?_)
 rw [arm_delete_Subscript]
 refine zb (ih (.mk to) eo vo R e2 fun uo r' h' tk R' S' xo=>zb (yT (ih (.mk ti) (eo.step S') (vo.step eo R S') R' e3 fun ui r₃ h₃ tk₃ R₃ S₃ xi=> ?_)))
 have S13:=S'.trans S₃
 refine k12 (Jx hm) fun k hk hf=> ?_
 have F:=hOk.cls _ _ hk
 refine k14 (F.me _ _ hf) fun y hy g1 g2 g3=> ?_
 cases hOk.delN.symm.trans hy
 obtain ⟨a,d,es',n',rfl,hp,hne,h1,h2,_⟩:=R₃.instAt hj (xo.step S₃)
 refine zb (wp (zb (yT ?_)))
 refine zag (s:= {s with heap:=h₃,toks:=tk₃}) (c.X.keeps R₃.base) (qV h1 h2) F.nq g1 g2 ?_
 refine We (HF.run (s:= {s with heap:=h₃,toks:=tk₃}) hA.n (as:= [.ref j,iv]) e4 R₃ (.cons (xo.step S₃) (.cons xi .nil)) .nil fun u r₄ h₄ tk₄ R₄ S₄ ω=> ?_)
 exact wpAny_release' (wpAny_deleteEach_nil (O.next R₄ (S13.trans S₄).x ((vo.step eo R S13).step (eo.step S13) R₃ S₄)))
end
noncomputable def QJ (c:Cx) (A:Around) (f:List S→Vars→H→Option (Fl×Vars×H)):Prop:=
 ∀ {sc:Scope} {ss:List Stmt} {us:List S} {env:Env} {r:Rh} {σ σ':H} {s:Shared} {vars vars':Vars} {fl:Fl},TrSs c.t sc ss us→zY c sc env r.pv→zN c sc env r s.heap vars→c.R r σ s.heap→f us vars σ=some (fl,vars',σ')→
  ∀ {Q:Flow→Shared→Prop} {E':Value→Shared→Prop},OutX c sc env r s σ' fl vars' Q→wpAny c.M A (execs ss env) Q E' s
section
variable {c:Cx} {A:Around} {E':Value→Shared→Prop} {s:Shared} {sc sc':Scope} {env:Env} {r r':Rh} {h h':Heap} {σ σ' σ₁:H} {v:V} {vars vars':Vars} {ev:Ev} {cf:Cf} {fl:Fl} {n:Nat}
theorem fl_i {β:Type} {f:Fl→Vars→H→Option β} {o:Option (Fl×Vars×H)} {y:β} (e:(match o with
  | some (fl,vars,σ')=>f fl vars σ'
  | .none=> .none)=some y): ∃fl vars σ',o=some (fl,vars,σ')∧f fl vars σ'=some y:=by
 cases o with
 | none=>exact ns e
 | some x=>exact ⟨x.1,x.2.1,x.2.2,rfl,e⟩
noncomputable def WhileP (c:Cx) (sc:Scope) (env:Env) (r:Rh) (s:Shared) (q:Vars→H→Option (Bool×H)) (b:Vars→H→Option (Fl×Vars×H)) (res:Fl×Vars×H) (n:Nat) (s':Shared):Prop:= ∃r₁ vars₁ σ₁ h₁ tk₁,s'= {s with heap:=h₁,toks:=tk₁} ∧c.R r₁ σ₁ h₁∧yB (FrX sc env) r s.heap r₁ h₁∧zN c sc env r₁ h₁ vars₁∧jY q b n vars₁ σ₁=some res
theorem zaD (hOk:c.Ok) (hu:A.units+100 < cLine) (ih: ∀m,EvOk c A (MI.ev c.Γ cf m)) {fe:Nat} {body':List S} {run:List S→Vars→H→Option (Fl×Vars×H)} (ihb:QJ c A run) {test:Expr} {body:List Stmt} {p:Pos} {test':E} (tq:Tr c.t sc test test') (tb:TrSs c.t sc body body')
  (eo:zY c sc env r.pv) (vo:zN c sc env r s.heap vars) (R:c.R r σ s.heap) {fuel:Nat} (e:jY (fun vars σ=>evB (MI.ev c.Γ cf fe) test' vars σ) (fun vars σ=>run body' vars σ) fuel vars σ=some (fl,vars',σ')) {Q:Flow→Shared→Prop} (O:OutX c sc env r s σ' fl vars' Q):
  wpAny c.M A (exec (.While test body [] p) env) Q E' s:=by
 refine wpAny_While ?_
 refine codeAny_whileLoop (WhileP c sc env r s (fun vars σ=>evB (MI.ev c.Γ cf fe) test' vars σ) (fun vars σ=>run body' vars σ) (fl,vars',σ')) ?_ fuel ⟨r,vars,σ,s.heap,s.toks,rfl,R,.refl,vo,e⟩
 rintro n s' ⟨r₁,vars₁,σ₁,h₁,tk₁,rfl,R₁,S₁,vo₁,e⟩
 cases n with
 | zero=>cases e
 | succ n=>
  have eo₁:=eo.stepX S₁
  refine k22 (bb_i (o:=evB (MI.ev c.Γ cf fe) test' vars₁ σ₁) (f:=fun x σ'=>match x with
   | false=>some (.next,vars₁,σ')
   | true=>match run body' vars₁ σ' with
    | some (fl,vars',σ'')=>match fl with
     | .next=>jY (fun vars σ=>evB (MI.ev c.Γ cf fe) test' vars σ) (fun vars σ=>run body' vars σ) n vars' σ''
     | .brk=>some (.next,vars',σ'')
     | .ret v=>some (.ret v,vars',σ'')
    | .none=> .none) e) fun x σ₂ e1 e=> ?_
  refine Yq (s:= {s with heap:=h₁,toks:=tk₁}) hOk.tab hu (fun k ω=> @ih k) (@ih fe) _ tq eo₁ vo₁ R₁ e1 fun r₂ h₂ tk₂ R₂ S₂=> ?_
  cases x with
  | false=>
   refine (if_neg zQ).mpr (wpAny_execs_nil ?_)
   exact (O.cast e) .next r₂ h₂ tk₂ R₂ (S₁.trans S₂.x) (vo₁.step eo₁ R₁ S₂) rfl
  | true=>
   refine k32 (fl_i (o:=run body' vars₁ σ₂) (f:=fun fl vars' σ''=>match fl with
     | .next=>jY (fun vars σ=>evB (MI.ev c.Γ cf fe) test' vars σ) (fun vars σ=>run body' vars σ) n vars' σ''
     | .brk=>some (.next,vars',σ'')
     | .ret v=>some (.ret v,vars',σ'')) e) fun fl₁ vars₃ σ₃ e2 e=> ?_
   refine (if_pos rfl).mpr ?_
   have S12:=S₁.trans S₂.x
   have eo₂:=eo₁.step S₂
   refine ihb (s:= {s with heap:=h₂,toks:=tk₂}) tb eo₂ (vo₁.step eo₁ R₁ S₂) R₂ e2 fun f r₃ h₃ tk₃ R₃ S₃ vo₃ hf=> ?_
   cases fl₁ with
   | next=>
    cases hf
    exact ⟨n,yc n,r₃,vars₃,σ₃,h₃,tk₃,rfl,R₃,S12.trans S₃,vo₃,e⟩
   | brk=>
    cases hf
    exact (O.cast e) .next r₃ h₃ tk₃ R₃ (S12.trans S₃) vo₃ rfl
   | ret w=>
    refine k12 hf fun u q hu=> ?_
    rw [q]
    exact (O.cast e) (.ret u) r₃ h₃ tk₃ R₃ (S12.trans S₃) vo₃ ⟨u,rfl,hu⟩
structure ForI (c:Cx) (A:Around) (sc:Scope) (env:Env) (L:List Addr) (I:Addr) (t:T) (r₀:Rh) (h₀:Heap) (r:Rh) (itr:Itr) (vars:Vars) (σ:H) (h:Heap):Prop where
 R:c.R r σ h
 S:yB (fun b=>b∈L∨FrX sc env b) r₀ h₀ r h
 vo:zN c sc env r h vars
 it:ItR c A r h itr I L
 ok:okT t itr=true
theorem ForI.exit {L:List Addr} {I:Addr} {t:T} {r₁:Rh} {h₁ h₀:Heap} {itr:Itr} (eo:zY c sc env r₁.pv) (R₁:c.R r₁ σ₁ h₁) (k₁: ∀b o,h₁.get? b=some o→h₀.get? b=some o) (nL: ∀b∈L,h₁.get? b= .none) (J:ForI c A sc env L I t {r₁ with pv:=r₁.pv++L} h₀ r itr vars σ h) (k: ∀b o,b ∉ L→h.get? b=some o→h'.get? b=some o):
  c.R {r with pv:=r₁.pv} σ h'∧yB (FrX sc env) r₁ h₁ {r with pv:=r₁.pv} h'∧zN c sc env {r with pv:=r₁.pv} h' vars∧Mv r h {r with pv:=r₁.pv} h':=by
 have pL: ∀b∈r₁.pv,b ∉ L:=fun b hb q=>by
  refine k11 (R₁.pvl b hb) fun o e=> ?_
  rw [nL b q] at e;exact ns e
 refine k02 (Rel.leave J.R J.S.pv pL fun b o e nb=>k b o nb e) fun R' M=> ?_
 have no: ∀a,h₀.get? a=none→h₁.get? a=none:=fun a ha=>by
  cases q:h₁.get? a with
  | none=>rfl
  | some o=>have:=k₁ a o q;rw [ha] at this;exact ns this
 refine ⟨R',⟨?_,rfl,fun b o e hb hx=> ?_,fun b o e=> ?_⟩,J.vo.keepE (fun b hb o e=>k b o (pL b (by
  rcases hb with rfl | ⟨x,hx⟩
  ·exact eo.lpv
  ·exact eo.cpv _ _ hx)) e) M,M⟩
 ·refine k12 (J.S.ext) fun τ hτ hf=> ?_
  exact ⟨τ,hτ,fun q hq=>⟨no _ (hf q hq).1,no _ (hf q hq).2⟩⟩
 ·have nb:b ∉ L:=fun q=>by rw [nL b q] at e;exact ns e
  exact k b o nb (J.S.keep b o (k₁ b o e) hb fun q=>q.elim nb hx)
 ·have nb:b ∉ L:=fun q=>by rw [nL b q] at e;exact ns e
  refine k11 (J.S.live b o (k₁ b o e)) fun o' e'=> ?_
  exact ⟨o',k b o' nb e'⟩
noncomputable def Xk (t:T) (run:Vars→H→Option (Fl×Vars×H)):V→Vars→H→Option (Fl×Vars×H):=fun v vars σ=>match wn t v σ vars with
 | some vars=>run vars σ
 | .none=> .none
noncomputable def ForP (c:Cx) (A:Around) (sc:Scope) (env:Env) (L:List Addr) (I:Addr) (t:T) (r₀:Rh) (h₀:Heap) (s:Shared) (body:V→Vars→H→Option (Fl×Vars×H)) (res:Fl×Vars×H) (n:Nat) (s':Shared):Prop:=
 ∃r₂ itr₂ vars₂ σ₂ h₃ tk₃,s'= {s with heap:=h₃,toks:=tk₃} ∧ForI c A sc env L I t r₀ h₀ r₂ itr₂ vars₂ σ₂ h₃∧jj (fun σ it=>it.next σ) body n itr₂ vars₂ σ₂=some res
noncomputable def ForTurn (Q:Flow→Shared→Prop) (P:Nat→Shared→Prop) (n:Nat) (f:Flow) (s₃:Shared):Prop:=match f with
 | .next | .cont=> ∃m,m < n∧P m s₃
 | .brk=>Q .next s₃
 | .ret v=>Q (.ret v) s₃
theorem loopF_i {next:H→Itr→Option (Option (V×Itr))} {body:V→Vars→H→Option (Fl×Vars×H)} {n:Nat} {it:Itr} {vars:Vars} {σ:H} {res:Fl×Vars×H} (e:jj next body (n+1) it vars σ=some res):
  (next σ it=some .none∧some (.next,vars,σ)=some res)∨ ∃v it' fl vars' σ',next σ it=some (some (v,it'))∧body v vars σ=some (fl,vars',σ')∧(match fl with
    | .next=>jj next body n it' vars' σ'
    | .brk=>some (.next,vars',σ')
    | .ret v=>some (.ret v,vars',σ'))=some res:=by
 rw [Qk] at e
 cases hn:next σ it with
 | none=>rw [hn] at e;exact ns e
 | some o=>
  rw [hn] at e
  cases o with
  | none=>exact .inl ⟨rfl,e⟩
  | some q=>
   obtain ⟨v,it'⟩:=q
   dsimp only at e
   cases hb:body v vars σ with
   | none=>rw [hb] at e;exact ns e
   | some q=>rw [hb] at e;exact .inr ⟨v,it',q.1,q.2.1,q.2.2,rfl,hb,e⟩
theorem for_sound (hOk:c.Ok) (hh:A.handled=none) (ih: ∀m,EvOk c A (MI.ev c.Γ cf m)) {fe:Nat} {body':List S} {run:List S→Vars→H→Option (Fl×Vars×H)} (ihb:QJ c A run) {tg iter:Expr} {body:List Stmt} {p:Pos} {t:T} {it':It} (tt:TrT c.t sc tg t) (tit:TrI c.t sc iter it') (tb:TrSs c.t sc body body')
  (eo:zY c sc env r.pv) (vo:zN c sc env r s.heap vars) (R:c.R r σ s.heap) {itr:Itr} (e1:evIt (MI.ev c.Γ cf fe) it' vars σ=some (itr,σ₁)) (ok:okT t itr=true) {fuel:Nat}
  (e:jj (fun σ it=>it.next σ) (Xk t fun vars σ=>run body' vars σ) fuel itr vars σ₁=some (fl,vars',σ')) {Q:Flow→Shared→Prop} (O:OutX c sc env r s σ' fl vars' Q):
  wpAny c.M A (exec (.For tg iter body [] p) env) Q E' s:=by
 refine wpAny_For ?_ (Jo tit)
 refine yD (Qx (Q:=fun I s₂=>codeAny c.M A (.forLoop tg (.ref I) body [] env) (fun r s'=>match r with | .ok f=>Q f s' | .error e=>cameBackBy c.M A env E' e s') s₂) hOk hh (@ih fe) tit eo vo R e1 ?_) (fun x s₁ h₁=>yD h₁ (fun o s₂ h₂=>by obtain ⟨I,rfl,h₂⟩:=h₂;exact h₂) fun ω ω x=>x) fun ω ω x=>x
 intro r₁ h₁ h₂ tk I L R₁ S₁ k₁ nL lL it₁
 refine k02 (R₁.enter k₁ nL lL) fun RA MA=> ?_
 have eo₁:zY c sc env r₁.pv:=eo.step S₁
 have vo₁:=vo.step eo R S₁
 have notEnvL: ∀b∈L,¬qt env b:=fun b hb q=>by
  have hp:b∈r₁.pv:=by
   rcases q with rfl | ⟨x,hx⟩
   ·exact eo₁.lpv
   ·exact eo₁.cpv _ _ hx
  refine k11 (R₁.pvl b hp) fun o e=> ?_
  rw [nL b hb] at e;exact ns e
 have eoA:zY c sc env (r₁.pv++L):=eo₁.wider fun b hb=>zC _ hb
 refine codeAny_forLoop_any (ForP c A sc env L I t {r₁ with pv:=r₁.pv++L} h₂ s (Xk t fun vars σ=>run body' vars σ) (fl,vars',σ')) ?_ fuel
  ⟨{r₁ with pv:=r₁.pv++L},itr,vars,σ₁,h₂,tk,rfl,⟨RA,.refl,vo₁.keepE (fun b ω o e=>k₁ b o e) MA,it₁,ok⟩,e⟩
 rintro n s' ⟨r₂,itr₂,vars₂,σ₂,h₃,tk₃,rfl,J,e⟩
 cases n with
 | zero=>exact ns e
 | succ n=>
  have hpv:r₂.pv=r₁.pv++L:=J.S.pv
  have hL: ∀b∈L,b∈r₂.pv:=fun b hb=>by rw [hpv];exact zr _ hb
  refine (loopF_i e).elim (fun q=> ?_) fun q=> ?_
  ·have e:=q.2
   refine za8 (s:= {s with heap:=h₃,toks:=tk₃}) hh J.R J.it q.1 fun h₄ tk₄ k=>wpAny_execs_nil ?_
   obtain ⟨R',S',vo',M⟩:=J.exit eo₁ R₁ k₁ nL k
   exact (O.cast e) .next _ h₄ tk₄ R' (S₁.x.trans S') vo' rfl
  ·refine k53 q fun v itr' fl₁ vars₆ σ₆ hn hb e=> ?_
   refine yD (Qf (s:= {s with heap:=h₃,toks:=tk₃}) J.R hL J.it hn tt J.ok (E':=_) (Q:=fun u s₂=>wpAny c.M A (assign tg env u) (fun ω s₂=>wpAny c.M A (execs body env) (ForTurn Q (ForP c A sc env L I t {r₁ with pv:=r₁.pv++L} h₂ s (Xk t fun vars σ=>run body' vars σ) (fl,vars',σ')) (n+1)) _ s₂) _ s₂) ?_) (fun o s₁ h₁=>by obtain ⟨u,rfl,h₁⟩:=h₁;exact h₁) fun ω ω x=>x
   intro u h₄ tk₄ R₄ S₄ x₄ it₄
   unfold Xk at hb
   refine k12 (Ww hb) fun vars₃ hbind hb=> ?_
   have vo₄:zN c sc env r₂ h₄ vars₂:=J.vo.keepE (fun b hb o e=>S₄.keep b o e (fun q=>J.R.pvo b (by
    rw [hpv]
    refine zC _ ?_
    rcases hb with rfl | ⟨x,hx⟩
    ·exact eo₁.lpv
    ·exact eo₁.cpv _ _ hx) q) fun q=>notEnvL b q hb) (S₄.mv hL)
   have eo₂:zY c sc env r₂.pv:=hpv▸eoA
   refine Zq (s:= {s with heap:=h₄,toks:=tk₄}) hh t tt eo₂ vo₄ R₄ x₄ hbind fun r₅ h₅ tk₅ R₅ S₅ vo₅=> ?_
   have it₅:=it₄.keep (S₅.mv (FrX.pv eo₂)) fun b hb o e=>S₅.keep b o e (R₄.pvo b (hL b hb)) fun q=>notEnvL b hb q.toEnv
   have S05:yB (fun b=>b∈L∨FrX sc env b) {r₁ with pv:=r₁.pv++L} h₂ r₅ h₅:=(J.S.trans (S₄.mono fun b hb=> .inl hb)).trans (S₅.mono fun b hb=> .inr hb)
   have eo₅:zY c sc env r₅.pv:=eo₂.stepX S₅
   refine ihb (s:= {s with heap:=h₅,toks:=tk₅}) tb eo₅ vo₅ R₅ hb fun f r₆ h₆ tk₆ R₆ S₆ vo₆ hf=> ?_
   have it₆:=it₅.keep (S₆.mv (FrX.pv eo₅)) fun b hb o e=>S₆.keep b o e (R₅.pvo b (S₅.pv▸hL b hb)) fun q=>notEnvL b hb q.toEnv
   have J₆:ForI c A sc env L I t {r₁ with pv:=r₁.pv++L} h₂ r₆ itr' _ _ h₆:=⟨R₆,S05.trans (S₆.mono fun b hb=> .inr hb),vo₆,it₆,Qb hn J.ok⟩
   cases fl₁ with
   | next=>cases hf;exact ⟨n,yc n,r₆,itr',_,_,h₆,tk₆,rfl,J₆,e⟩
   | brk=>
    cases hf
    refine k04 (J₆.exit eo₁ R₁ k₁ nL (h':=h₆) fun b o ω e=>e) fun R' S' vo' M=> ?_
    exact (O.cast e) .next _ h₆ tk₆ R' (S₁.x.trans S') vo' rfl
   | ret w=>
    refine k04 (J₆.exit eo₁ R₁ k₁ nL (h':=h₆) fun b o ω e=>e) fun R' S' vo' M=> ?_
    refine k12 hf fun u' q1 hu'=> ?_
    rw [q1]
    exact (O.cast e) (.ret u') _ h₆ tk₆ R' (S₁.x.trans S') vo' ⟨u',rfl,hu'.mv M⟩
end
noncomputable def ExOk (c:Cx) (A:Around) (f:S→Vars→H→Option (Fl×Vars×H)):Prop:=
 ∀ {sc:Scope} {st:Stmt} {u:S} {env:Env} {r:Rh} {σ σ':H} {s:Shared} {vars vars':Vars} {fl:Fl},TrS c.t sc st u→zY c sc env r.pv→zN c sc env r s.heap vars→c.R r σ s.heap→f u vars σ=some (fl,vars',σ')→
  ∀ {Q:Flow→Shared→Prop} {E':Value→Shared→Prop},OutX c sc env r s σ' fl vars' Q→wpAny c.M A (exec st env) Q E' s
section
variable {c:Cx} {A:Around} {cf:Cf} {fe n:Nat}
theorem exs_step (ih:ExOk c A (ex c.Γ cf fe n)) (ihs:QJ c A (exs c.Γ cf fe n)):QJ c A (exs c.Γ cf fe (n+1)):=by
 intro sc ss us env r σ σ' s vars vars' fl tr eo vo R e Q E' O
 refine k13 tr fun as q1 q2 h=> ?_;clear tr;subst q1;subst q2
 cases as with
 | nil=>exact wpAny_execs_nil ((O.cast e) .next r s.heap s.toks R .refl vo rfl)
 | cons a as=>
  refine k02 (zB h) fun h1 h2=> ?_
  refine k32 (fl_i ((Qu c.Γ cf fe n vars σ a.er (erSs as)).symm.trans e)) fun fl₁ vars₁ σ₁ e1 e=> ?_
  refine wpAny_execs_cons ?_
  refine ih ⟨a,rfl,rfl,h1⟩ eo vo R e1 fun f r₁ h₁ tk₁ R₁ S₁ vo₁ hf=> ?_
  cases fl₁ with
  | next=>cases hf;exact ihs (.mk h2) (eo.stepX S₁) vo₁ R₁ e (O.after S₁)
  | brk=>cases hf;exact (O.cast e) .brk r₁ h₁ tk₁ R₁ S₁ vo₁ rfl
  | ret v=>exact k12 hf fun u q hu=>q▸(O.cast e) (.ret u) r₁ h₁ tk₁ R₁ S₁ vo₁ ⟨u,rfl,hu⟩
theorem ex_setSub (Γ:G) (o i e:E) (vars:Vars) (σ:H):ex Γ cf fe (n+1) (.setSub o i e) vars σ=(match ev Γ cf fe e vars σ with
   | some (v,σ)=>match ev Γ cf fe o vars σ with
    | some (ov,σ)=>match ev Γ cf fe i vars σ with
     | some (iv,σ)=>JZ Γ cf ov iv v vars σ
     | .none=> .none
    | .none=> .none
   | .none=> .none):=rfl
theorem ex_setAll (Γ:G) (o e:E) (vars:Vars) (σ:H):ex Γ cf fe (n+1) (.setAll o e) vars σ=(match ev Γ cf fe e vars σ with
   | some (v,σ)=>match ev Γ cf fe o vars σ with
    | some (ov,σ)=>zch ov v vars σ
    | .none=> .none
   | .none=> .none):=rfl
theorem ex_del (Γ:G) (o i:E) (vars:Vars) (σ:H):ex Γ cf fe (n+1) (.del o i) vars σ=(match ev Γ cf fe o vars σ with
   | some (ov,σ)=>match ev Γ cf fe i vars σ with
    | some (iv,σ)=>zab Γ cf ov iv vars σ
    | .none=> .none
   | .none=> .none):=rfl
theorem zbo {w:V} {α:Type} {x y:α} (e:(if isNone w then some x else .none)=some y):w= .none∧x=y:=by
 cases w with
 | none=>exact ⟨rfl,za e⟩
 | _=>exact ns e
theorem ex_whil (Γ:G) (t:E) (b:List S) (vars:Vars) (σ:H):ex Γ cf fe (n+1) (.whil t b) vars σ=jY (fun vars σ=>evB (ev Γ cf fe) t vars σ) (fun vars σ=>exs Γ cf fe n b vars σ) xE vars σ:=rfl
theorem ex_forI (Γ:G) (t:T) (iter:It) (b:List S) (vars:Vars) (σ:H):ex Γ cf fe (n+1) (.for_ t iter b) vars σ=(match evIt (ev Γ cf fe) iter vars σ with
   | some (itr,σ)=>if okT t itr then jj (fun σ it=>it.next σ) (Xk t fun vars σ=>exs Γ cf fe n b vars σ) xE itr vars σ else .none
   | .none=> .none):=rfl
theorem lst_at {ov:V} {σ₁ σ₂:H} {xs:List V} {x:Option (V×H)} (h:yn σ₂ ov=some xs) (e:x=some (ov,σ₁)): ∃j,x=some (.ref j,σ₁)∧σ₂[j]? =some (.list xs):=
 k12 (qr h) fun j q hj=>⟨j,q▸e,hj⟩
theorem ex_step (hOk:c.Ok) {nc:Nat} (hA:qP A nc) (HF:CfOk c nc cf) (hh:A.handled=none) (hu:A.units+100 < cLine) (ih: ∀m,EvOk c A (MI.ev c.Γ cf m)) (ihs:QJ c A (exs c.Γ cf fe n)):ExOk c A (ex c.Γ cf fe (n+1)):=by
 intro sc st u env r σ σ' s vars vars' fl tr eo vo R e Q E' O
 refine k13 tr fun a q3 q4 h=> ?_;clear tr;subst q3;subst q4
 cases a with
 | setAttr o x i q v p=>
  refine k02 (zB h) fun h1 h=> ?_
  refine k02 (zB h) fun h2 h=> ?_
  refine k02 (zB h) fun h3 h4=> ?_
  refine k22 (vh_i ((Qv c.Γ cf fe n vars σ o.er i v.er).symm.trans e)) fun w σ₁ e1 e=> ?_
  refine k22 (zb1 e) fun j σ₂ e2 e=> ?_
  refine k22 (inst_i e) fun C fs hj e=> ?_
  refine k02 (xj e) fun hf e=> ?_
  refine k02 (zB hf) fun f1 f2=> ?_
  exact JL hOk (@ih fe) (jh h1) h2 (of_decide_eq_true h3) h4 eo vo R e1 e2 hj f1 (zg f2) (O.cast (congrArg some e.symm))
 | setSub o i q v p=>
  refine k02 (zB h) fun h1 h=> ?_
  refine k02 (zB h) fun h2 h=> ?_
  refine k02 (zB h) fun h3 h4=> ?_
  refine k22 (vh_i ((ex_setSub c.Γ o.er i.er v.er vars σ).symm.trans e)) fun w σ₁ e1 ea=> ?_
  refine k22 (vh_i ea) fun ov σ₂ e2 eb=> ?_
  refine k22 (vh_i eb) fun iv σ₃ e3 ec=> ?_
  refine k12 (ze.mp ec) fun j hj ed=> ?_
  replace e2:=WQ hj e2
  cases hC:wm σ₃ j with
  | some C=>
   rw [hC] at ed
   refine k12 (ze.mp ed) fun f hf ee=> ?_
   refine k12 (ze.mp ee) fun p' hp ef=> ?_
   refine k02 (zbo ef) fun ω eg=> ?_
   refine k11 (Jl hC) fun fs hi=> ?_
   exact JY hOk hA HF (@ih fe) h2 h3 h4 eo vo R e1 e2 e3 hi hf hp (O.cast (congrArg some eg))
  | none=>
   rw [hC] at ed
   cases iv with
   | int k=>
    refine k02 (if_i ed) fun h0 ee=> ?_
    refine k12 (ze.mp ee) fun xs hx ef=> ?_
    refine k12 (ze.mp ef) fun qn hk eg=> ?_
    refine k12 (zc.mp eg) fun p' hs eh=> ?_
    have hj2:=Yj hx
    exact zaR (@ih fe) h2 h3 h4 eo vo R e1 e2 e3 hj2 (zbZ.mpr (of_decide_eq_true h0)) hk hs (O.cast (congrArg some eh))
   | _=>exact ns ed
 | setAll o qs q v p=>
  refine k02 (zB h) fun h1 h2=> ?_
  refine k22 (vh_i ((ex_setAll c.Γ o.er v.er vars σ).symm.trans e)) fun w σ₁ e1 ea=> ?_
  refine k22 (vh_i ea) fun ov σ₂ e2 eb=> ?_
  refine k12 (ze.mp eb) fun i hi ec=> ?_
  refine k12 (ze.mp ec) fun xs hx ed=> ?_
  refine k12 (ze.mp ed) fun ys hy ee=> ?_
  refine k12 (zc.mp ee) fun p' hs ef=> ?_
  have hxi:=Yj hx
  refine k12 (lst_at hy e1) fun j' e1 hyj=> ?_
  exact zaT (@ih fe) h1 h2 eo vo R e1 (WQ hi e2) hxi hyj hs (O.cast (congrArg some ef))
 | del o i q p=>
  refine k02 (zB h) fun h1 h=> ?_
  refine k02 (zB h) fun h2 h3=> ?_
  refine k22 (vh_i ((ex_del c.Γ o.er i.er vars σ).symm.trans e)) fun ov σ₁ e1 ea=> ?_
  refine k22 (vh_i ea) fun iv σ₃ e3 eb=> ?_
  refine k12 (ze.mp eb) fun j hj ec=> ?_
  refine k12 (ze.mp ec) fun C hC ed=> ?_
  refine k12 (ze.mp ed) fun f hf ee=> ?_
  refine k12 (ze.mp ee) fun p' hp ef=> ?_
  refine k02 (zbo ef) fun ω eg=> ?_
  refine k11 (Jl hC) fun fs hi=> ?_
  exact zaa hOk hA HF (@ih fe) h2 h3 eo vo R (WQ hj e1) e3 hi hf hp (O.cast (congrArg some eg))
 | unpack ts k q v p=>
  refine k02 (zB h) fun h1 h=> ?_
  refine k02 (zB h) fun h2 h=> ?_
  refine k02 (zB h) fun h3 h4=> ?_
  refine k22 (vh_i ((Js c.Γ cf fe n vars σ (erTs ts) v.er).symm.trans e)) fun w σ₁ e1 e=> ?_
  refine k12 (Ww e) fun vars₁ eb e=> ?_
  exact JE hh (@ih fe) h1 (of_decide_eq_true h2) h3 h4 eo vo R e1 eb (O.cast e)
 | names xs v p=>
  refine k02 (zB h) fun h1 h=> ?_
  refine k02 (zB h) fun h2 h3=> ?_
  refine k22 (vh_i ((zby c.Γ cf fe n vars σ (xs.map AN.er) v.er).symm.trans e)) fun w σ₁ e1 e=> ?_
  exact zba hOk hh hu ih (jh h1) h2 h3 eo vo R e1 (O.cast e)
 | expr v p=>
  refine k02 (zB h) fun h1 h2=> ?_
  refine k22 (vh_i ((ex_expr c.Γ cf fe n vars σ v.er).symm.trans e)) fun w σ₁ e1 e=> ?_
  refine wpAny_Expr_any (@ih fe _ _ _ _ _ _ _ _ _ _ (.mk h2) eo vo R e1 _ _ fun u r₁ h₁ tk₁ R₁ S₁ x₁=>(O.cast e).next R₁ S₁.x (vo.step eo R S₁)) ?_ (WH (jh h1) _ _ env)
  unfold interactive
  rw [eo.kind];rfl
 | ite q a b p=>
  refine k02 (zB h) fun h0 h=> ?_
  refine k02 (zB h) fun h1 h2=> ?_
  refine k22 (bb_i ((zcP c.Γ cf fe n vars σ q.er (erSs a) (erSs b)).symm.trans e)) fun x σ₁ e1 e=> ?_
  refine wpAny_If ?_
  refine Yq hOk.tab hu (fun k ω=> @ih k) (@ih fe) _ (.mk h0) eo vo R e1 fun r₁ h₁ tk₁ R₁ S₁=> ?_
  cases x with
  | true=>exact ihs (.mk h1) (eo.step S₁) (vo.step eo R S₁) R₁ e (O.after S₁.x)
  | false=>exact ihs (.mk h2) (eo.step S₁) (vo.step eo R S₁) R₁ e (O.after S₁.x)
 | whil q b p=>
  refine k02 (zB h) fun h0 h1=> ?_
  exact zaD hOk hu ih (run:=exs c.Γ cf fe n) ihs (.mk h0) (.mk h1) eo vo R ((ex_whil c.Γ q.er (erSs b) vars σ).symm.trans e) O
 | for_ tg it b p=>
  refine k02 (zB h) fun h0 h=> ?_
  refine k02 (zB h) fun h1 h2=> ?_
  refine k22 (itr_i ((ex_forI c.Γ tg.er it.er (erSs b) vars σ).symm.trans e)) fun itr σ₁ e1 e=> ?_
  refine k02 (if_i e) fun ok e=> ?_
  exact for_sound hOk hh ih (run:=exs c.Γ cf fe n) ihs (.mk h0) (.mk h1) (.mk h2) eo vo R e1 ok e O
 | ret v p=>
  cases v with
  | none=>exact wpAny_Return_none ((O.cast e) (.ret .none) r s.heap s.toks R .refl vo ⟨_,rfl,.none⟩)
  | some v=>
   refine k22 (vh_i ((ex_ret c.Γ cf fe n vars σ v.er).symm.trans e)) fun w σ₁ e1 e=> ?_
   exact wpAny_Return_some (@ih fe _ _ _ _ _ _ _ _ _ _ (.mk h) eo vo R e1 _ _ fun u r₁ h₁ tk₁ R₁ S₁ x₁=>(O.cast e) (.ret u) r₁ h₁ tk₁ R₁ S₁.x (vo.step eo R S₁) ⟨u,rfl,x₁⟩)
 | brk p=>exact wpAny_Break ((O.cast e) .brk r s.heap s.toks R .refl vo rfl)
 | pass p=>exact wpAny_Pass ((O.cast e) .next r s.heap s.toks R .refl vo rfl)
 | bad st=>exact ns e
theorem Jr (hOk:c.Ok) {nc:Nat} (hA:qP A nc) (HF:CfOk c nc cf) (hh:A.handled=none) (hu:A.units+100 < cLine) (ih: ∀m,EvOk c A (MI.ev c.Γ cf m)): ∀n,ExOk c A (ex c.Γ cf fe n)∧QJ c A (exs c.Γ cf fe n)
 | 0=>⟨fun ω ω ω ω e=>(by cases e),fun ω ω ω ω e=>(by cases e)⟩
 | n+1=>by
  refine k02 (Jr hOk hA HF hh hu ih n) fun h1 h2=> ?_
  exact ⟨ex_step hOk hA HF hh hu ih h2,exs_step h1 h2⟩
end
noncomputable def farE (e:E):Bool:=Nat.beq e.ctorIdx (E.ctorIdx (.dsub [] [] (.lit .none)))
section
variable {c:Cx} {A:Around} {n:Nat} {cf:Cf}
theorem farN_i {a:AE} (h:zac a.er=true):farE a.er=true∨ ∃elt tg it ifs sc' own p,a= .comp elt tg it ifs sc' own p:=by
 cases a with
 | dsub ks vs q i p=>exact .inl rfl
 | comp elt tg it ifs sc' own p=>exact .inr ⟨elt,tg,it,ifs,sc',own,p,rfl⟩
 | _=>exact nomatch h
theorem zbz (hOk:c.Ok) (hA:qP A n) (HF:CfOk c n cf) (HB:BiOk c A) (HM:MeOk c A cf) (far: ∀m,(∀k,k≤m→EvOk c A (ev c.Γ cf k))→zar c A (m+1) cf farE): ∀m,∀k,k≤m→EvOk c A (ev c.Γ cf k)
 | 0=>by
  intro k hk
  have:k=0:=Nat.le_zero.mp hk
  subst this
  intro sc e u env r σ σ' s vars v tr eo vo R eq
  exact ns eq
 | m+1=>by
  intro k hk
  have IH:=zbz hOk hA HF HB HM far m
  rcases Nat.le_or_eq_of_le_succ hk with hkm | hkm
  ·exact @IH k hkm
  ·subst hkm
   have hh:=hA.hd
   have hu:A.units+100 < cLine:=by have:=hA.un;lia
   have far':zar c A (m+1) cf zac:=by
    intro sc e u env r σ σ' s vars v hf tr eo vo R eq Q E' O
    refine k13 tr fun a q1 q2 h=> ?_;clear tr;subst q1;subst q2
    refine (farN_i hf).elim (fun hf=>far m IH hf (.mk h) eo vo R eq O) fun hq=> ?_
    refine hq.elim fun elt h'=>h'.elim fun tg h'=>h'.elim fun it h'=>h'.elim fun ifs h'=>h'.elim fun sc' h'=>h'.elim fun own h'=>h'.elim fun p qa=> ?_
    subst qa
    refine k02 (zB h) fun hk h=> ?_
    refine k02 (zB h) fun hc h=> ?_
    refine k02 (zB h) fun h1 h=> ?_
    refine k02 (zB h) fun h2 h=> ?_
    refine k02 (zB h) fun h3 h=> ?_
    refine k02 (zB h) fun h4 h5=> ?_
    refine k54 (XZ (elt:=elt.er) (t:=tg.er) (it:=it.er) (ifs:=erL ifs) (own:=own) eq) fun itr σ₁ varsF acc σ₂ e1 ok e2 e3=> ?_
    exact zcW (target:=tg.un) (iter:=it.un) (ifs:=unL ifs) (elt:=elt.un) hOk hh hu (fun k hk=> @IH k (wI hk)) (@IH m (zo _)) eo vo R (of_decide_eq_true hk) hc (.mk h1) (.mk h2) (.mk h3) (.mk h4) (of_decide_eq_true h5) e1 ok e2 e3 O
   exact @ev_step c A n cf hOk hA HF HB HM m IH far'
end
structure Zs (c:Cx) (f:Addr) (F:Fn):Prop where
 fd: ∃oc od sl name qual params body scope dV kV doc pm an cdv ct,c.K.lookup f=some ⟨oc,od,.func (fnOf name qual params body scope dV kV doc pm an cdv ct),sl⟩∧codeIn c.K cdv qual=true∧
  scope.isCoroutine=false∧scope.isGenerator=false∧scope.kind= .function∧(scope.names.all fun x=>scope.names.lookup x.1==some x.2)=true∧(scope.names.all fun x=>x.2 != .free)=true∧
  TrSs c.t scope body F.body∧
  (∀(as:List V) (ks:List (Nat×V)) (vars:Vars),Zp c.Γ F as ks=some vars→ ∀ {A:Around} {r:Rh} {σ:H} {s:Shared} {us:List Value} {kus:List (Str×Value)} {Q:List (Str×Value)→Shared→Prop} {E':Value→Shared→Prop},c.R r σ s.heap→VRs c.w.params r s.heap as us→KwR c r s.heap ks kus→
   (∀binds h' tk,(∀b o,s.heap.get? b=some o→h'.get? b=some o)→(∀x u,(x,u)∈binds→scope.names.lookup x=some .local∨scope.names.lookup x=some .cell)→(∀x i v,c.t.id x=some i→Vars.get i vars=some v→ ∃u,binds.reverse.lookup x=some u∧c.V r h' v u)→Q binds {s with heap:=h',toks:=tk})→
   wpAny c.M A (bindArgs (fnOf name qual params body scope dV kV doc pm an cdv ct) ⟨us,kus⟩) Q E' s)
noncomputable def Cx.FnOk (c:Cx):Prop:= ∀f F,c.Γ.fns.lookup f=some F→Zs c f F
theorem fn_keep {c:Cx} {f:Addr} {F:Fn} (H:Zs c f F):keepIn c.K (.ref f)=true:=by
 obtain ⟨oc,od,sl,name,qual,params,body,scope,dV,kV,doc,pm,an,cdv,ct,hl,_⟩:=H.fd
 have:keepIn c.K (.ref f)=(match c.K.lookup f with
   | some ⟨_,_,.func _,_⟩=>true
   | some ⟨_,_,.cls _,_⟩=>specialIn c.K (.ref f) "__call__"==some (some (.builtin "type.__call__"))
   | _=>false):=rfl
 rw [this,hl]
theorem Jy {K:Str→Option NameKind} {x:Str} : ∀(binds:List (Str×Value)) (m:Str→Option Value),K x=some .local→bindL K binds m x=(match binds.reverse.lookup x with | some u=>some u | none=>m x)
 | [],m,_=>rfl
 | (n,v)::r,m,hx=>by
  have ih:=fun m=>Jy (K:=K) (x:=x) r m hx
  show bindL K r (if K n=some .local then fun y=>if y=n then some v else m y else m) x=_
  rw [ih,yF,jk]
  cases q:r.reverse.lookup x with
  | some u=>rfl
  | none=>
   dsimp only
   rw [yl]
   by_cases hxn:x=n
   ·subst hxn
    simp [hx]
   ·have:(x==n)=false:=by simpa using hxn
    rw [this]
    by_cases hn:K n=some .local
    ·simp [hn,hxn]
    ·simp [hn]
theorem Jz {K:Str→Option NameKind} {x:Str} : ∀(binds:List (Str×Value)) (m:Str→Option Value),K x≠some .local→bindC K binds m x=(match binds.reverse.lookup x with | some u=>some u | none=>m x)
 | [],m,_=>rfl
 | (n,v)::r,m,hx=>by
  have ih:=fun m=>Jz (K:=K) (x:=x) r m hx
  show bindC K r (if K n=some .local then m else fun y=>if y=n then some v else m y) x=_
  rw [ih,yF,jk]
  cases q:r.reverse.lookup x with
  | some u=>rfl
  | none=>
   dsimp only
   rw [yl]
   by_cases hxn:x=n
   ·subst hxn
    simp [hx]
   ·have:(x==n)=false:=by simpa using hxn
    rw [this]
    by_cases hn:K n=some .local
    ·simp [hn]
    ·simp [hn,hxn]
structure Cx.HasRoom (c:Cx) (A:Around):Prop where
 hd:A.handled= .none
 un:A.units+400 < cLine
 dp:A.depth+5 < recursionLimit
section
variable {c:Cx} {A:Around} {n:Nat} {cf:Cf} {r:Rh} {σ σ':H} {s:Shared} {v:V}
theorem zc2 (hOk:c.Ok) (hA:YH A (n+1)) (hx: ∀env,QJ c (A.deeper env) (exs c.Γ cf fe fs)) {f:Addr} {F:Fn} (H:Zs c f F) {as:List V} {ks:List (Nat×V)} {us:List Value} {kus:List (Str×Value)} (R:c.R r σ s.heap) (x:VRs c.w.params r s.heap as us) (y:KwR c r s.heap ks kus)
  (e:qR c.Γ cf fe fs F as ks σ=some (v,σ')) {Rr:Result→Shared→Prop} (O:Out c r s σ' v (fun u s'=>Rr (.ok (.ret u)) s')):codeAny c.M A (.call (.ref f) ⟨us,kus⟩) Rr s:=by
 obtain ⟨oc,od,sl,name,qual,params,body,scope,dV,kV,doc,pm,an,cdv,ct,hl,hcd,hco,hgen,hk,hnames,hfree,tb,bind⟩:=H.fd
 have X:=c.X.keeps R.base
 unfold qR at e
 obtain ⟨vars,hb,e⟩:=Ww e
 ·refine codeAny_call_function (by have:=hA.dp;omega) (X _ _ hl) rfl hco hgen rfl (codeRec_of X hcd) ?_
  refine bind as ks vars hb R x y fun binds h₁ tk₁ k₁ hbk hbv=> ?_
  have R₁:=R.grow k₁
  have hnm: ∀ {x:Str} {k:NameKind},(x,k)∈scope.names→scope.names.lookup x=some k:=fun hm=>by simpa using zq.mp hnames _ hm
  have cellLk: ∀(L:Nat) (x:Str),scope.names.lookup x=some .cell→((cellsFrom (L+1) scope.names []).lookup x).isSome=true:=fun L x hx=>by
   obtain ⟨a,ha⟩:=cellsFrom_some scope.names (L+1) (mem_of_lookup hx)
   exact jJ ha
  refine wpAny_newFunctionEnv_cells (s:= {s with heap:=h₁,toks:=tk₁}) hk (fun z hz=> ?_) fun env he s₂ IC=> ?_
  ·rcases hbk z.1 z.2 hz with q | q
   ·exact .inl q
   ·exact .inr ⟨q,cellLk _ _ q⟩
  have hkind: ∀x,env.kindOf x=scope.names.lookup x:=fun x=>by rw [he];rfl
  have hloc:env.locals=h₁.objs.size:=by rw [he];rfl
  have hcells:env.cells=cellsFrom (h₁.objs.size+1) scope.names []:=by rw [he];rfl
  obtain ⟨h₂,tk₂,rfl,k₂⟩:=IC.done
  have nsL:=IC.toInCall.ns
  have L1:h₁.get? h₁.objs.size= .none:=yS h₁ (zo _)
  have cm:=fun {x:Str} {a:Addr} (h:env.cells.lookup x=some a)=>mem_of_lookup h
  let N:List Addr:=env.locals::env.cells.filterMap fun p=>env.cells.lookup p.1
  have memN: ∀b∈N,b=env.locals∨ ∃x,env.cells.lookup x=some b:=fun b hb=>by
   rcases zh.mp hb with q | q
   ·exact .inl q
   ·obtain ⟨⟨x,a⟩,hx,e⟩:=zbY.mp q
    exact .inr ⟨x,e⟩
  have inN: ∀ {x:Str} {a:Addr},env.cells.lookup x=some a→a∈N:=fun {x a} h=> .tail _ (zbY.mpr ⟨(x,a),cm h,h⟩)
  have geN: ∀b∈N,h₁.objs.size≤b:=fun b hb=>by
   rcases memN b hb with rfl | ⟨x,hx⟩
   ·rw [hloc];exact zo _
   ·have:=IC.above x b (cm hx)
    rw [hloc] at this;exact wI this
  have newN: ∀b∈N,h₁.get? b= .none:=fun b hb=>yS h₁ (geN b hb)
  have liveN: ∀b∈N,∃o,h₂.get? b=some o:=fun b hb=>by
   rcases memN b hb with rfl | ⟨x,hx⟩
   ·obtain ⟨o,es,ep,e,_⟩:=nsL;exact ⟨o,e⟩
   ·obtain ⟨o,e,_⟩:=IC.cell x b hx;exact ⟨o,e⟩
  obtain ⟨R₂,M₂⟩:=R₁.enter (L:=N) k₂ newN liveN
  have nofree: ∀x,scope.names.lookup x≠some .free:=fun x hx=>by
   have:=zq.mp hfree _ (mem_of_lookup hx)
   simp at this
  have eo:zY c scope env (r.pv++N):=
   {kind:=by rw [he];exact hk
    glob:=by rw [he];rfl
    bi:=by rw [he];rfl
    lpv:=zr _ (.head _)
    cpv:=fun x a h=>zr _ (inN h)
    loc:=fun x h=>by rw [hkind,h]
    cel:=fun x h=>⟨by rw [hkind,h],by rw [hcells];exact cellLk _ _ h⟩
    fre:=fun x h=>(nofree x h).elim
    glb:=fun x h=>by
     rw [hkind]
     exact XX h
    inj:=fun x y a h1 h2=>name_of_addr IC.apart (cm h1) (cm h2)
    apl:=fun x a h=>Ne.symm (yi (IC.above x a (cm h)))}
  have vo:zN c scope env {r with pv:=r.pv++N} h₂ vars:=by
   refine ⟨⟨_,nsL⟩,fun x a h=>⟨_,IC.cell x a h⟩,fun x i v e1 e2 e3=> ?_⟩
   obtain ⟨u,hu,hr⟩:=hbv x i v e1 e3
   refine ⟨u,?_,hr.mv M₂⟩
   rcases Qs e2 with q | q | q
   ·refine .inl ⟨by rw [hkind,q],_,nsL,?_⟩
    rw [Jy _ _ (by rw [hkind,q]),hu]
   ·obtain ⟨a,ha⟩:=zP.mp (cellLk h₁.objs.size x q)
    rw [←hcells] at ha
    refine .inr ⟨.inl (by rw [hkind,q]),a,ha,?_⟩
    have:=IC.cell x a ha
    rw [Jz _ _ (by rw [hkind,q];decide),hu] at this
    exact this
   ·exact (nofree x q).elim
  refine ⟨(Cx.T c).nolimit.keeps fun b o e=>k₂ b o (k₁ b o (R.base b o e)),codeAny_func ?_⟩
  have fin: ∀ {fl:Fl} {vars':Vars},exs c.Γ cf fe fs F.body vars σ=some (fl,vars',σ')→(∀(f:Flow) (r':Rh) (h':Heap),FlR c r' h' fl f→c.V r' h' v (match f with | .ret v=>v | _=> .none))→
    wpAny c.M (A.deeper env) (execs body env) (fun f s'=>Rr (.ok (.ret (match f with | .ret v=>v | _=> .none))) s') (fun e s'=>wpAny c.M (A.deeper env) (leaving env e) (fun ω s''=>Rr (.error e) s'') (fun e' s''=>Rr (.error e') s'') s') {s with heap:=h₂,toks:=tk₂} :=fun he hv=>by
   refine hx env (s:= {s with heap:=h₂,toks:=tk₂}) tb eo vo R₂ he fun f r₃ h₃ tk₃ R₃ S₃ vo₃ hf=> ?_
   have pN: ∀b∈r.pv,b ∉ N:=fun b hb q=>by
    obtain ⟨o,e⟩:=R₁.pvl b hb
    exact ns ((newN b q).symm.trans e)
   obtain ⟨R₄,M₄⟩:=Rel.leave R₃ S₃.pv pN (h':=h₃) fun b o e ω=>e
   have kk: ∀b o,s.heap.get? b=some o→h₂.get? b=some o:=fun b o e=>k₂ b o (k₁ b o e)
   have newS: ∀b∈N,s.heap.get? b= .none:=fun b hb=>by
    cases q:s.heap.get? b with
    | none=>rfl
    | some o=>exact ns ((newN b hb).symm.trans (k₁ b o q))
   have FN: ∀b,FrX scope env b→b∈N:=fun b hb=>by
    rcases hb with rfl | ⟨x,_,hx⟩
    ·exact .head _
    ·exact inN hx
   have S₄:Step r s.heap {r₃ with pv:=r.pv} h₃:=yB.exit (L:=N) kk newS S₃ FN
   exact O _ {r₃ with pv:=r.pv} h₃ tk₃ R₄ S₄ ((hv f r₃ h₃ hf).mv M₄)
  obtain ⟨fl,vars',σ₁,he',e⟩:=fl_i e
  cases fl with
  | ret w=>
   cases e
   refine fin he' fun f r' h' hf=> ?_
   obtain ⟨u,rfl,hu⟩:=hf
   exact hu
  | next=>
   cases e
   refine fin he' fun f r' h' hf=> ?_
   cases hf
   exact .none
  | brk=>cases e
end
section
variable {c:Cx} {A:Around} {E':Value→Shared→Prop} {s:Shared} {r:Rh} {σ σ':H} {v:V} {Q:Value→Shared→Prop} {u:Value}
theorem zbP (R:c.R r σ s.heap) {i:Nat} {xs:List V} (hi:σ[i]? =some (.list xs)) (x:c.V r s.heap (.ref i) u) (O:Out c r s σ (.int (xs.length:Int)) Q):wpAny c.M A (call (.builtin "len") [u]) Q E' s:=by
 refine k35 (R.listAt hi x) fun a items n q1 hp hg hxs hl=> ?_;subst q1
 refine call_len_list (yt hg) (by simp only [zz];lia) ?_
 simp only [zz,hxs.length]
 exact O.same R (.int _ _) _
theorem zc9 (R:c.R r σ s.heap) {x':Txt} (hz:szOk x'.length=true) (x:c.V r s.heap (.str x') u) (O:Out c r s σ (.int (x'.length:Int)) Q):wpAny c.M A (call (.builtin "len") [u]) Q E' s:=by
 refine k11 (x.str_inv) fun t q2=> ?_;subst q2
 have:=jv hz
 refine len_str (by rw [yY];lia) ?_
 rw [yY]
 exact O.same R (.int _ _) _
theorem zc8 (R:c.R r σ s.heap) {xs:List V} (x:c.V r s.heap (.tup xs) u) (O:Out c r s σ (.int (xs.length:Int)) Q):wpAny c.M A (call (.builtin "len") [u]) Q E' s:=by
 refine k35 (x.tup_inv) fun items n a q3 hg hm hxs hl=> ?_;subst q3
 refine call_function_entry kind_len plain_len entry_len (args_len1 _) ?_
 refine yD (len_entry_tuple (Q:=Q) (Za hg) (by simp only [zz];lia) ?_) (fun fin s' h=>h) fun ω ω x=>x
 simp only [zz,hxs.length]
 exact O.same R (.int _ _) _
theorem YP (R:c.R r σ s.heap) (o:Obj) (hf:o.isFreed=false):c.R r σ (s.heap.push o)∧Step r s.heap r (s.heap.push o)∧(s.heap.push o).get? s.heap.objs.size=some o∧ ¬r.mut s.heap.objs.size:=by
 have k: ∀b ob,s.heap.get? b=some ob→(s.heap.push o).get? b=some ob:=fun b ob e=>zn _ e
 refine ⟨R.grow k,Step.grow k,zD _ hf,fun hm=> ?_⟩
 refine k11 (R.mutLive hm) fun ob ho=> ?_
 rw [yS s.heap (zo _)] at ho;exact ns ho
theorem bi_range1 (R:c.R r σ s.heap) {b:Int} (x:c.V r s.heap (.int b) u) (O:Out c r s σ (.rng 0 b) Q):wpAny c.M A (call (.type "range") [u]) Q E' s:=by
 refine k11 (x.int_inv) fun t q4=> ?_;subst q4
 refine call_range_1 ?_
 refine k04 (YP R (rngO 0 b s.toks t (s.toks+1)) rfl) fun R' S' g m=> ?_
 exact O _ r _ _ R' S' (.rng 0 b _ _ _ _ g m)
theorem bi_range2 (R:c.R r σ s.heap) {a b:Int} {u':Value} (x:c.V r s.heap (.int a) u) (y:c.V r s.heap (.int b) u') (O:Out c r s σ (.rng a b) Q):wpAny c.M A (call (.type "range") [u,u']) Q E' s:=by
 refine k11 (x.int_inv) fun t q5=> ?_;subst q5
 refine k11 (y.int_inv) fun t' q6=> ?_;subst q6
 refine call_range_2 ?_
 refine k04 (YP R (rngO a b t t' s.toks) rfl) fun R' S' g m=> ?_
 exact O _ r _ _ R' S' (.rng a b _ _ _ _ g m)
theorem bi_tuple (R:c.R r σ s.heap) {i:Nat} {xs:List V} (hi:σ[i]? =some (.list xs)) (x:c.V r s.heap (.ref i) u) (O:Out c r s σ (.tup xs) Q):wpAny c.M A (call (.type "tuple") [u]) Q E' s:=by
 refine k35 (R.listAt hi x) fun a items n q7 hp hg hxs hl=> ?_;subst q7
 refine call_tuple_list (yt hg) (fun h' k=> ?_) (by simp only [zz];have:=yL;lia)
 have R₁:=R.grow k
 have S₁:=Step.grow (r:=r) k
 refine k04 (YP (s:= {s with heap:=h'}) R₁ (tupO items 0) rfl) fun R' S' g m=> ?_
 exact O _ r _ s.toks R' (S₁.trans S') (.tup xs items 0 _ g m ((hxs.step S₁).step S') hl)
theorem zbO (R:c.R r σ s.heap) {x':Txt} (x:c.V r s.heap (.str x') u) (O:Out c r s σ (.cst (.type "str")) Q):wpAny c.M A (call (.type "type") [u]) Q E' s:=by
 refine k11 (x.str_inv) fun t q8=> ?_;subst q8
 exact call_type_of (Tx:="str") (typeIs_str s _ _) (by decide) (O.here R (.cst _))
theorem zao (R:c.R r σ s.heap) {i:Nat} {xs:List V} (hi:σ[i]? =some (.list xs)) (x:c.V r s.heap (.ref i) u) (O:Out c r s σ (.cst (.type "list")) Q):wpAny c.M A (call (.type "type") [u]) Q E' s:=by
 refine k35 (R.listAt hi x) fun a items n q9 hp hg hxs hl=> ?_;subst q9
 exact call_type_of (Tx:="list") (yt hg).typeIs (by decide) (O.here R (.cst _))
theorem Out.adopt (O:Out c r s σ' v Q) {vs:List V} (e:mkL vs σ=some (v,σ')) {h':Heap} {tk:Nat} {a:Addr} {items:List Value} {n:Nat} {r₁:Rh} {h₁:Heap} (R₁:c.R r₁ σ h₁) (S₁:Step r s.heap r₁ h₁) (k: ∀b o,h₁.get? b=some o→h'.get? b=some o) (na:h₁.get? a= .none) (g:h'.get? a=some (lstO items n)) (x:VRs c.w.params r₁ h₁ vs items):Q (.ref a) {s with heap:=h',toks:=tk} :=by
 refine k03 (YN e) fun hl q10 q11=> ?_;subst q10;subst q11
 have mv:Mv r₁ h₁ {r₁ with ob:=r₁.ob++ [(a,a)]} h':=⟨fun i p ep=>by
   have hl:=zV ep
   rw [zH hl];exact ep,fun b o eb f=>⟨k b o eb,fun q=>by
   rcases q with ⟨p,hp,hb⟩ | q
   ·rcases zt.mp hp with hp | hp
    ·exact f (.inl ⟨p,hp,hb⟩)
    ·rw [zv.mp hp] at hb
     rcases hb with rfl | rfl <;>(rw [na] at eb;cases eb)
   ·exact f (.inr q)⟩⟩
 refine k02 (R₁.push (p:=(a,a)) (o:= .list vs) k na na (.list vs items n a g (x.mv mv) (by rw [x.length];lia))) fun R' S'=> ?_
 refine O _ _ h' tk R' (S₁.trans S') (.ref _ (a,a) ?_)
 show (r₁.ob++ [_])[σ.length]? =_
 rw [←R₁.len,zJ (zo _),xG];rfl
theorem VRs.ofPlaces {P:Params} {r:Rh} {h:Heap} {vs:List V} {us:List Value} (hl:us.length=vs.length) (H: ∀(j:Nat) (v:V) (u:Value),vs[j]? =some v→us[j]? =some u→VR P r h v u):VRs P r h vs us:=by
 induction vs generalizing us with
 | nil=>cases yG.mp hl;exact .nil
 | cons v vs ih=>cases us with
  | nil=>exact absurd hl (yZ _).symm
  | cons u us=>exact .cons (H 0 v u rfl rfl) (ih (ql hl) fun j v u e1 e2=>H (j+1) v u e1 e2)
theorem QS (hh:A.handled=none) (R:c.R r σ s.heap) {a b:Int} (hb:b - a < 1000) (fa:fit a=true) (fb:fit b=true) (x:c.V r s.heap (.rng a b) u) (e:mkL (xZ a b) σ=some (v,σ')) (O:Out c r s σ' v Q):wpAny c.M A (call (.type "list") [u]) Q E' s:=by
 refine k43 x.inv fun t u' v' y q hg hm=> ?_;subst q
 have f1:=jA.mp fa
 have f2:=jA.mp fb
 refine call_list_range (n:=(b - a).toNat) hh hg (small_one (by lia) (by lia) (by lia) (by lia)) (rangeSize_nat a b) (by lia) fun h' tk acc c' k g hi=> ?_
 have hsz:acc.toList.length=(b - a).toNat:=by simpa using hi.1
 refine O.adopt (items:=acc.toList) (n:=c') e R (Step.refl _ _) k (yS s.heap (zo _)) (by rw [g];simp [lstO]) (VRs.ofPlaces (by rw [hsz];unfold xZ;rw [wK]) fun j w uw e1 e2=> ?_)
 cases Zj e1
 refine k11 (hi.2 j uw (by simpa using e2)) fun t q12=> ?_;subst q12
 rw [Int.mul_one]
 exact .int _ _
end
theorem stO_ts (x:Str):stO (tsT x)=x:=by
 cases x;simp [stO,tsT]
theorem VRs.strs {P:Params} {r:Rh} {h:Heap} {xs:List V} {us:List Value} {l:List Txt} (x:VRs P r h xs us) (e:qB xs=some l):StrsAre us (l.map stO):=
 x.ind (M:=fun xs us=> ∀l:List Txt,qB xs=some l→StrsAre us (l.map stO)) (fun l e=>za e▸ .nil) (fun {v u vs us} a _ ih l e=>by
  cases v with
  | str w=>
   refine k12 (zc.mp (show (qB vs).map (fun ω=>w::ω)=some l from e)) fun l' e' q1=> ?_;subst q1
   refine k11 (a.str_inv) fun t q2=> ?_;subst q2
   exact .cons _ _ (ih l' e')
  | _=>exact ns e) l e
section
variable {c:Cx} {A:Around} {E':Value→Shared→Prop} {s:Shared} {r:Rh} {σ σ':H} {v:V} {Q:Value→Shared→Prop} {u u':Value}
set_option tactic.hygienic true in
theorem bi_int (R:c.R r σ s.heap) {x':Txt} {i:Int} (e:Xb x'=some i) (x:c.V r s.heap (.str x') u) (O:Out c r s σ (.int i) Q):wpAny c.M A (call (.type "int") [u]) Q E' s:=by
 refine k11 (x.str_inv) fun t q3=> ?_;subst q3
 unfold Xb at e
 split at e
 ·rename_i hl
  exact KIN.call_text e (by rw [yY];exact zg hl) (O.same R (.int _ _) _)
 ·exact ns e
theorem bi_str (R:c.R r σ s.heap) {i:Int} (hf:fit i=true) (x:c.V r s.heap (.int i) u) (O:Out c r s σ (.str (yR i)) Q):wpAny c.M A (call (.type "str") [u]) Q E' s:=by
 refine k11 (x.int_inv) fun t q4=> ?_;subst q4
 have hb:=jA.mp hf
 refine PySem.P.str_of_int ?_ ?_
 ·refine yx (m:=62) ?_ (by lia)
  by_cases h0:i.natAbs=0
  ·rw [h0];decide
  ·exact wR ((Nat.log2_lt h0).mpr (by lia))
 ·have:=O.same R (u:= .str (stO (yR i)) s.toks) (.str (yR i) _) (s.toks+1)
  unfold yR at this
  rw [stO_ts] at this
  exact this
theorem m_join (R:c.R r σ s.heap) {sep:Txt} {i:Nat} {xs:List V} {l:List Txt} {t:Tok} (hi:σ[i]? =some (.list xs)) (hs:qB xs=some l) (ok:jK sep l=true) (y:c.V r s.heap (.ref i) u) (O:Out c r s σ (.str (tsT (PySem.Txt.join (stT sep) (l.map stT)))) Q):
  wpAny c.M A (call (.builtin "str.join") [.str (stO sep) t,u]) Q E' s:=by
 refine k35 (R.listAt hi y) fun a items n q5 hp hg hxs hl=> ?_;subst q5
 have hle:=zg ok
 refine join_list (yt hg) (ys:=l.map stO) (by simpa using hxs.strs hs) ?_ fun t' k=> ?_
 ·rw [yy,zf]
  have:(l.map ((fun x=>x.length)∘stO)).sum+l.length*(stO sep).length≤1000000:=hle
  lia
 ·have:=O.same R (u:= .str (stO (tsT (PySem.Txt.join (stT sep) (l.map stT)))) t') (.str _ _) k
  rw [stO_ts] at this
  exact this
theorem JB {x:Txt} (h:Xn x=true): ∀ch∈(stO x).cps.toList,ch < 128:=fun ch hc=>by
 have:=zq.mp h ch (by simpa [stO] using hc)
 have h2:Nat.ble (ch+1) 128=true:=this
 exact zg h2
theorem lowC_eq (n:Nat):lowC n=lo1 n:=by
 unfold lowC lo1
 by_cases h:65≤n∧n≤90
 ·rw [if_pos h,if_pos (by rw [yC];exact ⟨zT h.1,zT h.2⟩)]
 ·rw [if_neg h,if_neg (fun q=>h (by rw [yC] at q;exact ⟨zg q.1,zg q.2⟩))]
theorem upC_eq (n:Nat):upC n=up1 n:=by
 unfold upC up1
 by_cases h:97≤n∧n≤122
 ·rw [if_pos h,if_pos (by rw [yC];exact ⟨zT h.1,zT h.2⟩)]
 ·rw [if_neg h,if_neg (fun q=>h (by rw [yC] at q;exact ⟨zg q.1,zg q.2⟩))]
theorem m_lower (R:c.R r σ s.heap) {x:Txt} {t:Tok} (ha:Xn x=true) (hz:szOk x.length=true) (O:Out c r s σ (.str (x.map lowC)) Q):wpAny c.M A (call (.builtin "str.lower") [.str (stO x) t]) Q E' s:=by
 have e:PySem.Txt.lower (stO x)=stO (x.map lowC):=by
  rw [lower_ascii (JB ha)]
  simp [stO,lowC_eq,ZF]
 have hl:=jv hz
 refine SC.lower ?_ ?_
 ·rw [e,yY,zf];unfold Builtin.Str.tooLong;rw [decide_eq_false];have:=yL;lia
 ·rw [e];exact O.same R (.str _ _) _
theorem m_upper (R:c.R r σ s.heap) {x:Txt} {t:Tok} (ha:Xn x=true) (hz:szOk x.length=true) (O:Out c r s σ (.str (x.map upC)) Q):wpAny c.M A (call (.builtin "str.upper") [.str (stO x) t]) Q E' s:=by
 have e:PySem.Txt.upper (stO x)=stO (x.map upC):=by
  rw [upper_ascii (JB ha)]
  simp [stO,upC_eq,ZF]
 have hl:=jv hz
 refine SC.upper ?_ ?_
 ·rw [e,yY,zf];unfold Builtin.Str.tooLong;rw [decide_eq_false];have:=yL;lia
 ·rw [e];exact O.same R (.str _ _) _
theorem m_find (R:c.R r σ s.heap) {x y:Txt} {t t':Tok} (O:Out c r s σ (.int (PySem.Txt.find (stT x) (stT y))) Q):wpAny c.M A (call (.builtin "str.find") [.str (stO x) t,.str (stO y) t']) Q E' s:=SC.find (O.same R (.int _ _) _)
theorem m_isdigit (R:c.R r σ s.heap) {x:Txt} {t:Tok} (O:Out c r s σ (.bool (PySem.Txt.isdigit (stT x))) Q):wpAny c.M A (call (.builtin "str.isdigit") [.str (stO x) t]) Q E' s:=SC.isdigit (O.here R (.bool _))
theorem m_index (R:c.R r σ s.heap) {x y:Txt} {t t':Tok} {n:Nat} {rest:List Nat} (ho:Builtin.Str.occurrences (stT x) (stT y) 0 x.length 1=n::rest) (O:Out c r s σ (.int (n:Int)) Q):wpAny c.M A (call (.builtin "str.index") [.str (stO x) t,.str (stO y) t']) Q E' s:=
 SC.index (i:=n) (rest:=rest) (by rw [yY];exact ho) (O.same R (.int _ _) _)
end
section
variable {c:Cx} {A:Around} {E':Value→Shared→Prop} {s:Shared} {r:Rh} {σ σ':H} {v w:V} {Q:Value→Shared→Prop} {u u':Value}
theorem m_append (R:c.R r σ s.heap) {i:Nat} {xs:List V} (hi:σ[i]? =some (.list xs)) (x:c.V r s.heap (.ref i) u) (y:c.V r s.heap v u') (e:setL σ i (xs++ [v]) .none=some (w,σ')) (O:Out c r s σ' w Q):wpAny c.M A (call (.builtin "list.append") [u,u']) Q E' s:=by
 refine k35 (R.listAt hi x) fun a items n q1 hp hg hxs hl=> ?_;subst q1
 refine k03 (YZ e) fun hz q2 q3=> ?_;subst q2;subst q3
 have hlen:items.length≤1000000:=by rw [hxs.length];simp at hz;lia
 refine wpAny_list_append_plain (items:=items.toArray) ⟨n,hg⟩ (fun h' hp' hs'=> ?_) (by simp only [zz];have:=yL;lia)
 refine k11 hp' fun m g=> ?_;clear hp'
 have g':h'.get? a=some (lstO (items++ [u']) m):=by rw [g];simp [lstO]
 refine k02 (Xh R hp g' hs' (hxs.append (.cons y .nil)) (by simp;lia)) fun R' S'=> ?_
 exact O .none r h' s.toks R' S' .none
theorem XE (its:List Value) (n j:Nat) (h:j < its.length): ∃m,Obj.mapSeq (fun ω=>ω.eraseIdxIfInBounds j) (lstO its n)=lstO (its.eraseIdx j) m:=by
 simp [Obj.mapSeq,lstO]
theorem Jt (l:List Value):l.eraseIdx (l.length - 1)=l.dropLast:=by
 exact List.eraseIdx_length_sub_one
theorem VRs.dropLast {P:Params} {r:Rh} {h:Heap} {vs:List V} {us:List Value} (x:VRs P r h vs us):VRs P r h vs.dropLast us.dropLast:=by
 rw [List.dropLast_eq_take,List.dropLast_eq_take,x.length];exact x.take _
theorem m_pop (R:c.R r σ s.heap) {i:Nat} {xs:List V} (hi:σ[i]? =some (.list xs)) (x:c.V r s.heap (.ref i) u) (hv:xs.getLast? =some v) (e:setL σ i xs.dropLast v=some (w,σ')) (O:Out c r s σ' w Q):wpAny c.M A (call (.builtin "list.pop") [u]) Q E' s:=by
 refine k35 (R.listAt hi x) fun a items n q4 hp hg hxs hl=> ?_;subst q4
 refine k03 (YZ e) fun hz q5 q6=> ?_;subst q5;subst q6
 have hne:0 < items.length:=by
  rw [hxs.length]
  cases xs with
  | nil=>exact ns hv
  | cons=>simp
 refine qk PySem.F.slot_list_pop ⟨_,hg,rfl⟩ PySem.F.entry_list_pop ?_ (PySem.F.args_list_pop_1 _)
 unfold Builtin.«list.pop»
 refine zb (m:=selfAndSome "list.pop" "pop" 0 1 _) (YT (show selfAndSome "list.pop" "pop" 0 1 ⟨[.ref a],[]⟩=pure (.ref a,[]) from rfl) ?_)
 dsimp only
 refine zb (zi ?_)
 rw [if_neg (by decide)]
 show wpAny _ _ (Builtin.List.listItems (.ref a)>>=_) _ _ _
 unfold Builtin.List.listItems
 refine zb (zb (wpAny_seqItems hg rfl (zi ?_)))
 rw [if_neg (by simp;exact fun q=>by rw [q] at hne;exact yI _ hne)]
 have hlast:items[items.length - 1]? =items.getLast? :=List.getLast?_eq_getElem?.symm
 refine k12 (hxs.get (i:=xs.length - 1) (by rw [←List.getLast?_eq_getElem?];exact hv)) fun u' hu' hr=> ?_
 have hsq:(seqIndex? (-1) items.toArray.size).bind (fun k=>items.toArray[k]?.map (fun ω=>(k,ω)))=some (items.length - 1,u'):=by
  rw [zz,seqIndex?_neg_one hne,zF,←hxs.length] at*
  simp [hu']
 rw [hsq]
 dsimp only
 show wpAny _ _ (updateSeq a (·.eraseIdxIfInBounds (items.length - 1))>>=_) _ _ _
 refine zb ?_
 refine k11 (XE items n (items.length - 1) (Nat.sub_lt hne Nat.one_pos)) fun m em=> ?_
 have g':(s.heap.update a (Obj.mapSeq (·.eraseIdxIfInBounds (items.length - 1)))).get? a=some (lstO items.dropLast m):=by
  rw [xY _ hg (by rw [em];rfl),em,Jt]
 refine k02 (Xh R hp g' (ZH ..) hxs.dropLast (List.length_dropLast▸zm (Nat.sub_le _ _) hl)) fun R' S'=> ?_
 refine wpAny_updateSeq (_hz':=by
  have h2:=yL
  have h1:(items.toArray.eraseIdxIfInBounds (items.length - 1)).toList=items.eraseIdx (items.length - 1):=by simp
  have h3:(items.toArray.eraseIdxIfInBounds (items.length - 1)).size=(items.eraseIdx (items.length - 1)).length:=(Array.length_toList).symm.trans (congrArg List.length h1)
  rw [h3,Jt,List.length_dropLast];exact zm (Nat.sub_le _ _) (zm hl (zdg h2))) hg rfl (zi ⟨u',rfl,?_⟩)
 exact O u' r _ s.toks R' S' (hr.step S')
theorem m_dget (HT:c.TabOk) (R:c.R r σ s.heap) {a:Addr} {k:Txt} {kvs:List (Txt×V)} {d:V} {t:Tok} (hk:c.Γ.dicts.lookup a=some kvs) (x:c.V r s.heap d u) (O:Out c r s σ ((qc k kvs).getD d) Q):wpAny c.M A (call (.builtin "dict.get") [.ref a,.str (stO k) t,u]) Q E' s:=by
 obtain ⟨hs,es,n,hK,T⟩:=HT _ _ hk
 have ho:s.heap.get? a=some (dctO es n):=R.base _ _ (c.X _ _ hK)
 have T':=T.base R
 have L:=T'.look k
 have hm:=T'.mapOf (prog:=c.prog) ho
 refine call_meetsIn PySem.F.slot_dict_get ⟨_,ho,rfl⟩ PySem.F.entry_dict_get (PySem.F.args_dict_get_3 _ _ _) (meets_dict_get_default (PySem.strKind c.prog c.w) a (strKind_is c.prog c.w (stO k) t) hs u) ⟨_,hm,?_⟩
 cases q:qc k kvs with
 | none=>
  rw [q] at L O
  rw [show findBy Value.isStrOf es.toArray (stO k)= .none from L]
  exact O.same R x _
 | some v=>
  rw [q] at L O
  obtain ⟨u',hu',hr⟩:=L
  rw [hu']
  exact O.same R hr _
end
theorem VRs.ints {P:Params} {r:Rh} {h:Heap} {xs:List V} {us:List Value} {l:List Int} (x:VRs P r h xs us) (e:qF xs=some l):us.length=l.length∧ ∀(j:Nat) (u:Value),us[j]? =some u→ ∃t,u= .int (l.getD j 0) t:=
 x.ind (M:=fun xs us=> ∀l:List Int,qF xs=some l→us.length=l.length∧ ∀(j:Nat) (u:Value),us[j]? =some u→ ∃t,u= .int (l.getD j 0) t) (fun l e=>za e▸⟨rfl,fun j u h=>ns h⟩) (fun {v u vs us} a _ ih l e=>by
  cases v with
  | int i=>
   refine k12 (zc.mp (show (qF vs).map (fun ω=>i::ω)=some l from e)) fun l' e' q1=> ?_;subst q1
   refine k11 (a.int_inv) fun t q2=> ?_;subst q2
   refine k02 (ih l' e') fun h1 h2=> ?_
   refine ⟨congrArg Nat.succ h1,fun j u hu=> ?_⟩
   cases j with
   | zero=>exact ⟨t,(za hu).symm⟩
   | succ j=>exact h2 j u hu
  | _=>exact ns e) l e
set_option tactic.hygienic true in
theorem zaN: ∀(l:List Int) (a b:Int),sumI a l=some b→(∀x∈l,fit x=true)∧b=a+l.sum∧ ∀j,j < l.length→fit (a+(l.take (j+1)).sum)=true
 | [],a,b,e=>by (refine si e fun q9=> ?_;subst q9;clear e);exact ⟨by simp,by simp,by simp⟩
 | x::r,a,b,e=>by
  unfold sumI at e
  split at e
  ·rename_i h
   rw [yC] at h
   refine k03 (zaN r (a+x) b e) fun h1 h2 h3=> ?_
   refine ⟨fun y hy=> ?_,by rw [h2];simp;lia,fun j hj=> ?_⟩
   ·rcases zh.mp hy with q | q
    ·rw [q];exact h.1
    ·exact h1 y q
   ·cases j with
    | zero=>simpa using h.2
    | succ j=>
     have:=h3 j (by simpa using hj)
     rw [List.take_succ_cons,List.sum_cons,←Int.add_assoc]
     exact this
  ·exact ns e
theorem ZL (l:List Int): ∀j,j≤l.length→preSum (fun i=>l.getD i 0) j=(l.take j).sum
 | 0,_=>rfl
 | j+1,h=>by
  show preSum (fun i=>l.getD i 0) j+l.getD j 0=_
  have hj:j < l.length:=by lia
  rw [ZL l j (by lia),wf,zj hj,List.sum_append,zk,zj hj]
  simp only [Option.getD_some,zbU,List.sum_cons,List.sum_nil,Int.add_zero]
section
variable {c:Cx} {A:Around} {E':Value→Shared→Prop} {s:Shared} {r:Rh} {σ σ':H} {v w:V} {Q:Value→Shared→Prop} {u u':Value}
theorem Qo {A':Around} (hh:A'.handled=none) (R:c.R r σ s.heap) {i:Nat} {xs:List V} (hi:σ[i]? =some (.list xs)) (x:c.V r s.heap (.ref i) u) {Q:Value→Shared→Prop}
  (h: ∀a items n,u= .ref a→s.heap.get? a=some (lstO items n)→VRs c.w.params r s.heap xs items→items.length≤4000000→ ∀o,a≠s.heap.objs.size→(s.heap.push o).IsListIter s.heap.objs.size a 0→(s.heap.push o).IsList a items.toArray→Walks c.prog c.w A' s.heap.objs.size [s.heap.objs.size,a] [s.heap.objs.size] items.toArray.size (fun i v=>items.toArray[i]? =some v) (fun i h=>h.IsListIter s.heap.objs.size a i∧h.IsList a items.toArray)→
   Q (.ref s.heap.objs.size) {s with heap:=s.heap.push o}):wpAny c.M A' (pyIter u) Q E' s:=by
 refine k35 (R.listAt hi x) fun a items n q3 hp hg hxs hl=> ?_;subst q3
 have hne:a≠s.heap.objs.size:=fun q=>by rw [q,yS s.heap (zo _)] at hg;exact ns hg
 exact wpAny_pyIter_list (yt hg) (h a items n rfl hg hxs hl _ hne ⟨_,zD _ rfl,rfl,rfl⟩ (yt (zn _ hg)) (Walks.list hh _ a hne _))
theorem bi_sum (hh:A.handled=none) (R:c.R r σ s.heap) {i:Nat} {xs:List V} {l:List Int} {b:Int} (hi:σ[i]? =some (.list xs)) (hl:qF xs=some l) (hb:sumI 0 l=some b) (x:c.V r s.heap (.ref i) u) (O:Out c r s σ (.int b) Q):wpAny c.M A (call (.builtin "sum") [u]) Q E' s:=by
 refine k03 (zaN l 0 b hb) fun f1 f2 f3=> ?_
 refine call_sum_walk (Qo (A':=A.in1) hh R hi x fun a items n hu hg hxs hz o hne hit hL W=> ?_)
 refine k02 (hxs.ints hl) fun h1 h2=> ?_
 refine ⟨_,_,_,_,_,_,fun j=>l.getD j 0,rfl,W,⟨hit,hL⟩,fun b hb=> ?_,fun j v hv=>h2 j v (by simpa using hv),fun j hj=>⟨?_,?_⟩,fun h' tk t' hk=> ?_⟩
 ·rw [xX]
  rcases zh.mp hb with q | q
  ·rw [q];exact yc _
  ·rw [zv.mp q];exact yg (yr hg)
 ·have hj':j < l.length:=by simp at hj;lia
  have:=qh (f1 (l.getD j 0) (by simp [zk,zj hj']))
  exact this
 ·have hj':j < l.length:=by simp at hj;lia
  rw [ZL l (j+1) (by lia)]
  have:=qh (f3 j hj')
  rw [Yd] at this
  exact this
 ·rw [show items.toArray.size=l.length by simp [h1],ZL l _ (zo _),xU]
  have e:l.sum=b:=by rw [f2];lia
  rw [e]
  have k: ∀b ob,s.heap.get? b=some ob→h'.get? b=some ob:=fun b ob e=>hk b ob (fun q=>by
   rw [zv.mp q,yS s.heap (zo _)] at e;cases e) (zn _ e)
  exact O _ r h' tk (R.grow k) (Step.grow k) (.int _ _)
end
theorem zbd: ∀(l:List Int) (m y:Int),maxI m (l++ [y])=if maxI m l < y then y else maxI m l
 | [],m,y=>by by_cases h:m < y <;>simp [maxI,h]
 | x::r,m,y=>by exact zbd r _ y
theorem zbc: ∀(l:List Int) (m y:Int),minI m (l++ [y])=if y < minI m l then y else minI m l
 | [],m,y=>by by_cases h:y < m <;>simp [minI,h]
 | x::r,m,y=>by exact zbc r _ y
theorem Zr (bt:Nat→Nat→Bool) (k:Nat):argBest bt (k+1)=if bt (k+1) (argBest bt k) then k+1 else argBest bt k:=rfl
theorem zbR (x:Int) (r:List Int): ∀k,k≤r.length→(x::r).getD (argBest (fun i j=>decide ((x::r).getD i 0>(x::r).getD j 0)) k) 0=maxI x (r.take k)
 | 0,_=>rfl
 | k+1,h=>by
  have ih:=zbR x r k (by lia)
  have hk:k < r.length:=by lia
  have e1:(x::r).getD (k+1) 0=r[k]:=by simp [zk,zj hk]
  rw [wf,zj hk,zbU,zbd,←ih]
  rw [Zr]
  simp only [decide_eq_true_eq,e1,gt_iff_lt]
  by_cases q:(x::r).getD (argBest (fun i j=>decide ((x::r).getD i 0>(x::r).getD j 0)) k) 0 < r[k]
  ·simp only [gt_iff_lt] at q⊢;rw [if_pos q,if_pos q,e1]
  ·simp only [gt_iff_lt] at q⊢;rw [if_neg q,if_neg q]
theorem zbQ (x:Int) (r:List Int): ∀k,k≤r.length→(x::r).getD (argBest (fun i j=>decide ((x::r).getD i 0 < (x::r).getD j 0)) k) 0=minI x (r.take k)
 | 0,_=>rfl
 | k+1,h=>by
  have ih:=zbQ x r k (by lia)
  have hk:k < r.length:=by lia
  have e1:(x::r).getD (k+1) 0=r[k]:=by simp [zk,zj hk]
  rw [wf,zj hk,zbU,zbc,←ih]
  rw [Zr]
  simp only [decide_eq_true_eq,e1,gt_iff_lt]
  by_cases q:r[k] < (x::r).getD (argBest (fun i j=>decide ((x::r).getD i 0 < (x::r).getD j 0)) k) 0
  ·rw [if_pos q,if_pos q,e1]
  ·rw [if_neg q,if_neg q]
section
variable {c:Cx} {A:Around} {E':Value→Shared→Prop} {s:Shared} {r:Rh} {σ σ':H} {v w:V} {Q:Value→Shared→Prop} {u u':Value}
theorem bi_max (hh:A.handled=none) (R:c.R r σ s.heap) {i:Nat} {xs:List V} {x0:Int} {l:List Int} (hi:σ[i]? =some (.list xs)) (hl:qF xs=some (x0::l)) (x:c.V r s.heap (.ref i) u) (O:Out c r s σ (.int (maxI x0 l)) Q):wpAny c.M A (call (.builtin "max") [u]) Q E' s:=by
 refine call_max_walk (Qo (A':=A.in1) hh R hi x fun a items n hu hg hxs hz o hne hit hL W=> ?_)
 refine k02 (hxs.ints hl) fun h1 h2=> ?_
 refine ⟨_,_,_,_,_,_,_,rfl,W,⟨hit,hL⟩,fun b hb=> ?_,by simp [h1],CmpOf.ints_gt (fun j=>(x0::l).getD j 0) (fun j v hv=>h2 j v (by simpa using hv)),fun v h' tk hP hk=> ?_⟩
 ·rw [xX]
  rcases zh.mp hb with q | q
  ·rw [q];exact yc _
  ·rw [zv.mp q];exact yg (yr hg)
 ·refine k11 (h2 _ v (zU.symm.trans hP)) fun t q1=> ?_;subst q1
  have e:items.toArray.size - 1=l.length:=by simp [h1]
  rw [e,zbR x0 l _ (zo _),xU]
  have k: ∀b ob,s.heap.get? b=some ob→h'.get? b=some ob:=fun b ob e=>hk b ob (fun q=>by
   rw [zv.mp q,yS s.heap (zo _)] at e;cases e) (zn _ e)
  exact O _ r h' tk (R.grow k) (Step.grow k) (.int _ _)
theorem bi_min (hh:A.handled=none) (R:c.R r σ s.heap) {i:Nat} {xs:List V} {x0:Int} {l:List Int} (hi:σ[i]? =some (.list xs)) (hl:qF xs=some (x0::l)) (x:c.V r s.heap (.ref i) u) (O:Out c r s σ (.int (minI x0 l)) Q):wpAny c.M A (call (.builtin "min") [u]) Q E' s:=by
 refine call_min_walk (Qo (A':=A.in1) hh R hi x fun a items n hu hg hxs hz o hne hit hL W=> ?_)
 refine k02 (hxs.ints hl) fun h1 h2=> ?_
 refine ⟨_,_,_,_,_,_,_,rfl,W,⟨hit,hL⟩,fun b hb=> ?_,by simp [h1],CmpOf.ints_lt (fun j=>(x0::l).getD j 0) (fun j v hv=>h2 j v (by simpa using hv)),fun v h' tk hP hk=> ?_⟩
 ·rw [xX]
  rcases zh.mp hb with q | q
  ·rw [q];exact yc _
  ·rw [zv.mp q];exact yg (yr hg)
 ·refine k11 (h2 _ v (zU.symm.trans hP)) fun t q2=> ?_;subst q2
  have e:items.toArray.size - 1=l.length:=by simp [h1]
  rw [e,zbQ x0 l _ (zo _),xU]
  have k: ∀b ob,s.heap.get? b=some ob→h'.get? b=some ob:=fun b ob e=>hk b ob (fun q=>by
   rw [zv.mp q,yS s.heap (zo _)] at e;cases e) (zn _ e)
  exact O _ r h' tk (R.grow k) (Step.grow k) (.int _ _)
theorem bi_max2 (hh:A.handled=none) (R:c.R r σ s.heap) {a b:Int} (x:c.V r s.heap (.int a) u) (y:c.V r s.heap (.int b) u') (O:Out c r s σ (.int (if decide (a < b) then b else a)) Q):wpAny c.M A (call (.builtin "max") [u,u']) Q E' s:=by
 refine k11 (x.int_inv) fun t q3=> ?_;subst q3
 refine k11 (y.int_inv) fun t' q4=> ?_;subst q4
 refine call_max_two ?_
 have hT:(s.heap.push {cls:= .type "tuple",data:= .seq #[.int a t,.int b t']}).IsTuple s.heap.objs.size #[.int a t,.int b t']:=⟨_,zD _ rfl,rfl,0,rfl⟩
 have hz:(s.heap.push {cls:= .type "tuple",data:= .seq #[.int a t,.int b t']}).objs.size=s.heap.objs.size+1:=xX ..
 refine wpAny_pyIter_tuple hT ?_
 have val: ∀(i:Nat) (v:Value),(#[Value.int a t,Value.int b t']:Array Value)[i]? =some v→ ∃t,v= .int (if i=0 then a else b) t:=fun i v hv=>by
  match i,hv with
  | 0,hv=>simp at hv;exact ⟨t,by simp [hv]⟩
  | 1,hv=>simp at hv;exact ⟨t',by simp [hv]⟩
  | i+2,hv=>simp at hv
 have hne:s.heap.objs.size≠(s.heap.push {cls:= .type "tuple",data:= .seq #[.int a t,.int b t']}).objs.size:=by rw [hz];exact (Nat.succ_ne_self _).symm
 refine ⟨_,_,_,_,_,_,_,rfl,Walks.tuple (A:=A.in1) hh _ s.heap.objs.size hne _,⟨⟨_,zD _ rfl,rfl,rfl⟩,⟨_,zn _ (zD _ rfl),rfl,0,rfl⟩⟩,fun b hb=> ?_,Nat.zero_lt_succ _,CmpOf.ints_gt _ val,fun v h' tk hP hk=> ?_⟩
 ·rw [xX]
  rcases zh.mp hb with q | q
  ·rw [q];exact yc _
  ·rw [zv.mp q,hz];exact yg (yc _)
 ·have k: ∀b ob,s.heap.get? b=some ob→h'.get? b=some ob:=fun b ob e=>hk b ob (fun q=>by
   rw [zv.mp q,yS s.heap (by rw [hz];exact wZ _)] at e;cases e) (zn _ (zn _ e))
  refine k11 (val _ v hP) fun t2 q5=> ?_;subst q5
  have e:(if argBest (fun i j=>decide ((if i=0 then a else b)>(if j=0 then a else b))) ((#[Value.int a t,Value.int b t']:Array Value).size - 1)=0 then a else b)=(if decide (a < b) then b else a):=by
   show (if argBest (fun i j=>decide ((if i=0 then a else b)>(if j=0 then a else b))) 1=0 then a else b)=_
   rw [Zr]
   show (if (if decide ((if (0+1)=0 then a else b)>(if 0=0 then a else b))=true then 0+1 else 0)=0 then a else b)=_
   by_cases q:a < b <;>simp [q]
  rw [e]
  exact O _ r h' tk (R.grow k) (Step.grow k) (.int _ _)
end
noncomputable def zaq (c:Cx) (A:Around):Prop:= ∀ {i:Nat} {xs:List V} {σ σ':H} {v:V} {r:Rh} {s:Shared} {u:Value},σ[i]? =some (.list xs)→Xw xs=true→Ja xs σ=some (v,σ')→c.R r σ s.heap→c.V r s.heap (.ref i) u→ ∀ {Q E'},Out c r s σ' v Q→wpAny c.M A (call (.builtin "sorted") [u] []) Q E' s
theorem VRs.one {P:Params} {r:Rh} {h:Heap} {v:V} {us:List Value} (x:VRs P r h [v] us): ∃u,us= [u]∧VR P r h v u:=by
 cases x with | cons a b=>cases b;exact ⟨_,rfl,a⟩
theorem VRs.two {P:Params} {r:Rh} {h:Heap} {v w:V} {us:List Value} (x:VRs P r h [v,w] us): ∃u u',us= [u,u']∧VR P r h v u∧VR P r h w u':=by
 cases x with | cons a b=>obtain ⟨u',rfl,y⟩:=b.one;exact ⟨_,u',rfl,a,y⟩
theorem ite_i {p:Prop} [Decidable p] {α:Type} {x z:Option α} {y:α} (e:(if p then x else z)=some y):(p∧x=some y)∨(¬p∧z=some y):=by
 by_cases h:p
 ·rw [if_pos h] at e;exact .inl ⟨h,e⟩
 ·rw [if_neg h] at e;exact .inr ⟨h,e⟩
theorem int_i {l:List Int} {σ σ':H} {v:V} {f:Int→List Int→Int} (e:(match l with
 | []=>Option.none
 | x::r=>some (V.int (f x r),σ))=some (v,σ')): ∃x r,l=x::r∧v= .int (f x r)∧σ'=σ:=by
 cases l with
 | nil=>exact ns e
 | cons x r=>(refine sp e fun q5 q6=> ?_;subst q5;subst q6;clear e);exact ⟨x,r,rfl,rfl,rfl⟩
noncomputable def jG (c:Cx) (A:Around) (f:Value) (b:V→H→Option (V×H)):Prop:= ∀ {a v:V} {σ σ':H} {r:Rh} {s:Shared} {u:Value},b a σ=some (v,σ')→c.R r σ s.heap→c.V r s.heap a u→ ∀ {Q E'},Out c r s σ' v Q→wpAny c.M A (call f [u] []) Q E' s
section
variable {c:Cx} {A:Around}
theorem zap {f:Value} {b:List V→H→Option (V×H)} (h: ∀ {i:Nat} {xs:List V} {v:V} {σ σ':H} {r:Rh} {s:Shared} {u:Value},σ[i]? =some (.list xs)→b xs σ=some (v,σ')→c.R r σ s.heap→c.V r s.heap (.ref i) u→ ∀ {Q E'},Out c r s σ' v Q→wpAny c.M A (call f [u] []) Q E' s):
  jG c A f (fun v σ=>(yn σ v).bind fun xs=>b xs σ):=by
 intro a v σ σ' r s u e R x Q E' O
 refine k12 (ze.mp e) fun xs hx e1=> ?_
 refine k12 (qr hx) fun i q1 hi=> ?_;subst q1
 exact h hi e1 R x O
theorem one_len:jG c A (.builtin "len") bLen:=by
 intro a v σ σ' r s u e R x Q E' O
 cases a with
 | str t=>exact k02 (xj (b:=szOk t.length) (x:=(V.int (t.length:Int),σ)) e) fun hz e=>zc9 R hz x (O.cast (congrArg some e.symm))
 | tup xs=>exact zc8 R x (O.cast (v₀:= .int (xs.length:Int)) (σ₀:=σ) e)
 | ref i=>exact k12 (Xg (o:=σ[i]?) (f:=fun xs=>some (V.int (xs.length:Int),σ)) e) fun xs hi e=>zbP R hi x (O.cast e)
 | _=>exact ns e
theorem one_max (hh:A.handled=none):jG c A (.builtin "max") (fun v σ=>(yn σ v).bind fun xs=>bMax xs σ):=zap fun {i xs v σ σ' r s u} hi e R x {Q E'} O=>by
 refine k12 (ze.mp e) fun l hl e=> ?_
 refine k23 (int_i (f:=maxI) e) fun y r' q2 q3 q4=> ?_;subst q2
 exact bi_max hh R hi hl x (O.to q3 q4)
theorem one_min (hh:A.handled=none):jG c A (.builtin "min") (fun v σ=>(yn σ v).bind fun xs=>bMin xs σ):=zap fun {i xs v σ σ' r s u} hi e R x {Q E'} O=>by
 refine k12 (ze.mp e) fun l hl e=> ?_
 refine k23 (int_i (f:=minI) e) fun y r' q5 q6 q7=> ?_;subst q5
 exact bi_min hh R hi hl x (O.to q6 q7)
theorem one_sum (hh:A.handled=none):jG c A (.builtin "sum") (fun v σ=>(yn σ v).bind fun xs=>bSum xs σ):=zap fun {i xs v σ σ' r s u} hi e R x {Q E'} O=>by
 refine k12 (ze.mp e) fun l hl e=> ?_
 refine k12 (zc.mp e) fun b hb e=> ?_
 exact bi_sum hh R hi hl hb x (O.cast (congrArg some e))
theorem zco (hs:zaq c A):jG c A (.builtin "sorted") (fun v σ=>(yn σ v).bind fun xs=>bSort xs σ):=zap fun {i xs v σ σ' r s u} hi e R x {Q E'} O=>by
 refine k02 (if_i (b:=Xw xs) (x:=Ja xs σ) e) fun hk e=> ?_
 exact hs hi hk e R x O
theorem one_range:jG c A (.type "range") (fun v σ=>match v with | .int b=>tRange b σ | _=> .none):=by
 intro a v σ σ' r s u e R x Q E' O
 cases a with
 | int b=>exact k02 (xj (b:=fit b) (x:=(V.rng 0 b,σ)) e) fun hf e=>bi_range1 R x (O.cast (congrArg some e.symm))
 | _=>exact ns e
theorem one_list (hh:A.handled=none):jG c A (.type "list") tList:=by
 intro a v σ σ' r s u e R x Q E' O
 cases a with
 | rng a b=>
  refine k02 (if_i (b:=decide (b - a < 1000)&&fit a&&fit b) (x:=mkL (xZ a b) σ) e) fun hc e=> ?_
  refine k02 (zB hc) fun hc h3=> ?_
  refine k02 (zB hc) fun h1 h2=> ?_
  exact QS hh R (of_decide_eq_true h1) h2 h3 x e O
 | _=>exact ns e
theorem one_tuple:jG c A (.type "tuple") (fun v σ=>(yn σ v).map fun xs=>(.tup xs,σ)):=by
 intro a v σ σ' r s u e R x Q E' O
 refine k12 (zc.mp e) fun xs hx e1=> ?_
 refine k12 (qr hx) fun i q8 hi=> ?_;subst q8
 exact bi_tuple R hi x (O.cast (congrArg some e1))
theorem one_int:jG c A (.type "int") tInt:=by
 intro a v σ σ' r s u e R x Q E' O
 cases a with
 | str t=>
  refine k12 (zc.mp e) fun i hi e=> ?_
  exact bi_int R hi x (O.cast (congrArg some e))
 | _=>exact ns e
theorem one_str:jG c A (.type "str") tStr:=by
 intro a v σ σ' r s u e R x Q E' O
 cases a with
 | int i=>exact k02 (xj (b:=fit i) (x:=(V.str (yR i),σ)) e) fun hf e=>bi_str R hf x (O.cast (congrArg some e.symm))
 | _=>exact ns e
theorem one_type:jG c A (.type "type") tType:=by
 intro a v σ σ' r s u e R x Q E' O
 cases a with
 | str t=>exact zbO R x (O.cast (v₀:= .cst (.type "str")) (σ₀:=σ) e)
 | ref i=>exact k12 (Xg (o:=σ[i]?) (f:=fun ω=>some (V.cst (.type "list"),σ)) e) fun xs hi e=>zao R hi x (O.cast e)
 | _=>exact ns e
noncomputable def BP (c:Cx) (A:Around) (f:Value) (as:List V) (v:V) (σ σ':H):Prop:=ZC c f∧ ∀(r:Rh) (s:Shared) us,c.R r σ s.heap→VRs c.w.params r s.heap as us→ ∀Q E',Out c r s σ' v Q→wpAny c.M A (call f us []) Q E' s
theorem qe {p:Prop} [Decidable p] {α:Type} {x z:Option α} {y:α} {G:Prop} (e:(if p then x else z)=some y) (h1:p→x=some y→G) (h2:z=some y→G):G:=(ite_i e).elim (fun q=>h1 q.1 q.2) fun q=>h2 q.2
theorem kb {f g:String} {σ σ':H} {v:V} {b:V→H→Option (V×H)} {a:V} (H:jG c A (.builtin g) b) (q:f=g) (e:b a σ=some (v,σ')):BP c A (.builtin f) [a] v σ σ':=
 q▸⟨.builtin,fun r s us R x Q E' O=>by obtain ⟨u,rfl,x1⟩:=x.one;exact H e R x1 O⟩
theorem kt {f g:String} {σ σ':H} {v:V} {b:V→H→Option (V×H)} {a:V} (H:jG c A (.type g) b) (q:f=g) (e:b a σ=some (v,σ')):BP c A (.type f) [a] v σ σ':=
 q▸⟨.type,fun r s us R x Q E' O=>by obtain ⟨u,rfl,x1⟩:=x.one;exact H e R x1 O⟩
theorem b_one (hh:A.handled=none) (hs:zaq c A) {f:String} {a v:V} {σ σ':H} (e:bOne f a σ=some (v,σ')):BP c A (.builtin f) [a] v σ σ':=
 qe e (kb one_len) fun e=>qe e (kb (one_max hh)) fun e=>qe e (kb (one_min hh)) fun e=>qe e (kb (one_sum hh)) fun e=>qe e (kb (zco hs)) fun e=>ns e
theorem t_one (hh:A.handled=none) {f:String} {a v:V} {σ σ':H} (e:tOne f a σ=some (v,σ')):BP c A (.type f) [a] v σ σ':=
 qe e (kt one_range) fun e=>qe e (kt (one_list hh)) fun e=>qe e (kt one_tuple) fun e=>qe e (kt one_int) fun e=>qe e (kt one_str) fun e=>qe e (kt one_type) fun e=>ns e
theorem b_max (hh:A.handled=none) {a d:Int} {v:V} {σ σ':H} (e:some (V.int (if decide (a < d) then d else a),σ)=some (v,σ')):BP c A (.builtin "max") [.int a,.int d] v σ σ':=
 ⟨.builtin,fun r s us R x Q E' O=>by
  refine k23 (x.two) fun u u' q9 x1 y1=> ?_;subst q9
  exact bi_max2 hh R x1 y1 (O.cast e)⟩
theorem t_rng {a d:Int} {v:V} {σ σ':H} (e:(if fit a&&fit d then some (V.rng a d,σ) else .none)=some (v,σ')):BP c A (.type "range") [.int a,.int d] v σ σ':=
 ⟨.type,fun r s us R x Q E' O=>by
  refine k23 (x.two) fun u u' q10 x1 y1=> ?_;subst q10
  refine k02 (xj e) fun hf e=> ?_
  exact bi_range2 R x1 y1 (O.cast (congrArg some e.symm))⟩
theorem b_two (hh:A.handled=none) {f:String} {a d v:V} {σ σ':H} (e:bTwo f a d σ=some (v,σ')):BP c A (.builtin f) [a,d] v σ σ':=by
 cases a with
 | int a=>cases d with
  | int d=>exact qe (p:=f="max") e (fun q e=>q▸b_max hh e) fun e=>ns e
  | _=>exact ns e
 | _=>exact ns e
theorem t_two {f:String} {a d v:V} {σ σ':H} (e:tTwo f a d σ=some (v,σ')):BP c A (.type f) [a,d] v σ σ':=by
 cases a with
 | int a=>cases d with
  | int d=>exact qe (p:=f="range") e (fun q e=>q▸t_rng e) fun e=>ns e
  | _=>exact ns e
 | _=>exact ns e
theorem bi_ok (hh:A.handled=none) (hs:zaq c A):BiOk c A:=by
 intro f as σ v σ' e
 show BP c A f as v σ σ'
 cases f with
 | builtin f=>match as with
  | []=>exact ns e
  | [a]=>exact b_one hh hs e
  | [a,d]=>exact b_two hh e
  | _::_::_::_=>exact ns e
 | type f=>match as with
  | []=>exact ns e
  | [a]=>exact t_one hh e
  | [a,d]=>exact t_two e
  | _::_::_::_=>exact ns e
 | _=>exact ns e
end
section
variable {c:Cx} {A:Around} {E':Value→Shared→Prop} {s:Shared} {r:Rh} {σ σ':H} {v w:V} {u u':Value}
theorem zbq {name:Str} {id:String} {pl:Sem Bool} {Q:Value×List Value→Shared→Prop} (slot:Slot "list" name id) (hty:typeOf (.builtin id)=pure (.type "method_descriptor")) {a:Addr} {items:List Value} {n:Nat} (hg:s.heap.get? a=some (lstO items n)) (h:Q (.builtin id,[.ref a]) s):wpAny c.M A (getMethod (.ref a) name pl) Q E' s:=
 zdf ⟨_,hg,rfl⟩ PySem.F.plainAttrs_list slot hty (fun b e=>by cases e;exact ⟨_,hg,rfl⟩) h
end
theorem wE {a b:Txt} (h:yW a b=true):a=b:=Ye.mp h
theorem JW {c:Cx} (hOk:c.Ok) {x:Nat} {name:Str} {m:Txt} (hx:c.t.ids[x]? =some name) (hm:c.Γ.ids[x]? =some m):name=stO m:=by
 rw [hOk.ids,zA,hx] at hm
 (refine si hm fun q5=> ?_;subst q5;clear hm)
 cases name;simp [stO]
theorem n_append:stO [97,112,112,101,110,100]=("append":Str):=by decide+kernel
theorem n_pop:stO [112,111,112]=("pop":Str):=by decide+kernel
theorem n_get:stO [103,101,116]=("get":Str):=by decide+kernel
theorem n_search:stO [115,101,97,114,99,104]=("search":Str):=by decide+kernel
theorem n_join:stO [106,111,105,110]=("join":Str):=by decide+kernel
theorem n_lower:stO [108,111,119,101,114]=("lower":Str):=by decide+kernel
theorem n_upper:stO [117,112,112,101,114]=("upper":Str):=by decide+kernel
theorem n_find:stO [102,105,110,100]=("find":Str):=by decide+kernel
theorem n_index:stO [105,110,100,101,120]=("index":Str):=by decide+kernel
theorem n_isdigit:stO [105,115,100,105,103,105,116]=("isdigit":Str):=by decide+kernel
structure SearchOk (c:Cx) (A:Around):Prop where
 get: ∀ {a:Addr} {s:Shared},c.Γ.pats.contains a=true→(∀b o,c.h₀.get? b=some o→s.heap.get? b=some o)→ ∀ {Q E' pl},(∀tk,Q (.builtin "re.Pattern.search",[.ref a]) {s with toks:=tk})→wpAny c.M A (getMethod (.ref a) ("search":Str) pl) Q E' s
 run: ∀ {a:Addr} {x:Txt} {t:Tok} {s:Shared},c.Γ.pats.contains a=true→(∀b o,c.h₀.get? b=some o→s.heap.get? b=some o)→ZQ x=true→ ∀ {Q E'},(∀tk,Q .none {s with toks:=tk})→wpAny c.M A (call (.builtin "re.Pattern.search") [.ref a,.str (stO x) t]) Q E' s
section
variable {c:Cx} {A:Around} {cf:Cf}
theorem KwR.none_inv {r:Rh} {h:Heap} {kit:List (Str×Value)} (x:KwR c r h [] kit):kit= []:=by cases x;rfl
noncomputable abbrev MeAt (c:Cx) (A:Around) (cf:Cf) (m:Meth) (u:Value) (name:Str) (r:Rh) (s:Shared):Prop:= ∃f first,ZC c f∧(∀Q E' pl,(∀tk,Q (f,first) {s with toks:=tk})→wpAny c.M A (getMethod u name pl) Q E' s)∧
  ∀as ks r' σ₁ σ' s' v items kit,xS c.Γ cf m as ks σ₁=some (v,σ')→Step r s.heap r' s'.heap→c.R r' σ₁ s'.heap→VRs c.w.params r' s'.heap as items→KwR c r' s'.heap ks kit→ ∀Q E',Out c r' s' σ' v Q→wpAny c.M A (call f (first++items) kit) Q E' s'
theorem Xd {P:Params} {r:Rh} {h:Heap} {as:List V} {items:List Value} {f:V→Option (V×H)} {v:V} {σ':H} (e:(match as with
 | [v]=>f v
 | _=>Option.none)=some (v,σ')) (x:VRs P r h as items): ∃a u,as= [a]∧items= [u]∧VR P r h a u∧f a=some (v,σ'):=by
 cases as with
 | nil=>exact ns e
 | cons a as=>cases as with
  | nil=>obtain ⟨u,rfl,x1⟩:=x.one;exact ⟨a,u,rfl,rfl,x1,e⟩
  | cons _ _=>exact ns e
theorem JV {P:Params} {r:Rh} {h:Heap} {as:List V} {items:List Value} {f:Option (V×H)} {v:V} {σ':H} (e:(match as with
 | []=>f
 | _=>Option.none)=some (v,σ')) (x:VRs P r h as items):items= []∧f=some (v,σ'):=by
 cases as with
 | nil=>cases x;exact ⟨rfl,e⟩
 | cons a as=>exact ns e
theorem Wk {P:Params} {r:Rh} {h:Heap} {v:V} {u:Value} {p:Txt} (x:VR P r h v u) (e:YX v=some p):v= .str p∧ ∃t,u= .str (stO p) t:=by
 cases v with
 | str q=>(refine si e fun q11=> ?_;subst q11;clear e);exact ⟨rfl,x.str_inv⟩
 | _=>exact ns e
theorem za7 {ks:List (Nat×V)} {α:Type} {x:Option α} {y:α} {r:Rh} {h:Heap} {kit:List (Str×Value)} (k:KwR c r h ks kit) (e:(if ks.isEmpty=true then x else .none)=some y):kit= []∧x=some y:=by
 cases ks with
 | nil=>exact ⟨k.none_inv,e⟩
 | cons _ _=>exact ns e
theorem me_lst (hOk:c.Ok) {i x:Nat} {m:Txt} {name:Str} {u:Value} {r:Rh} {σ:H} {s:Shared} {xs:List V} (hi:σ[i]? =some (.list xs)) (hm:c.Γ.ids[x]? =some m) (hl:XG.any (yW m)=true) (hx:c.t.ids[x]? =some name) (R:c.R r σ s.heap) (y:c.V r s.heap (.ref i) u):MeAt c A cf (.lst i m) u name r s:=by
 refine k35 (R.listAt hi y) fun a its n q1 hp hg hxs hz=> ?_;subst q1
 have hname:=JW hOk hx hm
 rcases xx.mp hl with h1 | h1
 ·have:=wE h1;subst this
  rw [hname,n_append]
  refine ⟨.builtin "list.append",[.ref a],.builtin,fun Q E' pl h=>zbq PySem.F.slot_list_append PySem.F.type_list_append hg (h s.toks),fun as ks r' σ₁ σ' s' v items kit e S R' x' k' Q E' O=> ?_⟩
  refine k02 (za7 k' e) fun q2 e=> ?_;subst q2
  refine k12 (ze.mp e) fun xs' hx' e=> ?_
  refine k12 (qr hx') fun i' hi' hxs'=> ?_
  cases hi'
  refine k24 (Xd (f:=fun v=>setL σ₁ i (xs'++ [v]) .none) e x') fun w u1 q3 q4 x1 e=> ?_;subst q3;subst q4
  exact m_append R' hxs' (.ref i (a,a) (S.at_ob hp)) x1 e O
 ·have h1:=(Bool.or_false _).symm.trans h1
  have:=wE h1;subst this
  rw [hname,n_pop]
  refine ⟨.builtin "list.pop",[.ref a],.builtin,fun Q E' pl h=>zbq PySem.F.slot_list_pop PySem.F.type_list_pop hg (h s.toks),fun as ks r' σ₁ σ' s' v items kit e S R' x' k' Q E' O=> ?_⟩
  refine k02 (za7 k' e) fun q5 e=> ?_;subst q5
  refine k12 (ze.mp e) fun xs' hx' e=> ?_
  refine k12 (qr hx') fun i' hi' hxs'=> ?_
  cases hi'
  refine k02 (JV (f:=xs'.getLast?.bind fun v=>setL σ₁ i xs'.dropLast v) e x') fun q6 e=> ?_;subst q6
  refine k12 (ze.mp e) fun w hw e=> ?_
  exact m_pop R' hxs' (.ref i (a,a) (S.at_ob hp)) hw e O
end
section
variable {c:Cx} {A:Around} {cf:Cf}
theorem gs_join {E':Value→Shared→Prop} {s:Shared} {pl:Sem Bool} {Q:Value×List Value→Shared→Prop} {x:Str} {t:Tok} (h: ∀tk,Q (.builtin "str.join",[.str x t]) {s with toks:=tk}):wpAny c.M A (getMethod (.str x t) ("join":Str) pl) Q E' s:=by
 have h0:=h s.toks
 with_reducible exact PySem.GM.join h0
theorem gs_lower {E':Value→Shared→Prop} {s:Shared} {pl:Sem Bool} {Q:Value×List Value→Shared→Prop} {x:Str} {t:Tok} (h: ∀tk,Q (.builtin "str.lower",[.str x t]) {s with toks:=tk}):wpAny c.M A (getMethod (.str x t) ("lower":Str) pl) Q E' s:=by
 have h0:=h s.toks
 with_reducible exact PySem.GM.lower h0
theorem gs_upper {E':Value→Shared→Prop} {s:Shared} {pl:Sem Bool} {Q:Value×List Value→Shared→Prop} {x:Str} {t:Tok} (h: ∀tk,Q (.builtin "str.upper",[.str x t]) {s with toks:=tk}):wpAny c.M A (getMethod (.str x t) ("upper":Str) pl) Q E' s:=by
 have h0:=h s.toks
 with_reducible exact PySem.GM.upper h0
theorem gs_find {E':Value→Shared→Prop} {s:Shared} {pl:Sem Bool} {Q:Value×List Value→Shared→Prop} {x:Str} {t:Tok} (h: ∀tk,Q (.builtin "str.find",[.str x t]) {s with toks:=tk}):wpAny c.M A (getMethod (.str x t) ("find":Str) pl) Q E' s:=by
 have h0:=h s.toks
 with_reducible exact PySem.GM.find h0
theorem gs_index {E':Value→Shared→Prop} {s:Shared} {pl:Sem Bool} {Q:Value×List Value→Shared→Prop} {x:Str} {t:Tok} (h: ∀tk,Q (.builtin "str.index",[.str x t]) {s with toks:=tk}):wpAny c.M A (getMethod (.str x t) ("index":Str) pl) Q E' s:=by
 have h0:=h s.toks
 with_reducible exact PySem.GM.index h0
theorem zcM {E':Value→Shared→Prop} {s:Shared} {pl:Sem Bool} {Q:Value×List Value→Shared→Prop} {x:Str} {t:Tok} (h: ∀tk,Q (.builtin "str.isdigit",[.str x t]) {s with toks:=tk}):wpAny c.M A (getMethod (.str x t) ("isdigit":Str) pl) Q E' s:=by
 have h0:=h s.toks
 with_reducible exact PySem.GM.isdigit h0
theorem XC {w m:Txt} {f:Value} {name:Str} {t:Tok} {r:Rh} {s:Shared} (kf:ZC c f) (g: ∀Q E' pl,(∀tk,Q (f,[.str (stO w) t]) {s with toks:=tk})→wpAny c.M A (getMethod (.str (stO w) t) name pl) Q E' s)
  (h: ∀as r' σ₁ σ' s' v items,strMeth w m as σ₁=some (v,σ')→c.R r' σ₁ s'.heap→VRs c.w.params r' s'.heap as items→ ∀Q E',Out c r' s' σ' v Q→wpAny c.M A (call f (.str (stO w) t::items) []) Q E' s'):MeAt c A cf (.str w m) (.str (stO w) t) name r s:=by
 refine ⟨f,[.str (stO w) t],kf,g,fun as ks r' σ₁ σ' s' v items kit e S R' x' k' Q E' O=> ?_⟩
 refine k02 (za7 k' e) fun q1 e=> ?_;subst q1
 exact h as r' σ₁ σ' s' v items e R' x' Q E' O
theorem me_join {w:Txt} {t:Tok} {r:Rh} {s:Shared} :MeAt c A cf (.str w [106,111,105,110]) (.str (stO w) t) ("join":Str) r s:=XC .builtin (fun Q E' pl h=>gs_join h) fun as r' σ₁ σ' s' v items e R' x' Q E' O=>by
 refine k24 (Xd (f:=fun v=>(yn σ₁ v).bind fun xs=>(qB xs).bind fun l=>if jK w l then some (.str (tsT (PySem.Txt.join (stT w) (l.map stT))),σ₁) else .none) e x') fun a u1 q2 q3 x1 e=> ?_;subst q2;subst q3
 refine k12 (ze.mp e) fun xs hx e2=> ?_
 refine k12 (ze.mp e2) fun l hl e3=> ?_
 refine k02 (xj e3) fun ok e4=> ?_
 refine k12 (qr hx) fun i q4 hi=> ?_;subst q4
 cases e4
 exact m_join R' hi hl ok x1 O
theorem me_lower {w:Txt} {t:Tok} {r:Rh} {s:Shared} :MeAt c A cf (.str w [108,111,119,101,114]) (.str (stO w) t) ("lower":Str) r s:=XC .builtin (fun Q E' pl h=>gs_lower h) fun as r' σ₁ σ' s' v items e R' x' Q E' O=>by
 refine k02 (JV (f:=if Xn w&&szOk w.length then some (.str (w.map lowC),σ₁) else .none) e x') fun q5 e=> ?_;subst q5
 refine k02 (xj e) fun hz e=> ?_
 refine k02 (zB hz) fun h1 h2=> ?_
 cases e
 exact m_lower R' h1 h2 O
theorem me_upper {w:Txt} {t:Tok} {r:Rh} {s:Shared} :MeAt c A cf (.str w [117,112,112,101,114]) (.str (stO w) t) ("upper":Str) r s:=XC .builtin (fun Q E' pl h=>gs_upper h) fun as r' σ₁ σ' s' v items e R' x' Q E' O=>by
 refine k02 (JV (f:=if Xn w&&szOk w.length then some (.str (w.map upC),σ₁) else .none) e x') fun q6 e=> ?_;subst q6
 refine k02 (xj e) fun hz e=> ?_
 refine k02 (zB hz) fun h1 h2=> ?_
 cases e
 exact m_upper R' h1 h2 O
theorem me_find {w:Txt} {t:Tok} {r:Rh} {s:Shared} :MeAt c A cf (.str w [102,105,110,100]) (.str (stO w) t) ("find":Str) r s:=XC .builtin (fun Q E' pl h=>gs_find h) fun as r' σ₁ σ' s' v items e R' x' Q E' O=>by
 obtain ⟨a,u1,rfl,rfl,x1,e⟩:=Xd (f:=fun v=>(YX v).map fun p=>(.int (PySem.Txt.find (stT w) (stT p)),σ₁)) e x'
 obtain ⟨p,hp,e2⟩:=zc.mp e
 obtain ⟨rfl,t1,rfl⟩:=Wk x1 hp
 cases e2
 exact m_find R' O
theorem me_index {w:Txt} {t:Tok} {r:Rh} {s:Shared} :MeAt c A cf (.str w [105,110,100,101,120]) (.str (stO w) t) ("index":Str) r s:=XC .builtin (fun Q E' pl h=>gs_index h) fun as r' σ₁ σ' s' v items e R' x' Q E' O=>by
 refine k24 (Xd (f:=fun v=>(YX v).bind fun p=>((Builtin.Str.occurrences (stT w) (stT p) 0 w.length 1).head?).map fun n=>(V.int (n:Int),σ₁)) e x') fun a u1 q2 q3 x1 e=> ?_;subst q2;subst q3
 refine k12 (ze.mp e) fun p hp e2=> ?_
 refine k12 (zc.mp e2) fun n hn e3=> ?_
 refine k02 (Wk x1 hp) fun ω q=> ?_
 refine k11 q fun t1 q=> ?_;subst q
 cases e3
 cases ho:Builtin.Str.occurrences (stT w) (stT p) 0 w.length 1 with
 | nil=>rw [ho] at hn;exact ns hn
 | cons m rest=>
  rw [ho] at hn
  cases za hn
  exact m_index R' ho O
theorem zcw {w:Txt} {t:Tok} {r:Rh} {s:Shared} :MeAt c A cf (.str w [105,115,100,105,103,105,116]) (.str (stO w) t) ("isdigit":Str) r s:=XC .builtin (fun Q E' pl h=>zcM h) fun as r' σ₁ σ' s' v items e R' x' Q E' O=>by
 refine k02 (JV (f:=some (V.bool (PySem.Txt.isdigit (stT w)),σ₁)) e x') fun q5 e=> ?_;subst q5
 cases e
 exact m_isdigit R' O
theorem me_str (hOk:c.Ok) {x:Nat} {m w:Txt} {name:Str} {u:Value} {r:Rh} {s:Shared} (hm:c.Γ.ids[x]? =some m) (hl:YY.any (yW m)=true) (hx:c.t.ids[x]? =some name) (y:c.V r s.heap (.str w) u):MeAt c A cf (.str w m) u name r s:=by
 refine k11 (y.str_inv) fun t q7=> ?_;subst q7
 have hname:=JW hOk hx hm
 rcases xx.mp hl with h | h
 ·have:=wE h;subst this
  rw [hname,n_join]
  exact me_join
 rcases xx.mp h with h | h
 ·have:=wE h;subst this
  rw [hname,n_lower]
  exact me_lower
 rcases xx.mp h with h | h
 ·have:=wE h;subst this
  rw [hname,n_upper]
  exact me_upper
 rcases xx.mp h with h | h
 ·have:=wE h;subst this
  rw [hname,n_find]
  exact me_find
 rcases xx.mp h with h | h
 ·have:=wE h;subst this
  rw [hname,n_index]
  exact me_index
 rcases xx.mp h with h | h
 ·have:=wE h;subst this
  rw [hname,n_isdigit]
  exact zcw
 ·exact ft h
end
end MI
end T5
section T6
open PySem PySem.Spec PySem.Calls PyProof.Rows PySem.W
open PySem.Builtin PySem.Builtin.Re
namespace MI
structure qj (code:Array Nat):Prop where
 i0:Sre.ops[code.getD 0 0]? =some .INFO
 i2:code.getD 2 0=4
 i3:code.getD 3 0=1
 miss: ∀c seen,32≤c→c < 127→ ∃s',Sre.inSet code c code.size 5 true seen= .ok (false,s')
noncomputable def Said (m:Sre.M):Prop:=m.answer=some false∧m.frames= []∧m.outcome=none
theorem YF {m:Sre.M} (hc:qj m.code) (ht: ∀s,s < m.lim→32≤m.text.getD s 0∧m.text.getD s 0 < 127): ∀(fuel s:Nat) (seen:Sre.Seen),∃s',Sre.M.admitted m fuel s seen= .ok (none,s')
 | 0,s,seen=>⟨seen,rfl⟩
 | fuel+1,s,seen=>by
  unfold Sre.M.admitted
  by_cases h:s≥m.lim
  ·rw [if_pos h];exact ⟨_,rfl⟩
  ·rw [if_neg h]
   have ht':=ht s (by lia)
   refine k11 (hc.miss _ seen ht'.1 ht'.2) fun s' e=> ?_
   rw [e]
   exact YF hc ht fuel (s+1) s'
set_option tactic.hygienic true in
theorem zaV {code text:Array Nat} {groups lim:Nat} (hc:qj code) (hl:lim≤text.size) (ht: ∀s,s < text.size→32≤text.getD s 0∧text.getD s 0 < 127):Said (Sre.forSearch code text groups 0 lim false):=by
 unfold Sre.forSearch
 dsimp only
 split
 ·exact ⟨rfl,rfl,rfl⟩
 ·unfold Sre.M.attemptFrom
  have hf: ∀m:Sre.M,m.code=code→m.hasFirstSet=true:=fun m e=>by
   unfold Sre.M.hasFirstSet
   rw [e,hc.i0,hc.i2];rfl
  rw [hf _ rfl]
  rw [if_neg (by simp)]
  have key: ∀m:Sre.M,m.code=code→m.text=text→m.lim=lim→ ∀fuel s seen,∃s',Sre.M.admitted m fuel s seen= .ok (none,s'):=fun m e1 e2 e3 fuel s seen=>
   YF (by rw [e1];exact hc) (fun s hs=>by rw [e2];exact ht s (by rw [e3] at hs;lia)) fuel s seen
  split
  ·rename_i s seen e
   refine (?_: ∀m fuel s0 seen0,Sre.M.admitted m fuel s0 seen0= .ok (some s,seen)→m.code=code→m.text=text→m.lim=lim→False) _ _ _ _ e rfl rfl rfl |>.elim
   intro m fuel s0 seen0 e e1 e2 e3
   refine k11 (key m e1 e2 e3 fuel s0 seen0) fun s' e'=> ?_
   rw [e'] at e
   cases e
  ·exact ⟨rfl,rfl,rfl⟩
  ·rename_i why e
   refine (?_: ∀m fuel s0 seen0,Sre.M.admitted m fuel s0 seen0= .error why→m.code=code→m.text=text→m.lim=lim→False) _ _ _ _ e rfl rfl rfl |>.elim
   intro m fuel s0 seen0 e e1 e2 e3
   refine k11 (key m e1 e2 e3 fuel s0 seen0) fun s' e'=> ?_
   rw [e'] at e
   cases e
section
variable {M:Model} {A:Around} {E:Value→Shared→Prop} {s:Shared}
theorem zaC {b:Nat→PUnit→Sem (ForInStep PUnit)} (hb: ∀i (Q':ForInStep PUnit→Shared→Prop),Q' (.yield ⟨⟩) s→wpAny M A (b i ⟨⟩) Q' E s): ∀(l:List Nat) {Q:PUnit→Shared→Prop},Q ⟨⟩ s→wpAny M A (forIn l PUnit.unit b) Q E s
 | [],Q,h=>by rw [List.forIn_nil];exact zi h
 | i::l,Q,h=>by
  rw [Wt]
  exact zb (hb _ _ (zaC hb l h))
theorem QP {m:Sre.M} (hm:Said m) {Q:Option Sre.M→Shared→Prop} (h:Q none s):wpAny M A (reRunToEnd m) Q E s:=by
 refine k03 hm fun h1 h2 h3=> ?_;clear hm
 have hst:m.step= {m with outcome:=some .failed} :=by
  unfold Sre.M.step
  rw [h3,h1,h2]
  rfl
 have hrun:m.runFor 4= {m with outcome:=some .failed} :=by
  unfold Sre.M.runFor
  rw [h3,hst]
  rfl
 have hdr:reDrive (2^64) m=pure {m with outcome:=some .failed} :=by
  show reDrive (18446744073709551615+1) m=_
  unfold reDrive
  show (if (m.runFor 4).outcome.isSome=true then pure (m.runFor 4) else _)=_
  rw [hrun]
  rfl
 unfold reRunToEnd
 rw [hdr]
 refine zb (zi ?_)
 refine zb (zaC (fun i Q' hq=> ?_) _ (zi h))
 split
 ·exact zb (zbT (zi hq))
 ·exact zi hq
end
theorem WU:PlainAttrs "re.Pattern":=
 ⟨⟨"object.__getattribute__",by rw [Wq,jR];kernel_rfl,by decide+kernel⟩,by rw [Wq,jR];kernel_rfl⟩
theorem ZA:Slot "re.Pattern" "search" "re.Pattern.search":=
 .of (owner:="re.Pattern") (n:="search") (by rw [Wq,jR];kernel_rfl) (by decide+kernel) (by decide+kernel) (by decide+kernel)
  (by first | exact .inl (by decide+kernel) | exact .inr (by decide+kernel)) (by rw [isSubtype_type];kernel_rfl)
theorem Wc:typeOf (.builtin "re.Pattern.search")=pure (.type "method_descriptor"):=by show builtinType _=_;rw [builtinType_eq_fast];kernel_rfl
theorem XM:entryFor table "re.Pattern.search"=some Builtin.«re.Pattern.search» :=entryFor_of_tree (by kernel_rfl)
theorem Xo (a b:Value):argsOk "re.Pattern.search" ⟨[a,b],[]⟩:=by
 unfold argsOk;kernel_rfl
structure YG (h:Heap) (a:Addr):Prop where
 pa: ∃p f g x y cd ct kd sl,reRawNat g=0∧reRawNat kd=0∧h.get? a=some {cls:= .type "re.Pattern",dict:=none,data:= .fields #[p,f,g,x,y,.ref cd,kd],slots:=sl} ∧
  ∃o items n,h.get? cd=some o∧o.data= .seq items n∧items.map reRawOf=ct∧qj (ct.map (fun ω=>ω.toNat))
theorem noCtl_mem {x:Txt} (h:ZQ x=true): ∀k,k < (stO x).cps.size→32≤(stO x).cps.getD k 0∧(stO x).cps.getD k 0 < 127:=fun k hk=>by
 have hk':k < x.length:=by simpa [stO] using hk
 have e:(stO x).cps.getD k 0=x[k]:=by simp [stO,Array.getD,hk']
 rw [e]
 have:=zq.mp h x[k] (ww hk')
 rw [yC] at this
 exact ⟨zg this.1,zg this.2⟩
section
variable {prog:Program} {w:World} {A:Around} {E':Value→Shared→Prop} {s:Shared}
theorem pat_get {a:Addr} (H:YG s.heap a) {Q:Value×List Value→Shared→Prop} {pl:Sem Bool} (h:Q (.builtin "re.Pattern.search",[.ref a]) s):wpAny (model prog w) A (getMethod (.ref a) ("search":Str) pl) Q E' s:=by
 obtain ⟨p,f,g,x,y,cd,ct,kd,sl,_,_,ho,_⟩:=H.pa
 exact zdf ⟨_,ho,rfl⟩ WU ZA Wc (fun b e=>by cases e;exact ⟨_,ho,rfl⟩) h
theorem zaU {M:Model} {E:Value→Shared→Prop} {a:Addr} {o:Obj} {xs:Array Value} {n:Nat} (ho:s.heap.get? a=some o) (hd:o.data= .seq xs n) {Q:Option (Array Value)→Shared→Prop} (h:Q (some xs) s):wpAny M A (seqItems? (.ref a)) Q E s:=by
 unfold seqItems?
 refine zb (wpAny_load ho ?_)
 rw [hd]
 exact zi h
theorem zcl {M:Model} {a:Addr} {fs:Array Value} {sl:Array (Option Value)} {cd:Addr} {o:Obj} {items:Array Value} {n:Nat} {ct:Array Int} {t:Tok} {x:Str}
  (ho:s.heap.get? a=some {cls:= .type "re.Pattern",dict:=none,data:= .fields fs,slots:=sl}) (h2:reRawNat (fs.getD 2 .none)=0) (h5:fs.getD 5 .none= .ref cd) (h6:reRawNat (fs.getD 6 .none)=0) (hc:s.heap.get? cd=some o) (hd:o.data= .seq items n) (hi:items.map reRawOf=ct)
  {Q:ReTarget→Shared→Prop} (h: ∀t':ReTarget,t'.code=ct.map (fun ω=>ω.toNat)→t'.text=x.cps→t'.groups=0→t'.pos=0→t'.lim≤x.cps.size→Q t' s):wpAny M A (reTarget "re.Pattern.search" "search" ⟨[.ref a,.str x t],[]⟩) Q E' s:=by
 unfold reTarget
 dsimp only
 refine zb (YT (show reNamed "re.Pattern.search" "search" ["string","pos","endpos"] 1 [.str x t] []=pure [some (.str x t),none,none] from rfl) ?_)
 dsimp only
 refine zb (zi ?_)
 refine zb (zi ?_)
 unfold fieldsOf
 refine zb (zb (wpAny_load ho (zi ?_)))
 refine zb (YT (show reTextOf (.str x t)=pure (x.cps,0) from rfl) ?_)
 dsimp only
 rw [h6]
 rw [if_neg (by decide),if_neg (by decide)]
 refine zb (YT (show reNoCollectionInside (.str x t) 0=pure () from rfl) ?_)
 unfold reRawItems
 rw [h5]
 refine zb (zb (zaU hc hd (zi ?_)))
 refine zi (h _ ?_ rfl h2 ?_ ?_)
 ·rw [←hi];rfl
 ·show min (0:Int).toNat x.cps.size=0
  simp
 ·exact qm _ _
theorem pat_run {a:Addr} (H:YG s.heap a) {x:Txt} {t:Tok} (hx:ZQ x=true) {Q:Value→Shared→Prop} (h:Q .none s):wpAny (model prog w) A (call (.builtin "re.Pattern.search") [.ref a,.str (stO x) t]) Q E' s:=by
 obtain ⟨p,f,g,x1,y,cd,ct,kd,sl,h2,h6,ho,o,items,n,hc,hd,hi,ok⟩:=H.pa
 refine qk ZA ⟨_,ho,rfl⟩ XM ?_ (Xo _ _)
 unfold Builtin.«re.Pattern.search»
 refine zb (zcl ho h2 rfl h6 hc hd hi fun t' e1 e2 e3 e4 e5=> ?_)
 unfold reAnswer
 refine zb (QP ?_ ?_)
 ·rw [e1,e2,e4]
  exact zaV ok (by rw [e2] at*;exact e5) (noCtl_mem hx)
 ·exact zi ⟨_,rfl,h⟩
end
theorem code_name:qj #[14,10,4,1,1,22,0,31,16,127,0,13,7,22,0,31,16,127,0,1] where
 i0:=rfl
 i2:=rfl
 i3:=rfl
 miss:=fun c seen h1 h2=>by
  show∃s',(if (decide (0≤c)&&decide (c≤31))=true then _ else _)=_
  rw [if_neg (by simp;lia)]
  show∃s',(if (c==127)=true then _ else _)=_
  rw [if_neg (by simp;lia)]
  exact ⟨_,rfl⟩
theorem zcZ:qj #[14,14,4,1,1,9,4294966783,0,0,2147483648,0,0,0,0,0,13,11,9,4294966783,0,0,2147483648,0,0,0,0,0,1] where
 i0:=rfl
 i2:=rfl
 i3:=rfl
 miss:=fun c seen h1 h2=>by
  have hb: ∀c < 127,32≤c→((#[14,14,4,1,1,9,4294966783,0,0,2147483648,0,0,0,0,0,13,11,9,4294966783,0,0,2147483648,0,0,0,0,0,1]:Array Nat).getD (5+(1+c / 32)) 0).testBit (c % 32)=false:=by decide+kernel
  have hb':=hb c h2 h1
  show∃s',(if (decide (c < 256)&&_)=true then _ else _)=_
  rw [hb',Bool.and_false,if_neg (by simp)]
  exact ⟨_,rfl⟩
noncomputable def Cx.PatsOk (c:Cx):Prop:= ∀a,c.Γ.pats.contains a=true→YG c.h₀ a
theorem YG.mono {h h':Heap} {a:Addr} (k: ∀b o,h.get? b=some o→h'.get? b=some o) (H:YG h a):YG h' a:=by
 obtain ⟨p,f,g,x1,y,cd,ct,kd,sl,h2,h6,ho,o,items,n,hc,hd,hi,ok⟩:=H.pa
 exact ⟨p,f,g,x1,y,cd,ct,kd,sl,h2,h6,k _ _ ho,o,items,n,k _ _ hc,hd,hi,ok⟩
theorem Jc {c:Cx} {A:Around} (H:c.PatsOk):SearchOk c A where
 get:=fun {a s} hp k {Q E' pl} h=>pat_get ((H a hp).mono k) (h s.toks)
 run:=fun {a x t s} hp k hx {Q E'} h=>pat_run ((H a hp).mono k) hx (h s.toks)
end MI
end T6
section T7
open PySem PySem.Spec PySem.Calls PyProof.Rows PySem.W
namespace MI.Srt
open KasT
theorem go_wp {n:Nat} {α:Type} {lt:Nat→Nat→Bool} {cmp:Nat→Nat→(Bool→Shared→Prop)→Shared→Prop} {s:Shared} (hc: ∀i j (C:Bool→Shared→Prop),i < n→j < n→C (lt i j) s→cmp i j C s) {a:α} : ∀ {t:KasT α},Xi n lt t=some a→t.kasWp cmp (fun b s'=>s'=s∧b=a) s
 | .ret b,h=>⟨rfl,za h⟩
 | .ask i j k,h=>by
  refine k02 (if_i (b:=Nat.blt i n&&Nat.blt j n) (x:=Xi n lt (k (lt i j))) h) fun hb h=> ?_
  refine k02 (zB hb) fun h1 h2=> ?_
  exact hc i j _ (zg h1) (zg h2) (go_wp hc h)
section
variable {prog:Program} {w:World} {A:Around} {E:Value→Shared→Prop} {s:Shared}
noncomputable def QK (prog:Program) (w:World) (A:Around) (vs:List Value) (lt:Nat→Nat→Bool) (s:Shared):Prop:=
 wpAny (model prog w) A (keyKind' vs.toArray) (fun κ s'=>s'=s∧ ∀i j (C:Bool→Shared→Prop),i < vs.length→j < vs.length→C (lt i j) s→kas_ask prog w A κ vs i j C s) (fun ω ω=>False) s
noncomputable def outOf (vs:List Value) (p:Array Nat):List Value:=p.toList.map fun i=>vs.getD i Value.none
theorem range_getD (vs:List Value):outOf vs (List.range vs.length).toArray=vs:=by
 unfold outOf
 refine List.ext_getElem (by simp) fun i h1 h2=> ?_
 simp [h2]
noncomputable def Told2 (vs:List Value) (lt:Nat→Nat→Bool) (p:Array Nat):Prop:=(vs.length < 2∧p=(List.range vs.length).toArray)∨(2≤vs.length∧Xi vs.length lt (kas_sort vs.length)=some p∧p.size≤64)
theorem sort_list {a:Addr} {vs:List Value} {n:Nat} {lt:Nat→Nat→Bool} {p:Array Nat} {P:Fin→Shared→Prop} (ho:s.heap.get? a=some (seqObj "list" vs.toArray n)) (h64:vs.length < 64) (hp:Told2 vs lt p)
  (hask:2≤vs.length→ ∀h',(∀b o,b≠a→s.heap.get? b=some o→h'.get? b=some o)→QK prog w A vs lt {s with heap:=h'})
  (h:P (.done (.ret .none)) {s with heap:=sortedHeap s.heap a vs (outOf vs p).toArray}):
  wpAny (model prog w) A (Builtin.«list.sort» ⟨[.ref a],[]⟩) P E s:=by
 rw [list_sort_plain]
 have ha:a < s.heap.objs.size:=yr ho
 have hline:=yL
 refine zb (listItems_at ho rfl ?_)
 refine zb (listUpdate_at ho rfl ?_ (by rw [zz];lia) (zK _))
 obtain ⟨e1,ho1⟩: ∃e1,(s.heap.update a (Obj.mapSeq fun ω=> #[])).get? a=some (seqObj "list" #[] e1):=⟨_,get?_update_seq ho (fun ω=> #[])⟩
 refine zb (seqEpoch_at ho1 rfl ?_)
 refine zb (wpAny_newTuple ?_ (by show vs.length≤_;lia))
 refine zb (zax ?_ (zK _))
 refine yT ?_
 have keep: ∀b o,b≠a→s.heap.get? b=some o→(((s.heap.update a (Obj.mapSeq fun ω=> #[])).push (seqObj "tuple" vs.toArray 0)).push (seqObj "list" #[] 0)).get? b=some o:=fun b o hb e=>
  zn _ (zn _ ((ZH s.heap a (Obj.mapSeq fun ω=>(#[]:Array Value))).2 b hb▸e))
 have ho6:(((s.heap.update a (Obj.mapSeq fun ω=> #[])).push (seqObj "tuple" vs.toArray 0)).push (seqObj "list" #[] 0)).get? a=some (seqObj "list" #[] e1):=zn _ (zn _ ho1)
 show wpAny (model prog w) A _ P E {s with heap:=((s.heap.update a (Obj.mapSeq fun ω=> #[])).push (seqObj "tuple" vs.toArray 0)).push (seqObj "list" #[] 0)}
 dsimp only
 have hsz:vs.toArray.size=vs.length:=by simp
 by_cases h2:vs.toArray.size < 2
 ·rw [if_pos h2,if_pos h2]
  refine zb (zi ?_)
  rw [StateT.run_pure]
  refine zb (zi ?_)
  dsimp only
  have hp':p=(List.range vs.length).toArray:=by
   rcases hp with hp | hp
   ·exact hp.2
   ·exact absurd hp.1 (by lia)
  have ho':=h
  rw [hp',range_getD] at ho'
  have harr:(arrOf (SortSt.mk' general' (vs.toArray.zip vs.toArray) #[] 7 none)).map (fun ω=>ω.2)=vs.toArray:=by
   show (vs.toArray.zip vs.toArray).map (fun ω=>ω.2)=vs.toArray
   apply Array.ext
   ·simp
   ·intro i h1 h2;simp
  rw [harr]
  refine zb (seqEpoch_at ho6 rfl ?_)
  refine zb (listUpdate_at ho6 rfl ?_ (zK _) (by rw [hsz];lia))
  simp only [bne_self_eq_false,Bool.false_eq_true,if_false]
  exact zi ho'
 ·rw [if_neg h2,if_neg h2]
  refine zb (yD (hask (by lia) _ keep) (fun κ s' hk=> ?_) fun ω ω x=>x.elim)
  refine k02 hk fun q1 hcmp=> ?_;clear hk;subst q1
  have hp':Xi vs.length lt (kas_sort vs.length)=some p∧p.size≤64:=by
   rcases hp with hp | hp
   ·exact absurd hp.1 (by lia)
   ·exact hp.2
  have safe:=go_wp (n:=vs.length) hcmp hp'.1
  refine zb (yD (kat_run (E:=fun ω ω=>False) (Q:=fun st' s'=>arrOf st'=p.map (kas_item (vs.toArray.zip vs.toArray))∧failedOf st'=none∧s'=_) rfl (by lia) h64 (fun p' st' s' a1 a2 a3 a4=>by obtain ⟨q1,q2⟩:=a4;subst q2;exact ⟨a2,a3,q1⟩) safe) ?_ fun ω ω x=>x.elim)
  rintro ⟨⟨⟩,st'⟩ s' ⟨har,hf,rfl⟩
  dsimp only
  have hout:(arrOf st').map (fun ω=>ω.2)=(outOf vs p).toArray:=kat_snds rfl har
  have hos:(outOf vs p).toArray.size=p.size:=by
   unfold outOf
   rw [zz,zf,Array.length_toList]
  rw [hout]
  refine zb (seqEpoch_at ho6 rfl ?_)
  refine zb (listUpdate_at ho6 rfl ?_ (zK _) (by rw [hos];have:=hp'.2;lia))
  rw [hf]
  simp only [bne_self_eq_false,Bool.false_eq_true,if_false]
  exact zi h
theorem sorted_gen {l:Addr} {vs:List Value} {lt:Nat→Nat→Bool} {p:Array Nat} {Q:Value→Shared→Prop} (hl:s.heap.IsList l vs.toArray) (h64:vs.length < 64) (hp:Told2 vs lt p)
  (hask:2≤vs.length→ ∀h',(∀b o,s.heap.get? b=some o→h'.get? b=some o)→QK prog w A.in1.in1 vs lt {s with heap:=h'})
  (h:Q (.ref (s.heap.objs.size+1)) {s with heap:=sortedAll s.heap vs (outOf vs p).toArray}):
  wpAny (model prog w) A (call (.builtin "sorted") [.ref l]) Q E s:=by
 have hline:=yL
 refine Calls.call_function_entry kind_sorted plain_sorted entry_sorted (args_sorted1 _) ?_
 unfold Builtin.«sorted»
 refine zb (m:=checkCount "sorted" 1 1 _) (zi ?_)
 refine zb (collect_list hl ?_ (by lia))
 refine zb (zax ?_ (by lia))
 have hsz:((s.heap.push (seqObj "list" #[] 0)).update s.heap.objs.size (Obj.mapSeq (fun ω=>ω++vs.toArray))).objs.size=s.heap.objs.size+1:=by
  rw [Heap.size_update,size_push']
 have hoL:(((s.heap.push (seqObj "list" #[] 0)).update s.heap.objs.size (Obj.mapSeq (fun ω=>ω++vs.toArray))).push (seqObj "list" vs.toArray 0)).get? (s.heap.objs.size+1)=some (seqObj "list" vs.toArray 0):=by
  rw [←hsz];exact zD _ rfl
 have keep: ∀b o,s.heap.get? b=some o→(((s.heap.push (seqObj "list" #[] 0)).update s.heap.objs.size (Obj.mapSeq (fun ω=>ω++vs.toArray))).push (seqObj "list" vs.toArray 0)).get? b=some o:=fun b o q=>by
  have hlt:b < s.heap.objs.size:=yr q
  rw [Heap.get?_push_ne _ _ _ (by rw [hsz];exact yi (yg hlt)),Heap.get?_update_ne _ _ _ _ (yi hlt),Heap.get?_push_ne _ _ _ (yi hlt)]
  exact q
 show wpAny _ _ _ _ _ {s with heap:=((s.heap.push (seqObj "list" #[] 0)).update s.heap.objs.size (Obj.mapSeq (fun ω=>ω++vs.toArray))).push (seqObj "list" vs.toArray 0)}
 rw [hsz]
 refine zb (yT (qk slot_list_sort ⟨_,hoL,rfl⟩ entry_list_sort ?body (args_list_sort _)))
 case body=>
  refine sort_list (s:= {s with heap:=((s.heap.push (seqObj "list" #[] 0)).update s.heap.objs.size (Obj.mapSeq (fun ω=>ω++vs.toArray))).push (seqObj "list" vs.toArray 0)}) (lt:=lt) (p:=p) hoL h64 hp (fun h2 h' k=>hask h2 h' fun b o e=>k b o (yi (yg (yr e))) (keep b o e)) ?_
  exact ⟨_,rfl,zi ⟨_,rfl,h⟩⟩
end
end MI.Srt
namespace MI.Srt
section
variable {prog:Program} {w:World} {A:Around} {E:Value→Shared→Prop} {s:Shared}
theorem lex2 {p q p' q':Value} {ea eb la lb:Bool} {C:Bool→Shared→Prop} (h1: ∀Q:Bool→Shared→Prop,Q ea s→wpAny (model prog w) A (eqBool p q) Q (fun ω ω=>False) s) (l1: ∀Q:Bool→Shared→Prop,Q la s→wpAny (model prog w) A (oneLt' true p q) Q (fun ω ω=>False) s)
  (h2: ∀Q:Bool→Shared→Prop,Q eb s→wpAny (model prog w) A (eqBool p' q') Q (fun ω ω=>False) s) (l2: ∀Q:Bool→Shared→Prop,Q lb s→wpAny (model prog w) A (oneLt' false p' q') Q (fun ω ω=>False) s)
  (hc:C (if ea then (if eb then false else lb) else la) s):KatLex prog w A true false C [(p,q),(p',q')] 0 s:=by
 refine kat_cons (h1 _ ?_)
 cases ea with
 | false=>exact kat_no (l1 _ hc)
 | true=>
  refine kat_yes (kat_cons (h2 _ ?_))
  cases eb with
  | false=>exact kat_no (l2 _ hc)
  | true=>exact kat_yes (kat_nil hc)
theorem lex_ints {a b c d:Int} {t1 t2 t3 t4:Tok} {C:Bool→Shared→Prop} (hc:C (ltP (a,b) (c,d)) s):KatLex prog w A true false C [(.int a t1,.int c t2),(.int b t3,.int d t4)] 0 s:=by
 refine lex2 (ea:=a==c) (eb:=b==d) (la:=decide (a < c)) (lb:=decide (b < d)) (fun Q h=>wpAny_eqBool_int h) (fun Q h=>oneLt_int h) (fun Q h=>wpAny_eqBool_int h) (fun Q h=>kat_one _ _ (PyProof.Rows.lt_int h)) ?_
 have e:ltP (a,b) (c,d)=(if a==c then (if b==d then false else decide (b < d)) else decide (a < c)):=by
  show (decide (a < c) || (decide (a=c)&&decide (b < d)))=_
  by_cases h1:a=c
  ·subst h1
   by_cases h2:b=d
   ·subst h2;simp
   ·simp [h2]
  ·simp [h1]
 rw [←e];exact hc
end
end MI.Srt
namespace MI.Srt
section
variable {prog:Program} {w:World} {A:Around} {s:Shared} {P:Params} {r:Rh}
theorem getD_some {α:Type} {l:List α} {i:Nat} {d v:α} (h:l[i]? =some v):l.getD i d=v:=by
 rw [zk,h];rfl
theorem VRs.at {h:Heap} {xs:List V} {vs:List Value} (x:VRs P r h xs vs) {i:Nat} (hi:i < vs.length): ∃v u,xs[i]? =some v∧vs[i]? =some u∧v∈xs∧VR P r h v u:=by
 have hl:i < xs.length:=by rw [←x.length];exact hi
 refine k12 (x.get (zj hl)) fun u hu hr=> ?_
 exact ⟨_,u,zj hl,hu,ww hl,hr⟩
theorem intOf_i {v:V} {i:Int} (h:jz v=some i):v= .int i:=by
 cases v with
 | int a=>exact za h▸rfl
 | _=>exact ns h
theorem WX {v:V} {p:Int×Int} (h:ZM v=some p):v= .tup [.int p.1,.int p.2]:=by
 cases v with
 | tup vs=>cases vs with
  | nil=>exact ns h
  | cons x r=>cases r with
   | nil=>exact ns h
   | cons y r=>cases r with
    | cons z r=>exact ns h
    | nil=>
     refine k12 (ze.mp h) fun a ha h=> ?_
     refine k12 (zc.mp h) fun b hb h=> ?_
     cases h
     cases intOf_i ha
     cases intOf_i hb
     rfl
 | _=>exact ns h
theorem VR.II_inv {h:Heap} {a b:Int} {u:Value} (x:VR P r h (.tup [.int a,.int b]) u): ∃ad n t t',u= .ref ad∧h.get? ad=some (tupO [.int a t,.int b t'] n):=by
 refine k35 (x.tup_inv) fun items n ad q4 hg hm hxs hz=> ?_;subst q4
 refine k23 hxs.inv fun u us q p p2=> ?_;subst q
 refine k23 p2.inv fun u' us q p' p3=> ?_;subst q
 cases p3.inv
 refine k11 (p.int_inv) fun t0 q5=> ?_;subst q5
 refine k11 (p'.int_inv) fun t1 q6=> ?_;subst q6
 exact ⟨ad,n,t0,t1,rfl,hg⟩
theorem tups_II {h:Heap} {xs:List V} {vs:List Value} (x:VRs P r h xs vs):(∀v∈xs,(ZM v).isSome=true)→ ∃fs,KatTups h vs fs∧fs.length=vs.length∧ ∀v∈fs,∃i t,v= .int i t:=
 x.ind (M:=fun xs vs=>(∀v∈xs,(ZM v).isSome=true)→ ∃fs,KatTups h vs fs∧fs.length=vs.length∧ ∀v∈fs,∃i t,v= .int i t) (fun ω=>⟨[],.nil,rfl,fun ω h=>nomatch h⟩) fun a ω ih hx=>by
  refine k13 (ih fun v hv=>hx v (.tail _ hv)) fun fs t hl hf=> ?_
  refine k11 (zP.mp (hx _ (.head _))) fun p hp=> ?_
  cases WX hp
  refine k42 (VR.II_inv a) fun ad n t0 t1 q hg=> ?_;subst q
  exact ⟨.int p.1 t0::fs,.cons hg rfl rfl rfl t,congrArg Nat.succ hl,fun v hv=>(zh.mp hv).elim (fun q=>⟨_,_,q⟩) (hf v)⟩
theorem ints_are {h:Heap} {xs:List V} {vs:List Value} (x:VRs P r h xs vs):(∀v∈xs,(jz v).isSome=true)→ ∃ns,IntsAre vs ns:=
 x.ind (M:=fun xs vs=>(∀v∈xs,(jz v).isSome=true)→ ∃ns,IntsAre vs ns) (fun ω=>⟨[],.nil⟩) fun a ω ih hx=>by
  refine k11 (ih fun v hv=>hx v (.tail _ hv)) fun l hl=> ?_
  refine k11 (zP.mp (hx _ (.head _))) fun i hi=> ?_
  cases intOf_i hi
  refine k11 a.int_inv fun t q=> ?_;subst q
  exact ⟨i::l,.cons i t hl⟩
theorem ltV_int (a b:Int):ltV (.int a) (.int b)=decide (a < b):=Bool.or_false _
theorem ltV_pair (a b c d:Int):ltV (.tup [.int a,.int b]) (.tup [.int c,.int d])=ltP (a,b) (c,d):=rfl
theorem ask_II {xs:List V} {vs:List Value} (x:VRs P r s.heap xs vs) (hD: ∀v∈xs,(ZM v).isSome=true) (h2:2≤vs.length):QK prog w A vs (ltAt xs) s:=by
 refine k13 (tups_II x hD) fun fs tp hl hf=> ?_
 unfold QK
 refine kat_kind (T:= .type "int") tp (by lia) (fun v hv=> ?_) (by decide) ⟨rfl,fun i j C hi hj hC=> ?_⟩
 ·refine k21 (hf v hv) fun i t q7=> ?_;subst q7
  exact Looks.of_pure rfl
 ·refine k24 (VRs.at x hi) fun a u ea eu ma ra=> ?_
  refine k24 (VRs.at x hj) fun b u' eb eu' mb rb=> ?_
  replace hC:C (ltV (xs.getD i .none) (xs.getD j .none)) s:=hC
  rw [getD_some ea,getD_some eb] at hC
  refine k11 (zP.mp (hD _ ma)) fun p hp=> ?_
  refine k11 (zP.mp (hD _ mb)) fun p' hp'=> ?_
  cases WX hp
  cases WX hp'
  refine k42 (VR.II_inv ra) fun ad n t t' q10 hg=> ?_;subst q10
  refine k42 (VR.II_inv rb) fun bd m k k' q11 hg'=> ?_;subst q11
  rw [ltV_pair] at hC
  unfold kas_ask
  rw [getD_some eu,getD_some eu']
  exact kat_lt hg rfl hg' rfl (lex_ints hC)
theorem ask_I {xs:List V} {vs:List Value} (x:VRs P r s.heap xs vs) (hD: ∀v∈xs,(jz v).isSome=true) (h2:2≤vs.length):QK prog w A vs (ltAt xs) s:=by
 refine k11 (ints_are x hD) fun l hl=> ?_
 have hk:keyKind' vs.toArray=pure oneType':=by
  cases vs with
  | nil=>exact absurd h2 (by decide)
  | cons a vs=>cases vs with
   | nil=>exact absurd h2 (by simp)
   | cons b vs=>exact keyKind_ints hl
 unfold QK
 rw [hk]
 refine zi ⟨rfl,fun i j C hi hj hC=> ?_⟩
 refine k24 (VRs.at x hi) fun a u ea eu ma ra=> ?_
 refine k24 (VRs.at x hj) fun b u' eb eu' mb rb=> ?_
 replace hC:C (ltV (xs.getD i .none) (xs.getD j .none)) s:=hC
 rw [getD_some ea,getD_some eb] at hC
 refine k11 (zP.mp (hD _ ma)) fun p hp=> ?_
 refine k11 (zP.mp (hD _ mb)) fun p' hp'=> ?_
 cases intOf_i hp
 cases intOf_i hp'
 refine k11 ra.int_inv fun t q=> ?_;subst q
 refine k11 rb.int_inv fun t' q=> ?_;subst q
 rw [ltV_int] at hC
 unfold kas_ask
 rw [getD_some eu,getD_some eu']
 exact kat_lt_int hC
theorem ask_all {xs:List V} {vs:List Value} (x:VRs P r s.heap xs vs) (hD:((xs.all fun v=>(jz v).isSome) || xs.all fun v=>(ZM v).isSome)=true) (h2:2≤vs.length):QK prog w A vs (ltAt xs) s:=
 (xx.mp hD).elim (fun h=>ask_I x (zq.mp h) h2) fun h=>ask_II x (zq.mp h) h2
end
theorem out_rel {P:Params} {r:Rh} {h:Heap} {xs:List V} {vs:List Value} (x:VRs P r h xs vs): ∀(l:List Nat),VRs P r h (l.map fun i=>xs.getD i .none) (l.map fun i=>vs.getD i Value.none)
 | []=> .nil
 | i::l=>by
  refine .cons ?_ (out_rel x l)
  by_cases hi:i < vs.length
  ·refine k24 (VRs.at x hi) fun a u ea eu ma ra=> ?_
   dsimp only
   rw [getD_some ea,getD_some eu]
   exact ra
  ·have h1:xs.length≤i:=by rw [←x.length];exact qo hi
   dsimp only
   rw [zk,zk,yj h1,yj (qo hi)]
   exact .none
end MI.Srt
namespace MI
theorem Out.listAt {c:Cx} {r:Rh} {s:Shared} {σ σ':H} {v:V} {Q:Value→Shared→Prop} {vs:List V} {items:List Value} (O:Out c r s σ' v Q) (e:mkL vs σ=some (v,σ')) (R:c.R r σ s.heap)
  (x:VRs c.w.params r s.heap vs items) {h':Heap} {D:Addr} {n:Nat} (k: ∀b o,s.heap.get? b=some o→h'.get? b=some o) (hD:s.heap.get? D= .none) (hg:h'.get? D=some (lstO items n)) (tk:Nat):Q (.ref D) {s with heap:=h',toks:=tk} :=by
 refine k03 (YN e) fun hl q1 q2=> ?_;subst q1;subst q2
 have mv:Mv r s.heap {r with ob:=r.ob++ [(D,D)]} h':=Step.mv ⟨⟨_,rfl,fun q hq=>by rw [zv.mp hq];exact ⟨hD,hD⟩⟩,rfl,fun b ob e ω=>k b ob e,fun b ob e=>⟨ob,k b ob e⟩⟩
 refine k02 (R.push (p:=(D,D)) k hD hD (.list vs items n _ hg (x.mv mv) (by rw [x.length];lia))) fun R' S'=> ?_
 refine O _ _ _ tk R' S' ?_
 refine .ref _ (D,D) ?_
 show (r.ob++ [_])[σ.length]? =_
 rw [←R.len,zJ (zo _),xG];rfl
theorem zb8 {c:Cx} {A:Around} :zaq c A:=by
 intro i xs σ σ' v r s u hi hk e R x Q E' O
 refine k35 (R.listAt hi x) fun a items n q3 hp hg hxs hl=> ?_;subst q3
 refine k02 (zB hk) fun h64 hD=> ?_
 have h64:xs.length < 64:=zg h64
 have hlen:=hxs.length
 have go: ∀p:Array Nat,Srt.Told2 items (ltAt xs) p→mkL (p.toList.map fun i=>xs.getD i .none) σ=some (v,σ')→wpAny c.M A (call (.builtin "sorted") [.ref a] []) Q E' s:=fun p hp e=>by
  refine Srt.sorted_gen (yt hg) (by lia) hp (fun h2 h' k=>Srt.ask_all (hxs.step (Step.grow k)) hD h2) ?_
  refine k11 (sortedAll_at s.heap items (Srt.outOf items p).toArray) fun m hm=> ?_
  exact O.listAt e R (Srt.out_rel hxs p.toList) (fun b o e=>sortedAll_old e) (yS s.heap (wZ _)) hm s.toks
 unfold Ja at e
 by_cases h2:Nat.blt xs.length 2=true
 ·rw [if_pos h2] at e
  refine go (List.range items.length).toArray (.inl ⟨by rw [hlen];exact zg h2,rfl⟩) ?_
  rw [hlen]
  have:((List.range xs.length).toArray.toList.map fun i=>xs.getD i .none)=xs:=by
   refine List.ext_getElem (by simp) fun i h1 h2=> ?_
   simp [h2]
  rw [this]
  exact e
 ·rw [if_neg h2] at e
  cases hg:Xi xs.length (ltAt xs) (PySem.W.kas_sort xs.length) with
  | none=>rw [hg] at e;exact ns e
  | some p=>
   rw [hg] at e
   refine k02 (if_i e) fun h3 e=> ?_
   refine go p (.inr ⟨?_,by rw [hlen];exact hg,zg h3⟩) e
   rw [hlen]
   exact qo fun h=>h2 (zT h)
theorem mt_i {f:Txt→Option Meth} {o:Option Txt} {y:Meth} (e:(match o with
  | some m=>f m
  | .none=> .none)=some y): ∃m,o=some m∧f m=some y:=by
 cases o with
 | none=>exact ns e
 | some x=>exact ⟨x,rfl,e⟩
theorem two_arg {as:List V} {f:V→V→Option (V×H)} {v:V} {σ':H} (e:(match as with
 | [x,y]=>f x y
 | _=>Option.none)=some (v,σ')): ∃a b,as= [a,b]∧f a b=some (v,σ'):=by
 cases as with
 | nil=>exact ns e
 | cons a as=>cases as with
  | nil=>exact ns e
  | cons b as=>cases as with
   | nil=>exact ⟨a,b,rfl,e⟩
   | cons _ _=>exact ns e
theorem me_dget {c:Cx} {A:Around} {cf:Cf} (hOk:c.Ok) {a:Addr} {s:Shared} {r:Rh} {σ:H} (h2:(c.Γ.dicts.lookup a).isSome=true) (R:c.R r σ s.heap):MeAt c A cf (.dget a) (.ref a) "get" r s:=by
 refine k11 (zP.mp h2) fun kvs hk=> ?_
 refine k02 (hOk.tab _ _ hk) fun hs hK=> ?_
 refine k22 hK fun es n hK T=> ?_
 have ho:s.heap.get? a=some (dctO es n):=R.base _ _ (c.X _ _ hK)
 refine ⟨.builtin "dict.get",[.ref a],.builtin,fun Q E' pl h=>zbr PySem.F.slot_dict_get PySem.F.type_dict_get ho (h s.toks),fun as ks r' σ₁ σ' s' v items kit e S R' x' k' Q E' O=> ?_⟩
 refine k02 (za7 k' e) fun q1 e1=> ?_;subst q1
 refine k22 (two_arg (f:=fun v d=>(YX v).bind fun k=>(c.Γ.dicts.lookup a).map fun kvs=>((qc k kvs).getD d,σ₁)) e1) fun p d q2 e2=> ?_;subst q2
 refine k23 x'.two fun u1 u2 q3 x1 x2=> ?_;subst q3
 refine k12 (ze.mp e2) fun k hk1 e3=> ?_
 refine k12 (zc.mp e3) fun kvs' hk' e4=> ?_
 refine k02 (Wk x1 hk1) fun q4 q5=> ?_
 refine k11 q5 fun t1 q5=> ?_;subst q5
 cases e4
 exact m_dget hOk.tab R' hk' x2 O
theorem me_search {c:Cx} {A:Around} {cf:Cf} (hP:c.PatsOk) {a:Addr} {s:Shared} {r:Rh} {σ:H} (h2:c.Γ.pats.contains a=true) (R:c.R r σ s.heap):MeAt c A cf (.search a) (.ref a) "search" r s:=by
 refine ⟨.builtin "re.Pattern.search",[.ref a],.builtin,fun Q E' pl h=>(Jc (A:=A) hP).get h2 R.base h,fun as ks r' σ₁ σ' s' v items kit e S R' x' k' Q E' O=> ?_⟩
 refine k02 (za7 k' e) fun q1 e1=> ?_;subst q1
 refine k24 (Xd (f:=fun v=>(YX v).bind fun s=>if ZQ s then some (.none,σ₁) else .none) e1 x') fun w u1 q2 q3 x1 e2=> ?_;subst q3
 refine k12 (ze.mp e2) fun k hk1 e3=> ?_
 refine k02 (xj e3) fun hn e4=> ?_
 refine k02 (Wk x1 hk1) fun q4 q5=> ?_
 refine k11 q5 fun t1 q5=> ?_;subst q5
 cases e4
 exact (Jc (A:=A) hP).run h2 R'.base hn fun tk=>O _ r' _ tk R' (Step.refl _ _) .none
theorem me_ok {c:Cx} {A:Around} {cf:Cf} (hOk:c.Ok) (hP:c.PatsOk):MeOk c A cf:=by
 intro ov x name m u r σ s hm hf hx R y
 show MeAt c A cf m u name r s
 cases ov with
 | ref i=>
  unfold yA at hm
  dsimp only at hm
  cases hi:σ[i]? with
  | none=>rw [hi] at hm;exact ns hm
  | some o=>
   rw [hi] at hm
   cases o with
   | inst C fs=>
    dsimp only at hm
    cases hl:look x fs with
    | some w=>rw [hl] at hm;exact ns hm
    | none=>
     rw [hl] at hm
     refine k12 (zc.mp hm) fun f ω q=> ?_
     exact absurd q.symm (hf f _)
   | list xs=>
    refine k12 (mt_i (o:=c.Γ.ids[x]?) (f:=fun m=>if XG.any (yW m) then some (.lst i m) else .none) hm) fun m' hm' hm=> ?_
    refine k02 (xj hm) fun hl hm=> ?_;subst hm
    exact me_lst hOk hi hm' hl hx R y
 | str w=>
  refine k12 (mt_i (o:=c.Γ.ids[x]?) (f:=fun m=>if YY.any (yW m) then some (.str w m) else .none) hm) fun m' hm' hm=> ?_
  refine k02 (xj hm) fun hl hm=> ?_;subst hm
  exact me_str hOk hm' hl hx y
 | cst w=>
  cases w with
  | ref a=>
   cases y.cst_inv
   refine k12 (mt_i (o:=c.Γ.ids[x]?) (f:=fun m=>if yW m [103,101,116]&&(c.Γ.dicts.lookup a).isSome then some (.dget a)
   else if yW m [115,101,97,114,99,104]&&c.Γ.pats.contains a then some (.search a) else .none) hm) fun m' hm' hm=> ?_
   have hname:=JW hOk hx hm'
   rcases ite_i hm with ⟨hc,hm⟩ | ⟨_,hm⟩
   ·cases hm
    refine k02 (zB hc) fun h1 h2=> ?_
    cases wE h1
    rw [hname,n_get]
    exact me_dget hOk h2 R
   ·refine k02 (xj hm) fun hc hm=> ?_
    cases hm
    refine k02 (zB hc) fun h1 h2=> ?_
    cases wE h1
    rw [hname,n_search]
    exact me_search hP h2 R
  | _=>exact ns hm
 | _=>exact ns hm
inductive DP (P:Params) (r:Rh) (h:Heap):List Int→List V→List (Value×Value)→Prop
 | nil:DP P r h [] [] []
 | cons {k t u w ks us ps} :VR P r h u w→DP P r h ks us ps→DP P r h (k::ks) (u::us) ((.int k t,w)::ps)
section
variable {P:Params} {r r':Rh} {h h':Heap} {ks:List Int} {us:List V} {ps:List (Value×Value)}
theorem DP.all (x:DP P r h ks us ps):allIntKeys ps=true:=by
 induction x with
 | nil=>rfl
 | cons a _ ih=>exact ih
theorem DP.keys (x:DP P r h ks us ps):(intKeyPairs ps).map (fun ω=>ω.1)=ks:=by
 induction x with
 | nil=>rfl
 | cons a _ ih=>exact congrArg (List.cons _) ih
theorem DP.find {i:Int} {v:V} (x:DP P r h ks us ps):pickL i ks us=some v→ ∃u,valueAt (intKeyPairs ps) i=some u∧VR P r h v u:=by
 induction x with
 | nil=>exact fun e=>ns e
 | @cons k t u w ks us ps a _ ih=>
  intro e
  replace e:(if decide (k=i)=true then some u else pickL i ks us)=some v:=e
  show∃y,(((k,w)::intKeyPairs ps).find? fun p=>p.1==i).map (fun ω=>ω.2)=some y∧_
  by_cases hk:k=i
  ·rw [if_pos (decide_eq_true hk)] at e
   cases za e
   rw [List.find?_cons_of_pos (p:=fun p:Int×Value=>p.1==i) (beq_iff_eq.mpr hk)]
   exact ⟨w,rfl,a⟩
  ·rw [if_neg fun q=>hk (of_decide_eq_true q)] at e
   rw [List.find?_cons_of_neg (p:=fun p:Int×Value=>p.1==i) fun q=>hk (eq_of_beq q)]
   exact ih e
end
section
variable {c:Cx} {A:Around} {E':Value→Shared→Prop} {s:Shared} {sc:Scope} {env:Env} {r:Rh} {σ σ' σ₁:H} {vars:Vars} {v:V} {ev:Ev}
theorem emp_int {h:Heap} {d:Addr} (e:h.get? d=some {cls:= .type "dict",data:= .dict #[]}):h.DictOf (intKind c.prog c.w) d []:=
 ⟨_,#[],0,e,⟨rfl,rfl,rfl⟩,rfl,fun ω hd=>absurd hd (Array.not_mem_empty _),.nil,.nil⟩
theorem za5 (ih:EvOk c A ev) {q:Pos} : ∀(ks:List (Int×Nat×Pos)) {vs:List AE} {r:Rh} {σ σ₁:H} {s:Shared} {us:List V},ks.length=vs.length→okL c.t sc vs=true→zY c sc env r.pv→zN c sc env r s.heap vars→c.R r σ s.heap→yO ev (erL vs) vars σ=some (us,σ₁)→ ∀ {Q:List (Value×Value)→Shared→Prop},
  (∀r' h' tk ps,c.R r' σ₁ h'→Step r s.heap r' h'→DP c.w.params r' h' (ks.map (fun ω=>ω.1)) us ps→Q ps {s with heap:=h',toks:=tk})→wpAny c.M A (evalPairs (pairTrees (ks.map fun k=>some (.Constant (.int k.1) k.2.1 k.2.2)) (unL vs) env q)) Q E' s:=by
 intro ks
 induction ks with
 | nil=>
  intro vs r σ σ₁ s us hl ok eo vo R e Q O
  cases vs with
  | nil=>cases e;exact pairTrees_nil_walk (O r s.heap s.toks [] R (Step.refl _ _) .nil)
  | cons _ _=>exact absurd hl (yZ _).symm
 | cons k ks ihk=>
  intro vs r σ σ₁ s us hl ok eo vo R e Q O
  cases vs with
  | nil=>exact absurd hl (yZ _)
  | cons a vs=>
   refine k02 (zB ok) fun h1 h2=> ?_
   refine k22 (vh_i ((Qy ev vars σ a.er (erL vs)).symm.trans e)) fun w σ₂ e1 e2=> ?_
   refine k22 (vs_i e2) fun ws σ₃ e3 e4=> ?_
   cases e4
   refine pairTrees_cons_walk (wpAny_Constant_int ?_)
   refine ih (s:= {s with toks:=s.toks+1}) (.mk h1) eo vo R e1 fun uw r₁ h₁ tk₁ R₁ S₁ xw=> ?_
   refine ihk (s:= {s with heap:=h₁,toks:=tk₁}) (ql hl) h2 (eo.step S₁) (vo.step eo R S₁) R₁ e3 fun r₂ h₂ tk₂ ps R₂ S₂ d=> ?_
   exact O r₂ h₂ tk₂ _ R₂ (S₁.trans S₂) (.cons (xw.step S₂) d)
theorem zcT (ih:EvOk c A ev) {ks:List (Int×Nat×Pos)} {vs:List AE} {q p:Pos} {i:AE} (hn:(ks.map (fun ω=>ω.1)).Nodup) (hl:ks.length=vs.length) (hz:vs.length≤15) (hv:okL c.t sc vs=true) (hs:jy i.un=false) (hi:i.ok c.t sc=true) (eo:zY c sc env r.pv) (vo:zN c sc env r s.heap vars) (R:c.R r σ s.heap)
  {us:List V} {σ₂:H} {w:V} (e1:yO ev (erL vs) vars σ=some (us,σ₁)) (e2:ev i.er vars σ₁=some (w,σ₂)) (e3:Je (ks.map (fun ω=>ω.1)) us w=some v) {Q:Value→Shared→Prop} (O:Out c r s σ₂ v Q):
  wpAny c.M A (eval (.Subscript (.Dict (ks.map fun k=>some (.Constant (.int k.1) k.2.1 k.2.2)) (unL vs) q) i.un p) env) Q E' s:=by
 refine k12 (ze.mp e3) fun j hj e3=> ?_
 cases Srt.intOf_i hj
 have hul:(unL vs).length=vs.length:=YI vs
 refine Subscript_ (wpAny_Dict_walk (knd:=intKind c.prog c.w) (by rw [List.all_map];exact zq.mpr fun ω ω=>rfl) (by rw [zf,hl,hul]) (fun q=> ?_) (by rw [zf,hl];exact hz) ?_)
 ·cases ks with
  | nil=>exact ns e3
  | cons _ _=>exact nomatch q
 have n0:=Yh s.heap
 have k0: ∀b o,s.heap.get? b=some o→(s.heap.push {cls:= .type "dict",data:= .dict #[]}).get? b=some o:=fun b o e=>zn _ e
 have g0:(s.heap.push {cls:= .type "dict",data:= .dict #[]}).get? s.heap.objs.size=some {cls:= .type "dict",data:= .dict #[]} :=zD _ rfl
 generalize s.heap.push {cls:= .type "dict",data:= .dict #[]} =hA at k0 g0
 generalize s.heap.objs.size=d at n0 g0
 have nL: ∀b∈ [d],s.heap.get? b= .none:=fun b hb=>yz.mp hb▸n0
 refine k02 (R.enter (L:= [d]) k0 nL fun b hb=>yz.mp hb▸⟨_,g0⟩) fun RA MA=> ?_
 refine za5 (s:= {s with heap:=hA}) ih ks hl hv (eo.wider fun b hb=>zC _ hb) (vo.keepE (fun b ω o e=>k0 b o e) MA) RA e1 fun r₁ h₁ tk₁ ps R₁ S₁ dp=> ?_
 have dpv: ∀b∈ [d],b∈r₁.pv:=fun b hb=>S₁.pv▸zr _ hb
 have g1:=S₁.keep d _ g0 (RA.pvo d (zr _ (.head _)))
 refine display_done_int dp.all (dp.keys.symm▸hn) (emp_int g1) fun h₂ hm hs2=> ?_
 have d2: ∃o,h₂.get? d=some o:=hm.elim fun o z=>⟨o,z.elim fun ω z=>z.elim fun ω z=>z.1⟩
 refine k02 (R₁.chg (X:=(fun ω=>ω∈ [d])) (h':=h₂) dpv (fun b o e nb=>(hs2.2 b fun q=>nb (yz.mpr q)).trans e) (fun b o e=>by
  by_cases q:b=d
  ·exact q▸d2
  ·exact ⟨o,(hs2.2 b q).trans e⟩)) fun R₂ S₂=> ?_
 have eo₁:zY c sc env r₁.pv:=S₁.pv▸eo.wider fun b hb=>zC _ hb
 have envD: ∀b,qt env b→b≠d:=fun b hb q=>by
  have hb':b∈r.pv:=hb.elim (fun q=>q▸eo.lpv) fun q=>q.elim fun x hx=>eo.cpv x b hx
  exact (R.pvl b hb').elim fun o e=>ns (n0.symm.trans (q▸e))
 have vo₂:zN c sc env r₁ h₂ vars:=(((vo.keepE (fun b ω o e=>k0 b o e) MA).step (eo.wider fun b hb=>zC _ hb) RA S₁)).keepE (fun b hb o e=>(hs2.2 b (envD b hb)).trans e) (S₂.mv dpv)
 refine ih (s:= {s with heap:=h₂,toks:=tk₁+ps.length}) (.mk hi) eo₁ vo₂ R₂ e2 fun ui r₃ h₃ tk₃ R₃ S₃ xi=> ?_
 refine k11 xi.int_inv fun t q=> ?_;subst q
 have hm3:h₃.DictOf (intKind c.prog c.w) d (intKeyPairs ps):=hm.elim fun o z=>⟨o,z.elim fun es z=>z.elim fun ep z=>⟨es,ep,S₃.keep d _ z.1 (R₂.pvo d (dpv d (.head _))),z.2⟩⟩
 refine k12 (dp.find e3) fun x hx hr=> ?_
 refine tail_any hm3.typeIs slot_dict_getitem.lookup ?_ (wk hs _ _)
 refine wpAny_getItem_of (s:= {s with heap:=h₃,toks:=tk₃}) (knd:=intKind c.prog c.w) (k:=j) (by simp [intKind,Value.isInt]) hm3.mapOf hx ?_
 have hpv:r₃.pv=r.pv++ [d]:=S₃.pv.trans S₁.pv
 refine k02 (Rel.leave R₃ hpv (fun b hb q=>(R.pvl b hb).elim fun o e=>ns ((nL b q).symm.trans e)) (h':=h₃) fun b o e ω=>e) fun R₄ M₄=> ?_
 have S₄:Step r s.heap {r₃ with pv:=r.pv} h₃:=yB.exit (X:=(fun ω=>ω∈ [d])) (L:= [d]) k0 nL ((S₁.x.trans S₂).trans S₃.x) fun b hb=>hb
 exact O x {r₃ with pv:=r.pv} h₃ _ R₄ S₄ (((hr.mv (S₂.mv dpv)).step S₃).mv M₄)
theorem farE_i {a:AE} (h:farE a.er=true): ∃ks vs q i p,a= .dsub ks vs q i p:=by
 cases a with
 | dsub ks vs q i p=>exact ⟨ks,vs,q,i,p,rfl⟩
 | _=>exact nomatch h
theorem far_node {cf:Cf} (m:Nat) (IH: ∀k,k≤m→EvOk c A (MI.ev c.Γ cf k)):zar c A (m+1) cf farE:=by
 intro sc e u env r σ σ' s vars v hf tr eo vo R eq Q E' O
 refine k13 tr fun a q1 q2 h=> ?_;clear tr;subst q1;subst q2
 refine (farE_i hf).elim fun ks h'=>h'.elim fun vs h'=>h'.elim fun q h'=>h'.elim fun i h'=>h'.elim fun p qa=> ?_
 subst qa
 refine k02 (zB h) fun h1 h=> ?_
 refine k02 (zB h) fun ω h=> ?_
 refine k02 (zB h) fun h2 h=> ?_
 refine k02 (zB h) fun h3 h=> ?_
 refine k02 (zB h) fun h4 h=> ?_
 refine k02 (zB h) fun h5 h6=> ?_
 refine k22 (vs_i (o:=yO (MI.ev c.Γ cf m) (erL vs) vars σ) (f:=fun us σ=>match MI.ev c.Γ cf m i.er vars σ with | some (w,σ)=>(Je (ks.map (fun ω=>ω.1)) us w).map (fun ω=>(ω,σ)) | .none=> .none) eq) fun us σ₁ e1 e=> ?_
 refine k22 (vh_i e) fun w σ₂ e2 e=> ?_
 refine k12 (zc.mp e) fun v' hv e=> ?_
 exact zcT (@IH m (zo _)) (of_decide_eq_true h1) (of_decide_eq_true h2) (zg h3) h4 (jh h5) h6 eo vo R e1 e2 hv (O.cast (congrArg some e))
end
theorem Qm {α:Type} {l:List (Str×α)} (nd:(l.map (fun ω=>ω.1)).Nodup) (x:Str):l.reverse.lookup x=l.lookup x:=by
 induction l with
 | nil=>rfl
 | cons p r ih=>
  cases p with
  | mk y v=>
   refine k02 (List.nodup_cons.mp nd) fun n1 n2=> ?_
   rw [yF,jk,ih n2,yl,yl]
   cases h:x==y with
   | false=>cases r.lookup x <;>rfl
   | true=>
    cases eq_of_beq h
    cases q:r.lookup x with
    | none=>rfl
    | some w=>exact absurd (zy.mpr ⟨_,mem_of_lookup q,rfl⟩) n1
theorem zaB {c:Cx} {r:Rh} {h:Heap} {names:List Str} {ids:List Nat} {as:List V} {us:List Value} (e:names.map c.t.id=ids.map some) (R:VRs c.w.params r h as us) (hl:names.length=us.length) (nd:names.Nodup) (x:Str) (i:Nat) (v:V) (hx:c.t.id x=some i)
  (hv:Vars.get i ((ids.zip as).map fun p=>(p.1,some p.2))=some v): ∃u,(names.zip us).lookup x=some u∧c.V r h v u:=by
 induction names generalizing ids as us with
 | nil=>cases ids with
  | nil=>exact ns hv
  | cons a b=>exact nomatch e
 | cons n names ih=>cases ids with
  | nil=>exact nomatch e
  | cons j ids=>cases as with
   | nil=>exact ns hv
   | cons a as=>
    refine k23 R.inv fun u us' q ra rb=> ?_;subst q
    refine k02 (List.nodup_cons.mp nd) fun n1 n2=> ?_
    have e1:c.t.id n=some j:=XR e
    replace hv:(if (j==i)=true then some a else Vars.get i ((ids.zip as).map fun p=>(p.1,some p.2)))=some v:=hv
    by_cases hij:j=i
    ·subst hij
     rw [if_pos (beq_self_eq_true j)] at hv
     cases za ((Tx.id_get hx).symm.trans (Tx.id_get e1))
     exact ⟨u,by rw [List.zip_cons_cons,yl,beq_self_eq_true],za hv▸ra⟩
    ·rw [if_neg (mt eq_of_beq hij)] at hv
     have hnx:(x==n)=false:=beq_eq_false_iff_ne.mpr fun q=>hij (za (e1.symm.trans (q▸hx)))
     rw [List.zip_cons_cons,yl,hnx]
     exact ih (List.tail_eq_of_cons_eq e) rb (ql hl) n2 hv
set_option tactic.hygienic true in
theorem zc6 {Γ:G} {F:Fn} {as:List V} {ks:List (Nat×V)} {vars:Vars} (hkw:F.kwarg=none) (e:Zp Γ F as ks=some vars):
  as.length≤F.params.length∧F.params.length≤as.length+F.dflts.length∧ks.map (fun ω=>ω.1)=F.kwonly∧vars=((F.params.zip (as++F.dflts.drop (F.dflts.length - (F.params.length - as.length)))).map fun p=>(p.1,some p.2))++ks.map fun p=>(p.1,some p.2):=by
 unfold Zp at e
 dsimp only at e
 split at e
 ·exact ns e
 ·rename_i h1
  split at e
  ·exact ns e
  ·rename_i h2
   have h1':as.length≤F.params.length:=by
    simp only [Nat.blt,Nat.ble_eq] at h1;omega
   have h2':F.params.length≤as.length+F.dflts.length:=by
    simp only [Nat.blt,Nat.ble_eq] at h2;omega
   refine ⟨h1',h2',?_⟩
   rw [hkw] at e
   cases hk:F.kwonly with
   | nil=>
    rw [hk] at e
    dsimp only at e
    split at e
    ·rename_i he
     (refine si e fun q15=> ?_;subst q15;clear e)
     have:ks= []:=List.isEmpty_iff.mp he
     subst this
     exact ⟨rfl,by simp⟩
    ·exact ns e
   | cons a b=>
    rw [hk] at e
    dsimp only at e
    split at e
    ·rename_i he
     (refine si e fun q19=> ?_;subst q19;clear e)
     exact ⟨by simpa using he,rfl⟩
    ·exact ns e
theorem KwR.rel {c:Cx} {r:Rh} {h:Heap} {ks:List (Nat×V)} {kus:List (Str×Value)} {ko:List Str} (k:KwR c r h ks kus) (e:ko.map c.t.id=(ks.map (fun ω=>ω.1)).map some):kus.map (fun ω=>ω.1)=ko∧VRs c.w.params r h (ks.map (fun ω=>ω.2)) (kus.map (fun ω=>ω.2)):=by
 induction k generalizing ko with
 | nil=>exact ⟨(List.map_eq_nil_iff.mp e).symm,.nil⟩
 | cons a b _ ih=>cases ko with
  | nil=>exact nomatch e
  | cons k ko=>
   refine k02 (ih (List.tail_eq_of_cons_eq e)) fun h1 h2=> ?_
   cases za (a.symm.trans (Tx.id_get (XR e)))
   exact ⟨congrArg (fun ω=>_::ω) h1,.cons b h2⟩
theorem zip_fst_snd {α β:Type} : ∀l:List (α×β),(l.map (fun ω=>ω.1)).zip (l.map (fun ω=>ω.2))=l
 | []=>rfl
 | (a,b)::r=>by simp [zip_fst_snd r]
theorem Qz {n u d:Nat} (h1:u≤n) (h2:n≤u+d):n=u+(d - (d - (n - u))):=
 ((congrArg (fun ω=>u+ω) (Nat.sub_sub_self (Nat.sub_le_iff_le_add'.mpr h2))).trans (Nat.add_sub_cancel' h1)).symm
theorem Zs.of {c:Cx} {f:Addr} {F:Fn} {oc:Value} {od:Option Addr} {sl:Array (Option Value)} {name qual:Str} {params:Arguments} {body:List Stmt} {scope:Scope} {dV kV doc pm:Value} {an:Option Addr} {cdv ct:Value}
  (hl:c.K.lookup f=some ⟨oc,od,.func (fnOf name qual params body scope dV kV doc pm an cdv ct),sl⟩) (hcd:codeIn c.K cdv qual=true) (hco:scope.isCoroutine=false) (hge:scope.isGenerator=false) (hk:scope.kind= .function)
  (hn:(scope.names.all fun x=>scope.names.lookup x.1==some x.2)=true) (hfr:(scope.names.all fun x=>x.2 != .free)=true) (tb:TrSs c.t scope body F.body)
  (names ko:List Str) (hnames:names.map c.t.id=F.params.map some) (hko:ko.map c.t.id=F.kwonly.map some) (hkw:F.kwarg=none) (nd:(names++ko).Nodup) (ds:List Value) (hds:VRs c.w.params ⟨[],[]⟩ c.h₀ F.dflts ds)
  (hloc:(names++ko).all (fun x=>scope.names.lookup x==some .local || scope.names.lookup x==some .cell)=true)
  (hpk: ∀us kus S,us.length≤names.length→names.length≤us.length+ds.length→kus.map (fun ω=>ω.1)=ko→peek c.K S (bindArgs (fnOf name qual params body scope dV kV doc pm an cdv ct) ⟨us,kus⟩)=some (names.zip (us++ds.drop (ds.length - (names.length - us.length)))++kus)):Zs c f F:=by
 refine ⟨oc,od,sl,name,qual,params,body,scope,dV,kV,doc,pm,an,cdv,ct,hl,hcd,hco,hge,hk,hn,hfr,tb,?_⟩
 intro as ks vars hb A r σ s us kus Q E' R x y go
 refine k04 (zc6 hkw hb) fun h1 h2 h3 q1=> ?_;subst q1
 have lnames:names.length=F.params.length:=by simpa using congrArg List.length hnames
 have lus:=x.length
 have lds:=hds.length
 have a1:us.length≤names.length:=by rw [lus,lnames];exact h1
 have a2:names.length≤us.length+ds.length:=by rw [lus,lnames,lds];exact h2
 rw [←h3] at hko
 refine k02 (y.rel hko) fun hkn hkv=> ?_
 have X:=c.X.keeps R.base
 have b:=kp_binds X fun S=>hpk us kus S a1 a2 hkn
 refine b c.M A E' Q (go _ s.heap s.toks (fun ω ω e=>e) ?_ ?_)
 ·intro z u hz
  have hz':z∈names++ko:=by
   rcases zt.mp hz with hz | hz
   ·exact zC _ (List.of_mem_zip hz).1
   ·refine zr _ ?_
    rw [←hkn];exact zy.mpr ⟨_,hz,rfl⟩
  have:=zq.mp hloc z hz'
  simpa using this
 ·intro z i v hz hv
  have hds':VRs c.w.params r s.heap F.dflts ds:=hds.mv ⟨fun i p e=>by simp at e,fun a o e ω=>⟨R.base a o e,fun hm=>by have:=R.fresh a hm;rw [this] at e;cases e⟩⟩
  have hall:VRs c.w.params r s.heap ((as++F.dflts.drop (F.dflts.length - (F.params.length - as.length)))++ks.map (fun ω=>ω.2)) ((us++ds.drop (ds.length - (names.length - us.length)))++kus.map (fun ω=>ω.2)):=by
   refine (x.append ?_).append hkv
   rw [lds,lnames,lus]
   exact hds'.drop _
  have e1:names.zip (us++ds.drop (ds.length - (names.length - us.length)))++kus=(names++ko).zip ((us++ds.drop (ds.length - (names.length - us.length)))++kus.map (fun ω=>ω.2)):=by
   rw [List.zip_append (by rw [zd,XQ];exact Qz a1 a2),←hkn,zip_fst_snd]
  have e2:((F.params.zip (as++F.dflts.drop (F.dflts.length - (F.params.length - as.length)))).map fun p=>(p.1,some p.2))++(ks.map fun p=>(p.1,some p.2))=(((F.params++ks.map (fun ω=>ω.1)).zip ((as++F.dflts.drop (F.dflts.length - (F.params.length - as.length)))++ks.map (fun ω=>ω.2))).map fun p=>(p.1,some p.2)):=by
   rw [List.zip_append (by rw [zd,XQ];exact Qz h1 h2),zip_fst_snd,zX]
  rw [e2] at hv
  rw [e1]
  have hidn:(names++ko).map c.t.id=(F.params++ks.map (fun ω=>ω.1)).map some:=by rw [zX,zX,hnames,hko]
  have hlen:(names++ko).length=((us++ds.drop (ds.length - (names.length - us.length)))++kus.map (fun ω=>ω.2)).length:=by
   rw [zd,zd,zd,XQ,zf,←Qz a1 a2,←hkn,zf]
  refine k12 (zaB hidn hall hlen nd z i v hz hv) fun u hu hr=> ?_
  refine ⟨u,?_,hr⟩
  rw [Qm]
  ·exact hu
  ·rw [List.map_fst_zip (Nat.le_of_eq hlen)]
   exact nd
noncomputable def Qc (K:Frag) (f:Addr):Obj:=(K.lookup f).getD default
noncomputable def fdAt (K:Frag) (f:Addr):FuncData:=match (Qc K f).data with
 | .func fd=>fd
 | _=>default
noncomputable def wD (K:Frag) (f:Addr):List Stmt:=match (fdAt K f).body with
 | .stmts b=>b
 | _=> []
structure jE (K:Frag) (t:Tx) (f:Addr) (F:Fn) (names ko:List Str):Prop where
 hl:K.lookup f=some (Qc K f)
 hd:(Qc K f).data= .func (fdAt K f)
 hb:(fdAt K f).body= .stmts (wD K f)
 hg:(fdAt K f).globals=mainGlobals
 hc:(fdAt K f).closure= []
 hbi:(fdAt K f).builtins=builtinsNs
 hcd:codeIn K (fdAt K f).code (fdAt K f).qualname=true
 sc:((fdAt K f).scope.isCoroutine || (fdAt K f).scope.isGenerator || !((fdAt K f).scope.kind== .function) || !((fdAt K f).scope.names.all fun x=>(fdAt K f).scope.names.lookup x.1==some x.2) || !((fdAt K f).scope.names.all fun x=>x.2 != .free))=false
 tb:wD K f=unSs (toSs t (fdAt K f).scope (wD K f))∧F.body=erSs (toSs t (fdAt K f).scope (wD K f))∧okSs t (fdAt K f).scope (toSs t (fdAt K f).scope (wD K f))=true
 hnames:names.map t.id=F.params.map some
 hko:ko.map t.id=F.kwonly.map some
 hkw:F.kwarg=none
 nd:(names++ko).Nodup
 hloc:(names++ko).all (fun x=>(fdAt K f).scope.names.lookup x==some .local || (fdAt K f).scope.names.lookup x==some .cell)=true
structure yd (K:Frag) (t:Tx) (f:Addr) (F:Fn) (names ko:List Str) (ds:List Value):Prop where
 l0:jE K t f F names ko
 hpk: ∀us kus S,us.length≤names.length→names.length≤us.length+ds.length→kus.map (fun ω=>ω.1)=ko→peek K S (bindArgs (fdAt K f) ⟨us,kus⟩)=some (names.zip (us++ds.drop (ds.length - (names.length - us.length)))++kus)
noncomputable def fnB (K:Frag) (t:Tx) (f:Addr) (F:Fn) (names ko:List Str):Bool:=
 (K.lookup f).isSome&&((match (Qc K f).data with
  | .func _=>true
  | _=>false)&&((match (fdAt K f).body with
  | .stmts _=>true
  | _=>false)&&(decide ((fdAt K f).globals=mainGlobals)&&((fdAt K f).closure.isEmpty&&(decide ((fdAt K f).builtins=builtinsNs)&&(codeIn K (fdAt K f).code (fdAt K f).qualname&&
 (!((fdAt K f).scope.isCoroutine || (fdAt K f).scope.isGenerator || !((fdAt K f).scope.kind== .function) || !((fdAt K f).scope.names.all fun x=>(fdAt K f).scope.names.lookup x.1==some x.2) || !((fdAt K f).scope.names.all fun x=>x.2 != .free))&&
 (decide (names.map t.id=F.params.map some)&&(decide (ko.map t.id=F.kwonly.map some)&&(F.kwarg.isNone&&(decide (names++ko).Nodup&&(names++ko).all (fun x=>(fdAt K f).scope.names.lookup x==some .local || (fdAt K f).scope.names.lookup x==some .cell))))))))))))
theorem data_i {o:Obj} (h:(match o.data with
  | .func _=>true
  | _=>false)=true):o.data= .func (match o.data with
  | .func fd=>fd
  | _=>default):=by
 generalize o.data=d at h⊢
 cases d with
 | func fd=>rfl
 | _=>exact ft h
theorem body_i {o:FuncData} (h:(match o.body with
  | .stmts _=>true
  | _=>false)=true):o.body= .stmts (match o.body with
  | .stmts b=>b
  | _=> []):=by
 generalize o.body=d at h⊢
 cases d with
 | stmts fd=>rfl
 | _=>exact ft h
theorem jE.of {K:Frag} {t:Tx} {f:Addr} {F:Fn} {names ko:List Str} (h:fnB K t f F names ko=true) (tb:wD K f=unSs (toSs t (fdAt K f).scope (wD K f))∧F.body=erSs (toSs t (fdAt K f).scope (wD K f))∧okSs t (fdAt K f).scope (toSs t (fdAt K f).scope (wD K f))=true):jE K t f F names ko:=by
 refine k02 (zB h) fun h1 h=> ?_
 refine k02 (zB h) fun h2 h=> ?_
 refine k02 (zB h) fun h3 h=> ?_
 refine k02 (zB h) fun h4 h=> ?_
 refine k02 (zB h) fun h5 h=> ?_
 refine k02 (zB h) fun h6 h=> ?_
 refine k02 (zB h) fun h7 h=> ?_
 refine k02 (zB h) fun h8 h=> ?_
 refine k02 (zB h) fun h9 h=> ?_
 refine k02 (zB h) fun h10 h=> ?_
 refine k02 (zB h) fun h11 h=> ?_
 refine k02 (zB h) fun h12 h13=> ?_
 refine ⟨(zP.mp h1).elim fun o e=>e.trans (congrArg some (show o=(K.lookup f).getD default from e▸rfl)),data_i h2,body_i h3,of_decide_eq_true h4,List.isEmpty_iff.mp h5,of_decide_eq_true h6,h7,jh h8,tb,of_decide_eq_true h9,of_decide_eq_true h10,Option.isNone_iff_eq_none.mp h11,of_decide_eq_true h12,h13⟩
theorem yd.of {K:Frag} {t:Tx} {f:Addr} {F:Fn} {names ko:List Str} {ds:List Value} (h:fnB K t f F names ko=true) (tb:wD K f=unSs (toSs t (fdAt K f).scope (wD K f))∧F.body=erSs (toSs t (fdAt K f).scope (wD K f))∧okSs t (fdAt K f).scope (toSs t (fdAt K f).scope (wD K f))=true)
  (hpk: ∀us kus S,us.length≤names.length→names.length≤us.length+ds.length→kus.map (fun ω=>ω.1)=ko→peek K S (bindArgs (fdAt K f) ⟨us,kus⟩)=some (names.zip (us++ds.drop (ds.length - (names.length - us.length)))++kus)):yd K t f F names ko ds:=⟨.of h tb,hpk⟩
inductive AllL {α:Type} (P:α→Prop):List α→Prop
 | nil:AllL P []
 | cons {x l} :P x→AllL P l→AllL P (x::l)
theorem AllL.get {α:Type} {P:α→Prop} {L:List α} (h:AllL P L): ∀x∈L,P x:=by
 induction h with
 | nil=>exact fun x hx=>nomatch hx
 | cons a b ih=>exact fun x hx=>(zh.mp hx).elim (fun e=>e▸a) (ih x)
theorem jE.fn {c:Cx} {f:Addr} {F:Fn} {names ko:List Str} (L:jE c.K c.t f F names ko):fdAt c.K f=fnOf (fdAt c.K f).name (fdAt c.K f).qualname (fdAt c.K f).params (wD c.K f) (fdAt c.K f).scope (fdAt c.K f).defaults (fdAt c.K f).kwdefaults (fdAt c.K f).doc (fdAt c.K f).pyModule (fdAt c.K f).annotations (fdAt c.K f).code (fdAt c.K f).closureTuple:=by
 have h1:=L.hb
 have h2:=L.hg
 have h3:=L.hc
 have h4:=L.hbi
 generalize wD c.K f=b at h1⊢
 generalize fdAt c.K f=fd at h1 h2 h3 h4⊢
 cases fd
 dsimp only at h1 h2 h3 h4
 subst h1 h2 h3 h4
 rfl
theorem jE.at {c:Cx} {f:Addr} {F:Fn} {names ko:List Str} (L:jE c.K c.t f F names ko):c.K.lookup f=some ⟨(Qc c.K f).cls,(Qc c.K f).dict,.func (fnOf (fdAt c.K f).name (fdAt c.K f).qualname (fdAt c.K f).params (wD c.K f) (fdAt c.K f).scope (fdAt c.K f).defaults (fdAt c.K f).kwdefaults (fdAt c.K f).doc (fdAt c.K f).pyModule (fdAt c.K f).annotations (fdAt c.K f).code (fdAt c.K f).closureTuple),(Qc c.K f).slots⟩:=by
 rw [←L.fn,←L.hd]
 exact L.hl
theorem yd.fact {c:Cx} {f:Addr} {F:Fn} {names ko:List Str} {ds:List Value} (L:yd c.K c.t f F names ko ds) (hds:VRs c.w.params ⟨[],[]⟩ c.h₀ F.dflts ds):Zs c f F:=by
 have sc:=L.l0.sc
 simp only [wi,Bool.not_eq_false'] at sc
 obtain ⟨⟨⟨⟨s1,s2⟩,s3⟩,s4⟩,s5⟩:=sc
 exact Zs.of L.l0.at L.l0.hcd s1 s2 (by simpa using s3) s4 s5 ⟨_,L.l0.tb⟩ names ko L.l0.hnames L.l0.hko L.l0.hkw L.l0.nd ds hds L.l0.hloc fun us kus S a1 a2 a3=>by rw [←L.l0.fn];exact L.hpk us kus S a1 a2 a3
structure zat (K:Frag) (t:Tx) (f:Addr) (F:Fn) (n0 n1 n2 nk:Str):Prop where
 l0:jE K t f ⟨F.params++(F.kwarg.map fun i=> [i]).getD [],[],[],none,F.body⟩ [n0,n1,n2,nk] []
 df:F.dflts= []∧F.kwonly= []∧F.params.length=3∧F.kwarg.isSome=true
 hbd: ∀a b d,bindArgs (fdAt K f) ⟨[a,b,d],[]⟩=(alloc {cls:= .type "dict",data:= .dict #[]} >>=fun x=>pure [(n0,a),(n1,b),(n2,d),(nk,.ref x)])
 lo:(Nat.blt sysModules f)=true
theorem bindFn_kw {Γ:G} {F:Fn} {as:List V} {ks:List (Nat×V)} {vars:Vars} {i:Nat} (hk:F.kwarg=some i) (hd:F.dflts= []) (ho:F.kwonly= []) (hp:F.params.length=3) (e:Zp Γ F as ks=some vars): ∃a b d,as= [a,b,d]∧ks= []∧vars=((F.params++ [i]).zip [a,b,d,.emp]).map fun p=>(p.1,some p.2):=by
 obtain ⟨ps,df,ko,kw,body⟩:=F
 cases hk;cases hd;cases ho
 dsimp only at hp
 obtain ⟨p0,p1,p2,rfl⟩: ∃a b c,ps= [a,b,c]:=by
  match ps,hp with
  | [a,b,c],_=>exact ⟨a,b,c,rfl⟩
 match as,e with
 | [],e=>exact ns e
 | [_],e=>exact ns e
 | [_,_],e=>exact ns e
 | a::b::d::x::r,e=>
  unfold Zp at e
  dsimp only at e
  rw [if_pos (show Nat.blt [p0,p1,p2].length (a::b::d::x::r).length=true from zT (Nat.le_add_left 4 r.length))] at e
  exact ns e
 | [a,b,d],e=>
  cases ks with
  | cons _ _=>exact ns e
  | nil=>exact ⟨a,b,d,rfl,rfl,(za e).symm⟩
theorem zat.fact {c:Cx} {f:Addr} {F:Fn} {n0 n1 n2 nk:Str} (L:zat c.K c.t f F n0 n1 n2 nk):Zs c f F:=by
 have sc:=L.l0.sc
 simp only [wi,Bool.not_eq_false'] at sc
 obtain ⟨⟨⟨⟨s1,s2⟩,s3⟩,s4⟩,s5⟩:=sc
 refine ⟨_,_,_,_,_,_,_,_,_,_,_,_,_,_,_,L.l0.at,L.l0.hcd,s1,s2,by simpa using s3,s4,s5,⟨_,L.l0.tb⟩,?_⟩
 intro as ks vars hb A r σ s us kus Q E' R x y go
 refine k04 L.df fun hd ho hp hk=> ?_
 refine k11 (zP.mp hk) fun ik hk=> ?_
 obtain ⟨a,b,d,rfl,rfl,rfl⟩:=bindFn_kw hk hd ho hp hb
 cases y
 refine k23 x.inv fun ua us1 q xa x1=> ?_;subst q
 refine k23 x1.inv fun ub us2 q xb x2=> ?_;subst q
 refine k23 x2.inv fun ud us3 q xd x3=> ?_;subst q
 cases x3.inv
 rw [←L.l0.fn,L.hbd]
 have n0':=Yh s.heap
 have k0: ∀b o,s.heap.get? b=some o→(s.heap.push {cls:= .type "dict",data:= .dict #[]}).get? b=some o:=fun b o e=>zn _ e
 have S:=Step.grow (r:=r) k0
 have hne:(s.heap.objs.size==sysModules)=false:=beq_eq_false_iff_ne.mpr fun q=>by
  have h1:=yr (R.base _ _ (c.X _ _ L.l0.hl))
  have h2:sysModules < f:=zg L.lo
  exact absurd (we h2 h1) (by rw [q];exact yI _)
 have xe:c.V r (s.heap.push {cls:= .type "dict",data:= .dict #[]}) .emp (.ref s.heap.objs.size):= .emp 0 _ (zD _ rfl) (fun hm=>(R.mutLive hm).elim fun o eo=>ns (n0'.symm.trans eo)) hne
 have all:VRs c.w.params r (s.heap.push {cls:= .type "dict",data:= .dict #[]}) [a,b,d,.emp] [ua,ub,ud,.ref s.heap.objs.size]:= .cons (xa.step S) (.cons (xb.step S) (.cons (xd.step S) (.cons xe .nil)))
 have hn: [n0,n1,n2,nk].map c.t.id=(F.params++ [ik]).map some:=by
  have:=L.l0.hnames
  rw [hk] at this
  exact this
 refine zb (wpAny_alloc (zi (go _ _ s.toks k0 ?_ ?_)))
 ·intro z u hz
  have hz':z∈ [n0,n1,n2,nk]++ []:=by
   simp only [zh,Prod.mk.injEq,yu,or_false] at hz
   rcases hz with h | h | h | h <;>(rw [h.1];simp)
  simpa using zq.mp L.l0.hloc z hz'
 ·intro z i v hz hv
  refine k12 (zaB hn all rfl (by have:=L.l0.nd;rw [ym] at this;exact this) z i v hz hv) fun u hu hr=> ?_
  refine ⟨u,?_,hr⟩
  rw [Qm]
  ·exact hu
  ·have:=L.l0.nd
   rw [ym] at this
   exact this
noncomputable def fldChk (K:Frag) (C:Addr) (t:Tx) (i:Nat):Bool:=(t.ids[i]?).any fun x=>(findIn K (.ref C) x).any (noGet K)&&(takerIn K C x).any Option.isNone
noncomputable def methChk (K:Frag) (C:Addr) (t:Tx) (p:Nat×Addr):Bool:=(t.ids[p.1]?).any fun x=>decide (findIn K (.ref C) x=some (some (.ref p.2)))&&(decide (typeIn K (.ref p.2)=some (.type "function"))&&keepIn K (.ref p.2))
theorem wX {α β:Type} [BEq α] [LawfulBEq α] {l:List (α×β)} {i f} (e:l.lookup i=some f):(i,f)∈l:=by
 obtain ⟨l₁,l₂,rfl,_⟩:=List.lookup_eq_some_iff.mp e
 exact zr _ (.head _)
theorem Qn {α β:Type} [BEq α] [LawfulBEq α] {p:α×β→Bool} {l:List (α×β)} (h:l.all p=true) {i f} (e:l.lookup i=some f):p (i,f)=true:=zq.mp h _ (wX e)
theorem Zx.of {c:Cx} {C:Addr} {k:Cls} (pg:plainGet c.K C ""=true) (hd:hasDictIn c.K C=true) (po:plainOver c.K C=true) (sa:findIn c.K (.ref C) "__setattr__"=some (some (.builtin "object.__setattr__"))) (mks:makesIn c.K C=true)
  (ini:findIn c.K (.ref C) "__init__"=some (some (.ref k.init))) (ini2:typeIn c.K (.ref k.init)=some (.type "function")) (kp:keepIn c.K (.ref C)=true) (fl:k.flds.all (fldChk c.K C c.t)=true) (me:k.meths.all (methChk c.K C c.t)=true) (nq:noSeq c.K C=true):Zx c C k where
 pg:=pg
 hd:=hd
 po:=po
 sa:=sa
 mks:=mks
 ini:=⟨ini,ini2⟩
 kp:=kp
 nq:=nq
 fl:=fun i hi=>by
  refine k12 (QG (zq.mp fl i (List.contains_iff_mem.mp hi))) fun x hx h=> ?_
  refine k02 (zB h) fun h1 h2=> ?_
  refine ⟨x,hx,QG h1,?_⟩
  refine k12 (QG h2) fun y hy h3=> ?_
  cases y with
  | none=>exact hy
  | some _=>exact ft h3
 me:=fun i f hi=>by
  refine k12 (QG (Qn me hi)) fun x hx h=> ?_
  refine k02 (zB h) fun h1 h=> ?_
  refine k02 (zB h) fun h2 h3=> ?_
  exact ⟨x,hx,of_decide_eq_true h1,of_decide_eq_true h2,h3⟩
noncomputable def zb2:V→Value→Bool
 | .cst c,u=>decide (c=u)
 | .int i,.int j _=>decide (i=j)
 | .str s,.str x _=>decide (stO s=x)
 | .none,.none=>true
 | .bool a,.bool b=>a==b
 | _,_=>false
theorem Zf {P:Params} {r:Rh} {h:Heap} {v:V} {u:Value} (e:zb2 v u=true):VR P r h v u:=by
 cases v with
 | cst c=>cases of_decide_eq_true (show decide (c=u)=true from e);exact .cst _
 | int i=>cases u with
  | int j t=>cases of_decide_eq_true (show decide (i=j)=true from e);exact .int _ _
  | _=>exact ft e
 | str s=>cases u with
  | str x t=>cases of_decide_eq_true (show decide (stO s=x)=true from e);exact .str _ _
  | _=>exact ft e
 | none=>cases u with
  | none=>exact .none
  | _=>exact ft e
 | bool a=>cases u with
  | bool b=>cases eq_of_beq (show (a==b)=true from e);exact .bool _
  | _=>exact ft e
 | _=>exact ft e
noncomputable def globChk (K:Frag) (p:Str×V):Bool:=match nsIn K mainGlobals p.1 with
 | some o=>match o with
  | some u=>zb2 p.2 u
  | .none=>(bootBuiltins p.1).any fun u=>zb2 p.2 u&&decide (p.1≠("__name__":Str))
 | none=>false
theorem glob_i {o:Option (Option Value)} {q:Option Value} {f g:Value→Bool} (h:(match o with
  | some o=>match o with
   | some u=>f u
   | .none=>q.any g
  | none=>false)=true):(∃u,o=some (some u)∧f u=true)∨(o=some .none∧ ∃u,q=some u∧g u=true):=by
 cases o with
 | none=>exact ft h
 | some o=>cases o with
  | none=>exact .inr ⟨rfl,QG h⟩
  | some u=>exact .inl ⟨u,rfl,h⟩
theorem GlobOk.of {c:Cx} {l:List (Str×V)} (hg: ∀x,c.t.glob x=l.lookup x) (h:l.all (globChk c.K)=true):c.GlobOk:=fun x v e=>by
 rcases glob_i (Qn h ((hg x).symm.trans e)) with ⟨u,hu,hv⟩ | ⟨hu,u,hb,hv⟩
 ·exact ⟨u,Zf hv,.inl hu⟩
 ·refine k02 (zB hv) fun h1 h2=> ?_
  exact ⟨u,Zf h1,.inr ⟨hu,hb,of_decide_eq_true h2⟩⟩
noncomputable def tabEs (P:Params) (l:List (Txt×Int×Tok×Tok)):List DictEntry:=l.map fun p=> {hash:=PyData.keyHash P (stO p.1),key:= .str (stO p.1) p.2.2.1,val:= .int p.2.1 p.2.2.2}
theorem tabRel {P:Params} {r:Rh} {h:Heap} : ∀l:List (Txt×Int×Tok×Tok),TabRel P r h (WF l) (tabEs P l)
 | []=> .nil
 | p::l=> .cons (t:=p.2.2.1) rfl rfl (.int _ _) (tabRel l)
theorem YG.of {c:Cx} {a cd:Addr} {p f g x y kd:Value} {sl sl2:Array (Option Value)} {items:Array Value} {n:Nat} {cls:Value} {code:Array Nat} (h1:c.K.lookup a=some {cls:= .type "re.Pattern",dict:=none,data:= .fields #[p,f,g,x,y,.ref cd,kd],slots:=sl}) (h2:c.K.lookup cd=some {cls:=cls,dict:=none,data:= .seq items n,slots:=sl2})
  (hg:Builtin.Re.reRawNat g=0) (hk:Builtin.Re.reRawNat kd=0) (hi:((items.map Builtin.Re.reRawOf).map (fun ω=>ω.toNat))=code) (ok:qj code):YG c.h₀ a:=
 ⟨p,f,g,x,y,cd,_,kd,sl,hg,hk,c.X _ _ h1,_,items,n,c.X _ _ h2,rfl,rfl,hi▸ok⟩
theorem nodup_get {l:List Str} (h:l.Nodup): ∀(i j:Nat) (x:Str),l[i]? =some x→l[j]? =some x→i=j:=by
 intro i j x e1 e2
 obtain ⟨h1,e1⟩:=zR.mp e1
 obtain ⟨h2,e2⟩:=zR.mp e2
 exact (List.getElem_inj h).mp (e1.trans e2.symm)
theorem lex0 {α:Type} {us:List α} (h:us.length=0):us= []:=yG.mp h
theorem lexS {α:Type} {us:List α} {n:Nat} (h:us.length=n+1): ∃a r,us=a::r∧r.length=n:=by
 cases us with
 | nil=>exact absurd h (yZ n).symm
 | cons a r=>exact ⟨a,r,rfl,ql h⟩
theorem lex1 {α:Type} {us:List α} (h:us.length=1): ∃a,us= [a]:=by
 refine k22 (lexS h) fun a r q hr=> ?_;subst q
 cases lex0 hr;exact ⟨a,rfl⟩
theorem lex2 {α:Type} {us:List α} (h:us.length=2): ∃a b,us= [a,b]:=by
 refine k22 (lexS h) fun a r q hr=> ?_;subst q
 refine k11 (lex1 hr) fun b q=> ?_;subst q
 exact ⟨a,b,rfl⟩
theorem lex3 {α:Type} {us:List α} (h:us.length=3): ∃a b d,us= [a,b,d]:=by
 refine k22 (lexS h) fun a r q hr=> ?_;subst q
 refine k21 (lex2 hr) fun b d q=> ?_;subst q
 exact ⟨a,b,d,rfl⟩
theorem lex4 {α:Type} {us:List α} (h:us.length=4): ∃a b d e,us= [a,b,d,e]:=by
 refine k22 (lexS h) fun a r q hr=> ?_;subst q
 refine k31 (lex3 hr) fun b d e q=> ?_;subst q
 exact ⟨a,b,d,e,rfl⟩
theorem lex5 {α:Type} {us:List α} (h:us.length=5): ∃a b d e f,us= [a,b,d,e,f]:=by
 refine k22 (lexS h) fun a r q hr=> ?_;subst q
 obtain ⟨b,d,e,f,rfl⟩:=lex4 hr
 exact ⟨a,b,d,e,f,rfl⟩
theorem kex0 {kus:List (Str×Value)} (h:kus.map (fun ω=>ω.1)= []):kus= []:=List.map_eq_nil_iff.mp h
theorem kex1 {x:Str} {kus:List (Str×Value)} (h:kus.map (fun ω=>ω.1)= [x]): ∃v,kus= [(x,v)]:=by
 refine k11 (lex1 (us:=kus) ((zf ..).symm.trans (congrArg List.length h))) fun p q=> ?_;subst q
 cases p with
 | mk y v=>cases XR h;exact ⟨v,rfl⟩
mutual
noncomputable def V.ren (ρ:Nat→Option Nat):V→Option V
 | .ref i=>(ρ i).map .ref
 | .tup vs=>(renL ρ vs).map .tup
 | .flist vs=>(renL ρ vs).map .flist
 | .none=>some .none
 | .bool b=>some (.bool b)
 | .int i=>some (.int i)
 | .str s=>some (.str s)
 | .cst c=>some (.cst c)
 | .rng a b=>some (.rng a b)
 | .emp=>some .emp
noncomputable def renL (ρ:Nat→Option Nat):List V→Option (List V)
 | []=>some []
 | v::r=>(V.ren ρ v).bind fun v'=>(renL ρ r).map (fun ω=>v'::ω)
end
noncomputable def renF (ρ:Nat→Option Nat):List (Nat×V)→Option (List (Nat×V))
 | []=>some []
 | p::r=>(V.ren ρ p.2).bind fun v'=>(renF ρ r).map ((p.1,v'):: ·)
noncomputable def O.ren (ρ:Nat→Option Nat):O→Option O
 | .list vs=>(renL ρ vs).map .list
 | .inst C fs=>(renF ρ fs).map (.inst C)
section
variable {P:Params} {r₀ r:Rh} {h:Heap} {ρ:Nat→Option Nat}
theorem zce {v:V} {l:List V} {vs:List V} (e:renL ρ (v::l)=some vs): ∃v' l',V.ren ρ v=some v'∧renL ρ l=some l'∧vs=v'::l':=by
 refine k12 (ze.mp e) fun v' h1 e2=> ?_
 refine k12 (zc.mp e2) fun l' h2 q=> ?_
 exact ⟨v',l',h1,h2,q.symm⟩
theorem renF_i {p:Nat×V} {l:List (Nat×V)} {vs:List (Nat×V)} (e:renF ρ (p::l)=some vs): ∃v' l',V.ren ρ p.2=some v'∧renF ρ l=some l'∧vs=(p.1,v')::l':=by
 refine k12 (ze.mp e) fun v' h1 e2=> ?_
 refine k12 (zc.mp e2) fun l' h2 q=> ?_
 exact ⟨v',l',h1,h2,q.symm⟩
theorem VRs.out_of (H: ∀ {v₀:V} {u:Value},VR P r₀ h v₀ u→ ∀v,V.ren ρ v₀=some v→VR P r h v u) {vs₀:List V} {us:List Value} (x:VRs P r₀ h vs₀ us): ∀vs,renL ρ vs₀=some vs→VRs P r h vs us:=
 x.ind (M:=fun vs₀ us=> ∀vs,renL ρ vs₀=some vs→VRs P r h vs us) (fun vs e=>za e▸ .nil) fun a ω ih vs e=>by
  refine k23 (zce e) fun v' l' h1 h2 q=> ?_;subst q
  exact .cons (H a v' h1) (ih l' h2)
theorem VR.out (hob: ∀i j p,ρ i=some j→r₀.ob[i]? =some p→r.ob[j]? =some p) (hm: ∀a,¬r₀.mut a→ ¬r.mut a) {v₀ v:V} {u:Value} (x:VR P r₀ h v₀ u) (e:V.ren ρ v₀=some v):VR P r h v u:=
 VR.rec (motive_1:=fun v₀ u ω=> ∀v,V.ren ρ v₀=some v→VR P r h v u) (motive_2:=fun vs₀ us ω=> ∀vs,renL ρ vs₀=some vs→VRs P r h vs us)
  (fun ω e=>za e▸ .none) (fun b ω e=>za e▸ .bool b) (fun i t ω e=>za e▸ .int i t) (fun s t ω e=>za e▸ .str s t)
  (fun i p hp ω e=>(zc.mp e).elim fun j q=>q.2▸ .ref j p (hob i j p q.1 hp)) (fun c ω e=>za e▸ .cst c)
  (fun ω items n a h1 h2 ω h4 ih ω e=>(zc.mp e).elim fun ws q=>q.2▸ .tup ws items n a h1 (hm a h2) (ih ws q.1) h4)
  (fun ω items a h1 h2 ω h4 ih ω e=>(zc.mp e).elim fun ws q=>q.2▸ .flist ws items a h1 (hm a h2) (ih ws q.1) h4)
  (fun a b t u' v' x h1 h2 ω e=>za e▸ .rng a b t u' v' x h1 (hm x h2)) (fun n a h1 h2 h3 ω e=>za e▸ .emp n a h1 (hm a h2) h3) (fun ω e=>za e▸ .nil)
  (fun ω ω ia ib ω e=>k23 (zce e) fun v' l' h1 h2 q=>q▸ .cons (ia v' h1) (ib l' h2)) x v e
theorem VRs.out (hob: ∀i j p,ρ i=some j→r₀.ob[i]? =some p→r.ob[j]? =some p) (hm: ∀a,¬r₀.mut a→ ¬r.mut a) {vs₀ vs:List V} {us:List Value} (x:VRs P r₀ h vs₀ us) (e:renL ρ vs₀=some vs):VRs P r h vs us:=x.out_of (fun a ω q=>a.out hob hm q) vs e
mutual
theorem VR.into (hob: ∀i j p,ρ i=some j→r.ob[j]? =some p→r₀.ob[i]? =some p) (hm: ∀a,¬r.mut a→ ¬r₀.mut a): ∀(v₀:V) {v:V} {u:Value},V.ren ρ v₀=some v→VR P r h v u→VR P r₀ h v₀ u
 | .none,_,_,e,x=>by cases za e;cases x.inv;exact .none
 | .bool b,_,_,e,x=>by cases za e;cases x.inv;exact .bool b
 | .int i,_,_,e,x=>by cases za e;exact k11 x.inv fun t q=>q▸ .int i t
 | .str s,_,_,e,x=>by cases za e;exact k11 x.inv fun t q=>q▸ .str s t
 | .cst c,_,_,e,x=>by cases za e;cases x.inv;exact .cst c
 | .ref i,_,_,e,x=>by
  refine k12 (zc.mp e) fun j hj q4=> ?_;subst q4
  exact k12 x.inv fun p q hp=>q▸ .ref i p (hob i j p hj hp)
 | .tup vs,_,_,e,x=>by
  refine k12 (zc.mp e) fun ws hw q5=> ?_;subst q5
  exact k35 x.inv fun items n a q h1 h2 h3 h4=>q▸ .tup vs items n a h1 (hm a h2) (VRs.into hob hm vs hw h3) h4
 | .flist vs,_,_,e,x=>by
  refine k12 (zc.mp e) fun ws hw q6=> ?_;subst q6
  exact k25 x.inv fun items a q h1 h2 h3 h4=>q▸ .flist vs items a h1 (hm a h2) (VRs.into hob hm vs hw h3) h4
 | .rng a b,_,_,e,x=>by
  cases za e
  exact k43 x.inv fun t u' v' y q h1 h2=>q▸ .rng a b t u' v' y h1 (hm y h2)
 | .emp,_,_,e,x=>by
  cases za e
  exact k24 x.inv fun n a q h1 h2 h3=>q▸ .emp n a h1 (hm a h2) h3
theorem VRs.into (hob: ∀i j p,ρ i=some j→r.ob[j]? =some p→r₀.ob[i]? =some p) (hm: ∀a,¬r.mut a→ ¬r₀.mut a): ∀(vs₀:List V) {vs:List V} {us:List Value},renL ρ vs₀=some vs→VRs P r h vs us→VRs P r₀ h vs₀ us
 | [],_,_,e,x=>by cases za e;cases x.inv;exact .nil
 | v::r,_,_,e,x=>by
  refine k23 (zce e) fun v' l' h1 h2 q=> ?_;subst q
  exact k23 x.inv fun u us' q a b=>q▸ .cons (VR.into hob hm v h1 a) (VRs.into hob hm r h2 b)
end
theorem Yg {x:Nat} {fs fs':List (Nat×V)} (e:renF ρ fs=some fs'):(∀v,look x fs=some v→ ∃v',V.ren ρ v=some v'∧look x fs'=some v')∧(look x fs= .none→look x fs'= .none):=by
 induction fs generalizing fs' with
 | nil=>cases za e;exact ⟨fun v q=>ns q,fun ω=>rfl⟩
 | cons p fs ih=>
  refine k23 (renF_i e) fun w' r' hw hr q=> ?_;subst q
  cases p with
  | mk y w=>
   rw [qU,qU]
   by_cases h:(y==x)=true
   ·rw [if_pos h,if_pos h]
    exact ⟨fun v q=>⟨w',za q▸hw,rfl⟩,fun q=>sn q⟩
   ·rw [if_neg h,if_neg h]
    exact ih hr
theorem XU {fs fs':List (Nat×V)} (e:renF ρ fs=some fs'):fs'.length=fs.length:=by
 induction fs generalizing fs' with
 | nil=>cases za e;rfl
 | cons p fs ih=>
  refine k23 (renF_i e) fun w' r' hw hr q=> ?_;subst q
  exact congrArg Nat.succ (ih hr)
theorem OR.out {ids:List Str} (hob: ∀i j p,ρ i=some j→r₀.ob[i]? =some p→r.ob[j]? =some p) (hm: ∀a,¬r₀.mut a→ ¬r.mut a) {o₀ o:O} {p:Addr×Addr} (x:OR P ids r₀ h o₀ p) (e:O.ren ρ o₀=some o):OR P ids r h o p:=by
 cases x with
 | list vs items n a h1 h2 h3=>
  refine k12 (zc.mp (show (renL ρ vs).map O.list=some o from e)) fun ws hw q7=> ?_;subst q7
  exact .list ws items n a h1 (h2.out hob hm hw) h3
 | inst C fs a d es n ne e1 e2 le nr hv hn=>
  refine k12 (zc.mp (show (renF ρ fs).map (O.inst C)=some o from e)) fun fs' hf q8=> ?_;subst q8
  refine .inst C fs' a d es n ne e1 e2 (by rw [XU hf];exact le) nr (fun i x v hi hl=> ?_) fun i x hi hl=> ?_
  ·have L:=Yg (x:=i) hf
   cases q:look i fs with
   | none=>rw [L.2 q] at hl;exact ns hl
   | some w=>
    refine k12 (L.1 w q) fun v' h1 h2=> ?_
    rw [h2] at hl;(refine si hl fun q69=> ?_;subst q69;clear hl)
    refine k12 (hv i x w hi q) fun u hu hr=> ?_
    exact ⟨u,hu,hr.out hob hm h1⟩
  ·have L:=Yg (x:=i) hf
   cases q:look i fs with
   | none=>exact hn i x hi q
   | some w=>
    refine k12 (L.1 w q) fun v' h1 h2=> ?_
    rw [h2] at hl;exact sn hl
theorem OR.into {ids:List Str} (hob: ∀i j p,ρ i=some j→r.ob[j]? =some p→r₀.ob[i]? =some p) (hm: ∀a,¬r.mut a→ ¬r₀.mut a) {o₀ o:O} {p:Addr×Addr} (e:O.ren ρ o₀=some o) (x:OR P ids r h o p):OR P ids r₀ h o₀ p:=by
 cases o₀ with
 | list vs=>
  refine k12 (zc.mp (show (renL ρ vs).map O.list=some o from e)) fun ws hw q9=> ?_;subst q9
  cases x with
  | list ws items n a h1 h2 h3=>exact .list vs items n a h1 (VRs.into hob hm vs hw h2) h3
 | inst C fs=>
  refine k12 (zc.mp (show (renF ρ fs).map (O.inst C)=some o from e)) fun fs' hf q10=> ?_;subst q10
  cases x with
  | inst C fs' a d es n ne e1 e2 le nr hv hn=>
   refine .inst C fs a d es n ne e1 e2 (by rw [←XU hf];exact le) nr (fun i x v hi hl=> ?_) fun i x hi hl=> ?_
   ·refine k12 ((Yg (x:=i) hf).1 v hl) fun v' h1 h2=> ?_
    refine k12 (hv i x v' hi h2) fun u hu hr=> ?_
    exact ⟨u,hu,VR.into hob hm v h1 hr⟩
   ·exact hn i x hi ((Yg (x:=i) hf).2 hl)
end
noncomputable def za3 (i:Nat):List Nat→Option Nat
 | []=>none
 | x::r=>if x==i then some 0 else (za3 i r).map (fun ω=>ω+1)
theorem Jd {i:Nat} : ∀ {κ:List Nat} {m:Nat},za3 i κ=some m→κ[m]? =some i
 | x::r,m,e=>by
  replace e:(if x==i then some 0 else (za3 i r).map (fun ω=>ω+1))=some m:=e
  by_cases h:(x==i)=true
  ·rw [if_pos h] at e;cases za e;exact congrArg some (eq_of_beq h)
  ·rw [if_neg h] at e
   refine k12 (zc.mp e) fun m' h q1=> ?_;subst q1
   rw [List.getElem?_cons_succ];exact Jd h
noncomputable def ZR (ι κ:List Nat) (n₀ n:Nat) (i:Nat):Option Nat:=if i < n₀ then ι[i]? else (za3 i κ).map (fun ω=>n+ω)
structure zas (σ σ' σ₀ σ₀':H) (ι κ:List Nat):Prop where
 nd:ι.Nodup
 lt: ∀j∈ι,j < σ.length
 len:ι.length=σ₀.length
 pre: ∀(k:Nat) o₀,σ₀[k]? =some o₀→ ∃(j:Nat) (o:O),ι[k]? =some j∧O.ren (fun i=>ι[i]?) o₀=some o∧σ[j]? =some o
 ndk:κ.Nodup
 gek: ∀i∈κ,σ₀.length≤i
 len':σ'.length=σ.length+κ.length
 post: ∀(k j:Nat) o₀,ι[k]? =some j→σ₀'[k]? =some o₀→ ∃o,O.ren (ZR ι κ σ₀.length σ.length) o₀=some o∧σ'[j]? =some o
 rest: ∀(j:Nat),j < σ.length→j ∉ ι→σ'[j]? =σ[j]?
 new: ∀(m i:Nat),κ[m]? =some i→ ∃o₀ o,σ₀'[i]? =some o₀∧O.ren (ZR ι κ σ₀.length σ.length) o₀=some o∧σ'[σ.length+m]? =some o
noncomputable def jw (r:Rh) (ι:List Nat):List (Addr×Addr):=ι.map fun j=>r.ob.getD j (0,0)
noncomputable def JI (r:Rh) (ι:List Nat):List Addr:=r.pv++(List.range r.ob.length).flatMap fun j=>if j∈ι then [] else [(r.ob.getD j (0,0)).1,(r.ob.getD j (0,0)).2]
noncomputable def qC (r:Rh) (ι:List Nat):Rh:=⟨jw r ι,JI r ι⟩
section
variable {r:Rh} {ι:List Nat}
theorem ZX {j:Nat} (h:j < r.ob.length):r.ob[j]? =some (r.ob.getD j (0,0)):=by
 rw [zk,zj h];rfl
theorem WN (hlt: ∀j∈ι,j < r.ob.length) {k:Nat} {p:Addr×Addr} (e:(jw r ι)[k]? =some p): ∃j,ι[k]? =some j∧r.ob[j]? =some p:=by
 unfold jw at e
 rw [zA] at e
 refine k12 (zc.mp e) fun j hj q2=> ?_;subst q2
 exact ⟨j,hj,ZX (hlt j (zM hj))⟩
set_option tactic.hygienic true in
theorem WM {b:Addr} (h:b∈JI r ι):b∈r.pv∨ ∃(j:Nat) (p:Addr×Addr),j ∉ ι∧r.ob[j]? =some p∧(b=p.1∨b=p.2):=by
 rcases zt.mp h with h | h
 ·exact .inl h
 ·refine k12 (XP.mp h) fun j hj h=> ?_
  split at h
  ·cases h
  ·rename_i hn
   have hlt:j < r.ob.length:=zI.mp hj
   refine .inr ⟨j,_,hn,ZX hlt,?_⟩
   simpa using h
theorem jT (hlt: ∀j∈ι,j < r.ob.length) {b:Addr} (h:(qC r ι).own b): ∃(j:Nat) (p:Addr×Addr),j∈ι∧r.ob[j]? =some p∧(b=p.1∨b=p.2):=by
 refine k12 h fun p hp hb=> ?_;clear h
 refine k11 (xh hp) fun k hk=> ?_
 refine k12 (WN hlt hk) fun j hj e=> ?_
 exact ⟨j,p,zM hj,e,hb⟩
theorem qq (hlt: ∀j∈ι,j < r.ob.length) {b:Addr} (h:(qC r ι).mut b):r.mut b:=by
 rcases h with h | h
 ·refine k23 (jT hlt h) fun j p ω e hb=> ?_
  exact .inl ⟨p,zM e,hb⟩
 ·rcases WM h with h | ⟨j,p,_,e,hb⟩
  ·exact .inr h
  ·exact .inl ⟨p,zM e,hb⟩
theorem mut_small {b:Addr} (h:r.mut b):(qC r ι).mut b:=by
 rcases h with ⟨p,hp,hb⟩ | h
 ·refine k11 (xh hp) fun j hj=> ?_
  have hlt:j < r.ob.length:=by have h:=zV hj;exact h
  have hg:=ZX (r:=r) hlt
  rw [hj] at hg
  have hpe:p=r.ob.getD j (0,0):=za hg
  by_cases hi:j∈ι
  ·refine .inl ⟨p,?_,hb⟩
   show p∈ι.map _
   exact zy.mpr ⟨j,hi,hpe.symm⟩
  ·refine .inr (zr _ (XP.mpr ⟨j,zI.mpr hlt,?_⟩))
   rw [if_neg hi,←hpe]
   rcases hb with rfl | rfl <;>simp
 ·exact .inr (zC _ h)
theorem ZO {P:Params} {ids:List Str} {h₀ h:Heap} {σ:H} (R:Rel P ids h₀ r σ h) {i j:Nat} {p q:Addr×Addr} (e1:r.ob[i]? =some p) (e2:r.ob[j]? =some q) (ne:i≠j):p.1≠q.1∧p.1≠q.2∧p.2≠q.1∧p.2≠q.2:=by
 have A:=List.pairwise_iff_getElem.mp R.apart
 obtain ⟨li,ei⟩:=zR.mp e1
 obtain ⟨lj,ej⟩:=zR.mp e2
 rcases Nat.lt_or_gt_of_ne ne with lt | lt
 ·have:=A i j li lj lt
  rw [ei,ej] at this;exact this
 ·have:=A j i lj li lt
  rw [ei,ej] at this
  exact ⟨Ne.symm this.1,Ne.symm this.2.2.1,Ne.symm this.2.1,Ne.symm this.2.2.2⟩
theorem small_rel {P:Params} {ids:List Str} {h₀ h:Heap} {σ σ' σ₀ σ₀':H} {κ:List Nat} (R:Rel P ids h₀ r σ h) (F:zas σ σ' σ₀ σ₀' ι κ):Rel P ids h₀ (qC r ι) σ₀ h:=by
 have hlt: ∀j∈ι,j < r.ob.length:=fun j hj=>by rw [R.len];exact F.lt j hj
 have hob: ∀(i j:Nat) (p:Addr×Addr),ι[i]? =some j→r.ob[j]? =some p→(qC r ι).ob[i]? =some p:=fun i j p e1 e2=>by
  show (ι.map _)[i]? =_
  rw [zA,e1]
  obtain ⟨hl,e⟩:=zR.mp e2
  simp [hl,e]
 have hm: ∀a,¬r.mut a→ ¬(qC r ι).mut a:=fun a h q=>h (qq hlt q)
 refine ⟨R.base,?_,fun i o p e1 e2=> ?_,fun b hb=>R.fresh b (qq hlt hb),?_,fun b hb hown=> ?_,fun b hb=> ?_⟩
 ·show (ι.map _).length=_
  rw [zf,F.len]
 ·refine k23 (F.pre i o e1) fun j o' hj ho hs=> ?_
  refine k12 (WN hlt e2) fun j' hj' hp=> ?_
  rw [hj] at hj';(refine si hj' fun q7=> ?_;subst q7;clear hj')
  exact OR.into hob hm ho (R.obj j o' p hs hp)
 ·show (ι.map _).Pairwise _
  rw [List.pairwise_map]
  refine List.Pairwise.imp_of_mem ?_ F.nd
  intro a b ha hb hab
  exact ZO R (ZX (hlt a ha)) (ZX (hlt b hb)) hab
 ·refine k23 (jT hlt hown) fun j p hj e hp=> ?_
  rcases WM hb with h | ⟨j',p',hn,e',hp'⟩
  ·exact R.pvo b h ⟨p,zM e,hp⟩
  ·have ne:j≠j':=fun q=>hn (q▸hj)
   have A:=ZO R e e' ne
   rcases hp with rfl | rfl <;>rcases hp' with q | q
   ·exact A.1 q
   ·exact A.2.1 q
   ·exact A.2.2.1 q
   ·exact A.2.2.2 q
 ·rcases WM hb with h | ⟨j,p,_,e,hp⟩
  ·exact R.pvl b h
  ·exact R.ownLive ⟨p,zM e,hp⟩
end
theorem Out.small {c:Cx} {r:Rh} {s:Shared} {σ σ' σ₀ σ₀':H} {v v₀:V} {ι κ:List Nat} {Q:Value→Shared→Prop} (R:c.R r σ s.heap) (F:zas σ σ' σ₀ σ₀' ι κ) (hv:V.ren (ZR ι κ σ₀.length σ.length) v₀=some v) (O:Out c r s σ' v Q):Out c (qC r ι) s σ₀' v₀ Q:=by
 intro u r₁ h' tk R₁ S₁ x
 have hlt: ∀j∈ι,j < r.ob.length:=fun j hj=>by rw [R.len];exact F.lt j hj
 obtain ⟨τ,hτ,hfr⟩:=S₁.ext
 have hpv:r₁.pv=JI r ι:=S₁.pv
 have hlen0:(jw r ι).length=σ₀.length:=by unfold jw;rw [zf,F.len]
 have newAt: ∀i∈κ,∃p,r₁.ob[i]? =some p∧p∈τ:=fun i hi=>by
  obtain ⟨m,hm⟩:=xh hi
  obtain ⟨o₀,o,e1,_,_⟩:=F.new m i hm
  obtain ⟨p,hp,_⟩:=R₁.there e1
  refine ⟨p,hp,?_⟩
  have hp':=hp
  rw [hτ] at hp'
  have:(qC r ι).ob.length≤i:=by show (jw r ι).length≤i;rw [hlen0];exact F.gek i hi
  rw [zJ this] at hp'
  exact zM hp'
 let nob:List (Addr×Addr):=κ.map fun i=>r₁.ob.getD i (0,0)
 let r':Rh:=⟨r.ob++nob,r.pv⟩
 have nobAt: ∀ {m:Nat} {p:Addr×Addr},nob[m]? =some p→ ∃i,κ[m]? =some i∧r₁.ob[i]? =some p∧p∈τ:=fun {m p} e=>by
  show∃i,κ[m]? =some i∧_
  have e':(κ.map fun i=>r₁.ob.getD i (0,0))[m]? =some p:=e
  rw [zA] at e'
  obtain ⟨i,hi,rfl⟩:=zc.mp e'
  obtain ⟨p,hp,hpt⟩:=newAt i (zM hi)
  have:r₁.ob.getD i (0,0)=p:=by rw [zk,hp];rfl
  rw [this]
  exact ⟨i,hi,hp,hpt⟩
 have memNob: ∀ {p:Addr×Addr},p∈nob→p∈τ∧p∈r₁.ob:=fun {p} hp=>by
  obtain ⟨m,hm⟩:=xh hp
  obtain ⟨i,_,h1,h2⟩:=nobAt hm
  exact ⟨h2,zM h1⟩
 have obOld: ∀ {k j:Nat} {p:Addr×Addr},ι[k]? =some j→r₁.ob[k]? =some p→r.ob[j]? =some p:=fun {k j p} hk hp=>by
  have hkl:k < (qC r ι).ob.length:=by
   show k < (jw r ι).length
   rw [hlen0,←F.len]
   have h:=zV hk;exact h
  rw [hτ,zH hkl] at hp
  obtain ⟨j',hj',e⟩:=WN hlt hp
  rw [hk] at hj';cases hj'
  exact e
 have hob: ∀(i j:Nat) (p:Addr×Addr),ZR ι κ σ₀.length σ.length i=some j→r₁.ob[i]? =some p→r'.ob[j]? =some p:=fun i j p e1 e2=>by
  unfold ZR at e1
  split at e1
  ·have:=obOld e1 e2
   have hl:=zV this
   show (r.ob++nob)[j]? =_
   rw [zH hl];exact this
  ·obtain ⟨m,hm,rfl⟩:=zc.mp e1
   have hκ:=Jd hm
   show (r.ob++nob)[σ.length+m]? =_
   rw [zJ (by rw [R.len];lia),R.len,qZ]
   show (κ.map _)[m]? =_
   rw [zA,hκ]
   show some (r₁.ob.getD i (0,0))=_
   rw [zk,e2];rfl
 have hm: ∀a,¬r₁.mut a→ ¬r'.mut a:=fun a h q=>by
  refine h ?_
  rcases q with ⟨p,hp,hb⟩ | q
  ·rcases zt.mp hp with hp | hp
   ·have:(qC r ι).mut a:=mut_small (.inl ⟨p,hp,hb⟩)
    rcases this with h2 | h2
    ·exact .inl (S₁.own_new h2)
    ·exact .inr (hpv▸h2)
   ·exact .inl ⟨p,(memNob hp).2,hb⟩
  ·exact .inr (hpv▸zC _ q)
 have oldLive: ∀ {p:Addr×Addr},p∈r.ob→(∃o,s.heap.get? p.1=some o)∧ ∃o,s.heap.get? p.2=some o:=fun {p} hp=>⟨R.ownLive ⟨p,hp,.inl rfl⟩,R.ownLive ⟨p,hp,.inr rfl⟩⟩
 have M:Mv r s.heap r' h':=⟨fun i p e=>by
   have hl:=zV e
   show (r.ob++nob)[i]? =_
   rw [zH hl];exact e,fun a o e f=>by
   refine ⟨S₁.keep a o e fun q=>f (qq hlt (.inl q)),fun q=> ?_⟩
   rcases q with ⟨p,hp,hb⟩ | q
   ·rcases zt.mp hp with hp | hp
    ·exact f (.inl ⟨p,hp,hb⟩)
    ·obtain ⟨h1,h2⟩:=hfr p (memNob hp).1
     rcases hb with rfl | rfl
     ·exact ns ((h1).symm.trans e)
     ·exact ns ((h2).symm.trans e)
   ·exact f (.inr q)⟩
 refine O u r' h' tk ?_ ?_ (x.out hob hm hv)
 ·refine ⟨R₁.base,?_,fun j o p e1 e2=> ?_,fun b hb=> ?_,?_,fun b hb hown=> ?_,fun b hb=> ?_⟩
  ·show (r.ob++nob).length=_
   rw [zd,R.len,F.len']
   show _+(κ.map _).length=_
   rw [zf]
  ·by_cases hj:j < σ.length
   ·have e2':r.ob[j]? =some p:=by
     have:(r.ob++nob)[j]? =some p:=e2
     rw [zH (by rw [R.len];exact hj)] at this;exact this
    by_cases hi:j∈ι
    ·obtain ⟨k,hk⟩:=xh hi
     have hk0:k < σ₀.length:=by
      rw [←F.len]
      have h:=zV hk;exact h
     have hob1:r₁.ob[k]? =some p:=by
      rw [hτ,zH (by show k < (jw r ι).length;rw [hlen0];exact hk0)]
      show (ι.map _)[k]? =_
      rw [zA,hk]
      show some (r.ob.getD j (0,0))=_
      rw [zk,e2'];rfl
     have hk1:k < σ₀'.length:=by
      rw [←R₁.len]
      have h:=zV hob1;exact h
     obtain ⟨o',h1,h2⟩:=F.post k j _ hk (zj hk1)
     rw [h2] at e1;cases e1
     exact (R₁.obj k _ p (zj hk1) hob1).out hob hm h1
    ·rw [F.rest j hj hi] at e1
     refine (R.obj j o p e1 e2').mv M (fun ob e=>S₁.keep _ ob e fun q=> ?_) fun ob e=>S₁.keep _ ob e fun q=> ?_
     ·obtain ⟨j',p',hj',e',hb⟩:=jT hlt q
      have A:=ZO R e2' e' fun z=>hi (z▸hj')
      rcases hb with z | z
      ·exact A.1 z
      ·exact A.2.1 z
     ·obtain ⟨j',p',hj',e',hb⟩:=jT hlt q
      have A:=ZO R e2' e' fun z=>hi (z▸hj')
      rcases hb with z | z
      ·exact A.2.2.1 z
      ·exact A.2.2.2 z
   ·have hj':j < σ'.length:=by have h:=zV e1;exact h
    rw [F.len'] at hj'
    obtain ⟨m,rfl⟩: ∃m,j=σ.length+m:=⟨j - σ.length,by lia⟩
    have e2':nob[m]? =some p:=by
     have:(r.ob++nob)[σ.length+m]? =some p:=e2
     rw [zJ (by rw [R.len];lia),R.len,qZ] at this;exact this
    obtain ⟨i,hi,hp,_⟩:=nobAt e2'
    obtain ⟨o₀,o',h1,h2,h3⟩:=F.new m i hi
    rw [h3] at e1;cases e1
    exact (R₁.obj i o₀ p h1 hp).out hob hm h2
  ·refine Classical.byContradiction fun q=> ?_
   have: ¬ ¬r₁.mut b:=fun z=>hm b z hb
   exact q (R₁.fresh b (Classical.not_not.mp this))
  ·refine Zz.mpr ⟨R.apart,?_,fun p hp q hq=> ?_⟩
   ·show (κ.map _).Pairwise _
    rw [List.pairwise_map]
    refine List.Pairwise.imp_of_mem ?_ F.ndk
    intro a b ha hb hab
    obtain ⟨p,hp,_⟩:=newAt a ha
    obtain ⟨q,hq,_⟩:=newAt b hb
    have e1:r₁.ob.getD a (0,0)=p:=by rw [zk,hp];rfl
    have e2:r₁.ob.getD b (0,0)=q:=by rw [zk,hq];rfl
    rw [e1,e2]
    exact ZO R₁ hp hq hab
   ·obtain ⟨⟨o1,l1⟩,⟨o2,l2⟩⟩:=oldLive hp
    obtain ⟨f1,f2⟩:=hfr q (memNob hq).1
    have no: ∀ {a b:Addr} {ob},s.heap.get? b= .none→s.heap.get? a=some ob→a≠b:=fun n e z=>ns (n.symm.trans (z▸e))
    exact ⟨no f1 l1,no f2 l1,no f1 l2,no f2 l2⟩
  ·rcases hown with ⟨p,hp,hb'⟩
   rcases zt.mp hp with hp | hp
   ·exact R.pvo b hb ⟨p,hp,hb'⟩
   ·obtain ⟨o,e⟩:=R.pvl b hb
    obtain ⟨f1,f2⟩:=hfr p (memNob hp).1
    rcases hb' with rfl | rfl
    ·exact ns ((f1).symm.trans e)
    ·exact ns ((f2).symm.trans e)
  ·obtain ⟨o,e⟩:=R.pvl b hb
   exact S₁.live b o e
 ·refine ⟨⟨nob,rfl,fun p hp=>hfr p (memNob hp).1⟩,rfl,fun b o e hb=>S₁.keep b o e fun q=> ?_,S₁.live⟩
  obtain ⟨j,p,_,e',hp⟩:=jT hlt q
  exact hb ⟨p,zM e',hp⟩
theorem YH.le {A:Around} {m n:Nat} (F:YH A n) (h:m≤n):YH A m:=⟨F.hd,by have:=F.dp;lia,by have:=F.un;lia⟩
theorem Ya {c:Cx} (hOk:c.Ok) (hFn:c.FnOk) (hP:c.PatsOk) {n₀:Nat} {over:Cf} (H:CfOk c n₀ over) (fe fs:Nat): ∀n,CfOk c (n₀+n) (ZB c.Γ over fe fs n)
 | 0=>H
 | n+1=>by
  have IH:=Ya hOk hFn hP H fe fs n
  refine ⟨fun f as ks σ x e=> ?_,fun {A f as ks σ σ' v r s us kus Rr} hA e R x y O=> ?_⟩
  ·rw [Xl] at e
   cases q:over f as ks σ with
   | some y=>exact H.keep _ _ _ _ _ q
   | none=>
    rw [q] at e
    cases hF:c.Γ.fns.lookup f with
    | none=>rw [hF] at e;exact ns e
    | some F=>exact fn_keep (hFn f F hF)
  ·rw [Xl] at e
   cases q:over f as ks σ with
   | some y'=>
    rw [q] at e
    (refine sp e fun q3 q4=> ?_;subst q3;subst q4;clear e)
    exact H.run (hA.le (xC _ _)) q R x y O
   | none=>
    rw [q] at e
    cases hF:c.Γ.fns.lookup f with
    | none=>rw [hF] at e;exact ns e
    | some F=>
     rw [hF] at e
     have hA':YH A (n₀+n+1):=hA
     refine zc2 (fe:=fe) (fs:=fs) (cf:=ZB c.Γ over fe fs n) hOk hA' (fun env=> ?_) (hFn f F hF) R x y e O
     have hB:=hA'.deeper env
     have room:c.HasRoom (A.deeper env):=⟨hB.hd,by have:=hB.un;lia,by have:=hB.dp;lia⟩
     have E: ∀m,∀k,k≤m→EvOk c (A.deeper env) (ev c.Γ (ZB c.Γ over fe fs n) k):=zbz hOk hB IH (bi_ok room.hd zb8) (me_ok hOk hP) (fun m IHm=>far_node m IHm)
     have X:=Jr (fe:=fe) hOk hB IH hB.hd (by have:=hB.un;lia) (fun m=> @E m m (zo _)) fs
     exact @And.right _ _ X
theorem run_sound {c:Cx} (hOk:c.Ok) (hFn:c.FnOk) (hP:c.PatsOk) (fe fs n:Nat):CfOk c n (Yb c.Γ fe fs n):=by
 have:=Ya (n₀:=0) (over:=fun ω ω ω ω=> .none) hOk hFn hP ⟨fun ω ω ω ω ω e=>(by cases e),fun ω e=>(by cases e)⟩ fe fs n
 rw [xO] at this
 exact this
structure Told (cf:Cf) (f:Addr) (as:List V) (σ:H) (v:V) (σ':H):Prop where
 small: ∃σ₀ σ₀' as₀ v₀ ι κ,cf f as₀ [] σ₀=some (v₀,σ₀')∧zas σ σ' σ₀ σ₀' ι κ∧renL (fun i=>ι[i]?) as₀=some as∧V.ren (ZR ι κ σ₀.length σ.length) v₀=some v
theorem over_ok {c:Cx} {n:Nat} {cf:Cf} (CF:CfOk c n cf) {over:Cf} (h: ∀f as ks σ v σ',over f as ks σ=some (v,σ')→ks= []∧Told cf f as σ v σ'):CfOk c n over where
 keep:=fun f as ks σ x e=>by
  obtain ⟨v,σ'⟩:=x
  obtain ⟨σ₀,σ₀',as₀,v₀,ι,κ,e0,_⟩:=(h f as ks σ v σ' e).2.small
  exact CF.keep _ _ _ _ _ e0
 run:=fun {A f as ks σ σ' v r s us kus Rr} hA e R x y O=>by
  obtain ⟨rfl,T⟩:=h f as ks σ v σ' e
  obtain ⟨σ₀,σ₀',as₀,v₀,ι,κ,e0,F,ha,hv⟩:=T.small
  have R₀:c.R (qC r ι) σ₀ s.heap:=small_rel R F
  have hlt: ∀j∈ι,j < r.ob.length:=fun j hj=>by rw [R.len];exact F.lt j hj
  have x₀:VRs c.w.params (qC r ι) s.heap as₀ us:=VRs.into (r:=r) (ρ:=fun i=>ι[i]?) (fun i j p e1 e2=>by
   show (ι.map _)[i]? =_
   rw [zA,e1]
   obtain ⟨hl,e⟩:=zR.mp e2
   simp [hl,e]) (fun a h q=>h (qq hlt q)) as₀ ha x
  have hk:kus= []:=y.none_inv
  subst hk
  exact CF.run hA e0 R₀ x₀ .nil (Out.small R F hv O)
noncomputable def ZN (cf:Cf) (spec:Addr→List V→H→Option (V×H)):Cf:=fun f as ks σ=>match spec f as σ with
 | .none=> .none
 | some x=> @ite _ (ks= []∧Told cf f as σ x.1 x.2) (Classical.propDecidable _) (some x) .none
theorem overT_i {cf:Cf} {spec:Addr→List V→H→Option (V×H)} {f:Addr} {as:List V} {ks:List (Nat×V)} {σ:H} {y:V×H} (e:ZN cf spec f as ks σ=some y): ∃x,x=y∧(ks= []∧Told cf f as σ x.1 x.2):=by
 replace e:(match spec f as σ with
  | .none=> .none
  | some x=> @ite _ (ks= []∧Told cf f as σ x.1 x.2) (Classical.propDecidable _) (some x) .none)=some y:=e
 cases q:spec f as σ with
 | none=>rw [q] at e;exact ns e
 | some x=>
  rw [q] at e
  by_cases h:ks= []∧Told cf f as σ x.1 x.2
  ·exact ⟨x,za ((if_pos h).symm.trans e),h⟩
  ·exact ns ((if_neg h).symm.trans e)
theorem overT_ok {c:Cx} {n:Nat} {cf:Cf} (CF:CfOk c n cf) (spec:Addr→List V→H→Option (V×H)):CfOk c n (ZN cf spec):=
 over_ok CF (fun f as ks σ v σ' e=>by
  refine k12 (overT_i e) fun x q h=> ?_
  cases q
  exact h)
theorem WZ {cf:Cf} {spec:Addr→List V→H→Option (V×H)} {f:Addr} {as:List V} {σ σ':H} {v:V} (h:spec f as σ=some (v,σ')) (T:Told cf f as σ v σ'):ZN cf spec f as [] σ=some (v,σ'):=by
 unfold ZN
 rw [h]
 exact if_pos ⟨rfl,T⟩
theorem YQ {Γ:G} {cf:Cf} {spec:Addr→List V→H→Option (V×H)} {fe fs n:Nat} {f:Addr} {as:List V} {σ σ':H} {v:V} (h:spec f as σ=some (v,σ')) (T:Told cf f as σ v σ'):ZB Γ (ZN cf spec) fe fs n f as [] σ=some (v,σ'):=by
 cases n with
 | zero=>exact WZ h T
 | succ n=>rw [Xl,WZ h T]
theorem callX_run {Γ:G} {cf:Cf} {spec:Addr→List V→H→Option (V×H)} {fe fs n:Nat} {f:Addr} {F:Fn} {as:List V} {ks:List (Nat×V)} {σ:H} (h:spec f as σ=none) (hF:Γ.fns.lookup f=some F):ZB Γ (ZN cf spec) fe fs (n+1) f as ks σ=qR Γ (ZB Γ (ZN cf spec) fe fs n) fe fs F as ks σ:=by
 rw [Xl]
 have:ZN cf spec f as ks σ=none:=by unfold ZN;rw [h]
 rw [this,hF]
end MI
end T7
section T8
open PySem
namespace MI.L3
noncomputable def ids:List Str:=(["self","ws","raw","count","b","n","nt","ch","norm","is_simple","S","T","__init__","trailing","longest_run_of_spaces","tabsize","il","i","indent_level","other","ts","less","x","headers","_headers","k","v","_convert_string_type","name","value","regex","search","format","val","append","__setitem__","kv","lower","__delitem__","default","get","keys","items","_name","_value","_params","parts","join","replace","add_header","script","page","base","y","lead","share","whites","at","above","pile","pop","needs","kids","j","register","text","sign","need","kid","upper","symbols","size","find","one","symbol","table","most","last","names","signs","standing","isdigit","column","columns","ends","worths","least","line","h","f","index","a","due_above","due"]:List String).map Str.ofString
noncomputable def idsT:List Txt:= [[115,101,108,102],[119,115],[114,97,119],[99,111,117,110,116],[98],[110],[110,116],[99,104],[110,111,114,109],[105,115,95,115,105,109,112,108,101],[83],[84],[95,95,105,110,105,116,95,95],[116,114,97,105,108,105,110,103],[108,111,110,103,101,115,116,95,114,117,110,95,111,102,95,115,112,97,99,101,115],[116,97,98,115,105,122,101],[105,108],[105],[105,110,100,101,110,116,95,108,101,118,101,108],[111,116,104,101,114],[116,115],[108,101,115,115],[120],[104,101,97,100,101,114,115],[95,104,101,97,100,101,114,115],[107],[118],[95,99,111,110,118,101,114,116,95,115,116,114,105,110,103,95,116,121,112,101],[110,97,109,101],[118,97,108,117,101],[114,101,103,101,120],[115,101,97,114,99,104],[102,111,114,109,97,116],[118,97,108],[97,112,112,101,110,100],[95,95,115,101,116,105,116,101,109,95,95],[107,118],[108,111,119,101,114],[95,95,100,101,108,105,116,101,109,95,95],[100,101,102,97,117,108,116],[103,101,116],[107,101,121,115],[105,116,101,109,115],[95,110,97,109,101],[95,118,97,108,117,101],[95,112,97,114,97,109,115],[112,97,114,116,115],[106,111,105,110],[114,101,112,108,97,99,101],[97,100,100,95,104,101,97,100,101,114],[115,99,114,105,112,116],[112,97,103,101],[98,97,115,101],[121],[108,101,97,100],[115,104,97,114,101],[119,104,105,116,101,115],[97,116],[97,98,111,118,101],[112,105,108,101],[112,111,112],[110,101,101,100,115],[107,105,100,115],[106],[114,101,103,105,115,116,101,114],[116,101,120,116],[115,105,103,110],[110,101,101,100],[107,105,100],[117,112,112,101,114],[115,121,109,98,111,108,115],[115,105,122,101],[102,105,110,100],[111,110,101],[115,121,109,98,111,108],[116,97,98,108,101],[109,111,115,116],[108,97,115,116],[110,97,109,101,115],[115,105,103,110,115],[115,116,97,110,100,105,110,103],[105,115,100,105,103,105,116],[99,111,108,117,109,110],[99,111,108,117,109,110,115],[101,110,100,115],[119,111,114,116,104,115],[108,101,97,115,116],[108,105,110,101],[104],[102],[105,110,100,101,120],[97],[100,117,101,95,97,98,111,118,101],[100,117,101]]
noncomputable def globL:List (Str×V):= [(Str.ofString "Whitespace",.cst (.ref 100)),(Str.ofString "ENDMARKER",.int 0),(Str.ofString "NT_OFFSET",.int 256),(Str.ofString "EXACT_TOKEN_TYPES",.cst (.ref 105)),(Str.ofString "ISTERMINAL",.cst (.ref 114)),(Str.ofString "ISNONTERMINAL",.cst (.ref 121)),(Str.ofString "ISEOF",.cst (.ref 128)),(Str.ofString "_name_disallowed_re",.cst (.ref 138)),(Str.ofString "_value_disallowed_re",.cst (.ref 143)),(Str.ofString "_formatparam",.cst (.ref 151)),(Str.ofString "Headers",.cst (.ref 274)),(Str.ofString "_law_page",.cst (.ref 283)),(Str.ofString "_law_above",.cst (.ref 290)),(Str.ofString "_law_needs",.cst (.ref 295)),(Str.ofString "_law_code",.cst (.ref 300)),(Str.ofString "_law_cut",.cst (.ref 305)),(Str.ofString "_law_join",.cst (.ref 312)),(Str.ofString "_law_run",.cst (.ref 317)),(Str.ofString "_law_column",.cst (.ref 324)),(Str.ofString "_law_due",.cst (.ref 329)),(Str.ofString "law",.cst (.ref 334)),(Str.ofString "len",.cst (.builtin "len")),(Str.ofString "max",.cst (.builtin "max")),(Str.ofString "min",.cst (.builtin "min")),(Str.ofString "sum",.cst (.builtin "sum")),(Str.ofString "sorted",.cst (.builtin "sorted")),(Str.ofString "range",.cst (.type "range")),(Str.ofString "list",.cst (.type "list")),(Str.ofString "tuple",.cst (.type "tuple")),(Str.ofString "int",.cst (.type "int")),(Str.ofString "str",.cst (.type "str")),(Str.ofString "type",.cst (.type "type")),(Str.ofString "zip",.cst (.type "zip")),(Str.ofString "enumerate",.cst (.type "enumerate"))]
noncomputable def tx:Tx:=⟨ids,fun x=>globL.lookup x,fun a x=>if a==100&&x==Str.ofString "S" then some (.str [32]) else if a==100&&x==Str.ofString "T" then some (.str [9]) else none⟩
noncomputable def F_law:Fn:=⟨[50],[],[],.none,
 [(.names [51] (.call (.lit (.cst (.ref 283))) [(.var 50)])),
  (.names [58] (.call (.lit (.cst (.ref 290))) [(.comp (.call (.lit (.cst (.ref 100))) [(.bin .add (.sub (.var 87) (.lit (.int 0))) (.lit (.str [120,9,32])))]) [(.mk (.name 87) (.plain (.slice (.var 51) .none (some (.neg (.lit (.int 1)))) .none)) [])] [87])])),
  (.unpack [(.name 92),(.name 93)] (.call (.lit (.cst (.ref 329))) [(.var 51)])),
  (.names [65] (.call (.lit (.cst (.ref 300))) [(.var 51),(.var 58),(.call (.lit (.cst (.ref 295))) [(.var 58)]),(.call (.lit (.cst (.builtin "len"))) [(.var 58)]),(.lit (.int 0))])),
  (.ret (some (.and (.cmp .eq (.var 58) (.var 92)) (.cmp .eq (.call (.lit (.cst (.ref 317))) [(.call (.lit (.cst (.ref 305))) [(.slice (.var 65) .none (some (.neg (.lit (.int 1)))) .none)])]) (.var 93)))))]⟩
noncomputable def Zt:Fn:=⟨[50],[],[],.none,
 [(.names [51] (.list [])),
  (.for_ (.tup [(.name 25),(.name 52)]) (.enum (.list [(.lit (.int 1296)),(.lit (.int 2027)),(.lit (.int 1060)),(.lit (.int 2754)),(.lit (.int 3808)),(.lit (.int 1703))])) [(.names [53] (.bin .add (.var 52) (.call (.lit (.cst (.builtin "sum"))) [(.comp (.bin .mod (.var 22) (.lit (.int 4050))) [(.mk (.name 22) (.plain (.slice (.var 50) (some (.var 25)) (some (.lit (.int 60))) (some (.lit (.int 6))))) [])] [22])]))),
  (.names [54] (.callM (.lit (.str [])) 47 [(.comp (.sub (.tup [(.lit (.str [])),(.lit (.str [32])),(.lit (.str [9]))]) (.bin .mod (.bin .fdiv (.var 53) (.var 55)) (.lit (.int 3)))) [(.mk (.name 55) (.plain (.tup [(.lit (.int 1)),(.lit (.int 3)),(.lit (.int 9)),(.lit (.int 27))])) [])] [55])] [])),
  (.expr (.callM (.var 51) 34 [(.tup [(.var 54),(.sub (.lit (.str [43,42,38,124,94])) (.bin .mod (.bin .fdiv (.var 53) (.lit (.int 81))) (.lit (.int 5)))),(.bin .mod (.bin .fdiv (.var 53) (.lit (.int 405))) (.lit (.int 10)))])] []))]),
  (.ret (some (.bin .add (.var 51) (.list [(.tup [(.lit (.str [])),(.lit (.str [43])),(.lit (.int 0))])]))))]⟩
noncomputable def qA:Fn:=⟨[56],[],[],.none,
 [(.unpack [(.name 58),(.name 59)] (.tup [(.list []),(.list [(.call (.lit (.cst (.builtin "len"))) [(.var 56)])])])),
  (.for_ (.name 57) (.plain (.call (.lit (.cst (.type "range"))) [(.call (.lit (.cst (.builtin "len"))) [(.var 56)])])) [(.whil (.and (.cmp .gt (.call (.lit (.cst (.builtin "len"))) [(.var 59)]) (.lit (.int 1))) (.not (.callM (.sub (.var 56) (.sub (.var 59) (.neg (.lit (.int 1))))) 21 [(.sub (.var 56) (.var 57))] []))) [(.expr (.callM (.var 59) 60 [] []))]),
  (.expr (.callM (.var 58) 34 [(.sub (.var 59) (.neg (.lit (.int 1))))] [])),
  (.expr (.callM (.var 59) 34 [(.var 57)] []))]),
  (.ret (some (.var 58)))]⟩
noncomputable def Wb:Fn:=⟨[58],[],[],.none,
 [(.names [61] (.bin .mul (.list [(.lit (.int 1))]) (.bin .add (.call (.lit (.cst (.builtin "len"))) [(.var 58)]) (.lit (.int 1))))),
  (.for_ (.name 57) (.plain (.bin .add (.slice (.call (.lit (.cst (.type "list"))) [(.call (.lit (.cst (.type "range"))) [(.call (.lit (.cst (.builtin "len"))) [(.var 58)])])]) .none .none (some (.neg (.lit (.int 1))))) (.list [(.call (.lit (.cst (.builtin "len"))) [(.var 58)])]))) [(.names [62] (.call (.lit (.cst (.builtin "sorted"))) [(.comp (.sub (.var 61) (.var 63)) [(.mk (.name 63) (.plain (.call (.lit (.cst (.type "range"))) [(.call (.lit (.cst (.builtin "len"))) [(.var 58)])])) [(.cmp .eq (.sub (.var 58) (.var 63)) (.var 57))])] [63])])),
  (.ite (.cmp .gt (.call (.lit (.cst (.builtin "len"))) [(.var 62)]) (.lit (.int 1))) [(.setSub (.var 61) (.var 57) (.call (.lit (.cst (.builtin "max"))) [(.sub (.var 62) (.neg (.lit (.int 1)))),(.bin .add (.sub (.var 62) (.neg (.lit (.int 2)))) (.lit (.int 1)))]))] [(.ite (.cmp .ne (.var 62) (.list [])) [(.setSub (.var 61) (.var 57) (.sub (.var 62) (.lit (.int 0))))] [])])]),
  (.ret (some (.var 61)))]⟩
noncomputable def Zv:Fn:=⟨[51,58,61,57,64],[],[],.none,
 [(.unpack [(.name 28),(.name 65),(.name 66)] (.tup [(.sub (.lit (.str [97,98,99,100,101,102])) (.var 64)),(.lit (.str [])),(.lit (.str []))])),
  (.for_ (.tup [(.name 67),(.name 68)]) (.plain (.call (.lit (.cst (.builtin "sorted"))) [(.comp (.tup [(.neg (.sub (.var 61) (.var 63))),(.var 63)]) [(.mk (.name 63) (.plain (.call (.lit (.cst (.type "range"))) [(.call (.lit (.cst (.builtin "len"))) [(.var 58)])])) [(.cmp .eq (.sub (.var 58) (.var 63)) (.var 57))])] [63])])) [(.ite (.cmp .eq (.var 65) (.lit (.str []))) [(.unpack [(.name 65),(.name 66)] (.tup [(.call (.lit (.cst (.ref 300))) [(.var 51),(.var 58),(.var 61),(.var 68),(.var 64)]),(.sub (.sub (.var 51) (.var 57)) (.lit (.int 1)))]))] [(.names [65] (.bin .add (.bin .add (.bin .add (.bin .add (.bin .add (.bin .add (.bin .add (.bin .add (.var 65) (.call (.lit (.cst (.ref 300))) [(.var 51),(.var 58),(.var 61),(.var 68),(.bin .add (.var 64) (.lit (.int 1)))])) (.callM (.var 28) 69 [] [])) (.var 66)) (.lit (.str [61]))) (.sub (.lit (.str [97,98,99,100,101,102])) (.bin .add (.var 64) (.lit (.int 1))))) (.lit (.str [59,126]))) (.sub (.lit (.str [65,66,67,68,69,70])) (.bin .add (.var 64) (.lit (.int 1))))) (.lit (.str [59]))))])]),
  (.ret (some (.bin .add (.bin .add (.bin .add (.bin .add (.bin .add (.var 65) (.var 28)) (.var 66)) (.lit (.str [61]))) (.call (.lit (.cst (.type "str"))) [(.sub (.sub (.var 51) (.var 57)) (.lit (.int 2)))])) (.lit (.str [59])))))]⟩
noncomputable def Yv:Fn:=⟨[65],[],[],.none,
 [(.unpack [(.name 70),(.name 57)] (.tup [(.list []),(.lit (.int 0))])),
  (.whil (.cmp .lt (.var 57) (.call (.lit (.cst (.builtin "len"))) [(.var 65)])) [(.names [71] (.call (.lit (.cst (.builtin "max"))) [(.bin .add (.list [(.lit (.int 1))]) (.comp (.var 25) [(.mk (.name 25) (.plain (.tup [(.lit (.int 2)),(.lit (.int 3))])) [(.cmp .isIn (.slice (.var 65) (some (.var 57)) (some (.bin .add (.var 57) (.var 25))) .none) (.lit (.cst (.ref 105))))])] [25]))])),
  (.expr (.callM (.var 70) 34 [(.callM (.lit (.cst (.ref 105))) 40 [(.slice (.var 65) (some (.var 57)) (some (.bin .add (.var 57) (.var 71))) .none),(.bin .add (.lit (.int 256)) (.callM (.lit (.str [48,49,50,51,52,53,54,55,56,57,97,98,99,100,101,102,65,66,67,68,69,70])) 72 [(.sub (.var 65) (.var 57))] []))] [])] [])),
  (.names [57] (.bin .add (.var 57) (.var 71)))]),
  (.ret (some (.bin .add (.var 70) (.list [(.lit (.int 0))]))))]⟩
noncomputable def Zu:Fn:=⟨[66,73,19],[],[],.none,
 [(.ret (some (.dsub [22,36,38,41,42,43] [(.var 19),(.bin .add (.var 73) (.var 19)),(.bin .mul (.var 73) (.var 19)),(.bin .band (.var 73) (.var 19)),(.bin .bor (.var 73) (.var 19)),(.bin .bxor (.var 73) (.var 19))] (.var 66))))]⟩
noncomputable def Yt:Fn:=⟨[70],[],[],.none,
 [(.unpack [(.name 75),(.name 76),(.name 77),(.name 78),(.name 79)] (.tup [(.call (.lit (.cst (.ref 274))) []),(.lit (.int 0)),(.lit (.bool true)),(.list []),(.list [])])),
  (.for_ (.name 74) (.plain (.var 70)) [(.ite (.call (.lit (.cst (.ref 121))) [(.var 74)]) [(.expr (.callM (.var 78) 34 [(.sub (.lit (.str [48,49,50,51,52,53,54,55,56,57,97,98,99,100,101,102,65,66,67,68,69,70])) (.bin .sub (.var 74) (.lit (.int 256))))] []))] []),
  (.ite (.or (.cmp .eq (.var 74) (.lit (.int 13))) (.call (.lit (.cst (.ref 128))) [(.var 74)])) [(.ite (.cmp .eq (.var 79) (.list [(.lit (.int 31))])) [(.del (.var 75) (.sub (.var 78) (.lit (.int 0))))] [(.ite (.cmp .ne (.var 79) (.list [])) [(.for_ (.name 28) (.plain (.comp (.var 28) [(.mk (.name 28) (.plain (.var 78)) [(.and (.cmp .ne (.var 79) (.list [(.lit (.int 22))])) (.not (.callM (.var 28) 81 [] [])))])] [28])) [(.expr (.callM (.var 75) 49 [(.callM (.var 28) 69 [] []),(.lit (.str [48]))] []))]),
  (.names [19] (.call (.lit (.cst (.type "int"))) [(.ite (.callM (.sub (.var 78) (.lit (.int 1))) 81 [] []) (.sub (.var 78) (.lit (.int 1))) (.callM (.var 75) 40 [(.sub (.var 78) (.lit (.int 1)))] []))])),
  (.setSub (.var 75) (.sub (.var 78) (.lit (.int 0))) (.call (.lit (.cst (.type "str"))) [(.call (.lit (.cst (.ref 312))) [(.sub (.var 79) (.lit (.int 0))),(.call (.lit (.cst (.type "int"))) [(.callM (.var 75) 40 [(.sub (.var 78) (.lit (.int 0))),(.lit (.str [48]))] [])]),(.var 19)])])),
  (.names [77] (.and (.var 77) (.cmp .eq (.sub (.callM (.var 75) 41 [] []) (.neg (.lit (.int 1)))) (.sub (.var 78) (.lit (.int 0))))))] [])]),
  (.names [80] (.callM (.callM (.lit (.str [])) 47 [(.callM (.var 75) 41 [] [])] []) 37 [] [])),
  (.names [76] (.call (.lit (.cst (.builtin "max"))) [(.var 76),(.call (.lit (.cst (.builtin "len"))) [(.comp (.var 28) [(.mk (.name 28) (.plain (.lit (.str [97,98,99,100,101,102]))) [(.cmp .isIn (.var 28) (.var 80))])] [28])])])),
  (.unpack [(.name 78),(.name 79)] (.tup [(.list []),(.list [])]))] [(.ite (.call (.lit (.cst (.ref 114))) [(.var 74)]) [(.expr (.callM (.var 79) 34 [(.var 74)] []))] [])])]),
  (.ret (some (.tup [(.callM (.var 75) 42 [] []),(.var 76),(.var 77)])))]⟩
noncomputable def Xr:Fn:=⟨[54,71],[],[],.none,
 [(.names [82] (.lit (.int 0))),
  (.for_ (.name 66) (.plain (.var 54)) [(.names [82] (.ite (.cmp .eq (.var 66) (.lit (.str [32]))) (.bin .add (.var 82) (.lit (.int 1))) (.bin .mul (.bin .add (.bin .fdiv (.var 82) (.var 71)) (.lit (.int 1))) (.var 71))))]),
  (.ret (some (.var 82)))]⟩
noncomputable def Yu:Fn:=⟨[51],[],[],.none,
 [(.names [3] (.bin .sub (.call (.lit (.cst (.builtin "len"))) [(.var 51)]) (.lit (.int 1)))),
  (.names [83] (.comp (.comp (.call (.lit (.cst (.ref 324))) [(.sub (.var 87) (.lit (.int 0))),(.var 71)]) [(.mk (.name 71) (.plain (.call (.lit (.cst (.type "range"))) [(.lit (.int 1)),(.lit (.int 6))])) [])] [71]) [(.mk (.name 87) (.plain (.var 51)) [])] [87])),
  (.names [84] (.comp (.call (.lit (.cst (.builtin "min"))) [(.bin .add (.comp (.var 63) [(.mk (.name 63) (.plain (.call (.lit (.cst (.type "range"))) [(.bin .add (.var 17) (.lit (.int 1))),(.var 3)])) [(.cmp .ge (.call (.lit (.cst (.builtin "max"))) [(.comp (.bin .sub (.var 91) (.var 4)) [(.mk (.tup [(.name 91),(.name 4)]) (.zip (.sub (.var 83) (.var 17)) (.sub (.var 83) (.var 63))) [])] [91,4])]) (.lit (.int 0)))])] [63]) (.list [(.var 3)]))]) [(.mk (.name 17) (.plain (.call (.lit (.cst (.type "range"))) [(.var 3)])) [])] [17])),
  (.names [58] (.comp (.sub (.bin .add (.list [(.var 3)]) (.comp (.var 88) [(.mk (.name 88) (.plain (.call (.lit (.cst (.type "range"))) [(.var 17)])) [(.cmp .gt (.sub (.var 84) (.var 88)) (.var 17))])] [88])) (.neg (.lit (.int 1)))) [(.mk (.name 17) (.plain (.call (.lit (.cst (.type "range"))) [(.var 3)])) [])] [17])),
  (.unpack [(.name 85),(.name 86)] (.tup [(.comp (.sub (.var 87) (.lit (.int 2))) [(.mk (.name 87) (.plain (.var 51)) [])] [87]),(.bin .mul (.list [(.lit (.int 1))]) (.call (.lit (.cst (.builtin "len"))) [(.var 51)]))])),
  (.for_ (.name 17) (.plain (.bin .add (.slice (.call (.lit (.cst (.type "list"))) [(.call (.lit (.cst (.type "range"))) [(.var 3)])]) .none .none (some (.neg (.lit (.int 1))))) (.list [(.var 3)]))) [(.names [62] (.comp (.sub (.var 86) (.var 63)) [(.mk (.name 63) (.plain (.call (.lit (.cst (.type "range"))) [(.var 3)])) [(.cmp .eq (.sub (.var 58) (.var 63)) (.var 17))])] [63])),
  (.setSub (.var 86) (.var 17) (.call (.lit (.cst (.builtin "min"))) [(.bin .add (.comp (.call (.lit (.cst (.builtin "max"))) [(.bin .add (.list [(.sub (.var 62) (.var 89))]) (.comp (.bin .add (.lit (.int 1)) (.sub (.var 62) (.var 63))) [(.mk (.name 63) (.plain (.call (.lit (.cst (.type "range"))) [(.call (.lit (.cst (.builtin "len"))) [(.var 62)])])) [(.cmp .ne (.var 63) (.var 89))])] [63]))]) [(.mk (.name 89) (.plain (.call (.lit (.cst (.type "range"))) [(.call (.lit (.cst (.builtin "len"))) [(.var 62)])])) [])] [89]) (.bin .mul (.list [(.lit (.int 1))]) (.cmp .eq (.var 62) (.list []))))])),
  (.ite (.cmp .lt (.var 17) (.var 3)) [(.setSub (.var 85) (.sub (.var 58) (.var 17)) (.call (.lit (.cst (.ref 312))) [(.sub (.tup [(.lit (.int 36)),(.lit (.int 38)),(.lit (.int 41)),(.lit (.int 42)),(.lit (.int 43))]) (.callM (.lit (.str [43,42,38,124,94])) 90 [(.sub (.sub (.var 51) (.sub (.var 58) (.var 17))) (.lit (.int 1)))] [])),(.sub (.var 85) (.sub (.var 58) (.var 17))),(.sub (.var 85) (.var 17))]))] [])]),
  (.ret (some (.tup [(.var 58),(.tup [(.list [(.tup [(.lit (.str [97])),(.call (.lit (.cst (.type "str"))) [(.sub (.var 85) (.var 3))])])]),(.sub (.var 86) (.var 3)),(.lit (.bool true))])])))]⟩
noncomputable def Zw:Fn:=⟨[22],[],[],.none,
 [(.ret (some (.cmp .lt (.var 22) (.lit (.int 256)))))]⟩
noncomputable def qG:Fn:=⟨[22],[],[],.none,
 [(.ret (some (.cmp .ge (.var 22) (.lit (.int 256)))))]⟩
noncomputable def zav:Fn:=⟨[22],[],[],.none,
 [(.ret (some (.cmp .eq (.var 22) (.lit (.int 0)))))]⟩
noncomputable def qQ:Fn:=⟨[0,1],[],[],.none,
 [(.setAttr (.var 0) 2 (.var 1)),
  (.unpack [(.name 10),(.name 11)] (.tup [(.lit (.str [32])),(.lit (.str [9]))])),
  (.names [3] (.list [])),
  (.names [4,5,6] (.lit (.int 0))),
  (.for_ (.name 7) (.plain (.attr (.var 0) 2)) [(.ite (.cmp .eq (.var 7) (.var 10)) [(.names [5] (.bin .add (.var 5) (.lit (.int 1)))),
  (.names [4] (.bin .add (.var 4) (.lit (.int 1))))] [(.ite (.cmp .eq (.var 7) (.var 11)) [(.names [5] (.bin .add (.var 5) (.lit (.int 1)))),
  (.names [6] (.bin .add (.var 6) (.lit (.int 1)))),
  (.ite (.cmp .ge (.var 4) (.call (.lit (.cst (.builtin "len"))) [(.var 3)])) [(.names [3] (.bin .add (.var 3) (.bin .mul (.list [(.lit (.int 0))]) (.bin .add (.bin .sub (.var 4) (.call (.lit (.cst (.builtin "len"))) [(.var 3)])) (.lit (.int 1))))))] []),
  (.setSub (.var 3) (.var 4) (.bin .add (.sub (.var 3) (.var 4)) (.lit (.int 1)))),
  (.names [4] (.lit (.int 0)))] [.brk])])]),
  (.setAttr (.var 0) 5 (.var 5)),
  (.setAttr (.var 0) 6 (.var 6)),
  (.setAttr (.var 0) 8 (.tup [(.call (.lit (.cst (.type "tuple"))) [(.var 3)]),(.var 4)])),
  (.setAttr (.var 0) 9 (.cmp .le (.call (.lit (.cst (.builtin "len"))) [(.var 3)]) (.lit (.int 1))))]⟩
noncomputable def xF:Fn:=⟨[0],[],[],.none,
 [(.unpack [(.name 3),(.name 13)] (.attr (.var 0) 8)),
  (.ret (some (.call (.lit (.cst (.builtin "max"))) [(.bin .sub (.call (.lit (.cst (.builtin "len"))) [(.var 3)]) (.lit (.int 1))),(.var 13)])))]⟩
noncomputable def wA:Fn:=⟨[0,15],[],[],.none,
 [(.unpack [(.name 3),(.name 13)] (.attr (.var 0) 8)),
  (.names [16] (.lit (.int 0))),
  (.for_ (.name 17) (.plain (.call (.lit (.cst (.type "range"))) [(.var 15),(.call (.lit (.cst (.builtin "len"))) [(.var 3)])])) [(.names [16] (.bin .add (.var 16) (.bin .mul (.bin .fdiv (.var 17) (.var 15)) (.sub (.var 3) (.var 17)))))]),
  (.ret (some (.bin .add (.var 13) (.bin .mul (.var 15) (.bin .add (.var 16) (.attr (.var 0) 6))))))]⟩
noncomputable def jF:Fn:=⟨[0,19],[],[],.none,
 [(.ite (.cmp .ge (.attr (.var 0) 5) (.attr (.var 19) 5)) [(.ret (some (.lit (.bool false))))] []),
  (.ite (.and (.attr (.var 0) 9) (.attr (.var 19) 9)) [(.ret (some (.cmp .le (.attr (.var 0) 6) (.attr (.var 19) 6))))] []),
  (.names [5] (.bin .add (.call (.lit (.cst (.builtin "max"))) [(.callM (.var 0) 14 [] []),(.callM (.var 19) 14 [] [])]) (.lit (.int 1)))),
  (.for_ (.name 20) (.plain (.call (.lit (.cst (.type "range"))) [(.lit (.int 2)),(.bin .add (.var 5) (.lit (.int 1)))])) [(.ite (.cmp .ge (.callM (.var 0) 18 [(.var 20)] []) (.callM (.var 19) 18 [(.var 20)] [])) [(.ret (some (.lit (.bool false))))] [])]),
  (.ret (some (.lit (.bool true))))]⟩
noncomputable def wv:Fn:=⟨[0,23],[.none],[],.none,
 [(.names [23] (.ite (.cmp .isNot (.var 23) (.lit .none)) (.var 23) (.list []))),
  (.ite (.cmp .isNot (.call (.lit (.cst (.type "type"))) [(.var 23)]) (.lit (.cst (.type "list")))) [.bad] []),
  (.setAttr (.var 0) 24 (.var 23)),
  (.ite (.lit (.bool true)) [(.for_ (.tup [(.name 25),(.name 26)]) (.plain (.var 23)) [(.expr (.callM (.var 0) 27 [(.var 25)] [(28,(.lit (.bool true)))])),
  (.expr (.callM (.var 0) 27 [(.var 26)] [(28,(.lit (.bool false)))]))])] [])]⟩
noncomputable def yo:Fn:=⟨[0,29],[],[28],.none,
 [(.ite (.cmp .is_ (.call (.lit (.cst (.type "type"))) [(.var 29)]) (.lit (.cst (.type "str")))) [(.names [30] (.ite (.var 28) (.lit (.cst (.ref 138))) (.lit (.cst (.ref 143))))),
  (.ite (.callM (.var 30) 31 [(.var 29)] []) [.bad] []),
  (.ret (some (.var 29)))] []),
  .bad]⟩
noncomputable def xQ:Fn:=⟨[0,28,33],[],[],.none,
 [(.del (.var 0) (.var 28)),
  (.expr (.callM (.attr (.var 0) 24) 34 [(.tup [(.callM (.var 0) 27 [(.var 28)] [(28,(.lit (.bool true)))]),(.callM (.var 0) 27 [(.var 33)] [(28,(.lit (.bool false)))])])] []))]⟩
noncomputable def xR:Fn:=⟨[0,28],[],[],.none,
 [(.names [28] (.callM (.var 0) 27 [(.callM (.var 28) 37 [] [])] [(28,(.lit (.bool true)))])),
  (.setAll (.attr (.var 0) 24) (.comp (.var 36) [(.mk (.name 36) (.plain (.attr (.var 0) 24)) [(.cmp .ne (.callM (.sub (.var 36) (.lit (.int 0))) 37 [] []) (.var 28))])] [36]))]⟩
noncomputable def wb:Fn:=⟨[0,28,39],[.none],[],.none,
 [(.names [28] (.callM (.var 0) 27 [(.callM (.var 28) 37 [] [])] [(28,(.lit (.bool true)))])),
  (.for_ (.tup [(.name 25),(.name 26)]) (.plain (.attr (.var 0) 24)) [(.ite (.cmp .eq (.callM (.var 25) 37 [] []) (.var 28)) [(.ret (some (.var 26)))] [])]),
  (.ret (some (.var 39)))]⟩
noncomputable def wY:Fn:=⟨[0],[],[],.none,
 [(.ret (some (.comp (.var 25) [(.mk (.tup [(.name 25),(.name 26)]) (.plain (.attr (.var 0) 24)) [])] [25,26])))]⟩
noncomputable def qH:Fn:=⟨[0],[],[],.none,
 [(.ret (some (.slice (.attr (.var 0) 24) .none .none .none)))]⟩
noncomputable def xL:Fn:=⟨[0,43,44],[],[],some 45,
 [(.names [46] (.list [])),
  (.ite (.cmp .isNot (.var 44) (.lit .none)) [(.names [44] (.callM (.var 0) 27 [(.var 44)] [(28,(.lit (.bool false)))])),
  (.expr (.callM (.var 46) 34 [(.var 44)] []))] []),
  (.for_ (.tup [(.name 25),(.name 26)]) (.items (.var 45)) [(.names [25] (.callM (.var 0) 27 [(.var 25)] [(28,(.lit (.bool true)))])),
  (.ite (.cmp .is_ (.var 26) (.lit .none)) [(.expr (.callM (.var 46) 34 [(.callM (.var 25) 48 [(.lit (.str [95])),(.lit (.str [45]))] [])] []))] [(.names [26] (.callM (.var 0) 27 [(.var 26)] [(28,(.lit (.bool false)))])),
  (.expr (.callM (.var 46) 34 [(.call (.lit (.cst (.ref 151))) [(.callM (.var 25) 48 [(.lit (.str [95])),(.lit (.str [45]))] []),(.var 26)])] []))])]),
  (.expr (.callM (.attr (.var 0) 24) 34 [(.tup [(.callM (.var 0) 27 [(.var 43)] [(28,(.lit (.bool true)))]),(.callM (.lit (.str [59,32])) 47 [(.var 46)] [])])] []))]⟩
noncomputable def fns:List (Addr×Fn):= [(334,F_law),(283,Zt),(290,qA),(295,Wb),(300,Zv),(305,Yv),(312,Zu),(317,Yt),(324,Xr),(329,Yu),(114,Zw),(121,qG),(128,zav),(55,qQ),(62,xF),(69,wA),(90,jF),(166,wv),(173,yo),(187,xQ),(192,xR),(221,wb),(226,wY),(238,qH),(271,xL)]
noncomputable def XN:Cls:=⟨[(27,173),(35,187),(38,192),(40,221),(41,226),(42,238),(49,271)],166,[24]⟩
noncomputable def Zy:Cls:=⟨[(14,62),(18,69),(21,90)],55,[2,5,6,8,9]⟩
noncomputable def clss:List (Addr×Cls):= [(274,XN),(100,Zy)]
noncomputable def tab:List (Txt×Int×Tok×Tok):= [([33],54,493,489),([33,61],28,495,437),([37],24,497,429),([37,61],40,499,461),([38],19,501,419),([38,61],41,503,463),([40],7,505,395),([41],8,507,397),([42],16,509,413),([42,42],35,511,451),([42,42,61],46,513,473),([42,61],38,515,457),([43],14,517,409),([43,61],36,519,453),([44],12,521,405),([45],15,523,411),([45,61],37,525,455),([45,62],51,527,483),([46],23,529,427),([46,46,46],52,531,485),([47],17,533,415),([47,47],47,535,475),([47,47,61],48,537,477),([47,61],39,539,459),([58],11,541,403),([58,61],53,543,487),([59],13,545,407),([60],20,547,421),([60,60],33,549,447),([60,60,61],44,551,469),([60,61],29,553,439),([61],22,555,425),([61,61],27,557,435),([62],21,559,423),([62,61],30,561,441),([62,62],34,562,449),([62,62,61],45,563,471),([64],49,564,479),([64,61],50,565,481),([91],9,566,399),([93],10,567,401),([94],32,568,445),([94,61],43,569,467),([123],25,570,431),([124],18,571,417),([124,61],42,572,465),([125],26,573,433),([126],31,574,443)]
noncomputable def Γ:G:=⟨fns,clss,[(105,WF tab)],[138,143],idsT,38,35⟩
end MI.L3
end T8
section T9
open PySem PySem.Spec PySem.Calls PyProof.Rows PySem.W
set_option maxHeartbeats 4000000
namespace MI
structure ClsLook (K:Frag) (t:Tx) (C:Addr) (k:Cls):Prop where
 pg:plainGet K C ""=true
 hd:hasDictIn K C=true
 po:plainOver K C=true
 sa:findIn K (.ref C) "__setattr__"=some (some (.builtin "object.__setattr__"))
 mks:makesIn K C=true
 ini:findIn K (.ref C) "__init__"=some (some (.ref k.init))
 ini2:typeIn K (.ref k.init)=some (.type "function")
 kp:keepIn K (.ref C)=true
 fl:k.flds.all (fldChk K C t)=true
 me:k.meths.all (methChk K C t)=true
 nq:noSeq K C=true
structure CatLook (K:Frag) (C:Addr) (x:Str) (u:Value):Prop where
 rd:readsIn K C (.type "type")=true
 fi:findCls K (.ref C) (.type "type") x=some (.val u)
namespace L3
structure Facts (hp:Params→Frag):Prop where
 tab: ∀P,(hp P).lookup 105=some (dctO (tabEs P tab) 48)
 glob: ∀P,globL.all (globChk (hp P))=true
 look_F_law: ∀P,yd (hp P) tx 334 F_law [Str.ofString "script"] [] []
 look_F_law_page: ∀P,yd (hp P) tx 283 Zt [Str.ofString "script"] [] []
 look_F_law_above: ∀P,yd (hp P) tx 290 qA [Str.ofString "whites"] [] []
 look_F_law_needs: ∀P,yd (hp P) tx 295 Wb [Str.ofString "above"] [] []
 look_F_law_code: ∀P,yd (hp P) tx 300 Zv [Str.ofString "page",Str.ofString "above",Str.ofString "needs",Str.ofString "at",Str.ofString "register"] [] []
 look_F_law_cut: ∀P,yd (hp P) tx 305 Yv [Str.ofString "text"] [] []
 look_F_law_join: ∀P,yd (hp P) tx 312 Zu [Str.ofString "sign",Str.ofString "one",Str.ofString "other"] [] []
 look_F_law_run: ∀P,yd (hp P) tx 317 Yt [Str.ofString "symbols"] [] []
 look_F_law_column: ∀P,yd (hp P) tx 324 Xr [Str.ofString "lead",Str.ofString "size"] [] []
 look_F_law_due: ∀P,yd (hp P) tx 329 Yu [Str.ofString "page"] [] []
 look_F_ISTERMINAL: ∀P,yd (hp P) tx 114 Zw [Str.ofString "x"] [] []
 look_F_ISNONTERMINAL: ∀P,yd (hp P) tx 121 qG [Str.ofString "x"] [] []
 look_F_ISEOF: ∀P,yd (hp P) tx 128 zav [Str.ofString "x"] [] []
 look_F_WhitespaceU_initU: ∀P,yd (hp P) tx 55 qQ [Str.ofString "self",Str.ofString "ws"] [] []
 look_F_Whitespace_longest_run_of_spaces: ∀P,yd (hp P) tx 62 xF [Str.ofString "self"] [] []
 look_F_Whitespace_indent_level: ∀P,yd (hp P) tx 69 wA [Str.ofString "self",Str.ofString "tabsize"] [] []
 look_F_Whitespace_less: ∀P,yd (hp P) tx 90 jF [Str.ofString "self",Str.ofString "other"] [] []
 look_F_HeadersU_initU: ∀P,yd (hp P) tx 166 wv [Str.ofString "self",Str.ofString "headers"] [] [Value.none]
 look_F_HeadersUconvert_string_type: ∀P,yd (hp P) tx 173 yo [Str.ofString "self",Str.ofString "value"] [Str.ofString "name"] []
 look_F_HeadersU_setitemU: ∀P,yd (hp P) tx 187 xQ [Str.ofString "self",Str.ofString "name",Str.ofString "val"] [] []
 look_F_HeadersU_delitemU: ∀P,yd (hp P) tx 192 xR [Str.ofString "self",Str.ofString "name"] [] []
 look_F_Headers_get: ∀P,yd (hp P) tx 221 wb [Str.ofString "self",Str.ofString "name",Str.ofString "default"] [] [Value.none]
 look_F_Headers_keys: ∀P,yd (hp P) tx 226 wY [Str.ofString "self"] [] []
 look_F_Headers_items: ∀P,yd (hp P) tx 238 qH [Str.ofString "self"] [] []
 look_F_Headers_add_header: ∀P,zat (hp P) tx 271 xL (Str.ofString "self") (Str.ofString "_name") (Str.ofString "_value") (Str.ofString "_params")
 clsH: ∀P,ClsLook (hp P) tx 274 XN
 clsW: ∀P,ClsLook (hp P) tx 100 Zy
 pat0: ∀P,(hp P).lookup 138=some {cls:= .type "re.Pattern",dict:=none,data:= .fields #[Value.str (Str.ofString "[\\x00-\\x1F\\x7F]") 648,Value.int 32 671,Value.int 0 0,.none,.none,.ref 137,Value.int 0 0],slots:= #[]}
 pit0: ∀P,(hp P).lookup 137=some {cls:= .type "tuple",dict:=none,data:= .seq #[Value.int 14 0,Value.int 10 0,Value.int 4 0,Value.int 1 0,Value.int 1 0,Value.int 22 0,Value.int 0 0,Value.int 31 0,Value.int 16 0,Value.int 127 0,Value.int 0 0,Value.int 13 0,Value.int 7 0,Value.int 22 0,Value.int 0 0,Value.int 31 0,Value.int 16 0,Value.int 127 0,Value.int 0 0,Value.int 1 0] 0,slots:= #[]}
 pat1: ∀P,(hp P).lookup 143=some {cls:= .type "re.Pattern",dict:=none,data:= .fields #[Value.str (Str.ofString "[\\x00-\\x08\\x0A-\\x1F\\x7F]") 674,Value.int 32 705,Value.int 0 0,.none,.none,.ref 142,Value.int 0 0],slots:= #[]}
 pit1: ∀P,(hp P).lookup 142=some {cls:= .type "tuple",dict:=none,data:= .seq #[Value.int 14 0,Value.int 14 0,Value.int 4 0,Value.int 1 0,Value.int 1 0,Value.int 9 0,Value.int 4294966783 0,Value.int 0 0,Value.int 0 0,Value.int 2147483648 0,Value.int 0 0,Value.int 0 0,Value.int 0 0,Value.int 0 0,Value.int 0 0,Value.int 13 0,Value.int 11 0,Value.int 9 0,Value.int 4294966783 0,Value.int 0 0,Value.int 0 0,Value.int 2147483648 0,Value.int 0 0,Value.int 0 0,Value.int 0 0,Value.int 0 0,Value.int 0 0,Value.int 1 0] 0,slots:= #[]}
 catS: ∀P,CatLook (hp P) 100 (Str.ofString "S") (.str (Str.ofString " ") 304)
 catT: ∀P,CatLook (hp P) 100 (Str.ofString "T") (.str (Str.ofString "\t") 305)
 law: ∀P,nsIn (hp P) mainGlobals (Str.ofString "law")=some (some (.ref 334))
noncomputable def cx (hp:Params→Frag) (vw:Program) (loose:List Str) (w:World) (h₀:Heap) (mg mb:Str→Option Value) (X:(hp w.params).In h₀) (T:TopRead vw loose mg mb h₀):Cx:=⟨PySem.Challenge.rw_rs0232_03.row.prog,w,hp w.params,h₀,mg,mb,vw,loose,X,T,Γ,tx⟩
section
variable {hp:Params→Frag} (FX:Facts hp) {vw:Program} {loose:List Str} {w:World} {h₀:Heap} {mg mb:Str→Option Value} {X:(hp w.params).In h₀} {T:TopRead vw loose mg mb h₀}
include FX
theorem fn_ok:(cx hp vw loose w h₀ mg mb X T).FnOk:=fun f F e=>
 AllL.get (P:=fun p:Addr×Fn=>Zs (cx hp vw loose w h₀ mg mb X T) p.1 p.2) (L:=fns) (
  .cons ((FX.look_F_law w.params).fact (c:=cx hp vw loose w h₀ mg mb X T) .nil) (
  .cons ((FX.look_F_law_page w.params).fact (c:=cx hp vw loose w h₀ mg mb X T) .nil) (
  .cons ((FX.look_F_law_above w.params).fact (c:=cx hp vw loose w h₀ mg mb X T) .nil) (
  .cons ((FX.look_F_law_needs w.params).fact (c:=cx hp vw loose w h₀ mg mb X T) .nil) (
  .cons ((FX.look_F_law_code w.params).fact (c:=cx hp vw loose w h₀ mg mb X T) .nil) (
  .cons ((FX.look_F_law_cut w.params).fact (c:=cx hp vw loose w h₀ mg mb X T) .nil) (
  .cons ((FX.look_F_law_join w.params).fact (c:=cx hp vw loose w h₀ mg mb X T) .nil) (
  .cons ((FX.look_F_law_run w.params).fact (c:=cx hp vw loose w h₀ mg mb X T) .nil) (
  .cons ((FX.look_F_law_column w.params).fact (c:=cx hp vw loose w h₀ mg mb X T) .nil) (
  .cons ((FX.look_F_law_due w.params).fact (c:=cx hp vw loose w h₀ mg mb X T) .nil) (
  .cons ((FX.look_F_ISTERMINAL w.params).fact (c:=cx hp vw loose w h₀ mg mb X T) .nil) (
  .cons ((FX.look_F_ISNONTERMINAL w.params).fact (c:=cx hp vw loose w h₀ mg mb X T) .nil) (
  .cons ((FX.look_F_ISEOF w.params).fact (c:=cx hp vw loose w h₀ mg mb X T) .nil) (
  .cons ((FX.look_F_WhitespaceU_initU w.params).fact (c:=cx hp vw loose w h₀ mg mb X T) .nil) (
  .cons ((FX.look_F_Whitespace_longest_run_of_spaces w.params).fact (c:=cx hp vw loose w h₀ mg mb X T) .nil) (
  .cons ((FX.look_F_Whitespace_indent_level w.params).fact (c:=cx hp vw loose w h₀ mg mb X T) .nil) (
  .cons ((FX.look_F_Whitespace_less w.params).fact (c:=cx hp vw loose w h₀ mg mb X T) .nil) (
  .cons ((FX.look_F_HeadersU_initU w.params).fact (c:=cx hp vw loose w h₀ mg mb X T) (.cons .none .nil)) (
  .cons ((FX.look_F_HeadersUconvert_string_type w.params).fact (c:=cx hp vw loose w h₀ mg mb X T) .nil) (
  .cons ((FX.look_F_HeadersU_setitemU w.params).fact (c:=cx hp vw loose w h₀ mg mb X T) .nil) (
  .cons ((FX.look_F_HeadersU_delitemU w.params).fact (c:=cx hp vw loose w h₀ mg mb X T) .nil) (
  .cons ((FX.look_F_Headers_get w.params).fact (c:=cx hp vw loose w h₀ mg mb X T) (.cons .none .nil)) (
  .cons ((FX.look_F_Headers_keys w.params).fact (c:=cx hp vw loose w h₀ mg mb X T) .nil) (
  .cons ((FX.look_F_Headers_items w.params).fact (c:=cx hp vw loose w h₀ mg mb X T) .nil) (
  .cons ((FX.look_F_Headers_add_header w.params).fact (c:=cx hp vw loose w h₀ mg mb X T)) (
  .nil)))))))))))))))))))))))))) (f,F) (wX e)
theorem tab_ok:(cx hp vw loose w h₀ mg mb X T).TabOk:=by
 intro a kvs e
 have e':(a,kvs)∈ [(105,WF tab)]:=wX e
 simp only [zh,Prod.mk.injEq,yu,or_false] at e'
 refine k02 e' fun q1 q2=> ?_;clear e';subst q1;subst q2
 exact ⟨by decide,_,_,FX.tab w.params,tabRel tab⟩
theorem glob_ok:(cx hp vw loose w h₀ mg mb X T).GlobOk:=GlobOk.of (l:=globL) (fun ω=>rfl) (FX.glob w.params)
theorem zbG:Zx (cx hp vw loose w h₀ mg mb X T) 274 XN:=
 have L:=FX.clsH w.params
 Zx.of L.pg L.hd L.po L.sa L.mks L.ini L.ini2 L.kp L.fl L.me L.nq
theorem QC:Zx (cx hp vw loose w h₀ mg mb X T) 100 Zy:=
 have L:=FX.clsW w.params
 Zx.of L.pg L.hd L.po L.sa L.mks L.ini L.ini2 L.kp L.fl L.me L.nq
theorem cls_ok:(cx hp vw loose w h₀ mg mb X T).ClsOk:=by
 intro C k e
 have e':(C,k)∈clss:=wX e
 unfold clss at e'
 simp only [zh,Prod.mk.injEq,yu,or_false] at e'
 rcases e' with ⟨rfl,rfl⟩ | ⟨rfl,rfl⟩
 ·exact zbG FX
 ·exact QC FX
theorem pats_ok:(cx hp vw loose w h₀ mg mb X T).PatsOk:=by
 intro a e
 have e':a∈([138,143]:List Addr):=List.elem_iff.mp e
 simp only [zh,yu,or_false] at e'
 rcases e' with rfl | rfl
 ·exact YG.of (c:=cx hp vw loose w h₀ mg mb X T) (FX.pat0 w.params) (FX.pit0 w.params) rfl rfl (by kernel_rfl) code_name
 ·exact YG.of (c:=cx hp vw loose w h₀ mg mb X T) (FX.pat1 w.params) (FX.pit1 w.params) rfl rfl (by kernel_rfl) zcZ
set_option tactic.hygienic true in
theorem cat_ok:(cx hp vw loose w h₀ mg mb X T).CatOk:=by
 intro ad x v e
 change (if ad==100&&x==Str.ofString "S" then some (V.str [32]) else if ad==100&&x==Str.ofString "T" then some (V.str [9]) else none)=some v at e
 split at e
 ·rename_i h
  rw [yC] at h
  have h1:ad=100:=by simpa using h.1
  have h2:x=Str.ofString "S":=by simpa using h.2
  subst h1 h2
  (refine si e fun q3=> ?_;subst q3;clear e)
  exact ⟨.type "type",.str (Str.ofString " ") 304,(FX.catS w.params).rd,(FX.catS w.params).fi,rfl,Zf (by decide+kernel)⟩
 ·split at e
  ·rename_i h
   rw [yC] at h
   have h1:ad=100:=by simpa using h.1
   have h2:x=Str.ofString "T":=by simpa using h.2
   subst h1 h2
   (refine si e fun q5=> ?_;subst q5;clear e)
   exact ⟨.type "type",.str (Str.ofString "\t") 305,(FX.catT w.params).rd,(FX.catT w.params).fi,rfl,Zf (by decide+kernel)⟩
  ·exact ns e
theorem cx_ok:(cx hp vw loose w h₀ mg mb X T).Ok where
 tab:=tab_ok FX
 glob:=glob_ok FX
 cls:=cls_ok FX
 cat:=cat_ok FX
 ids:=by show idsT=ids.map fun x=>x.cps.toList;decide+kernel
 uniq:=nodup_get (show ids.Nodup by decide+kernel)
 dot:=by show tx.id _=none;decide+kernel
 setN:=by show ids[Γ.setId]? =_;decide+kernel
 delN:=by show ids[Γ.delId]? =_;decide+kernel
end
end MI.L3
set_option maxHeartbeats 4000000
namespace MI.L3
theorem zbp {P:Params} {r:Rh} {h:Heap} {vs:List Value} {ns:List Int} (x:IntsAre vs ns):VRs P r h (ns.map V.int) vs:=by
 induction x with
 | nil=>exact .nil
 | cons i t _ ih=>exact .cons (.int i t) ih
theorem rel0 {P:Params} {ids:List Str} {h:Heap} :Rel P ids h ⟨[],[]⟩ [] h where
 base:=fun ω ω e=>e
 len:=rfl
 obj:=fun i o p e=>by simp at e
 fresh:=fun b hb=>by
  rcases hb with ⟨p,hp,_⟩ | hb
  ·cases hp
  ·cases hb
 apart:= .nil
 pvo:=fun b hb=>by cases hb
 pvl:=fun b hb=>by cases hb
noncomputable def Run:Prop:= ∀ns:List Int,ns.length≤63→ ∃spec σ',ZB Γ (ZN (Yb Γ 60 60 20) spec) 60 60 19 334 [.flist (ns.map .int)] [] []=some (.bool true,σ')
theorem law_name {w:World} {h₀:Heap} {mg mb:Str→Option Value} {hp:Params→Frag} (FX:Facts hp) {vw:Program} {loose:List Str} {X:(hp w.params).In h₀} {T:TopRead vw loose mg mb h₀} {fa:Addr} (hmg:mg (Str.ofString "law")=some (.ref fa)):fa=334:=by
 have e:=FX.law w.params
 have:=mg_of X T.g e
 rw [hmg] at this
 cases this;rfl
theorem fin2 (H:Run) {hp:Params→Frag} (FX:Facts hp) {vw:Program} {loose:List Str} {w:World} {s₀ s₁:Shared} {mg mb:Str→Option Value} {fa l:Addr} {vs:List Value} {ns:List Int} (X:(hp w.params).In s₁.heap) (T:TopRead vw loose mg mb s₁.heap) (hmg:mg (Str.ofString "law")=some (.ref fa))
  (hL:s₁.heap.IsList l vs.toArray) (hI:IntsAre vs ns) (hlen: ¬((63:Nat):Int) < (ns.length:Int)) (hg:s₁.gens= #[]):
  wpAny (model PySem.Challenge.rw_rs0232_03.row.prog w) callerA (call (.ref fa) [.ref l])
   (fun v s'=>GoodWG PySem.Challenge.rw_rs0232_03.row.claim (classAt s₀.heap) (ExcName.means s₀.heap) [ofPy (PyData.list (List.map PyData.int ns))] s₁ (Except.ok (Flow.ret v)) s')
   (fun e s'=>GoodWG PySem.Challenge.rw_rs0232_03.row.claim (classAt s₀.heap) (ExcName.means s₀.heap) [ofPy (PyData.list (List.map PyData.int ns))] s₁ (Except.error e) s') s₁:=by
 have hfa:fa=334:=law_name FX (X:=X) (T:=T) hmg
 subst hfa
 refine k21 (H ns (by omega)) fun spec σ' e=> ?_
 have CF:=Ya (c:=cx hp vw loose w s₁.heap mg mb X T) (cx_ok FX) (fn_ok FX) (pats_ok FX) (overT_ok (run_sound (c:=cx hp vw loose w s₁.heap mg mb X T) (cx_ok FX) (fn_ok FX) (pats_ok FX) 60 60 20) spec) 60 60 19
 have hlv:vs.length=ns.length:=by
  have:=(zbp (P:=w.params) (r:=⟨[],[]⟩) (h:=s₁.heap) hI).length
  simpa using this
 refine We (CF.run (A:=callerA) (r:=⟨[],[]⟩) ⟨rfl,by decide+kernel,by decide+kernel⟩ e rel0 (.cons (.flist _ vs l hL (fun hm=> ?_) (zbp hI) (by omega)) .nil) .nil fun u r' h' tk R' S' x=> ?_)
 ·rcases hm with ⟨p,hp,_⟩ | hb
  ·cases hp
  ·cases hb
 ·cases x
  refine ⟨.inl ⟨.bool true,.bool true,[],rfl,fun cls=>rfl,.bool true,by kernel_rfl,fun ω=>⟨.nil,fun ω h=>by cases h⟩⟩,.of_keep R'.base,rfl,.of_eq hg⟩
end MI.L3
end T9
section T10
open PySem
namespace MI
section
variable (Γ:G) (cf:Cf) (σ:H)
theorem xM (s:String) (as:List V):jC Γ cf (.cst (.builtin s)) as σ=builtin (.builtin s) as σ:=rfl
theorem qi (s:String) (as:List V):jC Γ cf (.cst (.type s)) as σ=builtin (.type s) as σ:=rfl
theorem b_len_str (s:Txt):builtin (.builtin "len") [.str s] σ=(if szOk s.length then some (.int (s.length:Int),σ) else .none):=rfl
theorem b_len_ref {i:Nat} {xs:List V} (h:σ[i]? =some (.list xs)):builtin (.builtin "len") [.ref i] σ=some (.int (xs.length:Int),σ):=by
 show (match σ[i]? with | some (.list xs)=>some (V.int (xs.length:Int),σ) | _=> .none)=_
 rw [h]
theorem b_max2 (a b:Int):builtin (.builtin "max") [.int a,.int b] σ=some (.int (if decide (a < b) then b else a),σ):=rfl
theorem b_range1 (b:Int):builtin (.type "range") [.int b] σ=(if fit b then some (.rng 0 b,σ) else .none):=rfl
theorem b_range2 (a b:Int):builtin (.type "range") [.int a,.int b] σ=(if fit a&&fit b then some (.rng a b,σ) else .none):=rfl
theorem Ys (a b:Int):Ze .add (.int a) (.int b) σ=(mkI (a+b)).map (fun ω=>(ω,σ)):=rfl
theorem zan (a b:Int):Ze .sub (.int a) (.int b) σ=(mkI (a - b)).map (fun ω=>(ω,σ)):=rfl
theorem bin_mul (a b:Int):Ze .mul (.int a) (.int b) σ=(if fit a then (mkI (a*b)).map (fun ω=>(ω,σ)) else .none):=rfl
theorem bin_fdiv (a b:Int):Ze .fdiv (.int a) (.int b) σ=(if decide (0 < b)&&decide (b < 1000000000) then (mkI (Int.fdiv a b)).map (fun ω=>(ω,σ)) else .none):=rfl
theorem bin_mod (a b:Int):Ze .mod (.int a) (.int b) σ=(if decide (0 < b) then (mkI (Int.fmod a b)).map (fun ω=>(ω,σ)) else .none):=rfl
theorem bin_adds (a b:Txt):Ze .add (.str a) (.str b) σ=mkS (a++b) σ:=rfl
theorem qD {i:Int} (h:fit i=true):mkI i=some (.int i):=by unfold mkI;rw [h];rfl
theorem wt {i:Int} (h1: -4611686018427387904 < i) (h2:i < 4611686018427387904):fit i=true:=by unfold fit;simp [h1,h2]
theorem wV {n:Nat} (h:n≤1000000):szOk n=true:=zT h
theorem mkS_ok {s:Txt} (h:s.length≤1000000):mkS s σ=some (.str s,σ):=by unfold mkS;rw [wV h];rfl
theorem jI {vs:List V} (h:vs.length≤1000000):mkL vs σ=some (.ref σ.length,σ++ [.list vs]):=by unfold mkL;rw [wV h];rfl
theorem zc1 (a b:Int):wG Γ .lt (.int a) (.int b) σ=some (decide (a < b)):=rfl
theorem cmp_gt (a b:Int):wG Γ .gt (.int a) (.int b) σ=some (decide (b < a)):=rfl
theorem cmp_ge (a b:Int):wG Γ .ge (.int a) (.int b) σ=some (decide (b≤a)):=rfl
theorem eq_str {a b:Txt} (ha:okS a=true) (hb:okS b=true):eqV σ (.str a) (.str b)=some (yW a b):=by
 unfold eqV
 have e: ∀ {a:Txt},okS a=true→flat σ 12 (.str a)=some (.str a):=fun {a} h=>by
  show (if okS a then some (V.str a) else .none)=_
  rw [h];rfl
 rw [e ha,e hb];rfl
theorem fields_ok {i x:Nat} {C:Addr} {fs:List (Nat×V)} {v:V} (h:σ[i]? =some (.inst C fs)) (hf:ZV Γ C x=true) (hl:look x fs=some v) (hc:JU (some v)=some v):fields Γ σ i x=some v:=by
 unfold fields
 rw [h]
 dsimp only
 rw [hf,hl]
 exact hc
theorem meth_ok {i x:Nat} {C f:Addr} {fs:List (Nat×V)} (h:σ[i]? =some (.inst C fs)) (hl:look x fs=none) (hm:xJ Γ C x=some f):yA Γ (.ref i) x σ=some (.fn f (.ref i)):=by
 unfold yA
 dsimp only
 rw [h]
 dsimp only
 rw [hl,hm];rfl
theorem qz (f:Addr) (self:V) (as:List V) (ks:List (Nat×V)):xS Γ cf (.fn f self) as ks σ=cf f (self::as) ks σ:=rfl
noncomputable def Xq:Txt:= [97,112,112,101,110,100]
theorem XW {k x:Nat} {xs:List V} (h:σ[k]? =some (.list xs)) (hid:Γ.ids[x]? =some Xq):yA Γ (.ref k) x σ=some (.lst k Xq):=by
 unfold yA
 dsimp only
 rw [h]
 dsimp only
 rw [hid]
 rfl
theorem yk {k:Nat} {xs:List V} (h:σ[k]? =some (.list xs)):yn σ (.ref k)=some xs:=by
 show (match σ[k]? with
  | some (.list xs)=>some xs
  | _=> .none)=_
 rw [h]
theorem Xp {k:Nat} {xs:List V} {v:V} (h:σ[k]? =some (.list xs)) (hl:xs.length < 1000000):xS Γ cf (.lst k Xq) [v] [] σ=some (.none,σ.set k (.list (xs++ [v]))):=by
 show ((yn σ (.ref k)).bind fun xs=>zbh k xs Xq [v] σ)=_
 rw [yk σ h]
 show setL σ k (xs++ [v]) .none=_
 unfold setL
 rw [wV (by simp;lia)];rfl
theorem set_last (x y:O):(σ++ [x]).set σ.length y=σ++ [y]:=by
 rw [List.set_append_right _ _ (zo _),xG];rfl
theorem zw (x:O):(σ++ [x])[σ.length]? =some x:=by
 rw [zJ (zo _),xG];rfl
theorem yf {i:Nat} {o:O} (τ:H) (h:σ[i]? =some o):(σ++τ)[i]? =some o:=by
 have hl:=zV h
 rw [zH hl];exact h
end
theorem get_set (x y:Nat) (v:V) (vars:Vars):Vars.get y (Vars.set x v vars)=if x==y then some v else Vars.get y vars:=by
 induction vars with
 | nil=>rfl
 | cons p r ih=>
  obtain ⟨z,u⟩:=p
  rw [Vars.set_cons,Vars.get_cons]
  by_cases h:(z==x)=true
  ·have hz:=eq_of_beq h
   rw [if_pos h,Vars.get_cons,hz]
   by_cases h2:(x==y)=true
   ·rw [if_pos h2,if_pos h2]
   ·rw [if_neg h2,if_neg h2,if_neg h2]
  ·rw [if_neg h,Vars.get_cons,ih]
   by_cases h2:(z==y)=true
   ·have h3: ¬(x==y)=true:=fun q=>h (by rw [eq_of_beq h2,eq_of_beq q];exact beq_self_eq_true y)
    rw [if_pos h2,if_neg h3]
    exact (if_pos h2).symm
   ·rw [if_neg h2]
    by_cases h3:(x==y)=true
    ·rw [if_pos h3,if_pos h3]
    ·rw [if_neg h3,if_neg h3];exact (if_neg h2).symm
theorem yb {x y:Nat} (h:(x==y)=false) (v:V) (vars:Vars):Vars.get y (Vars.set x v vars)=Vars.get y vars:=by rw [get_set,h];rfl
theorem gn {x y:Nat} {v:V} {vars:Vars} {r:Option V} (h:(x==y)=false) (e:Vars.get y vars=r):Vars.get y (Vars.set x v vars)=r:=(yb h v vars).trans e
theorem zL (x:Nat) (v:V) (vars:Vars):Vars.get x (Vars.set x v vars)=some v:=by rw [get_set];simp
theorem zcOf_ref {σ:H} {i:Nat} {xs:List V} (h:σ[i]? =some (.list xs)):zcOf (.ref i) σ=some (.ls i 0):=by
 show (match σ[i]? with
  | some (.list _)=>some (Zc.ls i 0)
  | _=> .none)=_
 rw [h]
noncomputable def YC (p:V→Bool) (g:V→List O→V) (δi δ:V→List O→List O):List V→List V→List O→List V×List O
 | [],acc,τ=>(acc,τ)
 | v::r,acc,τ=>if p v then YC p g δi δ r (acc++ [g v τ]) (τ++δi v τ++δ v τ) else YC p g δi δ r acc (τ++δi v τ)
structure Hands (σb:H) (it:Nat→Itr) (xs:List V):Prop where
 item: ∀(k:Nat) v τ,xs[k]? =some v→(it k).next (σb++τ)=some (some (v,it (k+1)))
 done: ∀τ,(it xs.length).next (σb++τ)=some .none
theorem hands_ls {σb:H} {i:Nat} {xs:List V} (h:σb[i]? =some (.list xs)):Hands σb (fun k=> .one (.ls i k)) xs where
 item:=fun k v τ hv=>by
  show (match (Zc.ls i k).next (σb++τ) with
   | some (some (v,z'))=>some (some (v,Itr.one z'))
   | some .none=>some .none
   | .none=> .none)=_
  unfold Zc.next
  dsimp only
  rw [yf _ τ h]
  dsimp only
  rw [hv]
 done:=fun τ=>by
  show (match (Zc.ls i xs.length).next (σb++τ) with
   | some (some (v,z'))=>some (some (v,Itr.one z'))
   | some .none=>some .none
   | .none=> .none)=_
  unfold Zc.next
  dsimp only
  rw [yf _ τ h]
  dsimp only
  rw [yj (zo _)]
noncomputable def jp (ev1:Ev) (elt:E) (t:T) (ifs:List E):V→Vars→List V→H→Option (Vars×List V×H):=fun v vars acc σ=>
   match wn t v σ vars with
   | some vars=>match jB ev1 ifs vars σ with
    | some (x,σ)=>match x with
     | false=>some (vars,acc,σ)
     | true=>match ev1 elt vars σ with
      | some (v,σ)=>if szOk acc.length then some (vars,acc++ [v],σ) else .none
      | .none=> .none
    | .none=> .none
   | .none=> .none
theorem zbJ (ev1:Ev) (elt:E) (t:T) (ifs:List E) (itr:Itr) (vars:Vars) (acc:List V) (σ:H):jO ev1 elt t ifs itr vars acc σ=qL (fun σ it=>it.next σ) (jp ev1 elt t ifs) xE itr vars acc σ:=rfl
theorem zc3 (p:V→Bool) (g:V→List O→V) (δi δ:V→List O→List O) (v:V) (r acc:List V) (τ:List O):YC p g δi δ (v::r) acc τ=if p v then YC p g δi δ r (acc++ [g v τ]) (τ++δi v τ++δ v τ) else YC p g δi δ r acc (τ++δi v τ):=rfl
theorem zah {ev1:Ev} {elt:E} {t:T} {ifs:List E} {σb:H} {it:Nat→Itr} {xs:List V} (Hd:Hands σb it xs) (P:Vars→Prop) (bnd:V→Vars→Vars) (p:V→Bool) (g:V→List O→V) (δi δ:V→List O→List O)
  (hb: ∀v∈xs,∀σ vars,wn t v σ vars=some (bnd v vars)) (hP: ∀v∈xs,∀vars,P vars→P (bnd v vars))
  (hi: ∀v∈xs,∀vars τ,P vars→jB ev1 ifs (bnd v vars) (σb++τ)=some (p v,σb++(τ++δi v τ)))
  (he: ∀v∈xs,∀vars τ,P vars→p v=true→ev1 elt (bnd v vars) (σb++(τ++δi v τ))=some (g v τ,σb++(τ++δi v τ++δ v τ))):
  ∀(k j:Nat) (vars:Vars) (acc:List V) (τ:List O),P vars→xs.length < 2000→j≤xs.length→j+k=xs.length+1→acc.length≤j→ ∃vars',qL (fun σ it=>it.next σ) (jp ev1 elt t ifs) (k+n) (it j) vars acc (σb++τ)=some (vars',(YC p g δi δ (xs.drop j) acc τ).1,σb++(YC p g δi δ (xs.drop j) acc τ).2)
 | 0,j,vars,acc,τ,hp,hl,hjl,hj,ha=>by lia
 | k+1,j,vars,acc,τ,hp,hl,hjx,hj,ha=>by
  rw [show k+1+n=(k+n)+1 by lia]
  by_cases hjl:j=xs.length
  ·subst hjl
   rw [Ql]
   rw [Hd.done τ,XS]
   exact ⟨vars,rfl⟩
  ·have hlt:j < xs.length:=by lia
   have hmem:=ww hlt
   rw [Ql]
   rw [Hd.item j xs[j] τ (zj hlt)]
   dsimp only [jp]
   rw [hb _ hmem]
   dsimp only
   rw [hi _ hmem vars τ hp]
   have hd:xs.drop j=xs[j]::xs.drop (j+1):=YS hlt
   rw [hd]
   rw [zc3]
   cases hpv:p xs[j]
   ·dsimp only
    rw [if_neg (by simp)]
    exact zah Hd P bnd p g δi δ hb hP hi he k (j+1) _ acc _ (hP _ hmem _ hp) hl hlt (by lia) (by lia)
   ·dsimp only
    rw [he _ hmem vars τ hp hpv,if_pos rfl]
    dsimp only
    rw [wV (by lia),if_pos rfl]
    exact zah Hd P bnd p g δi δ hb hP hi he k (j+1) _ _ _ (hP _ hmem _ hp) hl hlt (by lia) (by simp;lia)
theorem ev_comp (Γ:G) (cf:Cf) (n:Nat) (elt:E) (t:T) (iter:It) (ifs:List E) (own:List Nat) (vars:Vars) (σ:H):ev Γ cf (n+1) (.comp elt [.mk t iter ifs] own) vars σ=(match evIt (ev Γ cf n) iter vars σ with
    | some (itr,σ)=>if okT t itr then match jO (ev Γ cf n) elt t ifs itr (own.map (fun ω=>(ω,.none))++vars) [] σ with
     | some (_,acc,σ)=>mkL acc σ
     | .none=> .none else .none
    | .none=> .none):=rfl
theorem comp_ev {Γ:G} {cf:Cf} {n:Nat} {elt:E} {t:T} {iter:It} {ifs:List E} {own:List Nat} {vars:Vars} {σ σb:H} {it:Nat→Itr} {xs:List V} (h0:evIt (ev Γ cf n) iter vars σ=some (it 0,σb)) (hok:okT t (it 0)=true) (hx:xs.length < 1999) (Hd:Hands σb it xs) (P:Vars→Prop) (bnd:V→Vars→Vars) (p:V→Bool) (g:V→List O→V) (δi δ:V→List O→List O)
  (hb: ∀v∈xs,∀σ vars,wn t v σ vars=some (bnd v vars)) (hP: ∀v∈xs,∀vars,P vars→P (bnd v vars)) (hp:P (own.map (fun ω=>(ω,.none))++vars))
  (hi: ∀v∈xs,∀vars τ,P vars→jB (ev Γ cf n) ifs (bnd v vars) (σb++τ)=some (p v,σb++(τ++δi v τ)))
  (he: ∀v∈xs,∀vars τ,P vars→p v=true→ev Γ cf n elt (bnd v vars) (σb++(τ++δi v τ))=some (g v τ,σb++(τ++δi v τ++δ v τ))):
  ev Γ cf (n+1) (.comp elt [.mk t iter ifs] own) vars σ=mkL (YC p g δi δ xs [] []).1 (σb++(YC p g δi δ xs [] []).2):=by
 rw [ev_comp,h0]
 dsimp only
 rw [if_pos hok]
 refine k11 (zah (n:=xE - (xs.length+1)) Hd P bnd p g δi δ hb hP hi he (xs.length+1) 0 (own.map (fun ω=>(ω,.none))++vars) [] [] hp (by lia) (zK _) (by lia) (zo _)) fun vars' e=> ?_
 rw [show xs.length+1+(xE - (xs.length+1))=xE by unfold xE;lia,ym] at e
 rw [zbJ,e,List.drop_zero]
theorem xB (p:V→Bool) (h: ∀v,p v=true) (xs:List V):xs.filter p=xs:=List.filter_eq_self.mpr fun v ω=>h v
theorem zcA {body:V→Vars→H→Option (Fl×Vars×H)} {it it':Itr} {v:V} {vars vars':Vars} {σ σ':H} {k:Nat} (h1:it.next σ=some (some (v,it'))) (h2:body v vars σ=some (.next,vars',σ')):jj (fun σ it=>it.next σ) body (k+1) it vars σ=jj (fun σ it=>it.next σ) body k it' vars' σ':=by
 rw [Qk]
 rw [h1];dsimp only;rw [h2]
theorem loopF_end {body:V→Vars→H→Option (Fl×Vars×H)} {it:Itr} {vars:Vars} {σ:H} {k:Nat} (h1:it.next σ=some .none):jj (fun σ it=>it.next σ) body (k+1) it vars σ=some (.next,vars,σ):=by
 rw [Qk]
 rw [h1]
theorem ex_for (Γ:G) (cf:Cf) (fe n:Nat) (t:T) (iter:It) (b:List S) (vars:Vars) (σ:H):ex Γ cf fe (n+1) (.for_ t iter b) vars σ=(match evIt (ev Γ cf fe) iter vars σ with
   | some (itr,σ)=>if okT t itr then jj (fun σ it=>it.next σ) (fun v vars σ=>match wn t v σ vars with
     | some vars=>exs Γ cf fe n b vars σ
     | .none=> .none) xE itr vars σ else .none
   | .none=> .none):=rfl
section
variable {Γ:G} {cf:Cf} {n:Nat} {vars:Vars} {σ σ₁ σ₂ σ₃:H} {x y v:V} {r:Option (V×H)}
theorem zO:ev Γ cf (n+1) (.lit v) vars σ=some (v,σ):=rfl
theorem zl {i:Nat} (h:vars.get i=some v):ev Γ cf (n+1) (.var i) vars σ=some (v,σ):=congrArg (Option.map (fun ω=>(ω,σ))) h
theorem qK {op:Bop} {a b:E} (ha:ev Γ cf n a vars σ=some (x,σ₁)) (hb:ev Γ cf n b vars σ₁=some (y,σ₂)) (h:Ze op x y σ₂=r):ev Γ cf (n+1) (.bin op a b) vars σ=r:=by
 rw [ev_bin,ha];dsimp only;rw [hb];exact h
theorem Qd {a:E} {i:Int} (ha:ev Γ cf n a vars σ=some (.int i,σ₁)) (h:fit (-i)=true):ev Γ cf (n+1) (.neg a) vars σ=some (.int (-i),σ₁):=by
 show (match ev Γ cf n a vars σ with
   | some (x,σ)=>negV x σ
   | .none=> .none)=_
 rw [ha]
 show (mkI (-i)).map (fun ω=>(ω,σ₁))=_
 rw [qD h];rfl
theorem xm {es:List E} {vs:List V} (h:yO (ev Γ cf n) es vars σ=some (vs,σ₁)) (hl:vs.length≤1000000):ev Γ cf (n+1) (.list es) vars σ=some (.ref σ₁.length,σ₁++ [.list vs]):=by
 rw [ev_list,h];exact jI _ hl
theorem qv {es:List E} {vs:List V} (h:yO (ev Γ cf n) es vars σ=some (vs,σ₁)) (hl:vs.length≤1000000):ev Γ cf (n+1) (.tup es) vars σ=some (.tup vs,σ₁):=by
 rw [ev_tup,h];exact if_pos (wV hl)
theorem xD {op:Cop} {a b:E} {z:Bool} (ha:ev Γ cf n a vars σ=some (x,σ₁)) (hb:ev Γ cf n b vars σ₁=some (y,σ₂)) (h:wG Γ op x y σ₂=some z):ev Γ cf (n+1) (.cmp op a b) vars σ=some (.bool z,σ₂):=by
 rw [ev_cmp,ha];dsimp only;rw [hb];dsimp only;rw [h];rfl
theorem yU {a i:E} (ha:ev Γ cf n a vars σ=some (x,σ₁)) (hb:ev Γ cf n i vars σ₁=some (y,σ₂)) (h:wL Γ x y σ₂=some v):ev Γ cf (n+1) (.sub a i) vars σ=some (v,σ₂):=by
 rw [ev_sub,ha];dsimp only;rw [hb];dsimp only;rw [h];rfl
theorem o_attr {a:E} {i z:Nat} (ha:ev Γ cf n a vars σ=some (.ref i,σ₁)) (h:fields Γ σ₁ i z=some v):ev Γ cf (n+1) (.attr a z) vars σ=some (v,σ₁):=by
 rw [ev_attr,ha];dsimp only;rw [h];rfl
theorem o_call {f:E} {as:List E} {vs:List V} (hf:ev Γ cf n f vars σ=some (x,σ₁)) (ha:yO (ev Γ cf n) as vars σ₁=some (vs,σ₂)) (h:jC Γ cf x vs σ₂=r):ev Γ cf (n+1) (.call f as) vars σ=r:=by
 rw [ev_call,hf];dsimp only;rw [ha];exact h
theorem o_fn {w:Value} {as:List E} {vs:List V} (ha:yO (ev Γ cf (n+1)) as vars σ=some (vs,σ₂)) (h:jC Γ cf (.cst w) vs σ₂=r):ev Γ cf (n+1+1) (.call (.lit (.cst w)) as) vars σ=r:=o_call zO ha h
theorem xz {o:E} {z:Nat} {as:List E} {ks:List (Nat×E)} {m:Meth} {vs:List V} {kv:List (Nat×V)} (ho:ev Γ cf n o vars σ=some (x,σ₁)) (hm:yA Γ x z σ₁=some m) (ha:yO (ev Γ cf n) as vars σ₁=some (vs,σ₂)) (hk:evKw (ev Γ cf n) ks vars σ₂=some (kv,σ₃)) (h:xS Γ cf m vs kv σ₃=r):
  ev Γ cf (n+1) (.callM o z as ks) vars σ=r:=by
 rw [zbB,ho];dsimp only;rw [hm];dsimp only;rw [ha];dsimp only;rw [hk];exact h
theorem o_iteT {t a b:E} (ht:evB (ev Γ cf n) t vars σ=some (true,σ₁)) (h:ev Γ cf n a vars σ₁=r):ev Γ cf (n+1) (.ite t a b) vars σ=r:=by
 rw [zcQ,ht];exact h
theorem zcp {t a b:E} (ht:evB (ev Γ cf n) t vars σ=some (false,σ₁)) (h:ev Γ cf n b vars σ₁=r):ev Γ cf (n+1) (.ite t a b) vars σ=r:=by
 rw [zcQ,ht];exact h
theorem ev_and (a b:E):ev Γ cf (n+1) (.and a b) vars σ=(match ev Γ cf n a vars σ with
   | some (x,σ)=>match truthy x with
    | some t=>match t with
     | true=>ev Γ cf n b vars σ
     | false=>some (x,σ)
    | .none=> .none
   | .none=> .none):=rfl
theorem o_and {a b:E} {p q:Bool} (ha:ev Γ cf n a vars σ=some (.bool p,σ₁)) (hb:p=true→ev Γ cf n b vars σ₁=some (.bool q,σ₂)) (hs:p=false→σ₁=σ₂):ev Γ cf (n+1) (.and a b) vars σ=some (.bool (p&&q),σ₂):=by
 rw [ev_and,ha]
 cases p with
 | true=>exact hb rfl
 | false=>cases hs rfl;rfl
theorem qX {a:E} {l u s:Option E} {lv uv sv:V} {σ₄:H} (ha:ev Γ cf n a vars σ=some (x,σ₁)) (hl:qd (ev Γ cf n) l vars σ₁=some (lv,σ₂)) (hu:qd (ev Γ cf n) u vars σ₂=some (uv,σ₃)) (hs:qd (ev Γ cf n) s vars σ₃=some (sv,σ₄)) (h:Zb x lv uv sv σ₄=r):ev Γ cf (n+1) (.slice a l u s) vars σ=r:=by
 rw [zbA,ha];dsimp only;rw [hl];dsimp only;rw [hu];dsimp only;rw [hs];exact h
theorem ev_dsub (ks:List Int) (vs:List E) (i:E):ev Γ cf (n+1) (.dsub ks vs i) vars σ=(match yO (ev Γ cf n) vs vars σ with
   | some (us,σ)=>match ev Γ cf n i vars σ with
    | some (w,σ)=>(Je ks us w).map (fun ω=>(ω,σ))
    | .none=> .none
   | .none=> .none):=rfl
theorem o_dsub {ks:List Int} {vs:List E} {i:E} {us:List V} (ha:yO (ev Γ cf n) vs vars σ=some (us,σ₁)) (hi:ev Γ cf n i vars σ₁=some (x,σ₂)) (h:Je ks us x=some v):ev Γ cf (n+1) (.dsub ks vs i) vars σ=some (v,σ₂):=by
 rw [ev_dsub,ha];dsimp only;rw [hi];dsimp only;rw [h];rfl
end
section
variable {e1:Ev} {vars:Vars} {σ σ₁ σ₂:H} {v:V}
theorem wo:yO e1 [] vars σ=some ([],σ):=rfl
theorem ya {e:E} {es:List E} {vs:List V} (h:e1 e vars σ=some (v,σ₁)) (hr:yO e1 es vars σ₁=some (vs,σ₂)):yO e1 (e::es) vars σ=some (v::vs,σ₂):=by
 rw [Qy,h];dsimp only;rw [hr]
theorem zZ {e:E} (h:e1 e vars σ=some (v,σ₁)):yO e1 [e] vars σ=some ([v],σ₁):=ya h wo
theorem xA:evKw e1 [] vars σ=some ([],σ):=rfl
theorem kw_one {x:Nat} {e:E} (h:e1 e vars σ=some (v,σ₁)):evKw e1 [(x,e)] vars σ=some ([(x,v)],σ₁):=by
 rw [evKw_cons,h];rfl
variable {b p:Bool} {r:Option (Bool×H)}
theorem t_ev {e:E} (hp:evB e1 e vars σ=(match e1 e vars σ with | some (v,σ')=>(truthy v).map (fun ω=>(ω,σ')) | .none=> .none)) (h:e1 e vars σ=some (.bool b,σ₁)):evB e1 e vars σ=some (b,σ₁):=by
 rw [hp,h];rfl
theorem wj {op:Cop} {a d:E} (h:e1 (.cmp op a d) vars σ=some (.bool b,σ₁)):evB e1 (.cmp op a d) vars σ=some (b,σ₁):=t_ev rfl h
theorem zb4 {f:E} {as:List E} (h:e1 (.call f as) vars σ=some (.bool b,σ₁)):evB e1 (.call f as) vars σ=some (b,σ₁):=t_ev rfl h
theorem JF {o:E} {x:Nat} {as:List E} {ks:List (Nat×E)} (h:e1 (.callM o x as ks) vars σ=some (.bool b,σ₁)):evB e1 (.callM o x as ks) vars σ=some (b,σ₁):=t_ev rfl h
theorem t_var {x:Nat} (h:e1 (.var x) vars σ=some (.bool b,σ₁)):evB e1 (.var x) vars σ=some (b,σ₁):=t_ev rfl h
theorem t_lit (h:e1 (.lit v) vars σ=some (.bool b,σ₁)):evB e1 (.lit v) vars σ=some (b,σ₁):=t_ev rfl h
theorem t_methN {o:E} {x:Nat} {as:List E} {ks:List (Nat×E)} (h:e1 (.callM o x as ks) vars σ=some (.none,σ₁)):evB e1 (.callM o x as ks) vars σ=some (false,σ₁):=by
 show (match e1 (.callM o x as ks) vars σ with | some (v,σ')=>(truthy v).map (fun ω=>(ω,σ')) | .none=> .none)=_
 rw [h];rfl
theorem t_not {a:E} (h:evB e1 a vars σ=some (b,σ₁)):evB e1 (.not a) vars σ=some (!b,σ₁):=by rw [evB_not,h]
theorem t_and {a d:E} (h:evB e1 a vars σ=some (p,σ₁)) (h2:p=true→evB e1 d vars σ₁=some (b,σ₂)) (hs:p=false→σ₁=σ₂):evB e1 (.and a d) vars σ=some (p&&b,σ₂):=by
 rw [evB_and,h]
 cases p with
 | true=>exact h2 rfl
 | false=>cases hs rfl;rfl
theorem t_or {a d:E} (h:evB e1 a vars σ=some (p,σ₁)) (h2:p=false→evB e1 d vars σ₁=some (b,σ₂)) (hs:p=true→σ₁=σ₂):evB e1 (.or a d) vars σ=some (p || b,σ₂):=by
 rw [evB_or,h]
 cases p with
 | false=>exact h2 rfl
 | true=>cases hs rfl;rfl
theorem qS {a:E} (h:evB e1 a vars σ=some (b,σ₁)):jB e1 [a] vars σ=some (b,σ₁):=by
 show (match evB e1 a vars σ with
  | some (x,σ')=>match x with
   | true=>jB e1 [] vars σ'
   | false=>some (false,σ')
  | .none=> .none)=_
 rw [h];cases b <;>rfl
end
section
variable {Γ:G} {cf:Cf} {fe n:Nat} {vars vars₁ vars₂:Vars} {σ σ₁ σ₂ σ₃:H} {x y v:V} {r:Option (Fl×Vars×H)}
theorem zE {s:S} {ss:List S} (h:ex Γ cf fe n s vars σ=some (.next,vars₁,σ₁)) (hr:exs Γ cf fe n ss vars₁ σ₁=r):exs Γ cf fe (n+1) (s::ss) vars σ=r:=by
 rw [Qu,h];exact hr
theorem wU {s:S} {ss:List S} (h:ex Γ cf fe n s vars σ=some (.ret v,vars₁,σ₁)):exs Γ cf fe (n+1) (s::ss) vars σ=some (.ret v,vars₁,σ₁):=by
 rw [Qu,h]
theorem yV:exs Γ cf fe (n+1) [] vars σ=some (.next,vars,σ):=rfl
theorem s_names {xs:List Nat} {e:E} (h:ev Γ cf fe e vars σ=some (v,σ₁)):ex Γ cf fe (n+1) (.names xs e) vars σ=some (.next,xs.foldl (fun vs x=>vs.set x v) vars,σ₁):=by
 rw [zby,h]
theorem xy {z:Nat} {e:E} (h:ev Γ cf fe e vars σ=some (v,σ₁)):ex Γ cf fe (n+1) (.names [z] e) vars σ=some (.next,vars.set z v,σ₁):=s_names h
theorem qu {ts:List T} {e:E} (h:ev Γ cf fe e vars σ=some (v,σ₁)) (hb:wn (.tup ts) v σ₁ vars=some vars₁):ex Γ cf fe (n+1) (.unpack ts e) vars σ=some (.next,vars₁,σ₁):=by
 rw [Js,h];dsimp only;rw [hb]
theorem jf {e:E} (h:ev Γ cf fe e vars σ=some (v,σ₁)):ex Γ cf fe (n+1) (.expr e) vars σ=some (.next,vars,σ₁):=by
 rw [ex_expr,h]
theorem qJ {e:E} (h:ev Γ cf fe e vars σ=some (v,σ₁)):ex Γ cf fe (n+1) (.ret (some e)) vars σ=some (.ret v,vars,σ₁):=by
 rw [ex_ret,h]
theorem jd {t:E} {a b:List S} (ht:evB (ev Γ cf fe) t vars σ=some (true,σ₁)) (h:exs Γ cf fe n a vars σ₁=r):ex Γ cf fe (n+1) (.ite t a b) vars σ=r:=by
 rw [zcP,ht];exact h
theorem je {t:E} {a b:List S} (ht:evB (ev Γ cf fe) t vars σ=some (false,σ₁)) (h:exs Γ cf fe n b vars σ₁=r):ex Γ cf fe (n+1) (.ite t a b) vars σ=r:=by
 rw [zcP,ht];exact h
theorem s_setAttr {o e:E} {z i:Nat} {C:Addr} {fs:List (Nat×V)} (h:ev Γ cf fe e vars σ=some (v,σ₁)) (ho:ev Γ cf fe o vars σ₁=some (.ref i,σ₂)) (hi:σ₂[i]? =some (.inst C fs)) (hf:(ZV Γ C z&&Nat.ble fs.length 100)=true):ex Γ cf fe (n+1) (.setAttr o z e) vars σ=some (.next,vars,σ₂.set i (.inst C (put z v fs))):=by
 rw [Qv,h];dsimp only;rw [ho];dsimp only;rw [hi];dsimp only;exact if_pos hf
end
section
variable {Γ:G} {cf:Cf} {fe n:Nat} {vars:Vars} {σ σ₁ σ₂ σ₃ σ₄:H} {x y v:V}
theorem exS (o i e:E):ex Γ cf fe (n+1) (.setSub o i e) vars σ=(match ev Γ cf fe e vars σ with
   | some (v,σ)=>match ev Γ cf fe o vars σ with
    | some (ov,σ)=>match ev Γ cf fe i vars σ with
     | some (iv,σ)=>JZ Γ cf ov iv v vars σ
     | .none=> .none
    | .none=> .none
   | .none=> .none):=rfl
theorem zcC {a:Nat} (h:a≤1000000):a < 1000000000:=by lia
theorem Yl {n k:Nat} (h:k < n) (hf:n < 1000000000):idx n (k:Int)=some k:=by
 have h1:fit (k:Int)=true:=wt (by lia) (by lia)
 unfold idx
 rw [h1]
 show seqIndex? (k:Int) n=some k
 unfold seqIndex?
 have h2: ¬((k:Int) < 0):=by lia
 have h3:(k:Int) < n:=by lia
 simp [h2,h3]
theorem zaW {o i e:E} {j k:Nat} {xs:List V} (h:ev Γ cf fe e vars σ=some (v,σ₁)) (ho:ev Γ cf fe o vars σ₁=some (.ref j,σ₂)) (hi:ev Γ cf fe i vars σ₂=some (.int (k:Int),σ₃)) (hj:σ₃[j]? =some (.list xs)) (hk:k < xs.length) (hl:xs.length≤1000000):
  ex Γ cf fe (n+1) (.setSub o i e) vars σ=some (.next,vars,σ₃.set j (.list (xs.set k v))):=by
 rw [exS,h];dsimp only;rw [ho];dsimp only;rw [hi]
 have hc:wm σ₃ j= .none:=by unfold wm;rw [hj]
 show (match wm σ₃ j with
 | some C=>(xJ Γ C Γ.setId).bind fun f=>(cf f [.ref j,.int (k:Int),v] [] σ₃).bind fun p=>if isNone p.1 then some (Fl.next,vars,p.2) else .none
 | .none=>JJ σ₃ j (.int (k:Int)) v vars)=_
 rw [hc]
 show (if decide (0≤(k:Int))=true then (yn σ₃ (.ref j)).bind fun xs=>(idx xs.length (k:Int)).bind fun q=>(setL σ₃ j (xs.set q v) .none).map fun p=>(Fl.next,vars,p.2) else .none)=_
 have hq:idx xs.length (k:Int)=some k:=Yl hk (zcC hl)
 have hs:setL σ₃ j (xs.set k v) .none=some (.none,σ₃.set j (.list (xs.set k v))):=if_pos (wV (by rw [ZD];exact hl))
 rw [if_pos (decide_eq_true (by lia)),yk _ hj,zF,hq,zF,hs]
 rfl
theorem s_setInst {o i e:E} {j:Nat} {iv:V} {C f:Addr} {fs:List (Nat×V)} (h:ev Γ cf fe e vars σ=some (v,σ₁)) (ho:ev Γ cf fe o vars σ₁=some (.ref j,σ₂)) (hi:ev Γ cf fe i vars σ₂=some (iv,σ₃)) (hj:σ₃[j]? =some (.inst C fs)) (hm:xJ Γ C Γ.setId=some f) (hc:cf f [.ref j,iv,v] [] σ₃=some (.none,σ₄)):
  ex Γ cf fe (n+1) (.setSub o i e) vars σ=some (.next,vars,σ₄):=by
 rw [exS,h];dsimp only;rw [ho];dsimp only;rw [hi]
 have hC:wm σ₃ j=some C:=by unfold wm;rw [hj]
 show (match wm σ₃ j with
 | some C=>(xJ Γ C Γ.setId).bind fun f=>(cf f [.ref j,iv,v] [] σ₃).bind fun p=>if isNone p.1 then some (Fl.next,vars,p.2) else .none
 | .none=>JJ σ₃ j iv v vars)=_
 rw [hC]
 show ((xJ Γ C Γ.setId).bind fun f=>(cf f [.ref j,iv,v] [] σ₃).bind fun p=>if isNone p.1 then some (Fl.next,vars,p.2) else .none)=_
 rw [hm]
 show ((cf f [.ref j,iv,v] [] σ₃).bind fun p=>if isNone p.1 then some (Fl.next,vars,p.2) else .none)=_
 rw [hc];rfl
theorem s_del {o i:E} {j:Nat} {iv:V} {C f:Addr} {fs:List (Nat×V)} (ho:ev Γ cf fe o vars σ=some (.ref j,σ₂)) (hi:ev Γ cf fe i vars σ₂=some (iv,σ₃)) (hj:σ₃[j]? =some (.inst C fs)) (hm:xJ Γ C Γ.delId=some f) (hc:cf f [.ref j,iv] [] σ₃=some (.none,σ₄)):
  ex Γ cf fe (n+1) (.del o i) vars σ=some (.next,vars,σ₄):=by
 have e0:ex Γ cf fe (n+1) (.del o i) vars σ=(match ev Γ cf fe o vars σ with
   | some (ov,σ)=>match ev Γ cf fe i vars σ with
    | some (iv,σ)=>zab Γ cf ov iv vars σ
    | .none=> .none
   | .none=> .none):=rfl
 rw [e0,ho];dsimp only;rw [hi]
 have hC:wm σ₃ j=some C:=by unfold wm;rw [hj]
 show ((wm σ₃ j).bind fun C=>(xJ Γ C Γ.delId).bind fun f=>(cf f [.ref j,iv] [] σ₃).bind fun p=>if isNone p.1 then some (Fl.next,vars,p.2) else .none)=_
 rw [hC]
 show ((xJ Γ C Γ.delId).bind fun f=>(cf f [.ref j,iv] [] σ₃).bind fun p=>if isNone p.1 then some (Fl.next,vars,p.2) else .none)=_
 rw [hm]
 show ((cf f [.ref j,iv] [] σ₃).bind fun p=>if isNone p.1 then some (Fl.next,vars,p.2) else .none)=_
 rw [hc];rfl
theorem s_setAll {o e:E} {i j:Nat} {xs ys:List V} (h:ev Γ cf fe e vars σ=some (.ref j,σ₁)) (ho:ev Γ cf fe o vars σ₁=some (.ref i,σ₂)) (hi:σ₂[i]? =some (.list xs)) (hj:σ₂[j]? =some (.list ys)) (hl:ys.length≤1000000):ex Γ cf fe (n+1) (.setAll o e) vars σ=some (.next,vars,σ₂.set i (.list ys)):=by
 have e0:ex Γ cf fe (n+1) (.setAll o e) vars σ=(match ev Γ cf fe e vars σ with
   | some (v,σ)=>match ev Γ cf fe o vars σ with
    | some (ov,σ)=>zch ov v vars σ
    | .none=> .none
   | .none=> .none):=rfl
 rw [e0,h];dsimp only;rw [ho]
 show ((yn σ₂ (.ref i)).bind fun ω=>(yn σ₂ (.ref j)).bind fun ys=>(setL σ₂ i ys .none).map fun p=>(Fl.next,vars,p.2))=_
 rw [yk _ hi,yk _ hj]
 have hs:setL σ₂ i ys .none=some (.none,σ₂.set i (.list ys)):=if_pos (wV hl)
 show (setL σ₂ i ys .none).map (fun p=>(Fl.next,vars,p.2))=_
 rw [hs];rfl
end
noncomputable def Le (σ σ':H):Prop:= ∀(i:Nat) (o:O),σ[i]? =some o→σ'[i]? =some o
theorem Le.refl (σ:H):Le σ σ:=fun ω ω h=>h
theorem Le.trans {σ σ' σ'':H} (a:Le σ σ') (b:Le σ' σ''):Le σ σ'':=fun i o h=>b i o (a i o h)
theorem Le.app (σ τ:H):Le σ (σ++τ):=fun i o h=>yf σ τ h
theorem Le.snoc {σ σ':H} (a:Le σ σ') (x:O):Le σ (σ'++ [x]):=a.trans (.app _ _)
inductive All2 {α β:Type} (R:α→β→Prop):List α→List β→Prop
 | nil:All2 R [] []
 | cons {a b l m} :R a b→All2 R l m→All2 R (a::l) (b::m)
theorem All2.imp {α β:Type} {R S:α→β→Prop} (h: ∀a b,R a b→S a b) {l:List α} {m:List β} (x:All2 R l m):All2 S l m:=by
 induction x with
 | nil=>exact .nil
 | cons a _ ih=>exact .cons (h _ _ a) ih
theorem All2.snoc {α β:Type} {R:α→β→Prop} {l:List α} {m:List β} {a:α} {b:β} (x:All2 R l m) (h:R a b):All2 R (l++ [a]) (m++ [b]):=by
 induction x with
 | nil=>exact .cons h .nil
 | cons q _ ih=>exact .cons q ih
theorem All2.map_eq {α β:Type} {g:α→β} {l:List α} {m:List β} (x:All2 (fun a b=>b=g a) l m):m=l.map g:=by
 induction x with
 | nil=>rfl
 | cons q _ ih=>rw [q,ih];rfl
theorem All2.length {α β:Type} {R:α→β→Prop} {l:List α} {m:List β} (x:All2 R l m):m.length=l.length:=by
 induction x with
 | nil=>rfl
 | cons q _ ih=>exact congrArg Nat.succ ih
theorem All2.get {α β:Type} {R:α→β→Prop} {l:List α} {m:List β} (x:All2 R l m): ∀ {k:Nat} {a:α},l[k]? =some a→ ∃b,m[k]? =some b∧R a b:=by
 induction x with
 | nil=>exact fun h=>ns h
 | cons q _ ih=>
  intro k a h
  cases k with
  | zero=>cases za h;exact ⟨_,rfl,q⟩
  | succ k=>exact ih h
structure QI (σb:H) (it:Nat→Itr) (xs:List V):Prop where
 item: ∀(k:Nat) v σ,Le σb σ→xs[k]? =some v→(it k).next σ=some (some (v,it (k+1)))
 done: ∀σ,Le σb σ→(it xs.length).next σ=some .none
theorem Yk {σ:H} {i k:Nat} {xs:List V} {v:V} (h:σ[i]? =some (.list xs)) (hv:xs[k]? =some v):(Itr.one (.ls i k)).next σ=some (some (v,.one (.ls i (k+1)))):=by
 show (match (Zc.ls i k).next σ with
   | some (some (v,z'))=>some (some (v,Itr.one z'))
   | some .none=>some .none
   | .none=> .none)=_
 unfold Zc.next
 dsimp only
 rw [h];dsimp only;rw [hv]
theorem Zk {σ:H} {i k:Nat} {xs:List V} (h:σ[i]? =some (.list xs)) (hv:xs[k]? = .none):(Itr.one (.ls i k)).next σ=some .none:=by
 show (match (Zc.ls i k).next σ with
   | some (some (v,z'))=>some (some (v,Itr.one z'))
   | some .none=>some .none
   | .none=> .none)=_
 unfold Zc.next
 dsimp only
 rw [h];dsimp only;rw [hv]
theorem qW {σb:H} {i:Nat} {xs:List V} (h:σb[i]? =some (.list xs)):QI σb (fun k=> .one (.ls i k)) xs where
 item:=fun k v σ l hv=>Yk (l _ _ h) hv
 done:=fun σ l=>Zk (l _ _ h) (yj (zo _))
theorem vs_item {σ:H} {xs:List V} {k:Nat} {v:V} (hv:xs[k]? =some v):(Itr.one (.vs (xs.drop k))).next σ=some (some (v,.one (.vs (xs.drop (k+1))))):=by
 obtain ⟨hk,e⟩:=zR.mp hv
 have:xs.drop k=v::xs.drop (k+1):=by rw [YS hk,e]
 rw [this];rfl
theorem vs_done {σ:H} {xs:List V} :(Itr.one (.vs (xs.drop xs.length))).next σ=some .none:=by
 rw [XS];rfl
theorem xI {σb:H} (xs:List V):QI σb (fun k=> .one (.vs (xs.drop k))) xs where
 item:=fun k v σ ω hv=>vs_item hv
 done:=fun σ ω=>vs_done
noncomputable def zipL:List V→List V→List V
 | x::xs,y::ys=> .tup [x,y]::zipL xs ys
 | _,_=> []
theorem Wv {xs ys:List V} (hl:xs.length=ys.length) {k:Nat} {v:V} (h:(zipL xs ys)[k]? =some v): ∃x y,xs[k]? =some x∧ys[k]? =some y∧v= .tup [x,y]:=by
 induction xs generalizing ys k with
 | nil=>exact ns h
 | cons x xs ih=>cases ys with
  | nil=>exact ns h
  | cons y ys=>cases k with
   | zero=>exact ⟨x,y,rfl,rfl,(za h).symm⟩
   | succ k=>exact ih (ql hl) h
theorem XT {xs ys:List V} (hl:xs.length=ys.length):(zipL xs ys).length=xs.length:=by
 induction xs generalizing ys with
 | nil=>rfl
 | cons x xs ih=>cases ys with
  | nil=>exact absurd hl (yZ _)
  | cons y ys=>exact congrArg Nat.succ (ih (ql hl))
theorem zcL {σb:H} {i j:Nat} {xs ys:List V} (h:σb[i]? =some (.list xs)) (h':σb[j]? =some (.list ys)) (hl:xs.length=ys.length):QI σb (fun k=> .zip i j k) (zipL xs ys) where
 item:=fun k v σ l hv=>by
  refine k23 (Wv hl hv) fun x y hx hy q=> ?_;subst q
  show ((yn σ (.ref i)).bind fun xs=>(yn σ (.ref j)).bind fun ys=>match xs[k]? with
  | some v=>match ys[k]? with
   | some w=>some (some (V.tup [v,w],Itr.zip i j (k+1)))
   | .none=> .none
  | .none=>some .none)=_
  rw [yk _ (l _ _ h),zF,yk _ (l _ _ h'),zF,hx,hy]
 done:=fun σ l=>by
  show ((yn σ (.ref i)).bind fun xs'=>(yn σ (.ref j)).bind fun ys'=>match xs'[(zipL xs ys).length]? with
  | some v=>match ys'[(zipL xs ys).length]? with
   | some w=>some (some (V.tup [v,w],Itr.zip i j ((zipL xs ys).length+1)))
   | .none=> .none
  | .none=>some .none)=_
  rw [yk _ (l _ _ h),zF,yk _ (l _ _ h'),zF,XT hl,yj (zo _)]
section
variable {Γ:G} {cf:Cf} {n fe:Nat} {t:T} {iter:It} {vars:Vars} {σ σb:H} {itr:Nat→Itr} {xs:List V}
theorem comp_le {elt:E} {ifs:List E} {own:List Nat} (h0:evIt (ev Γ cf n) iter vars σ=some (itr 0,σb)) (hok:okT t (itr 0)=true) (hx:xs.length < 1999) (Hd:QI σb itr xs) (P:Vars→Prop) (bnd:V→Vars→Vars) (p:V→Bool) (G:V→V→H→Prop)
  (hb: ∀v∈xs,∀σ vars,wn t v σ vars=some (bnd v vars)) (hP: ∀v∈xs,∀vars,P vars→P (bnd v vars)) (hp:P (own.map (fun ω=>(ω,.none))++vars))
  (step: ∀v∈xs,∀vars σ,Le σb σ→P vars→ ∃σ₁,jB (ev Γ cf n) ifs (bnd v vars) σ=some (p v,σ₁)∧Le σ σ₁∧(p v=true→ ∃w σ₂,ev Γ cf n elt (bnd v vars) σ₁=some (w,σ₂)∧Le σ₁ σ₂∧G v w σ₂))
  (mono: ∀v w σ σ',Le σ σ'→G v w σ→G v w σ'):
  ∃ws σ',ev Γ cf (n+1) (.comp elt [.mk t iter ifs] own) vars σ=some (.ref σ'.length,σ'++ [.list ws])∧Le σb σ'∧All2 (fun v w=>G v w σ') (xs.filter p) ws:=by
 have go: ∀(m j:Nat) (vars:Vars) (acc:List V) (σ:H),P vars→Le σb σ→j+m=xs.length→acc.length≤j→All2 (fun v w=>G v w σ) ((xs.take j).filter p) acc→
   ∃vars' acc' σ',(∀N,qL (fun σ it=>it.next σ) (jp (ev Γ cf n) elt t ifs) (N+m+1) (itr j) vars acc σ=some (vars',acc',σ'))∧Le σb σ'∧acc'.length≤xs.length∧All2 (fun v w=>G v w σ') (xs.filter p) acc':=by
  intro m
  induction m with
  | zero=>
   intro j vars acc σ hpv hle hj ha hA
   cases (show j=xs.length from hj)
   refine ⟨vars,acc,σ,fun N=> ?_,hle,ha,by rw [xU] at hA;exact hA⟩
   show (match (itr xs.length).next σ with | Option.none=>Option.none | some Option.none=>some (vars,acc,σ) | some (some (v,it'))=>(match jp (ev Γ cf n) elt t ifs v vars acc σ with
     | some (vars',acc',σ')=>qL (fun σ it=>it.next σ) (jp (ev Γ cf n) elt t ifs) (N+0) it' vars' acc' σ'
     | Option.none=>Option.none))=_
   rw [Hd.done σ hle]
  | succ m ih=>
   intro j vars acc σ hpv hle hj ha hA
   have hlt:j < xs.length:=by lia
   have hg:xs[j]? =some xs[j]:=zj hlt
   have hmem:=ww hlt
   refine k13 (step _ hmem vars σ hle hpv) fun σ₁ e1 l1 e2=> ?_
   have tk:xs.take (j+1)=xs.take j++ [xs[j]]:=by rw [wf,hg];rfl
   have unr: ∀N,qL (fun σ it=>it.next σ) (jp (ev Γ cf n) elt t ifs) (N+(m+1)+1) (itr j) vars acc σ=(match jp (ev Γ cf n) elt t ifs xs[j] vars acc σ with
     | some (vars',acc',σ')=>qL (fun σ it=>it.next σ) (jp (ev Γ cf n) elt t ifs) (N+m+1) (itr (j+1)) vars' acc' σ'
     | .none=> .none):=fun N=>by
    show (match (itr j).next σ with | Option.none=>Option.none | some Option.none=>some (vars,acc,σ) | some (some (v,it'))=>(match jp (ev Γ cf n) elt t ifs v vars acc σ with
     | some (vars',acc',σ')=>qL (fun σ it=>it.next σ) (jp (ev Γ cf n) elt t ifs) (N+m+1) it' vars' acc' σ'
     | Option.none=>Option.none))=_
    rw [Hd.item j _ σ hle hg]
   cases hpj:p xs[j] with
   | false=>
    have ht:jp (ev Γ cf n) elt t ifs xs[j] vars acc σ=some (bnd xs[j] vars,acc,σ₁):=by
     unfold jp
     rw [hb _ hmem];dsimp only;rw [e1,hpj]
    refine k31 (ih (j+1) (bnd xs[j] vars) acc σ₁ (hP _ hmem _ hpv) (hle.trans l1) (by lia) (by lia) ?_) fun vars' acc' σ' H=> ?_
    ·rw [tk,Yz,yH (by rw [hpj];exact zQ),List.filter_nil,ym]
     exact hA.imp fun v w=>mono v w _ _ l1
    ·exact ⟨vars',acc',σ',fun N=>by rw [unr,ht];exact H.1 N,H.2⟩
   | true=>
    refine k23 (e2 hpj) fun w σ₂ e3 l2 hG=> ?_
    have ht:jp (ev Γ cf n) elt t ifs xs[j] vars acc σ=some (bnd xs[j] vars,acc++ [w],σ₂):=by
     unfold jp
     rw [hb _ hmem];dsimp only;rw [e1,hpj];dsimp only;rw [e3]
     exact if_pos (wV (by lia))
    refine k31 (ih (j+1) (bnd xs[j] vars) (acc++ [w]) σ₂ (hP _ hmem _ hpv) ((hle.trans l1).trans l2) (by lia) (by rw [zd];exact xc ha) ?_) fun vars' acc' σ' H=> ?_
    ·rw [tk,Yz,yv hpj,List.filter_nil]
     exact (hA.imp fun v w=>mono v w _ _ (l1.trans l2)).snoc hG
    ·exact ⟨vars',acc',σ',fun N=>by rw [unr,ht];exact H.1 N,H.2⟩
 refine k31 (go xs.length 0 (own.map (fun ω=>(ω,.none))++vars) [] σb hp (.refl _) (xO _) (zo _) .nil) fun vars' ws σ' H=> ?_
 refine ⟨ws,σ',?_,H.2.1,H.2.2.2⟩
 rw [ev_comp,h0]
 dsimp only
 rw [if_pos hok,zbJ]
 have hf:=H.1 (1999 - xs.length)
 rw [show 1999 - xs.length+xs.length+1=xE by show _=2000;lia] at hf
 rw [hf]
 exact jI _ (zm H.2.2.1 (by lia))
theorem wd {elt:E} {ifs:List E} {own:List Nat} (h0:evIt (ev Γ cf n) iter vars σ=some (itr 0,σb)) (hok:okT t (itr 0)=true) (hx:xs.length < 1999) (Hd:QI σb itr xs) (P:Vars→Prop) (bnd:V→Vars→Vars) (p:V→Bool) (g:V→V)
  (hb: ∀v∈xs,∀σ vars,wn t v σ vars=some (bnd v vars)) (hP: ∀v∈xs,∀vars,P vars→P (bnd v vars)) (hp:P (own.map (fun ω=>(ω,.none))++vars))
  (step: ∀v∈xs,∀vars σ,Le σb σ→P vars→ ∃σ₁,jB (ev Γ cf n) ifs (bnd v vars) σ=some (p v,σ₁)∧Le σ σ₁∧(p v=true→ ∃σ₂,ev Γ cf n elt (bnd v vars) σ₁=some (g v,σ₂)∧Le σ₁ σ₂)):
  ∃σ',ev Γ cf (n+1) (.comp elt [.mk t iter ifs] own) vars σ=some (.ref σ'.length,σ'++ [.list ((xs.filter p).map g)])∧Le σb σ':=by
 refine k23 (comp_le (elt:=elt) (ifs:=ifs) h0 hok hx Hd P bnd p (fun v w ω=>w=g v) hb hP hp (fun v hv vars σ l hpv=> ?_) fun ω ω ω ω ω h=>h) fun ws σ' e l hA=> ?_
 ·refine k13 (step v hv vars σ l hpv) fun σ₁ e1 l1 e2=>⟨σ₁,e1,l1,fun h=> ?_⟩
  exact k12 (e2 h) fun σ₂ e3 l3=>⟨_,σ₂,e3,l3,rfl⟩
 ·rw [hA.map_eq] at e
  exact ⟨σ',e,l⟩
noncomputable def zbK (Γ:G) (cf:Cf) (fe n:Nat) (t:T) (b:List S):V→Vars→H→Option (Fl×Vars×H):=fun v vars σ=>match wn t v σ vars with
     | some vars=>exs Γ cf fe n b vars σ
     | .none=> .none
theorem for_inv {b:List S} (h0:evIt (ev Γ cf fe) iter vars σ=some (itr 0,σb)) (hok:okT t (itr 0)=true) (hx:xs.length < 1999) (I:Nat→Vars→H→Prop) (R:V→Vars→H→Prop) (hI:I 0 vars σb)
  (Hn: ∀k v vars σ,xs[k]? =some v→I k vars σ→(itr k).next σ=some (some (v,itr (k+1)))) (Hd: ∀vars σ,I xs.length vars σ→(itr xs.length).next σ=some .none)
  (step: ∀k v vars σ,xs[k]? =some v→I k vars σ→ ∃vars₁,wn t v σ vars=some vars₁∧ ∃fl vars' σ',exs Γ cf fe n b vars₁ σ=some (fl,vars',σ')∧((fl= .next∧I (k+1) vars' σ')∨ ∃w,fl= .ret w∧R w vars' σ')):
  ∃fl vars' σ',ex Γ cf fe (n+1) (.for_ t iter b) vars σ=some (fl,vars',σ')∧((fl= .next∧I xs.length vars' σ')∨ ∃w,fl= .ret w∧R w vars' σ'):=by
 have go: ∀(m j:Nat) (vars:Vars) (σ:H),j+m=xs.length→I j vars σ→ ∃fl vars' σ',(∀N,jj (fun σ it=>it.next σ) (zbK Γ cf fe n t b) (N+m+1) (itr j) vars σ=some (fl,vars',σ'))∧((fl= .next∧I xs.length vars' σ')∨ ∃w,fl= .ret w∧R w vars' σ'):=by
  intro m
  induction m with
  | zero=>
   intro j vars σ hj hi
   cases (show j=xs.length from hj)
   exact ⟨.next,vars,σ,fun N=>loopF_end (Hd vars σ hi),.inl ⟨rfl,hi⟩⟩
  | succ m ih=>
   intro j vars σ hj hi
   have hlt:j < xs.length:=by lia
   have hg:xs[j]? =some xs[j]:=zj hlt
   refine k12 (step j _ vars σ hg hi) fun vars₁ e1 e2=> ?_
   refine k32 e2 fun fl vars' σ' e2 e3=> ?_
   have hbd:zbK Γ cf fe n t b xs[j] vars σ=some (fl,vars',σ'):=by unfold zbK;rw [e1];exact e2
   rcases e3 with ⟨q,hi'⟩ | ⟨w,q,hr⟩
   ·subst q
    refine k31 (ih (j+1) vars' σ' (by lia) hi') fun fl' vars'' σ'' H=> ?_
    exact ⟨fl',vars'',σ'',fun N=>(zcA (Hn j _ vars σ hg hi) hbd).trans (H.1 N),H.2⟩
   ·subst q
    refine ⟨.ret w,vars',σ',fun N=> ?_,.inr ⟨w,rfl,hr⟩⟩
    show (match (itr j).next σ with | Option.none=>Option.none | some Option.none=>some (Fl.next,vars,σ) | some (some (v,it'))=>(match zbK Γ cf fe n t b v vars σ with
     | some (fl,vars',σ')=>match fl with
      | .next=>jj (fun σ it=>it.next σ) (zbK Γ cf fe n t b) (N+m+1) it' vars' σ'
      | .brk=>some (.next,vars',σ')
      | .ret v=>some (.ret v,vars',σ')
     | Option.none=>Option.none))=_
    rw [Hn j _ vars σ hg hi];dsimp only;rw [hbd]
 refine k32 (go xs.length 0 vars σb (xO _) hI) fun fl vars' σ' H hr=>⟨fl,vars',σ',?_,hr⟩
 rw [ex_for,h0]
 dsimp only
 rw [if_pos hok]
 have hf:=H (1999 - xs.length)
 rw [show 1999 - xs.length+xs.length+1=xE by show _=2000;lia] at hf
 exact hf
theorem qx {b:List S} (h0:evIt (ev Γ cf fe) iter vars σ=some (itr 0,σb)) (hok:okT t (itr 0)=true) (hx:xs.length < 1999) (I:Nat→Vars→H→Prop) (hI:I 0 vars σb)
  (Hn: ∀k v vars σ,xs[k]? =some v→I k vars σ→(itr k).next σ=some (some (v,itr (k+1)))) (Hd: ∀vars σ,I xs.length vars σ→(itr xs.length).next σ=some .none)
  (step: ∀k v vars σ,xs[k]? =some v→I k vars σ→ ∃vars₁,wn t v σ vars=some vars₁∧ ∃vars' σ',exs Γ cf fe n b vars₁ σ=some (.next,vars',σ')∧I (k+1) vars' σ'):
  ∃vars' σ',ex Γ cf fe (n+1) (.for_ t iter b) vars σ=some (.next,vars',σ')∧I xs.length vars' σ':=by
 refine k32 (for_inv (b:=b) (n:=n) (R:=fun ω ω ω=>False) h0 hok hx I hI Hn Hd fun k v vars σ h hi=> ?_) fun fl vars' σ' e h=> ?_
 ·exact k12 (step k v vars σ h hi) fun vars₁ e1 e2=>⟨vars₁,e1,k22 e2 fun vars' σ' e2 e3=>⟨.next,vars',σ',e2,.inl ⟨rfl,e3⟩⟩⟩
 ·rcases h with ⟨q,h⟩ | ⟨w,q,h⟩
  ·subst q;exact ⟨vars',σ',e,h⟩
  ·exact h.elim
theorem loopW_end {test:Vars→H→Option (Bool×H)} {body:Vars→H→Option (Fl×Vars×H)} {k:Nat} {σ₁:H} (h:test vars σ=some (false,σ₁)):jY test body (k+1) vars σ=some (.next,vars,σ₁):=by
 rw [zbf]
 rw [h]
theorem zcz {test:Vars→H→Option (Bool×H)} {body:Vars→H→Option (Fl×Vars×H)} {k:Nat} {σ₁ σ':H} {vars':Vars} (h:test vars σ=some (true,σ₁)) (hb:body vars σ₁=some (.next,vars',σ')):jY test body (k+1) vars σ=jY test body k vars' σ':=by
 rw [zbf]
 rw [h];dsimp only;rw [hb]
theorem QU {q:E} {b:List S} (I:Nat→Vars→H→Prop) (D:Vars→H→Prop) (step: ∀k vars σ,I k vars σ→ ∃z σ₁,evB (ev Γ cf fe) q vars σ=some (z,σ₁)∧(z=false→D vars σ₁)∧(z=true→ ∃k' vars' σ',k' < k∧exs Γ cf fe n b vars σ₁=some (.next,vars',σ')∧I k' vars' σ')) {k:Nat} (hI:I k vars σ) (hk:k < 1999):
  ∃vars' σ',ex Γ cf fe (n+1) (.whil q b) vars σ=some (.next,vars',σ')∧D vars' σ':=by
 have go: ∀(m k:Nat) (vars:Vars) (σ:H),k < m→I k vars σ→ ∃vars' σ',(∀N,jY (fun vars σ=>evB (ev Γ cf fe) q vars σ) (fun vars σ=>exs Γ cf fe n b vars σ) (N+m) vars σ=some (.next,vars',σ'))∧D vars' σ':=by
  intro m
  induction m with
  | zero=>intro k _ _ h;exact absurd h (Nat.not_lt_zero _)
  | succ m ih=>
   intro k vars σ hkm hi
   refine k23 (step k vars σ hi) fun z σ₁ e1 e2 e3=> ?_
   cases z with
   | false=>exact ⟨vars,σ₁,fun N=>loopW_end e1,e2 rfl⟩
   | true=>
    refine k33 (e3 rfl) fun k' vars' σ' hk' e4 hi'=> ?_
    exact k22 (ih k' vars' σ' (by lia) hi') fun vars'' σ'' H hd=>⟨vars'',σ'',fun N=>(zcz e1 e4).trans (H N),hd⟩
 refine k22 (go 2000 k vars σ (by lia) hI) fun vars' σ' H hd=>⟨vars',σ',?_,hd⟩
 have:=H 0
 rw [xO] at this
 exact this
end
end MI
end T10
section T11
namespace MI.L3
noncomputable def popR (lt:Nat→Nat→Bool) (at':Nat):List Nat→List Nat
 | []=> []
 | x::r=>if r.isEmpty then [x] else if lt x at' then x::r else popR lt at' r
noncomputable def upR (lt:Nat→Nat→Bool):Nat→List Nat×List Nat
 | 0=>([6],[])
 | k+1=>let s:=upR lt k;let p:=popR lt k s.1;(k::p,s.2++ [p.headD 6])
noncomputable def xT (lt:Nat→Nat→Bool):List Nat:=(upR lt 6).2
noncomputable def WE:List Nat→List (List Nat)
 | []=> []
 | x::r=>(x::r)::WE r
noncomputable def genR:Nat→List (List Nat×List Nat)
 | 0=> [([6],[])]
 | k+1=>(genR k).flatMap fun s=>(WE s.1).map fun p=>(k::p,s.2++ [p.headD 6])
noncomputable def F132:List (List Nat):=(genR 6).map (fun ω=>ω.2)
theorem zcj (lt:Nat→Nat→Bool) (k:Nat): ∀ {p:List Nat},p≠ []→popR lt k p∈WE p
 | [],h=>absurd rfl h
 | x::r,_=>by
  show (if r.isEmpty then [x] else if lt x k then x::r else popR lt k r)∈(x::r)::WE r
  cases r with
  | nil=>exact .head _
  | cons y r=>
   rw [if_neg (by exact zQ)]
   by_cases h:lt x k=true
   ·rw [if_pos h];exact .head _
   ·rw [if_neg h];exact .tail _ (zcj lt k (by exact nofun))
theorem JD (lt:Nat→Nat→Bool): ∀k,upR lt k∈genR k∧(upR lt k).1≠ []
 | 0=>⟨.head _,nofun⟩
 | k+1=>by
  refine k02 (JD lt k) fun h hn=> ?_
  exact ⟨XP.mpr ⟨_,h,zy.mpr ⟨_,zcj lt k hn,rfl⟩⟩,nofun⟩
theorem above_F (lt:Nat→Nat→Bool):xT lt∈F132:=zy.mpr ⟨_,(JD lt 6).1,rfl⟩
noncomputable def wx (lt:Nat→Nat→Bool) (k:Nat):Nat→List Nat
 | 0=> []
 | h+1=>if (List.range k).all (fun j=>decide (j≤h) || lt h j) then h::wx lt k h else wx lt k h
theorem pop_all {lt:Nat→Nat→Bool} {k:Nat} (tr: ∀a b c,lt a b=true→lt b c=true→lt a c=true): ∀l:List Nat,l.Pairwise (fun y x=>lt x y=true)→popR lt k (l++ [6])=l.filter (fun ω=>lt ω k)++ [6]
 | [],_=>rfl
 | x::r,h=>by
  have hr:=zbX.mp h
  show (if (r++ [6]).isEmpty then [x] else if lt x k then x::(r++ [6]) else popR lt k (r++ [6]))=_
  rw [if_neg (by cases r <;>exact zQ)]
  by_cases hx:lt x k=true
  ·rw [if_pos hx,yv (p:=fun y=>lt y k) hx,List.filter_eq_self.mpr fun y hy=>tr y x k (hr.1 y hy) hx];rfl
  ·rw [if_neg hx,yH (p:=fun y=>lt y k) hx,pop_all tr r hr.2]
theorem jW {lt:Nat→Nat→Bool} {k:Nat} : ∀ {n h:Nat},h∈wx lt k n↔h < n∧ ∀j,h < j→j < k→lt h j=true
 | 0,h=>⟨fun q=>(nomatch q),fun q=>absurd q.1 (Nat.not_lt_zero _)⟩
 | n+1,h=>by
  have key:((List.range k).all (fun j=>decide (j≤n) || lt n j)=true)↔ ∀j,n < j→j < k→lt n j=true:=by
   rw [zq]
   refine ⟨fun q j h1 h2=> ?_,fun q j hj=> ?_⟩
   ·have:=q j (zI.mpr h2)
    rw [decide_eq_false (zbV.mpr h1),Bool.false_or] at this
    exact this
   ·by_cases hjn:j≤n
    ·rw [decide_eq_true hjn,Bool.true_or]
    ·rw [q j (zbV.mp hjn) (zI.mp hj),Bool.or_true]
  show h∈(if (List.range k).all (fun j=>decide (j≤n) || lt n j) then n::wx lt k n else wx lt k n)↔_
  by_cases hc:(List.range k).all (fun j=>decide (j≤n) || lt n j)=true
  ·rw [if_pos hc,zh,jW]
   refine ⟨fun q=>q.elim (fun q=>by subst q;exact ⟨yc _,key.mp hc⟩) fun q=>⟨yg q.1,q.2⟩,fun q=> ?_⟩
   rcases Nat.lt_or_eq_of_le (wR q.1) with h1 | h1
   ·exact .inr ⟨h1,q.2⟩
   ·exact .inl h1
  ·rw [if_neg hc,jW]
   refine ⟨fun q=>⟨yg q.1,q.2⟩,fun q=> ?_⟩
   rcases Nat.lt_or_eq_of_le (wR q.1) with h1 | h1
   ·exact ⟨h1,q.2⟩
   ·subst h1;exact absurd (key.mpr q.2) hc
theorem YL (lt:Nat→Nat→Bool) (k:Nat): ∀n,(wx lt k n).Pairwise (fun y x=>x < y)
 | 0=> .nil
 | n+1=>by
  show (if (List.range k).all (fun j=>decide (j≤n) || lt n j) then n::wx lt k n else wx lt k n).Pairwise _
  by_cases hc:(List.range k).all (fun j=>decide (j≤n) || lt n j)=true
  ·rw [if_pos hc];exact .cons (fun x hx=>(jW.mp hx).1) (YL lt k n)
  ·rw [if_neg hc];exact YL lt k n
theorem Qa (lt:Nat→Nat→Bool) (k:Nat): ∀n,n≤k→wx lt (k+1) n=(wx lt k n).filter (fun ω=>lt ω k)
 | 0,_=>rfl
 | n+1,hn=>by
  have ih:=Qa lt k n (jr hn)
  have e:(List.range (k+1)).all (fun j=>decide (j≤n) || lt n j)=((List.range k).all (fun j=>decide (j≤n) || lt n j)&&lt n k):=by
   rw [List.range_succ,Wu,List.all_cons,List.all_nil,decide_eq_false (zbV.mpr hn),Bool.false_or,zaA]
  show (if (List.range (k+1)).all (fun j=>decide (j≤n) || lt n j) then n::wx lt (k+1) n else wx lt (k+1) n)=(if (List.range k).all (fun j=>decide (j≤n) || lt n j) then n::wx lt k n else wx lt k n).filter (fun ω=>lt ω k)
  rw [e,ih]
  cases (List.range k).all (fun j=>decide (j≤n) || lt n j)
  ·rfl
  ·cases h2:lt n k
   ·rw [if_neg (show¬(true&&false)=true from zQ),if_pos rfl,yH (p:=fun y=>lt y k) (by rw [h2];exact zQ)]
   ·rw [if_pos (show (true&&true)=true from rfl),if_pos rfl,yv (p:=fun y=>lt y k) h2]
theorem zcn (lt:Nat→Nat→Bool) (k:Nat):wx lt (k+1) (k+1)=k::wx lt (k+1) k:=by
 show (if (List.range (k+1)).all (fun j=>decide (j≤k) || lt k j) then _ else _)=_
 rw [if_pos]
 refine zq.mpr fun j hj=> ?_
 rw [decide_eq_true (wR (zI.mp hj)),Bool.true_or]
theorem up_open {lt:Nat→Nat→Bool} (tr: ∀a b c,lt a b=true→lt b c=true→lt a c=true): ∀k,(upR lt k).1=wx lt k k++ [6]∧(upR lt k).2=(List.range k).map fun i=>(wx lt (i+1) i++ [6]).headD 6
 | 0=>⟨rfl,rfl⟩
 | k+1=>by
  refine k02 (up_open tr k) fun h1 h2=> ?_
  have hp:popR lt k (upR lt k).1=wx lt (k+1) k++ [6]:=by
   rw [h1,pop_all tr _ ((YL lt k k).imp_of_mem fun {a b} ha hb hab=>(jW.mp hb).2 a hab (jW.mp ha).1),Qa lt k k (zo _)]
  refine ⟨?_,?_⟩
  ·show k::popR lt k (upR lt k).1=_
   rw [hp,zcn];rfl
  ·show (upR lt k).2++ [(popR lt k (upR lt k).1).headD 6]=_
   rw [hp,h2,List.range_succ,zX];rfl
noncomputable def endP (lt:Nat→Nat→Bool) (i:Nat):Nat:=(((List.range 6).filter fun j=>decide (i < j)&& !lt i j)++ [6]).headD 6
theorem head_min: ∀ {l:List Nat},l.Pairwise (· < ·)→(∀j∈l,j < 6)→ ∀i,i < 6→(i < (l++ [6]).headD 6↔ ∀j∈l,i < j)
 | [],_,_,i,hi=>⟨fun ω j hj=>(nomatch hj),fun ω=>hi⟩
 | x::r,h,hl,i,hi=>by
  have hr:=zbX.mp h
  refine ⟨fun (q:i < x) j hj=> ?_,fun q=>q x (.head _)⟩
  rcases zh.mp hj with rfl | hj
  ·exact q
  ·exact we q (hr.1 j hj)
theorem end_open {lt:Nat→Nat→Bool} {h i:Nat} (hi:i < 6):i < endP lt h↔ ∀j,h < j→j < i+1→lt h j=true:=by
 unfold endP
 rw [head_min ((List.pairwise_lt_range).filter _) (fun j hj=>zI.mp (yJ.mp hj).1) i hi]
 refine ⟨fun q j h1 h2=> ?_,fun q j hj=> ?_⟩
 ·cases hl:lt h j with
  | true=>rfl
  | false=>exact absurd (q j (yJ.mpr ⟨zI.mpr (by lia),by rw [hl,decide_eq_true h1];rfl⟩)) (by lia)
 ·refine k02 (yJ.mp hj) fun ω h2=> ?_
  refine k02 (zu.mp h2) fun h3 h4=> ?_
  refine Nat.lt_of_not_le fun h5=> ?_
  rw [q j (of_decide_eq_true h3) (jq h5)] at h4
  exact ft h4
noncomputable def hangP (lt:Nat→Nat→Bool) (i:Nat):Nat:=([6]++(List.range i).filter fun h=>decide (i < endP lt h)).getLastD 6
theorem zaY (lt:Nat→Nat→Bool) (i:Nat) (hi:i < 6): ∀n,n≤i→((List.range n).filter fun h=>decide (i < endP lt h)).reverse=wx lt (i+1) n
 | 0,_=>rfl
 | n+1,hn=>by
  have ih:=zaY lt i hi n (jr hn)
  have e:decide (i < endP lt n)=(List.range (i+1)).all (fun j=>decide (j≤n) || lt n j):=by
   rw [wM,decide_eq_true_iff,end_open hi,zq]
   refine ⟨fun q j hj=> ?_,fun q j h1 h2=> ?_⟩
   ·by_cases hjn:j≤n
    ·rw [decide_eq_true hjn,Bool.true_or]
    ·rw [q j (zbV.mp hjn) (zI.mp hj),Bool.or_true]
   ·have:=q j (zI.mpr h2)
    rw [decide_eq_false (zbV.mpr h1),Bool.false_or] at this
    exact this
  rw [List.range_succ,Yz,List.reverse_append,ih]
  show (List.filter _ [n]).reverse++_=(if (List.range (i+1)).all (fun j=>decide (j≤n) || lt n j) then n::wx lt (i+1) n else wx lt (i+1) n)
  rw [←e]
  cases hb:decide (i < endP lt n)
  ·rw [yH (p:=fun h=>decide (i < endP lt h)) (by rw [hb];exact zQ)];rfl
  ·rw [yv (p:=fun h=>decide (i < endP lt h)) hb];rfl
theorem last_rev (l:List Nat):([6]++l).getLastD 6=(l.reverse++ [6]).headD 6:=by
 rw [show l.reverse++ [6]=([6]++l).reverse by simp,List.headD_eq_head?_getD,List.head?_reverse,List.getLastD_eq_getLast?]
theorem zcK {lt:Nat→Nat→Bool} (tr: ∀a b c,lt a b=true→lt b c=true→lt a c=true):(List.range 6).map (hangP lt)=xT lt:=by
 show _=(upR lt 6).2
 rw [(up_open tr 6).2]
 refine ZF fun i hi=> ?_
 show ([6]++_).getLastD 6=_
 rw [last_rev,zaY lt i (zI.mp hi) i (zo _)]
end MI.L3
end T11
section T12
open PySem PySem.Spec PySem.Calls PyProof.Rows PySem.W
namespace MI.L3
noncomputable def wsFs (raw:Txt) (n nt:Int) (cnt:List Int) (b:Int):List (Nat×V):= [(2,.str raw),(5,.int n),(6,.int nt),(8,.tup [.tup (cnt.map .int),.int b]),(9,.bool (decide (cnt.length≤1)))]
noncomputable def P3:List Txt:= [[],[32],[9]]
noncomputable def L31:List Txt:= [[],[32],[9],[32,32],[32,9],[9,32],[9,9],[32,32,32],[32,32,9],[32,9,32],[32,9,9],[9,32,32],[9,32,9],[9,9,32],[9,9,9],[32,32,32,32],[32,32,32,9],[32,32,9,32],[32,32,9,9],[32,9,32,32],[32,9,32,9],[32,9,9,32],[32,9,9,9],[9,32,32,32],[9,32,32,9],[9,32,9,32],[9,32,9,9],[9,9,32,32],[9,9,32,9],[9,9,9,32],[9,9,9,9]]
noncomputable def bump (cnt:List Int) (b:Nat):List Int:=let c:=if b < cnt.length then cnt else cnt++List.replicate (b - cnt.length+1) 0;c.set b (c.getD b 0+1)
noncomputable def nrm:Txt→List Int→Nat→List Int×Nat
 | [],cnt,b=>(cnt,b)
 | c::r,cnt,b=>if c==32 then nrm r cnt (b+1) else nrm r (bump cnt b) 0
noncomputable def wN (l:Txt):Int:=(l.length:Int)
noncomputable def wT (l:Txt):Int:=((l.filter (fun ω=>ω==9)).length:Int)
noncomputable def wC (l:Txt):List Int:=(nrm l [] 0).1
noncomputable def wB (l:Txt):Int:=((nrm l [] 0).2:Int)
noncomputable def wRaw (l:Txt):Txt:=l++ [120,9,32]
noncomputable def wO (l:Txt):O:= .inst 100 (wsFs (wRaw l) (wN l) (wT l) (wC l) (wB l))
noncomputable def wRun (l:Txt):Option (V×H):=Yb Γ 60 60 20 55 [.ref 0,.str (wRaw l)] [] [.inst 100 []]
noncomputable def tabA {α β:Type} (f:α→β) (L:List α):List β:=L.foldr (fun x r=>f x::r) []
theorem YW {α β:Type} (f:α→β): ∀L:List α,tabA f L=L.map f
 | []=>rfl
 | x::r=>congrArg (fun ω=>f x::ω) (YW f r)
theorem wq {α β:Type} {f g:α→β} {L:List α} (h:tabA f L=L.map g): ∀x∈L,f x=g x:=zdh.mp ((YW f L).symm.trans h)
theorem tail_get {α:Type} {o:Option (α×H)} {v:α} {x:O} (h:o.map (fun y=>(y.1,y.2.head?))=some (v,some x)): ∃τ,o=some (v,x::τ):=by
 cases o with
 | none=>exact ns h
 | some y=>
  obtain ⟨w,l⟩:=y
  cases l with
  | nil=>exact absurd (congrArg Prod.snd (za h)) (by simp)
  | cons z l=>refine ⟨l,?_⟩;simpa using h
theorem w_run (l:Txt) (h:l∈L31): ∃τ,wRun l=some (.none,wO l::τ):=tail_get (wq (f:=fun l=>(wRun l).map fun y=>(y.1,y.2.head?)) (g:=fun l=>some (V.none,some (wO l))) (by kernel_rfl) l h)
noncomputable def col:Txt→Int→Int→Int
 | [],ts,c=>c
 | x::r,ts,c=>col r ts (if x==32 then c+1 else (Int.fdiv c ts+1)*ts)
noncomputable def jX (a b:Txt):Bool:=(List.range 5).all fun (k:Nat)=>decide (col a ((k:Int)+1) 0 < col b ((k:Int)+1) 0)
theorem lt_trans {a b c:Txt} (h1:jX a b=true) (h2:jX b c=true):jX a c=true:=by
 unfold jX at*
 rw [zq] at*
 intro k hk
 have:=h1 k hk
 have:=h2 k hk
 simp only [decide_eq_true_eq] at*
 lia
noncomputable def yh (a:Txt):Prop:=tabA (fun b=>Yb Γ 60 60 20 90 [.ref 0,.ref 1] [] [wO a,wO b]) L31=L31.map fun b=>some (.bool (jX a b),[wO a,wO b])
theorem less_t0:yh []:=by unfold yh;kernel_rfl
theorem less_t1:yh [32]:=by unfold yh;kernel_rfl
theorem less_t2:yh [9]:=by unfold yh;kernel_rfl
theorem less_t3:yh [32,32]:=by unfold yh;kernel_rfl
theorem less_t4:yh [32,9]:=by unfold yh;kernel_rfl
theorem less_t5:yh [9,32]:=by unfold yh;kernel_rfl
theorem less_t6:yh [9,9]:=by unfold yh;kernel_rfl
theorem less_t7:yh [32,32,32]:=by unfold yh;kernel_rfl
theorem less_t8:yh [32,32,9]:=by unfold yh;kernel_rfl
theorem less_t9:yh [32,9,32]:=by unfold yh;kernel_rfl
theorem less_t10:yh [32,9,9]:=by unfold yh;kernel_rfl
theorem less_t11:yh [9,32,32]:=by unfold yh;kernel_rfl
theorem less_t12:yh [9,32,9]:=by unfold yh;kernel_rfl
theorem less_t13:yh [9,9,32]:=by unfold yh;kernel_rfl
theorem less_t14:yh [9,9,9]:=by unfold yh;kernel_rfl
theorem less_t15:yh [32,32,32,32]:=by unfold yh;kernel_rfl
theorem less_t16:yh [32,32,32,9]:=by unfold yh;kernel_rfl
theorem less_t17:yh [32,32,9,32]:=by unfold yh;kernel_rfl
theorem less_t18:yh [32,32,9,9]:=by unfold yh;kernel_rfl
theorem less_t19:yh [32,9,32,32]:=by unfold yh;kernel_rfl
theorem less_t20:yh [32,9,32,9]:=by unfold yh;kernel_rfl
theorem less_t21:yh [32,9,9,32]:=by unfold yh;kernel_rfl
theorem less_t22:yh [32,9,9,9]:=by unfold yh;kernel_rfl
theorem less_t23:yh [9,32,32,32]:=by unfold yh;kernel_rfl
theorem less_t24:yh [9,32,32,9]:=by unfold yh;kernel_rfl
theorem less_t25:yh [9,32,9,32]:=by unfold yh;kernel_rfl
theorem less_t26:yh [9,32,9,9]:=by unfold yh;kernel_rfl
theorem less_t27:yh [9,9,32,32]:=by unfold yh;kernel_rfl
theorem less_t28:yh [9,9,32,9]:=by unfold yh;kernel_rfl
theorem less_t29:yh [9,9,9,32]:=by unfold yh;kernel_rfl
theorem less_t30:yh [9,9,9,9]:=by unfold yh;kernel_rfl
theorem less_all:AllL yh L31:= .cons less_t0 (.cons less_t1 (.cons less_t2 (.cons less_t3 (.cons less_t4 (.cons less_t5 (.cons less_t6 (.cons less_t7 (.cons less_t8 (.cons less_t9 (.cons less_t10 (.cons less_t11 (.cons less_t12 (.cons less_t13 (.cons less_t14 (.cons less_t15 (.cons less_t16 (.cons less_t17 (.cons less_t18 (.cons less_t19 (.cons less_t20 (.cons less_t21 (.cons less_t22 (.cons less_t23 (.cons less_t24 (.cons less_t25 (.cons less_t26 (.cons less_t27 (.cons less_t28 (.cons less_t29 (.cons less_t30 (.nil)))))))))))))))))))))))))))))))
theorem less_run (a:Txt) (ha:a∈L31): ∀b∈L31,Yb Γ 60 60 20 90 [.ref 0,.ref 1] [] [wO a,wO b]=some (.bool (jX a b),[wO a,wO b]):=wq (less_all.get a ha)
noncomputable def insD (x:Nat):List Nat→List Nat
 | []=> [x]
 | y::r=>if Nat.ble y x then x::y::r else y::insD x r
noncomputable def sortD (l:List Nat):List Nat:=l.foldr insD []
noncomputable def Jj (f:List Nat) (i:Nat):List Nat:=(List.range 6).filter fun j=>(f.getD j 9).beq i
noncomputable def needOf (ks:List Nat):Nat:=match sortD ks with
 | []=>1
 | a::r=>match r with
  | []=>a
  | b::_=>Nat.max a (b+1)
noncomputable def needR (f:List Nat):Nat→Nat→Nat
 | 0,_=>0
 | n+1,i=>needOf ((Jj f i).map (needR f n))
noncomputable def yK (f:List Nat):List Nat:=(List.range 7).map (needR f 7)
noncomputable def natV (n:Nat):V:= .int (n:Int)
noncomputable def zx (l:List Nat):List V:=l.map natV
noncomputable def zcs (L:List (List Nat)):Prop:=tabA (fun f=>(Yb Γ 60 60 20 295 [.ref 0] [] [.list (zx f)]).map fun y=>(y.1,y.2[0]?,y.2[2]?)) L=L.map fun f=>some (V.ref 2,some (O.list (zx f)),some (O.list (zx (yK f))))
theorem needsApp {a b:List (List Nat)} (h:zcs a) (k:zcs b):zcs (a++b):=by
 unfold zcs at h k⊢
 rw [YW] at h k⊢
 rw [List.map_append,List.map_append,h,k]
noncomputable def needsP (k:Nat):List (List Nat):=(F132.drop (22*k)).take 22
set_option maxHeartbeats 4000000
theorem needsP0:zcs (needsP 0):=by unfold zcs;kernel_rfl
theorem needsP1:zcs (needsP 1):=by unfold zcs;kernel_rfl
theorem needsP2:zcs (needsP 2):=by unfold zcs;kernel_rfl
theorem needsP3:zcs (needsP 3):=by unfold zcs;kernel_rfl
theorem needsP4:zcs (needsP 4):=by unfold zcs;kernel_rfl
theorem needsP5:zcs (needsP 5):=by unfold zcs;kernel_rfl
theorem needs_tab:zcs F132:=(show needsP 0++(needsP 1++(needsP 2++(needsP 3++(needsP 4++needsP 5))))=F132 by kernel_rfl)▸needsApp needsP0 (needsApp needsP1 (needsApp needsP2 (needsApp needsP3 (needsApp needsP4 needsP5))))
end MI.L3
end T12
section T13
open PySem
namespace MI.L3
theorem ren_all (ρ:Nat→Option Nat) {α:Type} (f:α→V) (h: ∀x,V.ren ρ (f x)=some (f x)) (xs:List α):renL ρ (xs.map f)=some (xs.map f):=by
 induction xs with
 | nil=>rfl
 | cons x r ih=>
  show (V.ren ρ (f x)).bind (fun v'=>(renL ρ (r.map f)).map (fun ω=>v'::ω))=_
  rw [h x,ih];rfl
theorem ren_ints (ρ:Nat→Option Nat) (xs:List Int):renL ρ (xs.map V.int)=some (xs.map V.int):=ren_all ρ V.int (fun ω=>rfl) xs
theorem renF_nil (ρ:Nat→Option Nat):renF ρ []=some []:=rfl
theorem jU (ρ:Nat→Option Nat) (p:Nat×V) (r:List (Nat×V)):renF ρ (p::r)=(V.ren ρ p.2).bind fun v'=>(renF ρ r).map ((p.1,v'):: ·):=rfl
theorem zcd (ρ:Nat→Option Nat) (l:Txt):O.ren ρ (wO l)=some (wO l):=by
 have h:V.ren ρ (.tup [.tup ((wC l).map .int),.int (wB l)])=some (.tup [.tup ((wC l).map .int),.int (wB l)]):=by
  show (((renL ρ ((wC l).map V.int)).map V.tup).bind fun v'=>(some [V.int (wB l)]).map (fun ω=>v'::ω)).map V.tup=_
  rw [ren_ints];rfl
 show (renF ρ (wsFs (wRaw l) (wN l) (wT l) (wC l) (wB l))).map (O.inst 100)=_
 unfold wsFs
 rw [jU,jU,jU,jU,jU,renF_nil,h]
 rfl
theorem WP (ρ:Nat→Option Nat) (xs:List Nat):O.ren ρ (.list (zx xs))=some (.list (zx xs)):=congrArg (Option.map O.list) (ren_all ρ natV (fun ω=>rfl) xs)
section
variable {σ:H}
theorem told_init {i:Nat} {l:Txt} (hl:l∈L31) (h:σ[i]? =some (.inst 100 [])):Told (Yb Γ 60 60 20) 55 [.ref i,.str (wRaw l)] σ .none (σ.set i (wO l)):=by
 refine k11 (w_run l hl) fun τ e=> ?_
 have hi:=zV h
 refine ⟨_,_,[.ref 0,.str (wRaw l)],.none,[i],[],e,⟨by simp,by simpa using hi,rfl,?_,.nil,fun ω h=>(by cases h),by simp,?_,?_,fun m i h=>(by simp at h)⟩,rfl,rfl⟩
 ·intro k o₀ e
  cases k with
  | zero=>(refine si e fun q1=> ?_;subst q1;clear e);exact ⟨i,_,rfl,rfl,h⟩
  | succ k=>simp at e
 ·intro k j o₀ e1 e2
  cases k with
  | zero=>(refine si e1 fun q3=> ?_;subst q3;clear e1);cases e2;exact ⟨_,zcd _ l,by rw [jt hi]⟩
  | succ k=>simp at e1
 ·intro j hj hn
  rw [xH (by intro e;exact hn (by simp [e]))]
theorem zbt {σ σ₀:H} {ι:List Nat} (nd:ι.Nodup) (len:ι.length=σ₀.length) (h: ∀(k:Nat) o₀,σ₀[k]? =some o₀→ ∃j:Nat,ι[k]? =some j∧σ[j]? =some o₀) (hr: ∀o∈σ₀,∀ρ,O.ren ρ o=some o):zas σ σ σ₀ σ₀ ι []:=by
 have ho: ∀ {k:Nat} {o₀},σ₀[k]? =some o₀→o₀∈σ₀:=fun e=>zM e
 refine ⟨nd,fun j hj=> ?_,len,fun k o₀ e=>(h k o₀ e).elim fun j q=>⟨j,o₀,q.1,hr o₀ (ho e) _,q.2⟩,.nil,fun ω h=>(nomatch h),rfl,fun k j o₀ e1 e2=> ?_,fun ω ω ω=>rfl,fun m i e=>(nomatch e)⟩
 ·refine k11 (xh hj) fun k hk=> ?_
  have hl:k < σ₀.length:=len▸(zR.mp hk).1
  refine k12 (h k _ (zj hl)) fun j' e1 e2=> ?_
  cases hk.symm.trans e1
  exact (zR.mp e2).1
 ·refine k12 (h k o₀ e2) fun j' q1 q2=> ?_
  cases e1.symm.trans q1
  exact ⟨o₀,hr o₀ (ho e2) _,q2⟩
theorem told_less {i j:Nat} {l m:Txt} (hl:l∈L31) (hm:m∈L31) (hn:i≠j) (h:σ[i]? =some (wO l)) (h':σ[j]? =some (wO m)):Told (Yb Γ 60 60 20) 90 [.ref i,.ref j] σ (.bool (jX l m)) σ:=by
 refine ⟨⟨_,_,[.ref 0,.ref 1],_,[i,j],[],less_run l hl m hm,zbt (by simp [hn]) rfl (fun k o₀ e=> ?_) (fun o ho ρ=> ?_),rfl,rfl⟩⟩
 ·match k,e with
  | 0,e=>cases e;exact ⟨i,rfl,h⟩
  | 1,e=>cases e;exact ⟨j,rfl,h'⟩
  | k+2,e=>exact ns e
 ·rcases zh.mp ho with rfl | ho
  ·exact zcd ρ l
  ·exact zv.mp ho▸zcd ρ m
theorem needs_run (f:List Nat) (h:f∈F132): ∃σ',Yb Γ 60 60 20 295 [.ref 0] [] [.list (zx f)]=some (.ref 2,σ')∧σ'[0]? =some (.list (zx f))∧σ'[2]? =some (.list (zx (yK f))):=by
 have e0:=needs_tab
 unfold zcs at e0
 have e:=wq e0 f h
 refine k12 (zc.mp e) fun y hy q=> ?_
 obtain ⟨v,σ'⟩:=y
 have q1:v=V.ref 2:=congrArg Prod.fst q
 subst q1
 exact ⟨σ',hy,congrArg (fun z=>z.2.1) q,congrArg (fun z=>z.2.2) q⟩
theorem zb3 {i:Nat} {f:List Nat} (hf:f∈F132) (h:σ[i]? =some (.list (zx f))):Told (Yb Γ 60 60 20) 295 [.ref i] σ (.ref σ.length) (σ++ [.list (zx (yK f))]):=by
 refine k13 (needs_run f hf) fun τ e1 e0 e2=> ?_
 have hi:=zV h
 refine ⟨_,_,[.ref 0],.ref 2,[i],[2],e1,⟨by simp,by simpa using hi,rfl,?_,by simp,by simp,by simp,?_,fun j hj ω=>by rw [zH hj],?_⟩,rfl,?_⟩
 ·intro k o₀ q
  cases k with
  | zero=>(refine si q fun q1=> ?_;subst q1;clear q);exact ⟨i,_,rfl,WP _ _,h⟩
  | succ k=>simp at q
 ·intro k j o₀ q1 q2
  cases k with
  | zero=>(refine si q1 fun q3=> ?_;subst q3;clear q1);cases e0.symm.trans q2;exact ⟨_,WP _ _,yf σ _ h⟩
  | succ k=>simp at q1
 ·intro m i q
  cases m with
  | zero=>(refine si q fun q5=> ?_;subst q5;clear q);exact ⟨_,_,e2,WP _ _,zw σ _⟩
  | succ m=>simp at q
 ·show (ZR [i] [2] 1 σ.length 2).map V.ref=_
  unfold ZR za3
  rw [if_neg (by lia)]
  simp
end
noncomputable def XH (σ:H) (i:Nat):Option Txt:=match σ[i]? with
 | some (.inst _ ((_,.str raw)::_))=>some (raw.take (raw.length - 3))
 | _=> .none
theorem zaZ (l:Txt):(wRaw l).take ((wRaw l).length - 3)=l:=by unfold wRaw;simp
theorem zbj {σ:H} {i:Nat} {l:Txt} (h:σ[i]? =some (wO l)):XH σ i=some l:=by
 unfold XH
 rw [h]
 exact congrArg some (zaZ l)
noncomputable def Qg (vs:List V):List Nat:=vs.map fun v=>match v with | .int i=>i.toNat | _=>0
theorem natsOf_V (l:List Nat):Qg (zx l)=l:=by
 unfold Qg zx
 rw [yy]
 exact List.map_id' _
noncomputable def spec:Addr→List V→H→Option (V×H):=fun g as σ=>
 if g==55 then (match as with | [.ref i,.str raw]=>some (.none,σ.set i (wO (raw.take (raw.length - 3)))) | _=> .none)
 else if g==90 then (match as with
  | [.ref i,.ref j]=>(XH σ i).bind fun l=>(XH σ j).map fun m=>(.bool (jX l m),σ)
  | _=> .none)
 else if g==295 then (match as with
  | [.ref i]=>(yn σ (.ref i)).map fun vs=>(.ref σ.length,σ++ [.list (zx (yK (Qg vs)))])
  | _=> .none)
 else .none
noncomputable abbrev cfX (n:Nat):Cf:=ZB Γ (ZN (Yb Γ 60 60 20) spec) 60 60 n
section
variable {n:Nat} {σ:H}
theorem c_init {i:Nat} {l:Txt} (hl:l∈L31) (h:σ[i]? =some (.inst 100 [])):cfX n 55 [.ref i,.str (wRaw l)] [] σ=some (.none,σ.set i (wO l)):=by
 refine YQ ?_ (told_init hl h)
 show some (V.none,σ.set i (wO ((wRaw l).take ((wRaw l).length - 3))))=_
 rw [zaZ]
theorem c_less {i j:Nat} {l m:Txt} (hl:l∈L31) (hm:m∈L31) (hn:i≠j) (h:σ[i]? =some (wO l)) (h':σ[j]? =some (wO m)):cfX n 90 [.ref i,.ref j] [] σ=some (.bool (jX l m),σ):=by
 refine YQ ?_ (told_less hl hm hn h h')
 show ((XH σ i).bind fun l=>(XH σ j).map fun m=>(V.bool (jX l m),σ))=_
 rw [zbj h,zbj h'];rfl
theorem c_needs {i:Nat} {f:List Nat} (hf:f∈F132) (h:σ[i]? =some (.list (zx f))):cfX n 295 [.ref i] [] σ=some (.ref σ.length,σ++ [.list (zx (yK f))]):=by
 refine YQ ?_ (zb3 hf h)
 show ((yn σ (.ref i)).map fun vs=>(V.ref σ.length,σ++ [O.list (zx (yK (Qg vs)))]))=_
 rw [yk _ h]
 show some (V.ref σ.length,σ++ [O.list (zx (yK (Qg (zx f))))])=_
 rw [natsOf_V]
noncomputable def T5:List Int:=(List.range 5).map fun (k:Nat)=>(k:Int)+1
theorem c_col (a:Txt) (h:a∈L31) (t:Int) (h1:1≤t) (h2:t≤5) (σ:H):cfX (n+1) 324 [.str a,.int t] [] σ=some (.int (col a t 0),σ):=by
 refine k11 (ja (Int.sub_nonneg_of_le h1)) fun k hk=> ?_
 have ht:t=(k:Int)+1:=(Int.sub_add_cancel t 1).symm.trans (congrArg (fun ω=>ω+1) hk)
 have m:t∈T5:=zy.mpr ⟨k,zI.mpr (Int.ofNat_lt.mp (show (k:Int)+1≤5 from ht▸h2)),ht.symm⟩
 exact zdh.mp ((YW _ T5).symm.trans (wq (f:=fun a=>tabA (fun t=>cfX (n+1) 324 [.str a,.int t] [] σ) T5) (g:=fun a=>T5.map fun t=>some (V.int (col a t 0),σ)) (by kernel_rfl) a h)) t m
theorem c_run {f:Addr} {F:Fn} {as:List V} {ks:List (Nat×V)} (h:spec f as σ=none) (hF:Γ.fns.lookup f=some F):cfX (n+1) f as ks σ=qR Γ (cfX n) 60 60 F as ks σ:=callX_run h hF
end
end MI.L3
namespace MI
theorem Le.set {σ σ':H} (a:Le σ σ') {k:Nat} (h:σ.length≤k) (o:O):Le σ (σ'.set k o):=fun i x hx=>by
 have hi:=zV hx
 rw [xH (Nat.ne_of_gt (yX hi h))]
 exact a i x hx
theorem Le.len {σ σ':H} (a:Le σ σ'):σ.length≤σ'.length:=by
 cases h:σ.length with
 | zero=>exact zK _
 | succ n=>exact zV (a n _ (zj (by lia)))
end MI
namespace MI.L3
theorem wW {σ:H} {k:Nat} {o o':O} (h:σ[k]? =some o):(σ.set k o')[k]? =some o':=jt (zV h)
theorem Wl {σ:H} {k i:Nat} {o o':O} (hn:k≠i) (h:σ[i]? =some o):(σ.set k o')[i]? =some o:=(xH hn).trans h
section
variable {cf:Cf} {n:Nat} {vars:Vars} {σ σ₁:H} {v:V} {xs:List V} {a:Nat}
theorem Zg {k:Nat} (h:σ[a]? =some (.list xs)) (hk:xs[k]? =some v) (hl:xs.length≤1000000):wL Γ (.ref a) (.int (k:Int)) σ=some v:=by
 show (match σ[a]? with
  | some (.list xs)=>(idx xs.length (k:Int)).bind fun j=>xs[j]?
  | _=> .none)=_
 rw [h]
 show (idx xs.length (k:Int)).bind (fun j=>xs[j]?)=_
 rw [Yl (zV hk) (zcC hl),zF,hk]
theorem idx_neg {m j:Nat} (hj:0 < j) (h:j≤m) (hl:m≤1000000):idx m (-(j:Int))=some (m - j):=by
 have h1:fit (-(j:Int))=true:=wt (Int.neg_lt_neg (Int.ofNat_lt.mpr (yx (zm h hl) (by decide)))) (Int.lt_of_le_of_lt (Int.neg_nonpos_of_nonneg (xW j)) (by decide))
 unfold idx
 rw [h1]
 show seqIndex? (-(j:Int)) m=some (m - j)
 unfold seqIndex?
 have h2:(-(j:Int)) < 0:=Int.neg_neg_of_pos (Int.ofNat_lt.mpr hj)
 have h3:(-(j:Int)+m)=((m - j:Nat):Int):=by rw [Int.add_comm,Int.ofNat_sub h];rfl
 have h4:((m - j:Nat):Int) < m:=Int.ofNat_lt.mpr (Nat.sub_lt (yX hj h) hj)
 simp only [h2,if_true,h3]
 have h5: ¬(((m - j:Nat):Int) < 0):=zbZ.mpr (xW _)
 simp [h5,h4]
theorem WI (h:σ[a]? =some (.list (xs++ [v]))) (hl:xs.length < 1000000):wL Γ (.ref a) (.int (-1)) σ=some v:=by
 show (match σ[a]? with
  | some (.list xs)=>(idx xs.length (-1)).bind fun j=>xs[j]?
  | _=> .none)=_
 rw [h]
 show (idx (xs++ [v]).length (-((1:Nat):Int))).bind (fun j=>(xs++ [v])[j]?)=_
 have hlen:(xs++ [v]).length=xs.length+1:=by rw [zd];rfl
 rw [hlen,idx_neg (by decide) (Nat.le_add_left 1 _) (Nat.succ_le_of_lt hl),zF,zbW,zJ (zo _),xG]
 rfl
theorem XV {e:E} (he:ev Γ cf (n+1) e vars σ=some (.ref a,σ₁)) (h:σ₁[a]? =some (.list xs)):ev Γ cf (n+1+1) (.call (.lit (.cst (.builtin "len"))) [e]) vars σ=some (.int (xs.length:Int),σ₁):=
 o_fn (zZ he) ((xM Γ cf σ₁ "len" _).trans (b_len_ref σ₁ h))
theorem jg {z:Nat} {e:E} (g:vars.get z=some (.ref a)) (h:σ[a]? =some (.list xs)) (he:ev Γ cf (n+1) e vars σ=some (v,σ₁)) (h1:σ₁[a]? =some (.list xs)) (hl:xs.length < 1000000):
  ev Γ cf (n+1+1) (.callM (.var z) 34 [e] []) vars σ=some (.none,σ₁.set a (.list (xs++ [v]))):=
 xz (zl g) (XW Γ σ h rfl) (zZ he) xA (Xp Γ cf σ₁ h1 hl)
theorem o_pop {z:Nat} (g:vars.get z=some (.ref a)) (h:σ[a]? =some (.list (xs++ [v]))) (hl:xs.length < 1000000):
  ev Γ cf (n+1+1) (.callM (.var z) 60 [] []) vars σ=some (v,σ.set a (.list xs)):=by
 have hm:yA Γ (.ref a) 60 σ=some (.lst a [112,111,112]):=by
  unfold yA
  dsimp only
  rw [h];rfl
 refine xz (zl g) hm wo xA ?_
 show ((yn σ (.ref a)).bind fun xs=>xs.getLast?.bind fun v=>setL σ a xs.dropLast v)=_
 rw [yk _ h,zF,List.getLast?_concat,zF,List.dropLast_concat]
 exact if_pos (wV (wI hl))
theorem Xf {e:E} {b:Int} (he:ev Γ cf (n+1) e vars σ=some (.int b,σ₁)) (hf:fit b=true):ev Γ cf (n+1+1) (.call (.lit (.cst (.type "range"))) [e]) vars σ=some (.rng 0 b,σ₁):=
 o_fn (zZ he) ((qi Γ cf σ₁ "range" _).trans ((b_range1 σ₁ b).trans (if_pos hf)))
theorem Zl {e:E} {lo:Int} {m:Nat} (he:ev Γ cf n e vars σ=some (.rng lo (lo+m),σ₁)) (hm:m < 1000) (h1:fit lo=true) (h2:fit (lo+m)=true):evIt (ev Γ cf n) (.plain e) vars σ=some (.one (.vs ((yq lo m).drop 0)),σ₁):=by
 have hz:zcOf (.rng lo (lo+m)) σ₁=some (.vs (yq lo m)):=by
  show (if decide (lo+m - lo < 1000)&&fit lo&&fit (lo+m) then some (Zc.vs (xZ lo (lo+m))) else .none)=_
  rw [h1,h2,decide_eq_true (by lia)]
  show some (Zc.vs (yq lo (lo+m - lo).toNat))=_
  rw [show (lo+(m:Int) - lo).toNat=m by lia]
 show (match ev Γ cf n e vars σ with
  | some (v,σ')=>(zcOf v σ').map fun z=>(Itr.one z,σ')
  | .none=> .none)=_
 rw [he]
 show (zcOf (.rng lo (lo+m)) σ₁).map (fun z=>(Itr.one z,σ₁))=_
 rw [hz];rfl
theorem jZ {e:E} (he:ev Γ cf n e vars σ=some (.ref a,σ₁)) (h:σ₁[a]? =some (.list xs)):evIt (ev Γ cf n) (.plain e) vars σ=some (.one (.ls a 0),σ₁):=by
 show (match ev Γ cf n e vars σ with
  | some (v,σ')=>(zcOf v σ').map fun z=>(Itr.one z,σ')
  | .none=> .none)=_
 rw [he]
 show (zcOf (.ref a) σ₁).map (fun z=>(Itr.one z,σ₁))=_
 rw [zcOf_ref h];rfl
theorem YJ {lo:Int} {m k:Nat} {v:V} (h:(yq lo m)[k]? =some v):k < m∧v= .int (lo+k):=by
 refine ⟨?_,Zj h⟩
 have:=zV h
 rw [wK] at this
 exact this
end
theorem Yi {l:List Nat} {k:Nat} :(zx l)[k]? =(l[k]?).map natV:=zA ..
theorem yM (l:List Nat):(zx l).length=l.length:=zf ..
theorem wu (l m:List Nat):zx (l++m)=zx l++zx m:=zX ..
structure WG (Q:Nat→Txt) (w:Nat) (ws:Nat→Nat) (σ:H):Prop where
 l:σ[w]? =some (.list ((List.range 6).map fun i=> .ref (ws i)))
 c: ∀i,i < 6→σ[ws i]? =some (wO (Q i))
 q: ∀i,i < 6→Q i∈L31
 ne: ∀i j,i < 6→j < 6→i≠j→ws i≠ws j
theorem WG.le {Q:Nat→Txt} {w:Nat} {ws:Nat→Nat} {σ σ':H} (W:WG Q w ws σ) (l:Le σ σ'):WG Q w ws σ':=⟨l _ _ W.l,fun i h=>l _ _ (W.c i h),W.q,W.ne⟩
noncomputable def ltQ (Q:Nat→Txt) (i j:Nat):Bool:=jX (Q i) (Q j)
noncomputable abbrev topE:E:= .sub (.var 59) (.neg (.lit (.int 1)))
noncomputable abbrev popQ:E:=(.and (.cmp .gt (.call (.lit (.cst (.builtin "len"))) [(.var 59)]) (.lit (.int 1))) (.not (.callM (.sub (.var 56) topE) 21 [(.sub (.var 56) (.var 57))] [])))
noncomputable abbrev popB:List S:= [(.expr (.callM (.var 59) 60 [] []))]
noncomputable abbrev popW:S:= .whil popQ popB
noncomputable abbrev aboveB:List S:= [popW,(.expr (.callM (.var 58) 34 [topE] [])),(.expr (.callM (.var 59) 34 [(.var 57)] []))]
section
variable {Q:Nat→Txt} {w A B k n m:Nat} {ws:Nat→Nat} {σ:H} {vars:Vars}
theorem ws_get (W:WG Q w ws σ) {i:Nat} (h:i < 6):wL Γ (.ref w) (.int (i:Int)) σ=some (.ref (ws i)):=
 Zg W.l (by rw [zA,yP h];rfl) (by rw [zf,zG];decide)
theorem za4 {l:List Nat} {x:Nat} (h:σ[B]? =some (.list (zx (l++ [x])))) (hl:l.length≤6) (g:vars.get 59=some (.ref B)) {cf:Cf} :ev Γ cf (n+3) topE vars σ=some (natV x,σ):=by
 rw [wu] at h
 exact yU (zl g) (Qd zO rfl) (WI h (by rw [yM];lia))
theorem pop_while (W:WG Q w ws σ) {p:List Nat} (hp: ∀x∈p,x < k) (hk:k < 6) (hl:p.length≤6) (h:σ[B]? =some (.list (zx (p++ [6]).reverse))) (hw: ∀i,i < 6→ws i≠B) (hwB:w≠B) (g56:vars.get 56=some (.ref w)) (g57:vars.get 57=some (natV k)) (g59:vars.get 59=some (.ref B)):
  ∃σ',ex Γ (cfX n) 60 (m+3) popW vars σ=some (.next,vars,σ')∧σ'[B]? =some (.list (zx (popR (ltQ Q) k (p++ [6])).reverse))∧σ'.length=σ.length∧ ∀i,i≠B→σ'[i]? =σ[i]? :=by
 refine k22 (QU (q:=popQ) (b:=popB) (Γ:=Γ) (cf:=cfX n) (fe:=60) (n:=m+2) (vars:=vars) (σ:=σ) (I:=fun j vs σ'=>vs=vars∧ ∃l:List Nat,l.length=j∧(∀x∈l,x < k)∧l.length≤6∧popR (ltQ Q) k (l++ [6])=popR (ltQ Q) k (p++ [6])∧σ'[B]? =some (.list (zx (l++ [6]).reverse))∧σ'.length=σ.length∧ ∀i,i≠B→σ'[i]? =σ[i]?)
  (D:=fun vs σ'=>vs=vars∧σ'[B]? =some (.list (zx (popR (ltQ Q) k (p++ [6])).reverse))∧σ'.length=σ.length∧ ∀i,i≠B→σ'[i]? =σ[i]?) ?_ (k:=p.length) ⟨rfl,p,rfl,hp,hl,rfl,h,rfl,fun ω ω=>rfl⟩ (by lia)) fun vs σ' e d=> ?_
 ·rintro j vs σ' ⟨rfl,l,rfl,hlk,hl6,hpop,hB,hlen,hoff⟩
  have W':WG Q w ws σ':=⟨(hoff w hwB).trans W.l,fun i hi=>(hoff _ (hw i hi)).trans (W.c i hi),W.q,W.ne⟩
  have eLen:ev Γ (cfX n) 59 (.call (.lit (.cst (.builtin "len"))) [(.var 59)]) vs σ'=some (.int ((zx (l++ [6]).reverse).length:Int),σ'):=XV (zl g59) hB
  have hn:(zx (l++ [6]).reverse).length=l.length+1:=by rw [yM,ZG,zd];rfl
  rw [hn] at eLen
  cases l with
  | nil=>
   refine ⟨false,σ',t_and (p:=false) (b:=false) (wj (xD eLen zO rfl)) (fun q=>tf q.symm) fun ω=>rfl,fun ω=>⟨rfl,by rw [←hpop];exact hB,hlen,hoff⟩,fun q=>tf q.symm⟩
  | cons x r=>
   have hxk:x < k:=hlk x (.head _)
   have hx6:x < 6:=we hxk hk
   have hrev:(x::r++ [6]).reverse=(r++ [6]).reverse++ [x]:=yF
   rw [hrev] at hB
   have hr6:((r++ [6]).reverse).length≤6:=by rw [ZG,zd];exact hl6
   have top:=za4 (n:=55) (cf:=cfX n) hB hr6 g59
   have m1:yA Γ (.ref (ws x)) 21 σ'=some (.fn 90 (.ref (ws x))):=meth_ok Γ σ' (W'.c x hx6) rfl rfl
   have eo:ev Γ (cfX n) 59 (.sub (.var 56) topE) vs σ'=some (.ref (ws x),σ'):=yU (zl g56) top (ws_get W' hx6)
   have ea:ev Γ (cfX n) 59 (.sub (.var 56) (.var 57)) vs σ'=some (.ref (ws k),σ'):=yU (zl g56) (zl g57) (ws_get W' hk)
   have eL:ev Γ (cfX n) 60 (.callM (.sub (.var 56) topE) 21 [(.sub (.var 56) (.var 57))] []) vs σ'=some (.bool (ltQ Q x k),σ'):=
    xz eo m1 (zZ ea) xA ((qz Γ (cfX n) σ' 90 _ _ _).trans (c_less (W.q x hx6) (W.q k hk) (W.ne x k hx6 hk (yi hxk)) (W'.c x hx6) (W'.c k hk)))
   have eT:evB (ev Γ (cfX n) 60) popQ vs σ'=some (true&& !(ltQ Q x k),σ'):=by
    refine t_and (p:=true) (wj (xD eLen zO ?_)) (fun ω=>t_not (JF ?_)) fun q=>tf q
    ·show some (decide ((1:Int) < ((x::r).length+1:Nat)))=some true
     rw [decide_eq_true (by rw [xg];push_cast;lia)]
    ·exact eL
   refine ⟨_,σ',eT,fun q=> ?_,fun q=> ?_⟩
   ·have hlt:ltQ Q x k=true:=by cases hh:ltQ Q x k with | true=>rfl | false=>rw [hh] at q;exact tf q
    refine ⟨rfl,?_,hlen,hoff⟩
    rw [←hpop]
    have:popR (ltQ Q) k (x::r++ [6])=x::r++ [6]:=by
     show (if (r++ [6]).isEmpty then [x] else if ltQ Q x k then x::(r++ [6]) else popR (ltQ Q) k (r++ [6]))=_
     rw [if_neg (by cases r <;>exact zQ),if_pos hlt];rfl
    rw [this,hrev];exact hB
   ·have hlt: ¬ltQ Q x k=true:=fun hh=>by rw [hh] at q;exact ft q
    have hp':popR (ltQ Q) k (x::r++ [6])=popR (ltQ Q) k (r++ [6]):=by
     show (if (r++ [6]).isEmpty then [x] else if ltQ Q x k then x::(r++ [6]) else popR (ltQ Q) k (r++ [6]))=_
     rw [if_neg (by cases r <;>exact zQ),if_neg hlt]
    rw [wu] at hB
    refine ⟨r.length,vs,σ'.set B (O.list (zx (r++ [6]).reverse)),yc _,zE (jf (o_pop g59 hB (by rw [yM];lia))) yV,rfl,r,rfl,fun y hy=>hlk y (.tail _ hy),jr hl6,hp'▸hpop,wW hB,by rw [ZD];exact hlen,fun i hi=>(xH (Ne.symm hi)).trans (hoff i hi)⟩
 ·obtain ⟨rfl,d⟩:=d
  exact ⟨σ',e,d⟩
theorem Wz (lt:Nat→Nat→Bool): ∀k,∃l,(upR lt k).1=l++ [6]∧(∀x∈l,x < k)∧l.length≤k∧(upR lt k).2.length=k
 | 0=>⟨[],rfl,fun ω h=>(nomatch h),zo _,rfl⟩
 | k+1=>by
  refine k14 (Wz lt k) fun l h1 h2 h3 h4=> ?_
  have hs: ∀l:List Nat,∃l',popR lt k (l++ [6])=l'++ [6]∧(∀x∈l',x∈l)∧l'.length≤l.length:=by
   intro l
   induction l with
   | nil=>exact ⟨[],rfl,fun ω h=>h,zo _⟩
   | cons x r ih=>
    have e:popR lt k (x::r++ [6])=if lt x k then x::(r++ [6]) else popR lt k (r++ [6]):=by
     show (if (r++ [6]).isEmpty then [x] else if lt x k then x::(r++ [6]) else popR lt k (r++ [6]))=_
     rw [if_neg (by cases r <;>exact zQ)]
    rw [e]
    by_cases hx:lt x k=true
    ·rw [if_pos hx];exact ⟨x::r,rfl,fun ω h=>h,zo _⟩
    ·rw [if_neg hx]
     exact k13 ih fun l' a b c=>⟨l',a,fun y hy=> .tail _ (b y hy),zdg c⟩
  refine k13 (hs l) fun l' a b c=>⟨k::l',?_,fun x hx=> ?_,xc (zm c h3),?_⟩
  ·show k::popR lt k (upR lt k).1=_
   rw [h1,a];rfl
  ·rcases zh.mp hx with rfl | hx
   ·exact yc _
   ·exact yg (h2 x (b x hx))
  ·show ((upR lt k).2++ [_]).length=_
   rw [zd,h4];rfl
structure AInv (Q:Nat→Txt) (w A B:Nat) (ws:Nat→Nat) (σ₀:H) (k:Nat) (vars:Vars) (σ:H):Prop where
 le:Le σ₀ σ
 a:σ[A]? =some (.list (zx (upR (ltQ Q) k).2))
 b:σ[B]? =some (.list (zx (upR (ltQ Q) k).1.reverse))
 g56:vars.get 56=some (.ref w)
 g58:vars.get 58=some (.ref A)
 g59:vars.get 59=some (.ref B)
theorem zdd {σ₀:H} (W:WG Q w ws σ₀) (hA:σ₀.length≤A) (hB:σ₀.length≤B) (hAB:A≠B) (hk:k < 6) (I:AInv Q w A B ws σ₀ k vars σ): ∃vars' σ',exs Γ (cfX n) 60 58 aboveB (vars.set 57 (natV k)) σ=some (.next,vars',σ')∧AInv Q w A B ws σ₀ (k+1) vars' σ':=by
 refine k14 (Wz (ltQ Q) k) fun l h1 h2 h3 h4=> ?_
 have old: ∀ {i:Nat} {o},σ₀[i]? =some o→i≠B∧i≠A:=fun h=>⟨yi (yX (zV h) hB),yi (yX (zV h) hA)⟩
 have b0:=I.b
 rw [h1] at b0
 refine k14 (pop_while (n:=n) (m:=54) (W.le I.le) h2 hk (by lia) b0 (fun i hi=>(old (W.c i hi)).1) (old W.l).1 (vars:=vars.set 57 (natV k)) (by exact gn rfl I.g56) (zL _ _ _) (by exact gn rfl I.g59)) fun σ₁ e b1 len off=> ?_
 have g58:(vars.set 57 (natV k)).get 58=some (.ref A):=by exact gn rfl I.g58
 have g59:(vars.set 57 (natV k)).get 59=some (.ref B):=by exact gn rfl I.g59
 have a1:σ₁[A]? =some (.list (zx (upR (ltQ Q) k).2)):=(off A hAB).trans I.a
 rw [←h1] at b1
 have hne:popR (ltQ Q) k (upR (ltQ Q) k).1≠ []:=by
  have:=(JD (ltQ Q) (k+1)).1
  refine fun q=> ?_
  have:=zcj (ltQ Q) k (JD (ltQ Q) k).2
  rw [q] at this
  have no: ∀l:List Nat,[] ∉ WE l:=fun l=>by
   induction l with
   | nil=>exact fun h=>nomatch h
   | cons x r ih=>exact fun h=>(zh.mp h).elim (fun q=>nomatch q) ih
  exact no _ this
 obtain ⟨x,p,hp⟩: ∃x p,popR (ltQ Q) k (upR (ltQ Q) k).1=x::p:=by
  cases hq:popR (ltQ Q) k (upR (ltQ Q) k).1 with
  | nil=>exact absurd hq hne
  | cons x p=>exact ⟨x,p,rfl⟩
 have hpl:p.length≤6:=by
  refine k14 (Wz (ltQ Q) (k+1)) fun l' a1 a2 a3 a4=> ?_
  have:(k::popR (ltQ Q) k (upR (ltQ Q) k).1).length=l'.length+1:=by
   rw [show k::popR (ltQ Q) k (upR (ltQ Q) k).1=l'++ [6] from a1,zd];rfl
  rw [hp] at this
  simp only [xg] at this
  lia
 have b2:=b1
 rw [hp,yF] at b2
 have a2:=Wl (o':=O.list (zx ((x::p).reverse)++ [natV k])) (Ne.symm hAB) (wW (o':=O.list (zx (upR (ltQ Q) k).2++ [natV x])) a1)
 have e1:ev Γ (cfX n) 60 (.callM (.var 58) 34 [topE] []) (vars.set 57 (natV k)) σ₁=_:=jg g58 a1 (za4 (n:=56) (cf:=cfX n) b2 (by rw [ZG];exact hpl) g59) a1 (by rw [yM];lia)
 have b3:(σ₁.set A (O.list (zx (upR (ltQ Q) k).2++ [natV x])))[B]? =some (.list (zx ((x::p).reverse))):=by
  rw [yF];exact Wl hAB b2
 have e2:ev Γ (cfX n) 60 (.callM (.var 59) 34 [(.var 57)] []) (vars.set 57 (natV k)) (σ₁.set A (O.list (zx (upR (ltQ Q) k).2++ [natV x])))=_:=jg g59 b3 (zl (zL _ _ _)) b3 (by rw [yM,ZG,xg];lia)
 refine ⟨_,_,zE e (zE (jf e1) (zE (jf e2) yV)),?_,?_,?_,by exact gn rfl I.g56,g58,g59⟩
 ·have l1:Le σ₀ σ₁:=fun i o h=>(off i (old h).1).trans (I.le i o h)
  exact (l1.set hA _).set hB _
 ·show _=some (O.list (zx ((upR (ltQ Q) k).2++ [(popR (ltQ Q) k (upR (ltQ Q) k).1).headD 6])))
  rw [hp,wu]
  exact a2
 ·show _=some (O.list (zx (k::popR (ltQ Q) k (upR (ltQ Q) k).1).reverse))
  have hr:zx (k::x::p).reverse=zx (x::p).reverse++ [natV k]:=by rw [yF (as:=x::p),wu];rfl
  rw [hp,hr]
  exact wW b3
theorem above_run (W:WG Q w ws σ): ∃r σ',cfX (n+1) 290 [.ref w] [] σ=some (.ref r,σ')∧σ'[r]? =some (.list (zx (xT (ltQ Q))))∧Le σ σ':=by
 have W1:WG Q w ws (σ++ [O.list []]):=W.le (.app _ _)
 have hl: ∀(vs:Vars) (τ:H),vs.get 56=some (.ref w)→WG Q w ws τ→ ∀m,ev Γ (cfX n) (m+2) (.call (.lit (.cst (.builtin "len"))) [(.var 56)]) vs τ=some (.int 6,τ):=fun vs τ g WW m=>(XV (zl g) WW.l).trans (by rw [zf,zG];rfl)
 let v0:Vars:= [(56,some (.ref w)),(58,some (.ref σ.length)),(59,some (.ref (σ++ [O.list []]).length))]
 let σ2:H:=σ++ [O.list []]++ [O.list [.int 6]]
 have l2:Le σ σ2:=(Le.app _ _).snoc _
 have W2:WG Q w ws σ2:=W.le l2
 have hAB:σ.length≠(σ++ [O.list []]).length:=by rw [zd];exact yi (yc _)
 refine k22 (qx (Γ:=Γ) (cf:=cfX n) (fe:=60) (n:=57) (t:= .name 57) (b:=aboveB) (vars:=v0) (σ:=σ2) (itr:=fun k=> .one (.vs ((yq 0 6).drop k))) (xs:=yq 0 6) (σb:=σ2) (Zl (lo:=0) (m:=6) (Xf (hl v0 σ2 rfl W2 57) rfl) (by decide) rfl rfl) rfl (by decide) (I:=AInv Q w σ.length (σ++ [O.list []]).length ws σ)
  ⟨l2,yf _ _ (zw σ _),zw _ _,rfl,rfl,rfl⟩ (fun k v vars σ hv ω=>vs_item hv) (fun ω ω ω=>vs_done) fun k v vars τ hv I=> ?_) fun vars' σ' e I=> ?_
 ·refine k02 (YJ hv) fun hk q=> ?_;subst q
  rw [show (0:Int)+(k:Int)=(k:Int) by lia]
  exact ⟨_,rfl,zdd W (zo _) (by rw [zd];exact xC _ _) hAB hk I⟩
 ·refine ⟨σ.length,σ',?_,I.a,I.le⟩
  rw [c_run (F:=qA) rfl rfl]
  show (match exs Γ (cfX n) 60 60 qA.body [(56,some (.ref w))] σ with
   | some (fl,_,σ)=>match fl with
    | .ret v=>some (v,σ)
    | .next=>some (.none,σ)
    | .brk=> .none
   | .none=> .none)=_
  have e0:exs Γ (cfX n) 60 60 qA.body [(56,some (.ref w))] σ=some (.ret (.ref σ.length),vars',σ'):=
   zE (qu (vars₁:=v0) (qv (ya (xm wo (zK _)) (zZ (xm (zZ (hl _ _ rfl W1 56)) (by decide:1≤1000000)))) (by decide:2≤1000000)) rfl) (zE e (wU (qJ (zl I.g58))))
  rw [e0]
end
noncomputable def insK (nd:List Nat) (x:Nat):List Nat→List Nat
 | []=> [x]
 | y::r=>if Nat.ble (nd.getD y 0) (nd.getD x 0) then x::y::r else y::insK nd x r
noncomputable def ye (f:List Nat) (i:Nat):List Nat:=(Jj f i).foldr (insK (yK f)) []
set_option genCtorIdx false in
inductive Pc where
 | num (r:Nat) (op:Bool) (i:Nat)
 | jn (r:Nat) (i:Nat)
noncomputable def yN (f:List Nat):Nat→Nat→Nat→List Pc
 | 0,_,_=> []
 | n+1,i,r=>match ye f i with
  | []=> [.num r false i]
  | k::ks=>yN f n k r++(ks.flatMap fun j=>yN f n j (r+1)++ [.jn r i])++ [.num r true i]
noncomputable def pcOk:Pc→Bool
 | .num r _ i=>Nat.ble r 5&&Nat.blt i 7
 | .jn r i=>Nat.ble r 4&&Nat.blt i 7
noncomputable def okC (f:List Nat):Nat→Nat→Nat→Bool
 | 0,_,_=>false
 | n+1,i,r=>Nat.ble (yN f (n+1) i r).length 100&&((yN f (n+1) i r).all pcOk&&(Nat.blt i 7&&(Nat.ble (ye f i).length 6&&(Nat.ble r 5&&(match ye f i with
  | []=>true
  | k::ks=>okC f n k r&&(ks.isEmpty || Nat.ble r 4)&&ks.all fun j=>okC f n j (r+1))))))
theorem okC_all:(F132.all fun f=>okC f 8 6 0)=true:=by kernel_rfl
noncomputable def pF (f:List Nat) (i:Nat) (v:V):Bool:=match v with
 | .int j=>Nat.beq (f.getD j.toNat 9) i
 | _=>false
noncomputable def gF (f:List Nat) (v:V):V:=match v with
 | .int j=> .tup [.int (-((yK f).getD j.toNat 0:Nat)),.int j]
 | _=> .none
noncomputable def YK (f:List Nat) (i:Nat):List V:=((yq 0 6).filter (pF f i)).map (gF f)
noncomputable def srtQ (xs:List V):Option (List V):=if Xw xs then (if Nat.blt xs.length 2 then some xs else match Xi xs.length (ltAt xs) (PySem.W.kas_sort xs.length) with
 | some p=>if Nat.ble p.size 64 then some (p.toList.map fun i=>xs.getD i .none) else .none
 | .none=> .none) else .none
theorem srtQ_sort {xs ys:List V} (h:srtQ xs=some ys) (hl:ys.length≤1000000) (σ:H):builtin (.builtin "sorted") [.ref σ.length] (σ++ [O.list xs])=some (.ref (σ++ [O.list xs]).length,σ++ [O.list xs]++ [O.list ys]):=by
 show ((yn (σ++ [O.list xs]) (.ref σ.length)).bind fun xs'=>if Xw xs' then Ja xs' (σ++ [O.list xs]) else .none)=_
 rw [yk _ (zw σ _),zF]
 unfold srtQ at h
 by_cases h1:Xw xs=true
 ·rw [if_pos h1] at h⊢
  unfold Ja
  by_cases h2:Nat.blt xs.length 2=true
  ·rw [if_pos h2] at h⊢
   cases za h
   exact jI _ hl
  ·rw [if_neg h2] at h⊢
   cases h3:Xi xs.length (ltAt xs) (PySem.W.kas_sort xs.length) with
   | none=>rw [h3] at h;exact ns h
   | some p=>
    rw [h3] at h
    dsimp only at h⊢
    by_cases h4:Nat.ble p.size 64=true
    ·rw [if_pos h4] at h⊢
     cases za h
     exact jI _ hl
    ·rw [if_neg h4] at h;exact ns h
 ·rw [if_neg h1] at h;exact ns h
noncomputable def srtT (L:List (List Nat)):Prop:=tabA (fun f=>tabA (fun i=>srtQ (YK f i)) (List.range 7)) L=L.map fun f=>tabA (fun i=>some ((ye f i).map fun (j:Nat)=>gF f (.int (j:Int)))) (List.range 7)
theorem srt_tab:srtT F132:=by unfold srtT;kernel_rfl
theorem srt_at {f:List Nat} (hf:f∈F132) {i:Nat} (hi:i < 7):srtQ (YK f i)=some ((ye f i).map fun (j:Nat)=>gF f (.int (j:Int))):=by
 have e0:=srt_tab
 unfold srtT at e0
 have e:=wq e0 f hf
 rw [YW,YW] at e
 exact zdh.mp e i (zI.mpr hi)
section
variable (sg dg:Nat→Nat)
noncomputable def pcT:Pc→Txt
 | .num r op i=> [97+r]++(if op then [sg i] else [])++ [61]++ [48+dg i]++ [59]
 | .jn r i=> [65+r]++ [sg i]++ [61]++ [97+(r+1)]++ [59,126]++ [65+(r+1)]++ [59]
noncomputable def xN (l:List Pc):Txt:=l.flatMap (pcT sg dg)
end
noncomputable def qM (le:Nat→Txt) (sg dg:Nat→Nat) (i:Nat):V:= .tup [.str (le i),.str [sg i],.int (dg i:Int)]
structure PG (le:Nat→Txt) (sg dg:Nat→Nat) (p:Nat) (σ:H):Prop where
 l:σ[p]? =some (.list ((List.range 7).map (qM le sg dg)))
 s: ∀i,sg i < 128
 d: ∀i,dg i≤9
theorem PG.le {le:Nat→Txt} {sg dg:Nat→Nat} {p:Nat} {σ σ':H} (P:PG le sg dg p σ) (l:Le σ σ'):PG le sg dg p σ':=⟨l _ _ P.l,P.s,P.d⟩
section
variable {le:Nat→Txt} {sg dg:Nat→Nat} {p a d i r n m:Nat} {σ σ₁ σ₂:H} {vars:Vars} {f:List Nat} {cf:Cf}
theorem WY (P:PG le sg dg p σ) (h:i < 7):wL Γ (.ref p) (.int (i:Int)) σ=some (qM le sg dg i):=
 Zg P.l (by rw [zA,yP h];rfl) (by rw [zf,zG];decide)
theorem ji {l:List Nat} (h:σ[a]? =some (.list (zx l))) {k x:Nat} (hk:l[k]? =some x) (hl:l.length≤1000000):wL Γ (.ref a) (.int (k:Int)) σ=some (natV x):=
 Zg h (by rw [Yi,hk];rfl) (by rw [yM];exact hl)
theorem F_len: ∀f∈F132,f.length=6∧(yK f).length=7:=by decide+kernel
theorem jx {x y:E} {s t:Txt} (hx:ev Γ cf n x vars σ=some (.str s,σ₁)) (hy:ev Γ cf n y vars σ₁=some (.str t,σ₂)) (hl:(s++t).length≤1000000):ev Γ cf (n+1) (.bin .add x y) vars σ=some (.str (s++t),σ₂):=
 qK hx hy ((bin_adds σ₂ s t).trans (mkS_ok σ₂ hl))
theorem Wj {s:Txt} {a c:Nat} {σ:H} (h:s[a]? =some c) (hl:s.length≤1000000):wL Γ (.str s) (.int (a:Int)) σ=some (.str [c]):=by
 show (idx s.length (a:Int)).bind (fun j=>(s[j]?).map fun c=>V.str [c])=_
 rw [Yl (zV h) (zcC hl),zF,h];rfl
noncomputable def abL:Txt:= [97,98,99,100,101,102]
noncomputable def abU:Txt:= [65,66,67,68,69,70]
theorem zde: ∀r < 6,abL[r]? =some (97+r)∧abU[r]? =some (65+r)∧Nat.blt (97+r) 128=true∧upC (97+r)=65+r:=by decide+kernel
theorem dig_tab: ∀x:Nat,x < 10→fit (x:Int)=true∧yR (x:Int)= [48+x]:=by decide+kernel
theorem low_reg (h:r≤5):wL Γ (.str [97,98,99,100,101,102]) (.int (r:Int)) σ=some (.str [97+r]):=Wj (s:=abL) (zde r (jq h)).1 (by decide:6≤1000000)
theorem up_reg (h:r≤5):wL Γ (.str [65,66,67,68,69,70]) (.int (r:Int)) σ=some (.str [65+r]):=Wj (s:=abU) (zde r (jq h)).2.1 (by decide:6≤1000000)
theorem upper_reg (h:r≤5):xS Γ cf (.str [97+r] [117,112,112,101,114]) [] [] σ=some (.str [65+r],σ):=by
 show (if ((Nat.blt (97+r) 128&&true)&&szOk 1)=true then some (V.str [upC (97+r)],σ) else .none)=_
 have t:=(zde r (jq h)).2.2
 rw [t.1,t.2];rfl
theorem b_strI {i:Int} {σ:H} (h:fit i=true):builtin (.type "str") [.int i] σ=some (.str (yR i),σ):=by
 have e:builtin (.type "str") [.int i] σ=if fit i=true then some (V.str (yR i),σ) else .none:=rfl
 rw [e,h];rfl
theorem str_dig {x:Nat} (h:x≤9):builtin (.type "str") [.int (x:Int)] σ=some (.str [48+x],σ):=by
 have t:=dig_tab x (jq h)
 rw [b_strI t.1,t.2]
noncomputable abbrev kidsE:E:=(.comp (.tup [(.neg (.sub (.var 61) (.var 63))),(.var 63)]) [(.mk (.name 63) (.plain (.call (.lit (.cst (.type "range"))) [(.call (.lit (.cst (.builtin "len"))) [(.var 58)])])) [(.cmp .eq (.sub (.var 58) (.var 63)) (.var 57))])] [63])
theorem ev_kids (hf:f∈F132) (ha:σ[a]? =some (.list (zx f))) (hd:σ[d]? =some (.list (zx (yK f)))) (g58:vars.get 58=some (.ref a)) (g61:vars.get 61=some (.ref d)) (g57:vars.get 57=some (natV i)):
  ∃σ',ev Γ cf (n+5) kidsE vars σ=some (.ref σ'.length,σ'++ [.list (YK f i)])∧Le σ σ':=by
 refine k02 (F_len f hf) fun l1 l2=> ?_
 have eLen:ev Γ cf (n+3) (.call (.lit (.cst (.builtin "len"))) [(.var 58)]) vars σ=some (.int 6,σ):=(XV (zl g58) ha).trans (by rw [yM,l1];rfl)
 refine wd (itr:=fun k=> .one (.vs ((yq 0 6).drop k))) (xs:=yq 0 6) (Zl (lo:=0) (m:=6) (Xf eLen rfl) (by decide) rfl rfl) rfl (by decide) (xI _) (fun vs=>vs.get 58=some (.ref a)∧vs.get 61=some (.ref d)∧vs.get 57=some (natV i)) (fun v vs=>vs.set 63 v) (pF f i) (gF f) (fun ω ω ω ω=>rfl)
  (fun v ω vs h=>⟨by exact gn rfl h.1,by exact gn rfl h.2.1,by exact gn rfl h.2.2⟩) ⟨g58,g61,g57⟩ fun v hv vs τ l h=> ?_
 refine k11 (xh hv) fun j hj=> ?_
 refine k02 (YJ hj) fun hj6 q=> ?_;subst q
 rw [show (0:Int)+(j:Int)=(j:Int) by lia]
 have hx:f[j]? =some (f.getD j 9):=by rw [zk,zj (by lia)];rfl
 have hy:(yK f)[j]? =some ((yK f).getD j 0):=by rw [zk,zj (by lia)];rfl
 have s58:(vs.set 63 (.int (j:Int))).get 58=some (.ref a):=by exact gn rfl h.1
 have s61:(vs.set 63 (.int (j:Int))).get 61=some (.ref d):=by exact gn rfl h.2.1
 have s57:(vs.set 63 (.int (j:Int))).get 57=some (natV i):=by exact gn rfl h.2.2
 have ec:wG Γ .eq (natV (f.getD j 9)) (natV i) τ=some (Nat.beq (f.getD j 9) i):=by
  show some (((f.getD j 9:Nat):Int)==(i:Int))=_
  rw [show (((f.getD j 9:Nat):Int)==(i:Int))=Nat.beq (f.getD j 9) i by rw [wM];simp;lia]
 refine ⟨τ,qS (wj (xD (yU (zl s58) (zl (zL _ _ _)) (ji (l _ _ ha) hx (by lia))) (zl s57) ec)),.refl _,fun ω=>⟨τ,?_,.refl _⟩⟩
 have hn:(yK f).getD j 0≤100:=by
  have:(F132.all fun f=>(List.range 7).all fun j=>Nat.ble ((yK f).getD j 0) 100)=true:=by kernel_rfl
  exact zg (zq.mp (zq.mp this f hf) j (zI.mpr (by lia)))
 exact qv (ya (Qd (yU (zl s61) (zl (zL _ _ _)) (ji (l _ _ hd) hy (by lia))) (show fit (-(((yK f).getD j 0:Nat):Int))=true from wt (by lia) (by lia))) (zZ (zl (zL _ _ _)))) (by decide:2≤1000000)
end
noncomputable abbrev srtE:E:= .call (.lit (.cst (.builtin "sorted"))) [kidsE]
noncomputable abbrev regUp:E:= .bin .add (.var 64) (.lit (.int 1))
noncomputable abbrev callC (e:E):E:= .call (.lit (.cst (.ref 300))) [.var 51,.var 58,.var 61,.var 68,e]
noncomputable abbrev jnE:E:= .bin .add (.bin .add (.bin .add (.bin .add (.bin .add (.bin .add (.bin .add (.bin .add (.var 65) (callC regUp)) (.callM (.var 28) 69 [] [])) (.var 66)) (.lit (.str [61]))) (.sub (.lit (.str [97,98,99,100,101,102])) regUp)) (.lit (.str [59,126]))) (.sub (.lit (.str [65,66,67,68,69,70])) regUp)) (.lit (.str [59]))
noncomputable abbrev codeB:List S:= [.ite (.cmp .eq (.var 65) (.lit (.str []))) [.unpack [.name 65,.name 66] (.tup [callC (.var 64),.sub (.sub (.var 51) (.var 57)) (.lit (.int 1))])] [.names [65] jnE]]
theorem code_body:Zv.body= [.unpack [.name 28,.name 65,.name 66] (.tup [.sub (.lit (.str [97,98,99,100,101,102])) (.var 64),.lit (.str []),.lit (.str [])]),.for_ (.tup [.name 67,.name 68]) (.plain srtE) codeB,
  .ret (some (.bin .add (.bin .add (.bin .add (.bin .add (.bin .add (.var 65) (.var 28)) (.var 66)) (.lit (.str [61]))) (.call (.lit (.cst (.type "str"))) [.sub (.sub (.var 51) (.var 57)) (.lit (.int 2))])) (.lit (.str [59]))))]:=rfl
noncomputable def wF (f:List Nat) (n i r:Nat):List Nat→List Pc
 | []=> []
 | k::ks=>yN f n k r++ks.flatMap fun j=>yN f n j (r+1)++ [.jn r i]
theorem WT (f:List Nat) (n i r:Nat) {pre:List Nat} (h:pre≠ []) (j:Nat):wF f n i r (pre++ [j])=wF f n i r pre++(yN f n j (r+1)++ [.jn r i]):=by
 cases pre with
 | nil=>exact absurd rfl h
 | cons k ks=>
  show yN f n k r++(ks++ [j]).flatMap _=yN f n k r++ks.flatMap _++_
  rw [List.flatMap_append,zW]
  simp
theorem Zo (f:List Nat) (n i r:Nat):yN f (n+1) i r=wF f n i r (ye f i)++ [.num r (!(ye f i).isEmpty) i]:=by
 show (match ye f i with
  | []=> [Pc.num r false i]
  | k::ks=>yN f n k r++(ks.flatMap fun j=>yN f n j (r+1)++ [Pc.jn r i])++ [Pc.num r true i])=_
 cases ye f i <;>rfl
section
variable {le:Nat→Txt} {sg dg:Nat→Nat}
theorem Yf (l m:List Pc):xN sg dg (l++m)=xN sg dg l++xN sg dg m:=List.flatMap_append
theorem Xt (x:Pc):xN sg dg [x]=pcT sg dg x:=by unfold xN;simp
theorem pcT_len (x:Pc):4≤(pcT sg dg x).length∧(pcT sg dg x).length≤8:=by
 cases x with
 | num r op i=>cases op <;>simp [pcT]
 | jn r i=>simp [pcT]
theorem jS (l:List Pc):l.length≤(xN sg dg l).length∧(xN sg dg l).length≤8*l.length:=by
 induction l with
 | nil=>exact ⟨zo _,zo _⟩
 | cons x l ih=>
  have h:=pcT_len (sg:=sg) (dg:=dg) x
  have e:(xN sg dg (x::l)).length=(pcT sg dg x).length+(xN sg dg l).length:=by
   show (List.flatMap _ (x::l)).length=_
   rw [yQ,zd];rfl
  rw [e,xg]
  exact ⟨Wh 1 _▸Yy (zm (by decide:1≤4) h.1) ih.1,by rw [Nat.mul_succ,Wh];exact Yy ih.2 h.2⟩
theorem okS_of {s:Txt} (h: ∀x∈s,x < 1114112):okS s=true:=zq.mpr fun x hx=>zT (h x hx)
theorem pcT_ok (hs: ∀i,sg i < 128) (hd: ∀i,dg i≤9) {x:Pc} (h:pcOk x=true): ∀c∈pcT sg dg x,c < 128:=by
 cases x with
 | num r op i=>
  have hr:=zg (zu.mp h).1
  have:=hs i
  have:=hd i
  cases op <;>(simp [pcT];lia)
 | jn r i=>
  have hr:=zg (zu.mp h).1
  have:=hs i
  simp [pcT];lia
theorem zaI (hs: ∀i,sg i < 128) (hd: ∀i,dg i≤9) {l:List Pc} (h:l.all pcOk=true): ∀c∈xN sg dg l,c < 128:=fun c hc=>by
 refine k12 (XP.mp hc) fun x hx hc=> ?_
 exact pcT_ok hs hd (zq.mp h x hx) c hc
end
theorem Xe {f:List Nat} {n i r:Nat} (h:okC f (n+1) i r=true):(yN f (n+1) i r).length≤100∧(yN f (n+1) i r).all pcOk=true∧i < 7∧(ye f i).length≤6∧r≤5∧ ∀(k j:Nat),(ye f i)[k]? =some j→(k=0→okC f n j r=true)∧(k≠0→r≤4∧okC f n j (r+1)=true):=by
 refine k02 (zu.mp h) fun h1 h=> ?_
 refine k02 (zu.mp h) fun h2 h=> ?_
 refine k02 (zu.mp h) fun h3 h=> ?_
 refine k02 (zu.mp h) fun h4 h=> ?_
 refine k02 (zu.mp h) fun h5 h=> ?_
 refine ⟨zg h1,h2,zg h3,zg h4,zg h5,?_⟩
 intro k j hk
 cases hq:ye f i with
 | nil=>rw [hq] at hk;exact ns hk
 | cons x ks=>
  rw [hq] at h hk
  refine k02 (zu.mp h) fun h6 h7=> ?_
  refine k02 (zu.mp h6) fun h6 h8=> ?_
  cases k with
  | zero=>cases za hk;exact ⟨fun ω=>h6,fun q=>absurd rfl q⟩
  | succ k=>
   have hm:j∈ks:=zM (show ks[k]? =some j from hk)
   refine ⟨fun q=>absurd q (yZ _),fun ω=>⟨?_,zq.mp h7 j hm⟩⟩
   cases ks with
   | nil=>exact nomatch hm
   | cons _ _=>exact zg h8
theorem za2 {f:List Nat} {n i r:Nat} (h:okC f (n+1) i r=true) (k:Nat):(wF f n i r ((ye f i).take k)).length≤101*6∧(wF f n i r ((ye f i).take k)).all pcOk=true:=by
 refine k02 (Xe h) fun ω h=> ?_
 refine k02 h fun ω h=> ?_
 refine k02 h fun hi h=> ?_
 refine k02 h fun hl h=> ?_
 refine k02 h fun hr h=> ?_
 have sub: ∀ {m:Nat} {j rr:Nat},okC f m j rr=true→(yN f m j rr).length≤100∧(yN f m j rr).all pcOk=true:=fun {m j rr} q=>by
  cases m with
  | zero=>exact ft q
  | succ m=>exact ⟨(Xe q).1,(Xe q).2.1⟩
 have go: ∀m,m≤(ye f i).length→(wF f n i r ((ye f i).take m)).length≤101*m∧(wF f n i r ((ye f i).take m)).all pcOk=true:=by
  intro m
  induction m with
  | zero=>exact fun ω=>⟨zo _,rfl⟩
  | succ m ih=>
   intro hm
   have hg:(ye f i)[m]? =some (ye f i)[m]:=zj hm
   have tk:(ye f i).take (m+1)=(ye f i).take m++ [(ye f i)[m]]:=by rw [wf,hg];rfl
   refine k02 (ih (jr hm)) fun a b=> ?_
   cases m with
   | zero=>
    have c:=sub ((h 0 _ hg).1 rfl)
    have e:wF f n i r ((ye f i).take 1)=yN f n (ye f i)[0] r:=by
     rw [tk]
     show yN f n _ r++ []=_
     rw [ym]
    rw [e]
    exact ⟨by lia,c.2⟩
   | succ m=>
    have c:=(h (m+1) _ hg).2 (yZ _)
    have c2:=sub c.2
    have hne:(ye f i).take (m+1)≠ []:=by
     cases hq:ye f i with
     | nil=>rw [hq] at hm;exact absurd hm (Nat.not_succ_le_zero _)
     | cons x ks=>exact nofun
    rw [tk,WT f n i r hne]
    refine ⟨?_,?_⟩
    ·rw [zd,zd]
     show _+(_+1)≤_
     lia
    ·rw [Wu,b,Wu,c2.2]
     show (Nat.ble r 4&&Nat.blt i 7&&true)=true
     rw [zT c.1,show Nat.blt i 7=true from zT hi];rfl
 by_cases hk:k≤(ye f i).length
 ·exact ⟨zm (go k hk).1 (zaw 101 (zm hk hl)),(go k hk).2⟩
 ·rw [js (Nat.le_of_not_le hk)]
  have:=go _ (zo (ye f i).length)
  rw [xU] at this
  exact ⟨zm this.1 (zaw 101 hl),this.2⟩
theorem Wp {x y:Txt} {σ:H} {b:Bool} (hx:okS x=true) (hy:okS y=true) (h:yW x y=b):wG Γ .eq (.str x) (.str y) σ=some b:=by
 rw [←h];exact eq_str σ hx hy
noncomputable def qj (cf:Cf) (le:Nat→Txt) (sg dg:Nat→Nat) (f:List Nat) (m:Nat):Prop:= ∀ {p a d j rr:Nat} {σ:H},okC f m j rr=true→PG le sg dg p σ→σ[a]? =some (.list (zx f))→σ[d]? =some (.list (zx (yK f)))→
 ∃σ',cf 300 [.ref p,.ref a,.ref d,natV j,natV rr] [] σ=some (.str (xN sg dg (yN f m j rr)),σ')∧Le σ σ'
structure CInv (le:Nat→Txt) (sg dg:Nat→Nat) (f:List Nat) (m i r p a d:Nat) (σ₀:H) (k:Nat) (vars:Vars) (σ:H):Prop where
 le:Le σ₀ σ
 g51:vars.get 51=some (.ref p)
 g58:vars.get 58=some (.ref a)
 g61:vars.get 61=some (.ref d)
 g57:vars.get 57=some (natV i)
 g64:vars.get 64=some (natV r)
 g28:vars.get 28=some (.str [97+r])
 g65:vars.get 65=some (.str (xN sg dg (wF f m i r ((ye f i).take k))))
 g66:vars.get 66=some (.str (if k=0 then [] else [sg i]))
section
variable {cf:Cf} {le:Nat→Txt} {sg dg:Nat→Nat} {f:List Nat} {m i r p a d k n:Nat} {σ₀ σ σ₁:H} {vars:Vars}
theorem JR (hr:r≤5) (g:vars.get 64=some (natV r)):ev Γ cf (n+2) regUp vars σ=some (natV (r+1),σ):=
 qK (zl g) zO ((Ys σ (r:Int) 1).trans (by rw [qD (wt (by lia) (by lia))];rfl))
theorem o_sg (P:PG le sg dg p σ) (hi:i < 7) (g51:vars.get 51=some (.ref p)) (g57:vars.get 57=some (natV i)):ev Γ cf (n+3) (.sub (.sub (.var 51) (.var 57)) (.lit (.int 1))) vars σ=some (.str [sg i],σ):=
 yU (yU (zl g51) (zl g57) (WY P hi)) zO rfl
theorem o_code {e:E} {j rr:Nat} (C:qj cf le sg dg f m) (hok:okC f m j rr=true) (P:PG le sg dg p σ) (ha:σ[a]? =some (.list (zx f))) (hd:σ[d]? =some (.list (zx (yK f)))) (g51:vars.get 51=some (.ref p)) (g58:vars.get 58=some (.ref a)) (g61:vars.get 61=some (.ref d)) (g68:vars.get 68=some (natV j)) (he:ev Γ cf (n+1) e vars σ=some (natV rr,σ)):
  ∃σ',ev Γ cf (n+1+1) (callC e) vars σ=some (.str (xN sg dg (yN f m j rr)),σ')∧Le σ σ':=by
 refine k12 (C hok P ha hd) fun σ' e1 l=>⟨σ',o_fn (ya (zl g51) (ya (zl g58) (ya (zl g61) (ya (zl g68) (zZ he))))) ?_,l⟩
 exact e1
theorem code_turn (C:qj cf le sg dg f m) (hok:okC f (m+1) i r=true) (P:PG le sg dg p σ₀) (ha:σ₀[a]? =some (.list (zx f))) (hd:σ₀[d]? =some (.list (zx (yK f)))) {j:Nat} (hj:(ye f i)[k]? =some j) (I:CInv le sg dg f m i r p a d σ₀ k vars σ) {w:V} :
  ∃vars' σ',exs Γ cf 60 57 codeB ((vars.set 67 w).set 68 (natV j)) σ=some (.next,vars',σ')∧CInv le sg dg f m i r p a d σ₀ (k+1) vars' σ':=by
 obtain ⟨c1,c2,hi,hl6,hr5,hk⟩:=Xe hok
 have P':=P.le I.le
 have ha':=I.le _ _ ha
 have hd':=I.le _ _ hd
 generalize hv:(vars.set 67 w).set 68 (natV j)=vs
 have up: ∀ {x:Nat} {u:V},(x==67)=false→(x==68)=false→vars.get x=some u→vs.get x=some u:=fun h1 h2 h=>by
  rw [←hv,yb (by rw [zaz];exact h2),yb (by rw [zaz];exact h1)];exact h
 have g51:=up rfl rfl I.g51
 have g58:=up rfl rfl I.g58
 have g61:=up rfl rfl I.g61
 have g57:=up rfl rfl I.g57
 have g64:=up rfl rfl I.g64
 have g28:=up rfl rfl I.g28
 have g65:=up rfl rfl I.g65
 have g66:=up rfl rfl I.g66
 have g68:vs.get 68=some (natV j):=by rw [←hv];exact zL _ _ _
 have tk:(ye f i).take (k+1)=(ye f i).take k++ [j]:=by rw [wf,hj];rfl
 have pk:=za2 hok k
 have tok:okS (xN sg dg (wF f m i r ((ye f i).take k)))=true:=okS_of fun c hc=>we (zaI P.s P.d pk.2 c hc) (by decide)
 have tlen:=(jS (sg:=sg) (dg:=dg) (wF f m i r ((ye f i).take k))).2
 cases k with
 | zero=>
  have h0:=(hk 0 j hj).1 rfl
  refine k12 (o_code (n:=57) (vars:=vs) C h0 P' ha' hd' g51 g58 g61 g68 (zl g64)) fun σ' e1 l1=> ?_
  have et:evB (ev Γ cf 60) (.cmp .eq (.var 65) (.lit (.str []))) vs σ=some (true,σ):=wj (xD (zl g65) zO (Wp (x:=xN sg dg (wF f m i r ((ye f i).take 0))) (y:= []) tok rfl rfl))
  have e2:ev Γ cf 60 (.tup [callC (.var 64),.sub (.sub (.var 51) (.var 57)) (.lit (.int 1))]) vs σ=some (.tup [.str (xN sg dg (yN f m j r)),.str [sg i]],σ'):=qv (ya e1 (zZ (o_sg (P'.le l1) hi g51 g57))) (by decide:2≤1000000)
  refine ⟨_,σ',zE (jd et (zE (qu (vars₁:=(vs.set 65 (.str (xN sg dg (yN f m j r)))).set 66 (.str [sg i])) e2 rfl) yV)) yV,I.le.trans l1,?_,?_,?_,?_,?_,?_,?_,?_⟩
  ·exact gn rfl (gn rfl g51)
  ·exact gn rfl (gn rfl g58)
  ·exact gn rfl (gn rfl g61)
  ·exact gn rfl (gn rfl g57)
  ·exact gn rfl (gn rfl g64)
  ·exact gn rfl (gn rfl g28)
  ·rw [yb rfl,zL,tk]
   show _=some (V.str (xN sg dg (yN f m j r++ [])))
   rw [ym]
  ·exact zL _ _ _
 | succ k=>
  have h0:=(hk (k+1) j hj).2 (yZ _)
  have hne:(ye f i).take (k+1)≠ []:=by
   cases hq:ye f i with
   | nil=>rw [hq] at hj;exact ns hj
   | cons x ks=>exact nofun
  have tne: ∃x t,xN sg dg (wF f m i r ((ye f i).take (k+1)))=x::t:=by
   cases hq:xN sg dg (wF f m i r ((ye f i).take (k+1))) with
   | cons x t=>exact ⟨x,t,rfl⟩
   | nil=>
    have h1:=(jS (sg:=sg) (dg:=dg) (wF f m i r ((ye f i).take (k+1)))).1
    rw [hq] at h1
    have h2:wF f m i r ((ye f i).take (k+1))= []:=yG.mp (Nat.le_zero.mp h1)
    cases hq2:ye f i with
    | nil=>rw [hq2] at hj;exact ns hj
    | cons y ks=>
     rw [hq2] at h2
     have h3:=(hk 0 y (by rw [hq2];rfl)).1 rfl
     cases m with
     | zero=>exact ft h3
     | succ m=>
      have h4:yN f (m+1) y r= []:=(ju.mp h2).1
      rw [Zo] at h4
      exact absurd (ju.mp h4).2 nofun
  refine k12 (o_code (n:=50) (vars:=vs) C h0.2 P' ha' hd' g51 g58 g61 g68 (JR (n:=49) hr5 g64)) fun σ' e1 l1=> ?_
  have et:evB (ev Γ cf 60) (.cmp .eq (.var 65) (.lit (.str []))) vs σ=some (false,σ):=by
   obtain ⟨x,t,q⟩:=tne
   exact wj (xD (zl g65) zO (Wp (x:=xN sg dg (wF f m i r ((ye f i).take (k+1)))) (y:= []) tok rfl (by rw [q];rfl)))
  have clen:(xN sg dg (yN f m j (r+1))).length≤800:=by
   have hm:=h0.2
   cases m with
   | zero=>exact ft hm
   | succ m=>exact zm (jS _).2 (zaw 8 (Xe hm).1)
  have cc: ∀ {s t:Txt} {N M:Nat},s.length≤N→t.length≤M→(s++t).length≤N+M:=fun h1 h2=>by rw [zd];exact Yy h1 h2
  have n0:(xN sg dg (wF f m i r ((ye f i).take (k+1)))).length≤4848:=by lia
  have one: ∀x:Nat,[x].length≤10:=fun x=>show 1≤10 by decide
  have two: ∀x y:Nat,[x,y].length≤10:=fun x y=>show 2≤10 by decide
  have n1:=cc n0 clen
  have n2:=cc n1 (one (65+r))
  have n3:=cc n2 (one (sg i))
  have n4:=cc n3 (one 61)
  have n5:=cc n4 (one (97+(r+1)))
  have n6:=cc n5 (two 59 126)
  have n7:=cc n6 (one (65+(r+1)))
  have n8:=cc n7 (one 59)
  have big: ∀ {N:Nat},N≤10000→N≤1000000:=fun h=>zm h (by decide)
  have hr1:r+1≤5:=xc h0.1
  have a1:=jx (n:=52) (zl g65) e1 (big (zm n1 (by decide)))
  have m1:yA Γ (.str [97+r]) 69 σ'=some (.str [97+r] [117,112,112,101,114]):=rfl
  have a2:=jx (n:=53) a1 (xz (zl g28) m1 wo xA (upper_reg hr5)) (big (zm n2 (by decide)))
  have a3:=jx (n:=54) a2 (zl g66) (big (zm n3 (by decide)))
  have a4:=jx (n:=55) a3 zO (big (zm n4 (by decide)))
  have a5:=jx (n:=56) a4 (yU zO (JR hr5 g64) (low_reg hr1)) (big (zm n5 (by decide)))
  have a6:=jx (n:=57) a5 zO (big (zm n6 (by decide)))
  have a7:=jx (n:=58) a6 (yU zO (JR hr5 g64) (up_reg hr1)) (big (zm n7 (by decide)))
  have a8:=jx (n:=59) a7 zO (big (zm n8 (by decide)))
  refine ⟨_,σ',zE (je et (zE (xy a8) yV)) yV,I.le.trans l1,?_,?_,?_,?_,?_,?_,?_,?_⟩
  ·exact gn rfl g51
  ·exact gn rfl g58
  ·exact gn rfl g61
  ·exact gn rfl g57
  ·exact gn rfl g64
  ·exact gn rfl g28
  ·rw [zL,tk,WT f m i r hne,Yf,Yf,Xt]
   simp [pcT]
  ·exact gn rfl g66
end
theorem jD {f:Addr} {F:Fn} {n:Nat} {as:List V} {vars vars':Vars} {σ σ':H} {v:V} (h:spec f as σ=none) (hF:Γ.fns.lookup f=some F) (hb:Zp Γ F as []=some vars) (he:exs Γ (cfX n) 60 60 F.body vars σ=some (.ret v,vars',σ')):cfX (n+1) f as [] σ=some (v,σ'):=by
 rw [c_run h hF]
 unfold qR
 rw [hb];dsimp only;rw [he]
theorem zal {f:Addr} {F:Fn} {n:Nat} {as:List V} {vars vars':Vars} {σ σ':H} (h:spec f as σ=none) (hF:Γ.fns.lookup f=some F) (hb:Zp Γ F as []=some vars) (he:exs Γ (cfX n) 60 60 F.body vars σ=some (.next,vars',σ')):cfX (n+1) f as [] σ=some (.none,σ'):=by
 rw [c_run h hF]
 unfold qR
 rw [hb];dsimp only;rw [he]
theorem code_step {k m:Nat} {le:Nat→Txt} {sg dg:Nat→Nat} {f:List Nat} (hf:f∈F132) (C:qj (cfX k) le sg dg f m):qj (cfX (k+1)) le sg dg f (m+1):=by
 intro p a d i r σ hok P ha hd
 obtain ⟨c1,c2,hi,hl6,hr5,hk⟩:=Xe hok
 let v0:Vars:= [(51,some (.ref p)),(58,some (.ref a)),(61,some (.ref d)),(57,some (natV i)),(64,some (natV r)),(28,some (.str [97+r])),(65,some (.str [])),(66,some (.str []))]
 have e1:ex Γ (cfX k) 60 59 (.unpack [.name 28,.name 65,.name 66] (.tup [.sub (.lit (.str [97,98,99,100,101,102])) (.var 64),.lit (.str []),.lit (.str [])])) [(51,some (.ref p)),(58,some (.ref a)),(61,some (.ref d)),(57,some (natV i)),(64,some (natV r))] σ=some (.next,v0,σ):=
  qu (qv (ya (yU zO (zl rfl) (low_reg hr5)) (ya zO (zZ zO))) (by decide:3≤1000000)) rfl
 refine k12 (ev_kids (n:=54) (cf:=cfX k) (vars:=v0) hf ha hd rfl rfl rfl) fun σ₁ e2 l1=> ?_
 let ks:List V:=(ye f i).map fun (j:Nat)=>gF f (.int (j:Int))
 have kl:ks.length=(ye f i).length:=zf ..
 let σb:H:=σ₁++ [O.list (YK f i)]++ [O.list ks]
 have e3:ev Γ (cfX k) 60 srtE v0 σ=some (.ref (σ₁++ [O.list (YK f i)]).length,σb):=
  o_fn (zZ e2) ((xM Γ _ _ "sorted" _).trans (srtQ_sort (srt_at hf hi) (by rw [zf];lia) σ₁))
 have lb:Le σ σb:=(l1.snoc _).snoc _
 have hb:σb[(σ₁++ [O.list (YK f i)]).length]? =some (O.list ks):=zw _ _
 refine k22 (qx (Γ:=Γ) (cf:=cfX k) (fe:=60) (n:=57) (t:= .tup [.name 67,.name 68]) (b:=codeB) (vars:=v0) (σ:=σ) (itr:=fun k=> .one (.ls (σ₁++ [O.list (YK f i)]).length k)) (xs:=ks) (σb:=σb) (jZ e3 hb) rfl (by lia) (I:=CInv le sg dg f m i r p a d σb)
  ⟨.refl _,rfl,rfl,rfl,rfl,rfl,rfl,rfl,rfl⟩ (fun k v vars σ hv I=>Yk (I.le _ _ hb) hv) (fun vars σ I=>Zk (I.le _ _ hb) (yj (zo _))) fun q v vars τ hv I=> ?_) fun vars' σ' e4 I=> ?_
 ·have hv':((ye f i)[q]?).map (fun (j:Nat)=>gF f (.int (j:Int)))=some v:=(zA ..).symm.trans hv
  refine k12 (zc.mp hv') fun j hj q=> ?_
  subst q
  exact ⟨_,rfl,code_turn C hok (P.le lb) (lb _ _ ha) (lb _ _ hd) hj I⟩
 ·have P':=P.le (lb.trans I.le)
  have h65:=I.g65
  have h66:=I.g66
  rw [kl,xU] at h65
  have hp:=za2 hok (ye f i).length
  rw [xU] at hp
  have tlen:=(jS (sg:=sg) (dg:=dg) (wF f m i r (ye f i))).2
  have hs: ∃s:Txt,s.length≤1∧(if ks.length=0 then ([]:Txt) else [sg i])=s∧s=if (!(ye f i).isEmpty)=true then [sg i] else []:=by
   rw [kl]
   cases ye f i with
   | nil=>exact ⟨[],zK _,rfl,rfl⟩
   | cons x l=>exact ⟨[sg i],zo _,rfl,rfl⟩
  obtain ⟨s,hs1,hs2,hs3⟩:=hs
  rw [hs2] at h66
  have cc: ∀ {s t:Txt} {N M:Nat},s.length≤N→t.length≤M→(s++t).length≤N+M:=fun h1 h2=>by rw [zd];exact Yy h1 h2
  have one: ∀x:Nat,[x].length≤10:=fun x=>show 1≤10 by decide
  have n0:(xN sg dg (wF f m i r (ye f i))).length≤4848:=by lia
  have n1:=cc n0 (one (97+r))
  have n2:=cc n1 hs1
  have n3:=cc n2 (one 61)
  have n4:=cc n3 (one (48+dg i))
  have n5:=cc n4 (one 59)
  have big: ∀ {N:Nat},N≤10000→N≤1000000:=fun h=>zm h (by decide)
  have a1:=jx (cf:=cfX k) (n:=55) (σ:=σ') (zl h65) (zl I.g28) (big (zm n1 (by decide)))
  have a2:=jx (n:=56) a1 (zl h66) (big (zm n2 (by decide)))
  have a3:=jx (n:=57) a2 zO (big (zm n3 (by decide)))
  have es:ev Γ (cfX k) 58 (.call (.lit (.cst (.type "str"))) [(.sub (.sub (.var 51) (.var 57)) (.lit (.int 2)))]) vars' σ'=some (.str [48+dg i],σ'):=
   o_fn (zZ (yU (yU (zl I.g51) (zl I.g57) (WY P' hi)) zO rfl)) ((qi Γ _ _ "str" _).trans (str_dig (P.d i)))
  have a4:=jx (n:=58) a3 es (big (zm n4 (by decide)))
  have a5:=jx (n:=59) a4 zO (big (zm n5 (by decide)))
  refine ⟨σ',?_,lb.trans I.le⟩
  have ee:=zE (n:=59) e1 (zE e4 (wU (ss:= []) (qJ a5)))
  rw [←code_body] at ee
  rw [jD (F:=Zv) rfl rfl rfl ee]
  refine congrArg (fun s=>some (V.str s,σ')) ?_
  rw [Zo,Yf,Xt]
  have hx:pcT sg dg (.num r (!(ye f i).isEmpty) i)= [97+r]++s++ [61]++ [48+dg i]++ [59]:=by rw [hs3];rfl
  rw [hx]
  simp only [zW]
theorem zbF {le:Nat→Txt} {sg dg:Nat→Nat} {f:List Nat} (hf:f∈F132): ∀ {k m:Nat},qj (cfX (k+m)) le sg dg f m
 | k,0=>fun hok ω ω ω=>ft hok
 | k,m+1=>code_step hf (zbF hf)
noncomputable def yw (l:List Int):List V:=l.map V.int
theorem Xj: ∀l:List Int,qF (yw l)=some l
 | []=>rfl
 | i::l=>congrArg (Option.map (fun ω=>i::ω)) (Xj l)
section
variable {cf:Cf} {n i j:Nat} {vars:Vars} {σ σ₁ σ₂:H} {x y:E} {xs ys:List V}
theorem ZP (hx:ev Γ cf n x vars σ=some (.ref i,σ₁)) (hy:ev Γ cf n y vars σ₁=some (.ref j,σ₂)) (hi:σ₂[i]? =some (.list xs)) (hj:σ₂[j]? =some (.list ys)) (hl:(xs++ys).length≤1000000):ev Γ cf (n+1) (.bin .add x y) vars σ=some (.ref σ₂.length,σ₂++ [.list (xs++ys)]):=by
 refine qK hx hy ?_
 show ((yn σ₂ (.ref i)).bind fun xs=>(yn σ₂ (.ref j)).bind fun ys=>mkL (xs++ys) σ₂)=_
 rw [yk _ hi,zF,yk _ hj,zF]
 exact jI _ hl
theorem o_max {a:Int} {l:List Int} (hx:ev Γ cf (n+1) x vars σ=some (.ref i,σ₁)) (hi:σ₁[i]? =some (.list (yw (a::l)))):ev Γ cf (n+1+1) (.call (.lit (.cst (.builtin "max"))) [x]) vars σ=some (.int (maxI a l),σ₁):=by
 refine o_fn (zZ hx) ((xM Γ cf σ₁ "max" _).trans ?_)
 show ((yn σ₁ (.ref i)).bind fun xs=>bMax xs σ₁)=_
 rw [yk _ hi,zF]
 unfold bMax
 rw [Xj];rfl
theorem o_min {a:Int} {l:List Int} (hx:ev Γ cf (n+1) x vars σ=some (.ref i,σ₁)) (hi:σ₁[i]? =some (.list (yw (a::l)))):ev Γ cf (n+1+1) (.call (.lit (.cst (.builtin "min"))) [x]) vars σ=some (.int (minI a l),σ₁):=by
 refine o_fn (zZ hx) ((xM Γ cf σ₁ "min" _).trans ?_)
 show ((yn σ₁ (.ref i)).bind fun xs=>bMin xs σ₁)=_
 rw [yk _ hi,zF]
 unfold bMin
 rw [Xj];rfl
theorem o_lens {s:Txt} (hx:ev Γ cf (n+1) x vars σ=some (.str s,σ₁)) (hl:s.length≤1000000):ev Γ cf (n+1+1) (.call (.lit (.cst (.builtin "len"))) [x]) vars σ=some (.int (s.length:Int),σ₁):=
 o_fn (zZ hx) ((xM Γ cf σ₁ "len" _).trans ((b_len_str σ₁ s).trans (if_pos (wV hl))))
end
theorem slice_ix {a b len:Nat} (hab:a≤b) (ha:a≤len):Builtin.Str.strSliceIndices (some (a:Int)) (some (b:Int)) 1 len=(List.range (min b len - a)).map (fun k=>a+k):=by
 have e:Builtin.Str.strSliceIndices (some (a:Int)) (some (b:Int)) 1 len=Builtin.Str.strSliceIndices (some (a:Int)) (some ((min b len:Nat):Int)) 1 len:=by
  unfold Builtin.Str.strSliceIndices
  have nn: ∀z:Nat,((z:Int) < 0)=False:=fun z=>eq_false (zbZ.mpr (xW z))
  simp only [nn,if_false,show ((1:Int)>0)=True from by simp,if_true]
  have:min (b:Int) (len:Int)=min ((min b len:Nat):Int) (len:Int):=by
   have hm:((min b len:Nat):Int)=min (b:Int) (len:Int):=by
    rcases Nat.le_total b len with h | h
    ·rw [Wr h,Int.min_eq_left (Int.ofNat_le.mpr h)]
    ·rw [Nat.min_eq_right h,Int.min_eq_right (Int.ofNat_le.mpr h)]
   rw [hm,Int.min_assoc,Int.min_self]
  rw [this]
 rw [e]
 exact StrLaws.strSliceIndices_plain (Nat.le_min.mpr ⟨hab,ha⟩) (qm _ _)
theorem txt_cut {s:Txt} {a k:Nat} (ha:a≤s.length):jc s (some (a:Int)) (some ((a+k:Nat):Int)) none=(s.drop a).take k:=by
 unfold jc
 have e:Builtin.Str.strSliceIndices (some (a:Int)) (some ((a+k:Nat):Int)) ((none:Option Int).getD 1) s.length=_:=slice_ix (xC a k) ha
 dsimp only
 rw [e]
 have tk:(s.drop a).take k=(s.drop a).take (min (a+k) s.length - a):=by
  by_cases hk:a+k≤s.length
  ·rw [Wr hk,qZ]
  ·have hk:=Nat.le_of_not_le hk
   have hd:(s.drop a).length=s.length - a:=XQ
   rw [Nat.min_eq_right hk,js (hd▸Nat.sub_le_iff_le_add'.mpr hk),js (hd▸zo _)]
 rw [tk]
 by_cases h:(((none:Option Int).getD 1==1&&((List.range (min (a+k) s.length - a)).map (fun k=>a+k)).length==s.length)=true)
 ·rw [if_pos h]
  have h2:=(zu.mp h).2
  rw [beq_iff_eq,zf,zG] at h2
  have h3:a=0∨s.length=0:=(Nat.eq_zero_or_pos a).imp_right fun h0=>(Nat.eq_zero_or_pos s.length).elim id fun hp=>absurd h2 (yi (yx (Nat.sub_le_sub_right (qm _ _) a) (Nat.sub_lt hp h0)))
  rw [h2]
  rcases h3 with h3 | h3
  ·rw [h3,List.drop_zero,js (zo _)]
  ·rw [yG.mp h3,List.drop_nil,List.take_nil]
 ·rw [if_neg h,StrLaws.picks s _ a (Nat.add_le_of_le_sub' ha (Nat.sub_le_sub_right (qm _ _) a))]
theorem txt_init {s:Txt} {x:Nat} :jc (s++ [x]) none (some (-1)) none=s:=by
 have hl:(s++ [x]).length=s.length+1:=by rw [zd];rfl
 have e:jc (s++ [x]) none (some (-1)) none=jc (s++ [x]) (some ((0:Nat):Int)) (some ((0+s.length:Nat):Int)) none:=by
  unfold jc
  have:Builtin.Str.strSliceIndices none (some (-1)) ((none:Option Int).getD 1) (s++ [x]).length=Builtin.Str.strSliceIndices (some ((0:Nat):Int)) (some ((0+s.length:Nat):Int)) ((none:Option Int).getD 1) (s++ [x]).length:=by
   rw [hl]
   unfold Builtin.Str.strSliceIndices
   have h1:((-1:Int) < 0):=by decide
   have h2: ¬(((0+s.length:Nat):Int) < 0):=by lia
   have h3: ¬(((0:Nat):Int) < 0):=by lia
   simp only [h1,h2,h3,if_false,if_true,Option.getD_none,show ((1:Int)>0)=True from by simp]
   congr 1
   all_goals lia
  rw [this]
 rw [e,txt_cut (zK _),List.drop_zero]
 exact List.take_left
theorem o_slice {cf:Cf} {n a b:Nat} {vars:Vars} {σ σ₁ σ₂ σ₃:H} {x lo hi:E} {s:Txt} (hx:ev Γ cf n x vars σ=some (.str s,σ₁)) (h1:ev Γ cf n lo vars σ₁=some (.int (a:Int),σ₂)) (h2:ev Γ cf n hi vars σ₂=some (.int ((a+b:Nat):Int),σ₃)) (ha:a≤s.length) (hl:s.length≤1000000):
  ev Γ cf (n+1) (.slice x (some lo) (some hi) none) vars σ=some (.str ((s.drop a).take b),σ₃):=by
 refine qX hx h1 h2 (rfl:qd (ev Γ cf n) none vars σ₃=some (.none,σ₃)) ?_
 show (if Nat.ble (jc s (some (a:Int)) (some ((a+b:Nat):Int)) none).length 1000000 then some (V.str (jc s (some (a:Int)) (some ((a+b:Nat):Int)) none),σ₃) else .none)=_
 rw [txt_cut ha,if_pos (zT (zm (List.length_take_le' _ _) (zm (List.drop_sublist _ _).length_le hl)))]
theorem o_init {cf:Cf} {n:Nat} {vars:Vars} {σ σ₁:H} {x:E} {s:Txt} {c:Nat} (hx:ev Γ cf n x vars σ=some (.str (s++ [c]),σ₁)) (h2:ev Γ cf n (.neg (.lit (.int 1))) vars σ₁=some (.int (-1),σ₁)) (hl:s.length≤1000000):
  ev Γ cf (n+1) (.slice x none (some (.neg (.lit (.int 1)))) none) vars σ=some (.str s,σ₁):=by
 refine qX hx (rfl:qd (ev Γ cf n) none vars σ₁=some (.none,σ₁)) h2 (rfl:qd (ev Γ cf n) none vars σ₁=some (.none,σ₁)) ?_
 show (if Nat.ble (jc (s++ [c]) none (some (-1)) none).length 1000000 then some (V.str (jc (s++ [c]) none (some (-1)) none),σ₁) else .none)=_
 rw [txt_init,if_pos (zT hl)]
noncomputable def SGN:List Nat:= [43,42,38,124,94]
noncomputable def CHA:List Nat:= [97,98,99,100,101,102,65,66,67,68,69,70,48,49,50,51,52,53,54,55,56,57]
noncomputable def TOKS:List Txt:=CHA.map (fun c=> [c])++([[59],[126],[61]]++SGN.map (fun c=> [c,61]))
noncomputable def zcr (t rest:Txt):Prop:=(∃c,c∈CHA∧t= [c])∨(t≠ [61]∧rest≠ [])∨(t= [61]∧ ∃x r,rest=x::r∧x≠61)
noncomputable def symE (c:Nat):Nat:=if c==43 then 36 else if c==42 then 38 else if c==38 then 41 else if c==124 then 42 else 43
noncomputable def symN (t:Txt):Nat:=match t with
 | []=>0
 | c::r=>if r.isEmpty then (if Nat.ble 97 c then (if c==126 then 31 else 169+c) else if c==61 then 22 else if Nat.ble 65 c then 207+c else if c==59 then 13 else 208+c) else symE c
noncomputable def hasK (s:Txt):Bool:=(qc s (WF tab)).isSome
theorem QX {s:Txt} : ∀ {l:List (Txt×V)},(qc s l).isSome=true→ ∃p∈l,p.1=s
 | [],h=>ft h
 | (a,v)::r,h=>by
  have e:qc s ((a,v)::r)=if yW a s then some v else qc s r:=rfl
  rw [e] at h
  by_cases q:yW a s=true
  ·exact ⟨_,.head _,Ye.mp q⟩
  ·rw [if_neg q] at h
   exact k12 (QX h) fun p hp e=>⟨p,.tail _ hp,e⟩
theorem qT {s:Txt} (h: ∀p∈tab.map (fun ω=>ω.1),p≠s):hasK s=false:=by
 cases hh:hasK s with
 | false=>rfl
 | true=>
  refine k12 (QX hh) fun p hp e=> ?_
  refine k12 (zy.mp hp) fun q hq e2=> ?_
  subst e2
  exact absurd e (h q.1 (zy.mpr ⟨q,hq,rfl⟩))
theorem kA: ∀p∈tab.map (fun ω=>ω.1),p.headD 0 ∉ CHA:=by decide+kernel
theorem kB: ∀p∈tab.map (fun ω=>ω.1),p.headD 0∈ [59,126]→p.length=1:=by decide+kernel
theorem kE: ∀p∈tab.map (fun ω=>ω.1),p.headD 0=61→p.tail= []∨p.tail= [61]:=by decide+kernel
theorem kS: ∀p∈tab.map (fun ω=>ω.1),p.take 2∈SGN.map (fun c=> [c,61])→p.length=2:=by decide+kernel
theorem kS2: ∀c∈SGN,hasK [c,61]=true:=by decide+kernel
theorem WB: ∀t∈TOKS,(t.length=1∨t.length=2)∧(t= [61]∨t.headD 0≠61):=by decide+kernel
theorem cut_pick {t rest:Txt} (ht:t∈TOKS) (h:zcr t rest):hasK ((t++rest).take 2)=(t.length==2)∧hasK ((t++rest).take 3)=false:=by
 rcases h with ⟨c,hc,rfl⟩ | ⟨h1,h2⟩ | ⟨rfl,x,r,rfl,hx⟩
 ·refine ⟨qT fun p hp e=> ?_,qT fun p hp e=> ?_⟩
  ·subst e;exact kA _ hp hc
  ·subst e;exact kA _ hp hc
 ·cases rest with
  | nil=>exact absurd rfl h2
  | cons x r=>
   rcases zt.mp ht with h | h
   ·refine k12 (zy.mp h) fun c hc e=> ?_
    subst e
    refine ⟨qT fun p hp e=> ?_,qT fun p hp e=> ?_⟩
    ·subst e;exact kA _ hp hc
    ·subst e;exact kA _ hp hc
   ·rcases zt.mp h with h | h
    ·have hc: ∃c,t= [c]∧c∈ [59,126]:=by
      rcases zh.mp h with rfl | h
      ·exact ⟨59,rfl,.head _⟩
      rcases zh.mp h with rfl | h
      ·exact ⟨126,rfl,.tail _ (.head _)⟩
      ·exact absurd (zv.mp h) h1
     obtain ⟨c,rfl,hc⟩:=hc
     refine ⟨qT fun p hp e=> ?_,qT fun p hp e=> ?_⟩
     ·subst e
      have:=kB _ hp hc
      cases r <;>exact absurd this (by simp)
     ·subst e
      have:=kB _ hp hc
      cases r <;>exact absurd this (by simp)
    ·refine k12 (zy.mp h) fun c hc e=> ?_
     subst e
     refine ⟨kS2 c hc,qT fun p hp e=> ?_⟩
     subst e
     have:=kS _ hp (zy.mpr ⟨c,hc,rfl⟩)
     exact absurd this (by simp)
 ·refine ⟨qT fun p hp e=> ?_,qT fun p hp e=> ?_⟩
  ·subst e
   rcases kE _ hp rfl with h | h
   ·exact absurd h (by simp)
   ·exact absurd h (by simp;omega)
  ·subst e
   rcases kE _ hp rfl with h | h
   ·exact absurd h (by simp)
   ·exact absurd (congrArg (fun ω=>List.headD ω 0) h) (by simp;omega)
noncomputable def D22:Txt:= [48,49,50,51,52,53,54,55,56,57,97,98,99,100,101,102,65,66,67,68,69,70]
noncomputable def fndI (c:Nat):Int:=PySem.Txt.find (stT D22) (stT [c])
noncomputable def zb5:Prop:=tabA (fun t=>(fit (256+fndI (t.headD 0)),(qc t (WF tab)).getD (.int (256+fndI (t.headD 0))))) TOKS=TOKS.map fun t=>(true,natV (symN t))
theorem sym_tab:zb5:=by unfold zb5;kernel_rfl
theorem sym_at {t:Txt} (ht:t∈TOKS):fit (256+fndI (t.headD 0))=true∧(qc t (WF tab)).getD (.int (256+fndI (t.headD 0)))=natV (symN t):=by
 have e0:=sym_tab
 unfold zb5 at e0
 have e:=wq e0 t ht
 exact ⟨congrArg Prod.fst e,congrArg Prod.snd e⟩
noncomputable def wy:List Txt→Prop
 | []=>True
 | t::r=>t∈TOKS∧zcr t r.flatten∧wy r
noncomputable def cutC:E:= .cmp .isIn (.slice (.var 65) (some (.var 57)) (some (.bin .add (.var 57) (.var 25))) .none) (.lit (.cst (.ref 105)))
noncomputable def cutP:E:= .comp (.var 25) [.mk (.name 25) (.plain (.tup [.lit (.int 2),.lit (.int 3)])) [cutC]] [25]
noncomputable def sizeE:E:= .call (.lit (.cst (.builtin "max"))) [.bin .add (.list [.lit (.int 1)]) cutP]
noncomputable def symX:E:= .callM (.lit (.cst (.ref 105))) 40 [.slice (.var 65) (some (.var 57)) (some (.bin .add (.var 57) (.var 71))) .none,.bin .add (.lit (.int 256)) (.callM (.lit (.str D22)) 72 [.sub (.var 65) (.var 57)] [])] []
noncomputable def cutB:List S:= [.names [71] sizeE,.expr (.callM (.var 70) 34 [symX] []),.names [57] (.bin .add (.var 57) (.var 71))]
theorem cut_body:Yv.body= [.unpack [.name 70,.name 57] (.tup [.list [],.lit (.int 0)]),.whil (.cmp .lt (.var 57) (.call (.lit (.cst (.builtin "len"))) [.var 65])) cutB,.ret (some (.bin .add (.var 70) (.list [.lit (.int 0)])))]:=rfl
noncomputable def pK (b:Bool) (v:V):Bool:=(jz v).any fun i=>decide (i=2)&&b
section
variable {cf:Cf} {n:Nat} {vars:Vars} {σ σ₁:H} {s t:Txt} {a r:Nat} {rest:Txt}
theorem JT {x y:E} {b c:Nat} {σ₂:H} (hx:ev Γ cf n x vars σ=some (natV b,σ₁)) (hy:ev Γ cf n y vars σ₁=some (natV c,σ₂)) (h:b+c < 1000000000):ev Γ cf (n+1) (.bin .add x y) vars σ=some (natV (b+c),σ₂):=
 qK hx hy ((Ys _ (b:Int) c).trans (by rw [qD (wt (by lia) (by lia))];rfl))
theorem cut_size (ht:t∈TOKS) (hn:zcr t rest) (ha:a≤s.length) (hs:s.drop a=t++rest) (hl:s.length≤100000) (g65:vars.get 65=some (.str s)) (g57:vars.get 57=some (natV a)):
  ∃σ',ev Γ cf 60 sizeE vars σ=some (natV t.length,σ')∧Le σ σ':=by
 have hc:=cut_pick ht hn
 rw [←hs] at hc
 have hl':s.length≤1000000:=zm hl (by decide)
 refine k12 (wd (Γ:=Γ) (cf:=cf) (n:=57) (t:= .name 25) (iter:= .plain (.tup [.lit (.int 2),.lit (.int 3)])) (elt:= .var 25) (ifs:= [cutC]) (own:= [25]) (vars:=vars) (σ:=σ++ [O.list [.int 1]]) (σb:=σ++ [O.list [.int 1]]) (itr:=fun k=> .one (.vs ([V.int 2,.int 3].drop k))) rfl rfl (by decide) (xI _)
  (fun vs=>vs.get 65=some (.str s)∧vs.get 57=some (natV a)) (fun v vs=>vs.set 25 v) (pK (t.length==2)) id (fun v ω σ vs=>rfl)
  (fun v ω vs h=>⟨(yb rfl _ _).trans h.1,(yb rfl _ _).trans h.2⟩) ⟨g65,g57⟩ fun v hv vs τ l P=>⟨τ,?_,.refl _,fun ω=>⟨τ,zl (zL _ _ _),.refl _⟩⟩) fun σ₁ e1 l1=> ?_
 ·have h5:=(yb (x:=25) (y:=65) rfl v vs).trans P.1
  have h7:=(yb (x:=25) (y:=57) rfl v vs).trans P.2
  have hk: ∃k:Nat,v=natV k∧k≤3∧hasK ((s.drop a).take k)=pK (t.length==2) v:=by
   rcases zh.mp hv with rfl | hv
   ·exact ⟨2,rfl,by decide,hc.1⟩
   ·rcases zh.mp hv with rfl | hv
    ·exact ⟨3,rfl,by decide,hc.2⟩
    ·exact absurd hv yu
  obtain ⟨k,rfl,hk3,hk⟩:=hk
  rw [←hk]
  exact qS (wj (xD (o_slice (n:=55) (b:=k) (zl h5) (zl h7) (JT (n:=54) (zl h7) (zl (zL _ _ _)) (by lia)) ha hl') zO rfl))
 ·have e0:ev Γ cf 58 (.list [.lit (.int 1)]) vars σ=some (.ref σ.length,σ++ [O.list [.int 1]]):=xm (zZ zO) (by decide:1≤1000000)
  have hi:(σ₁++ [O.list ((List.filter (pK (t.length==2)) [V.int 2,V.int 3]).map id)])[σ.length]? =some (O.list [.int 1]):=yf _ _ (l1 _ _ (zw _ _))
  have e2:=ZP (n:=58) e0 e1 hi (zw _ _) (by cases (t.length==2) <;>decide)
  have e3:=o_max (n:=58) (a:=1) (l:=if t.length==2 then [2] else []) e2 ((zw _ _).trans (by cases (t.length==2) <;>rfl))
  have hm:V.int (maxI 1 (if (t.length==2)=true then [2] else []))=natV t.length:=by
   rcases (WB t ht).1 with h | h <;>rw [h] <;>rfl
  rw [hm] at e3
  exact ⟨_,e3,((((Le.refl σ).snoc _).trans l1).snoc _).snoc _⟩
theorem cut_sym (ht:t∈TOKS) (ha:a≤s.length) (hs:s.drop a=t++rest) (hl:s.length≤100000) (g65:vars.get 65=some (.str s)) (g57:vars.get 57=some (natV a)) (g71:vars.get 71=some (natV t.length)):
  ev Γ cf 59 symX vars σ=some (natV (symN t),σ):=by
 have hl':s.length≤1000000:=zm hl (by decide)
 have hsy:=sym_at ht
 have htl:=(WB t ht).1
 cases t with
 | nil=>exact absurd htl (by decide)
 | cons c t=>
  have hg:s[a]? =some c:=by
   have h0:(s.drop a)[0]? =some c:=by rw [hs];rfl
   rw [List.getElem?_drop] at h0
   exact h0
  have e1:ev Γ cf 58 (.slice (.var 65) (some (.var 57)) (some (.bin .add (.var 57) (.var 71))) .none) vars σ=some (.str (c::t),σ):=by
   have:=o_slice (cf:=cf) (n:=57) (vars:=vars) (σ:=σ) (b:=(c::t).length) (zl g65) (zl g57) (JT (n:=56) (zl g57) (zl g71) (by lia)) ha hl'
   rw [hs,List.take_left] at this
   exact this
  have m1:yA Γ (.str D22) 72 σ=some (.str D22 [102,105,110,100]):=rfl
  have e2:ev Γ cf 57 (.callM (.lit (.str D22)) 72 [.sub (.var 65) (.var 57)] []) vars σ=some (.int (fndI c),σ):=xz zO m1 (zZ (yU (n:=55) (zl g65) (zl g57) (Wj hg hl'))) xA rfl
  have e3:ev Γ cf 58 (.bin .add (.lit (.int 256)) (.callM (.lit (.str D22)) 72 [.sub (.var 65) (.var 57)] [])) vars σ=some (.int (256+fndI c),σ):=
   qK zO e2 ((Ys _ 256 _).trans (by rw [qD (show fit (256+fndI c)=true from hsy.1)];rfl))
  have m2:yA Γ (.cst (.ref 105)) 40 σ=some (.dget 105):=rfl
  refine xz zO m2 (ya e1 (zZ e3)) xA ?_
  show some ((qc (c::t) (WF tab)).getD (.int (256+fndI c)),σ)=_
  exact congrArg (fun x=>some (x,σ)) hsy.2
structure KInv (s:Txt) (toks:List Txt) (r:Nat) (σ₀:H) (k:Nat) (vars:Vars) (σ:H):Prop where
 le:Le σ₀ σ
 g65:vars.get 65=some (.str s)
 g70:vars.get 70=some (.ref r)
 cut: ∃done rest,toks=done++rest∧rest.length=k∧wy rest∧vars.get 57=some (natV done.flatten.length)∧σ[r]? =some (.list (zx (done.map symN)))
theorem cut_turn {toks:List Txt} {σ₀:H} {k:Nat} (hs:s=toks.flatten) (hl:s.length≤100000) (hl2:toks.length≤100000) (hr:σ₀.length≤r) (I:KInv s toks r σ₀ k vars σ):
  ∃z σ₁,evB (ev Γ cf 60) (.cmp .lt (.var 57) (.call (.lit (.cst (.builtin "len"))) [.var 65])) vars σ=some (z,σ₁)∧(z=false→KInv s toks r σ₀ 0 vars σ₁)∧(z=true→ ∃k' vars' σ',k' < k∧exs Γ cf 60 57 cutB vars σ₁=some (.next,vars',σ')∧KInv s toks r σ₀ k' vars' σ'):=by
 obtain ⟨done,rest,h1,h2,h3,h4,h5⟩:=I.cut
 have et:=wj (e1:=ev Γ cf 60) (xD (n:=59) (zl h4) (o_lens (n:=57) (zl (σ:=σ) I.g65) (zm hl (by decide))) (zc1 ..))
 refine ⟨_,σ,et,fun hz=> ?_,fun hz=> ?_⟩
 ·have hz:=of_decide_eq_false hz
  cases rest with
  | nil=>exact ⟨I.le,I.g65,I.g70,done,[],h1,rfl,h3,h4,h5⟩
  | cons t rest=>
   have:=(WB t h3.1).1
   have e:s.length=done.flatten.length+(t.length+rest.flatten.length):=by rw [hs,h1,xt,zd,wS,zd]
   lia
 ·have hz:=of_decide_eq_true hz
  cases rest with
  | nil=>
   have e:s.length=done.flatten.length:=by rw [hs,h1,ym]
   lia
  | cons t rest=>
   have hd:s.drop done.flatten.length=t++rest.flatten:=by rw [hs,h1,xt,List.drop_left,wS]
   have ha:done.flatten.length≤s.length:=by lia
   refine k12 (cut_size (cf:=cf) (vars:=vars) (σ:=σ) h3.1 h3.2.1 ha hd hl I.g65 h4) fun σ₁ e1 l1=> ?_
   have e2:=cut_sym (cf:=cf) (vars:=vars.set 71 (natV t.length)) (σ:=σ₁) h3.1 ha hd hl ((yb rfl _ _).trans I.g65) ((yb rfl _ _).trans h4) (zL _ _ _)
   have hg:=l1 _ _ h5
   have hlen:(zx (done.map symN)).length≤100000:=by rw [yM,zf];rw [h1,zd] at hl2;lia
   have e3:=jg (n:=58) (σ:=σ₁) ((yb (x:=71) (y:=70) rfl (natV t.length) vars).trans I.g70) hg e2 hg (by lia)
   have el:(done++ [t]).flatten.length=done.flatten.length+t.length:=by rw [xt,zd];simp
   have e:s.length=done.flatten.length+(t.length+rest.flatten.length):=by rw [hs,h1,xt,zd,wS,zd]
   refine ⟨rest.length,_,_,by rw [←h2];exact yc _,zE (xy e1) (zE (jf e3) (zE (xy (JT (n:=59) (zl ((yb rfl _ _).trans h4)) (zl (zL _ _ _)) (by lia))) yV)),⟨(I.le.trans l1).set hr _,?_,?_,done++ [t],rest,?_,rfl,h3.2.2,?_,?_⟩⟩
   ·exact gn rfl (gn rfl I.g65)
   ·exact gn rfl (gn rfl I.g70)
   ·rw [h1,zW];rfl
   ·rw [zL,el]
   ·rw [wW hg,zX,wu];rfl
end
theorem cut_run {n:Nat} {s:Txt} {toks:List Txt} {σ:H} (hs:s=toks.flatten) (hl:s.length≤100000) (hl2:toks.length≤1000) (hok:wy toks):
  ∃r σ',cfX (n+1) 305 [.str s] [] σ=some (.ref r,σ')∧σ'[r]? =some (.list (zx (toks.map symN++ [0])))∧Le σ σ':=by
 have e1:ex Γ (cfX n) 60 59 (.unpack [.name 70,.name 57] (.tup [.list [],.lit (.int 0)])) [(65,some (.str s))] σ=some (.next,[(65,some (.str s)),(70,some (.ref σ.length)),(57,some (natV 0))],σ++ [O.list []]):=
  qu (qv (ya (xm wo (by decide)) (zZ zO)) (by decide:2≤1000000)) rfl
 refine k22 (QU (Γ:=Γ) (cf:=cfX n) (fe:=60) (n:=57) (b:=cutB) (vars:= [(65,some (.str s)),(70,some (.ref σ.length)),(57,some (natV 0))]) (σ:=σ++ [O.list []]) (KInv s toks σ.length σ) (KInv s toks σ.length σ 0) (fun k vars σ' I=>cut_turn hs hl (by lia) (zo _) I) (k:=toks.length) ⟨(Le.refl _).snoc _,rfl,rfl,[],toks,rfl,rfl,hok,rfl,zw _ _⟩ (by lia)) fun vars' σ₁ e2 I=> ?_
 obtain ⟨done,rest,h1,h2,h3,h4,h5⟩:=I.cut
 cases yG.mp h2
 rw [ym] at h1
 subst h1
 have e3:=ZP (cf:=cfX n) (n:=59) (vars:=vars') (σ:=σ₁) (zl I.g70) (xm (zZ (zO (v:= .int 0))) (by decide:1≤1000000)) (yf _ _ h5) (zw _ _) (by rw [zd,yM,zf];simp;lia)
 have ee:=zE (n:=59) e1 (zE e2 (wU (ss:= []) (qJ e3)))
 rw [←cut_body] at ee
 refine ⟨_,_,jD (F:=Yv) rfl rfl rfl ee,?_,(I.le.snoc _).snoc _⟩
 rw [zw,wu];rfl
section
variable (sg dg:Nat→Nat)
noncomputable def tkN (r:Nat) (op:Bool) (i:Nat):List Txt:= [[97+r],(if op then [sg i,61] else [61]),[48+dg i]]
noncomputable def tkP:Pc→List Txt
 | .num r op i=>tkN sg dg r op i++ [[59]]
 | .jn r i=> [[65+r],[sg i,61],[97+(r+1)],[59],[126],[65+(r+1)],[59]]
noncomputable def syN (r:Nat) (op:Bool) (i:Nat):List Nat:= [266+r,(if op then symE (sg i) else 22),256+dg i]
noncomputable def syP:Pc→List Nat
 | .num r op i=>syN sg dg r op i++ [13]
 | .jn r i=> [272+r,symE (sg i),266+(r+1),13,31,272+(r+1),13]
end
variable {sg dg:Nat→Nat}
theorem WC (x:Pc):(tkP sg dg x).flatten=pcT sg dg x:=by
 cases x with
 | num r op i=>cases op <;>rfl
 | jn r i=>rfl
theorem zaH: ∀l:List Pc,(l.flatMap (tkP sg dg)).flatten=xN sg dg l
 | []=>rfl
 | x::l=>by
  rw [yQ,xt,WC,zaH l]
  exact (yQ ..).symm
theorem Yr: ∀r < 6,(97+r∈CHA∧65+r∈CHA)∧symN [97+r]=266+r∧symN [65+r]=272+r:=by decide+kernel
theorem cha_dig: ∀d < 10,48+d∈CHA∧symN [48+d]=256+d:=by decide+kernel
theorem tok_cha {c:Nat} (h:c∈CHA): [c]∈TOKS:=zt.mpr (.inl (zy.mpr ⟨c,h,rfl⟩))
theorem tok_sg {c:Nat} (h:c∈SGN): [c,61]∈TOKS:=zt.mpr (.inr (zt.mpr (.inr (zy.mpr ⟨c,h,rfl⟩))))
theorem tok_x: [59]∈TOKS∧ [126]∈TOKS∧ [61]∈TOKS:=by decide+kernel
theorem Xz {c:Nat} {l:List Txt} (h:c∈CHA) (hl:wy l):wy ([c]::l):=⟨tok_cha h,.inl ⟨c,h,rfl⟩,hl⟩
theorem ok_sg {c:Nat} {l:List Txt} (h:c∈SGN) (hn:l.flatten≠ []) (hl:wy l):wy ([c,61]::l):=⟨tok_sg h,.inr (.inl ⟨fun e=>absurd (congrArg List.length e) (show¬(2=1) by decide),hn⟩),hl⟩
theorem JQ {l:List Txt} (hn:l.flatten≠ []) (hl:wy l):wy ([59]::l):=⟨tok_x.1,.inr (.inl ⟨by decide,hn⟩),hl⟩
theorem ok_til {l:List Txt} (hn:l.flatten≠ []) (hl:wy l):wy ([126]::l):=⟨tok_x.2.1,.inr (.inl ⟨by decide,hn⟩),hl⟩
theorem ok_eq {x:Nat} {l:List Txt} (hx:x≠61) (hl:wy ([x]::l)):wy ([61]:: [x]::l):=⟨tok_x.2.2,.inr (.inr ⟨rfl,x,l.flatten,rfl,hx⟩),hl⟩
theorem ok_tkN (hs: ∀i,sg i∈SGN) (hd: ∀i,dg i≤9) {r i:Nat} {op:Bool} (hr:r≤5) {m:List Txt} (hm:wy m):wy (tkN sg dg r op i++m):=by
 have hi:=hd i
 have hc:=(cha_dig (dg i) (by lia)).1
 refine Xz (Yr r (by lia)).1.1 ?_
 cases op with
 | true=>exact ok_sg (hs i) (xV _ _) (Xz hc hm)
 | false=>exact ok_eq (by lia) (Xz hc hm)
theorem ok_tkP (hs: ∀i,sg i∈SGN) (hd: ∀i,dg i≤9) {x:Pc} (hx:pcOk x=true) {m:List Txt} (hm:wy m) (hn:m.flatten≠ []):wy (tkP sg dg x++m):=by
 cases x with
 | num r op i=>
  have hr:=zg (zu.mp hx).1
  show wy (tkN sg dg r op i++ [[59]]++m)
  rw [zW]
  exact ok_tkN hs hd hr (JQ hn hm)
 | jn r i=>
  have hr:=zg (zu.mp hx).1
  have h1:=(Yr (r+1) (by lia)).1
  exact Xz (Yr r (by lia)).1.2 (ok_sg (hs i) (xV _ _) (Xz h1.1 (JQ (xV _ _) (ok_til (xV _ _) (Xz h1.2 (JQ hn hm))))))
theorem ok_tks (hs: ∀i,sg i∈SGN) (hd: ∀i,dg i≤9) {m:List Txt} (hm:wy m) (hn:m.flatten≠ []): ∀l:List Pc,l.all pcOk=true→wy (l.flatMap (tkP sg dg)++m)∧(l.flatMap (tkP sg dg)++m).flatten≠ []
 | [],_=>⟨hm,hn⟩
 | x::l,h=>by
  have h:=zu.mp h
  have ih:=ok_tks hs hd hm hn l h.2
  rw [yQ,zW]
  refine ⟨ok_tkP hs hd h.1 ih.1 ih.2,?_⟩
  rw [xt,WC]
  intro e
  exact absurd (ju.mp e).2 ih.2
theorem sy_tkN (hd: ∀i,dg i≤9) {r i:Nat} {op:Bool} (hr:r≤5):(tkN sg dg r op i).map symN=syN sg dg r op i:=by
 have hi:=hd i
 show [symN [97+r],symN (if op then [sg i,61] else [61]),symN [48+dg i]]=_
 rw [(Yr r (by lia)).2.1,(cha_dig (dg i) (by lia)).2]
 cases op <;>rfl
theorem sy_tkP (hd: ∀i,dg i≤9) {x:Pc} (hx:pcOk x=true):(tkP sg dg x).map symN=syP sg dg x:=by
 cases x with
 | num r op i=>
  have hr:=zg (zu.mp hx).1
  show (tkN sg dg r op i++ [[59]]).map symN=_
  rw [zX,sy_tkN hd hr];rfl
 | jn r i=>
  have hr:=zg (zu.mp hx).1
  have h1:=(Yr (r+1) (by lia)).2
  show [symN [65+r],symN [sg i,61],symN [97+(r+1)],symN [59],symN [126],symN [65+(r+1)],symN [59]]=_
  rw [(Yr r (by lia)).2.2,h1.1,h1.2];rfl
theorem sy_tks (hd: ∀i,dg i≤9): ∀l:List Pc,l.all pcOk=true→(l.flatMap (tkP sg dg)).map symN=l.flatMap (syP sg dg)
 | [],_=>rfl
 | x::l,h=>by
  have h:=zu.mp h
  rw [yQ,yQ,zX,sy_tkP hd h.1,sy_tks hd l h.2]
theorem tkP_len (x:Pc):(tkP sg dg x).length≤7:=by
 cases x with
 | num r op i=>exact (by decide:4≤7)
 | jn r i=>exact (by decide:7≤7)
theorem tks_len: ∀l:List Pc,(l.flatMap (tkP sg dg)).length≤7*l.length
 | []=>zK _
 | x::l=>by
  rw [yQ,zd,xg]
  have:=tkP_len (sg:=sg) (dg:=dg) x
  have:=tks_len l
  lia
theorem cut_code (hs: ∀i,sg i∈SGN) (hd: ∀i,dg i≤9) {n r i:Nat} {op:Bool} {l:List Pc} (hl:l.all pcOk=true) (hn:l.length≤100) (hr:r≤5) (σ:H):
  ∃s:Txt,xN sg dg (l++ [.num r op i])=s++ [59]∧s.length≤1000∧ ∃q σ',cfX (n+1) 305 [.str s] [] σ=some (.ref q,σ')∧σ'[q]? =some (.list (zx (l.flatMap (syP sg dg)++syN sg dg r op i++ [0])))∧Le σ σ':=by
 let toks:=l.flatMap (tkP sg dg)++tkN sg dg r op i
 have h1:xN sg dg (l++ [.num r op i])=toks.flatten++ [59]:=by
  rw [Yf,Xt,←zaH,←WC]
  show _=(l.flatMap (tkP sg dg)++tkN sg dg r op i).flatten++ [59]
  rw [xt,zW]
  refine congrArg _ ?_
  show (tkN sg dg r op i++ [[59]]).flatten=_
  rw [xt];rfl
 have h2:toks.flatten.length≤1000:=by
  have h:=(jS (sg:=sg) (dg:=dg) (l++ [.num r op i])).2
  rw [h1,zd,zd] at h
  have h':toks.flatten.length+1≤8*(l.length+1):=h
  lia
 have h3:toks.length≤1000:=by
  have:=tks_len (sg:=sg) (dg:=dg) l
  show (l.flatMap (tkP sg dg)++tkN sg dg r op i).length≤1000
  rw [zd]
  have:(tkN sg dg r op i).length=3:=rfl
  lia
 have h4:wy (tkN sg dg r op i):=by
  have:=ok_tkN (sg:=sg) (dg:=dg) (i:=i) (op:=op) hs hd hr (m:= []) trivial
  rw [ym] at this
  exact this
 have h5:wy toks:=(ok_tks hs hd h4 (xV _ _) l hl).1
 refine ⟨toks.flatten,h1,h2,k23 (cut_run (n:=n) (σ:=σ) rfl (zm h2 (by decide)) h3 h5) fun q σ' e1 e2 l1=>⟨q,σ',e1,?_,l1⟩⟩
 rw [e2]
 show some (O.list (zx ((l.flatMap (tkP sg dg)++tkN sg dg r op i).map symN++ [0])))=_
 rw [zX,sy_tks hd l hl,sy_tkN hd hr]
noncomputable def jN (s x y:Nat):Nat:=if s==22 then y else if s==36 then x+y else if s==38 then x*y else if s==41 then Nat.land x y else if s==42 then x+y - Nat.land x y else x+y - 2*Nat.land x y
noncomputable def ZT (op:Bop):E:= .bin op (.var 73) (.var 19)
theorem join_body:Zu.body= [.ret (some (.dsub [22,36,38,41,42,43] [.var 19,ZT .add,ZT .mul,ZT .band,ZT .bor,ZT .bxor] (.var 66)))]:=rfl
theorem fitN {x:Nat} (h:x < 4611686018427387904):fit (x:Int)=true:=wt (by lia) (by lia)
theorem mkN {x:Nat} (h:x < 4611686018427387904):mkI (x:Int)=some (natV x):=qD (fitN h)
section
variable {cf:Cf} {n:Nat} {vars:Vars} {σ:H} {x y:Nat}
theorem Qe {op:Bop} {z:Nat} (g73:vars.get 73=some (natV x)) (g19:vars.get 19=some (natV y)) (h:Ze op (natV x) (natV y) σ=(mkI (z:Int)).map (fun ω=>(ω,σ))) (hz:z < 4611686018427387904):ev Γ cf (n+2) (ZT op) vars σ=some (natV z,σ):=
 qK (zl g73) (zl g19) (h.trans (by rw [mkN hz];rfl))
end
noncomputable def JS:List Nat:= [22,36,38,41,42,43]
theorem zbn {n s x y:Nat} {σ:H} (hs:s∈JS) (hx:x≤100000000) (hy:y≤100000000):cfX (n+1) 312 [natV s,natV x,natV y] [] σ=some (natV (jN s x y),σ):=by
 let vars:Vars:= [(66,some (natV s)),(73,some (natV x)),(19,some (natV y))]
 have hl:Nat.land x y≤x:=Nat.and_le_left
 have hs2:x+y≤100000000+100000000:=Yy hx hy
 have lt: ∀ {z b:Nat},z≤b→Nat.blt b 4611686018427387904=true→z < 4611686018427387904:=fun h h'=>yx h (zg h')
 have e1:yO (ev Γ (cfX n) 59) [.var 19,ZT .add,ZT .mul,ZT .band,ZT .bor,ZT .bxor] vars σ=some ([natV y,natV (x+y),natV (x*y),natV (Nat.land x y),natV (x+y - Nat.land x y),natV (x+y - 2*Nat.land x y)],σ):=by
  refine ya (zl rfl) (ya (Qe rfl rfl (Ys ..) (lt hs2 rfl)) (ya (Qe rfl rfl ?_ (lt (Yx hx hy) rfl)) (ya (Qe rfl rfl rfl (lt (zm hl hx) rfl)) (ya (Qe rfl rfl rfl (lt (zm (Nat.sub_le _ _) hs2) rfl)) (zZ (Qe rfl rfl rfl (lt (zm (Nat.sub_le _ _) hs2) rfl)))))))
  exact (bin_mul σ (x:Int) y).trans (if_pos (fitN (lt hx rfl)))
 have hp:Je [22,36,38,41,42,43] [natV y,natV (x+y),natV (x*y),natV (Nat.land x y),natV (x+y - Nat.land x y),natV (x+y - 2*Nat.land x y)] (natV s)=some (natV (jN s x y)):=by
  rcases zh.mp hs with rfl | hs
  ·rfl
  rcases zh.mp hs with rfl | hs
  ·rfl
  rcases zh.mp hs with rfl | hs
  ·rfl
  rcases zh.mp hs with rfl | hs
  ·rfl
  rcases zh.mp hs with rfl | hs
  ·rfl
  rcases zh.mp hs with rfl | hs
  ·rfl
  ·exact absurd hs yu
 have ee:=wU (ss:= []) (fe:=60) (n:=59) (qJ (n:=58) (o_dsub (n:=59) e1 (zl (n:=58) (vars:=vars) (i:=66) rfl) hp))
 rw [←join_body] at ee
 exact jD (F:=Zu) rfl rfl rfl ee
theorem QW (a b p q:Nat):(2*a+p)+(2*b+q)=2*(a+b)+(p+q):=by rw [Nat.mul_add,Nat.add_add_add_comm]
theorem QD {f:Nat→Nat→Nat} (fd: ∀x y,f x y / 2=f (x / 2) (y / 2)) {k:Nat} (m: ∀x y,f x y % 2+k*((x&&&y) % 2)=x % 2+y % 2) (f0: ∀y,f 0 y=y) (x:Nat): ∀y,x+y=f x y+k*(x&&&y):=by
 induction x using Nat.strongRecOn with
 | ind x ih=>
  intro y
  by_cases h0:x=0
  ·subst h0;rw [f0,Nat.zero_and,Nat.mul_zero,xO,Nat.add_zero]
  ·have e:=ih (x / 2) (Nat.div_lt_self (Nat.pos_of_ne_zero h0) (by decide)) (y / 2)
   have e1:=Ws (f x y) 2
   have e2:=Ws (x&&&y) 2
   rw [fd] at e1
   rw [Nat.and_div_two] at e2
   have l:x+y=2*(x / 2+y / 2)+(x % 2+y % 2):=by rw [←QW,Ws,Ws]
   rw [l,e,←m,←QW,e1,Nat.mul_left_comm,←Nat.mul_add,e2]
theorem Qp (x y:Nat):x+y=(x ||| y)+(x&&&y)∧x+y=(x^^^y)+2*(x&&&y):=by
 have two: ∀x:Nat,x % 2=0∨x % 2=1:=Nat.mod_two_eq_zero_or_one
 have a2: ∀x y:Nat,(x&&&y) % 2=x % 2&&&y % 2:=fun x y=>Nat.and_mod_two_pow (n:=1)
 refine ⟨(QD (k:=1) (fun ω ω=>Nat.or_div_two) (fun x y=> ?_) Nat.zero_or x y).trans (by rw [Nat.one_mul]),QD (fun ω ω=>Nat.xor_div_two) (fun x y=> ?_) Nat.zero_xor x y⟩
 ·have a1:(x ||| y) % 2=x % 2 ||| y % 2:=Nat.or_mod_two_pow (n:=1)
  rw [a1,a2]
  rcases two x with hx | hx <;>rcases two y with hy | hy <;>rw [hx,hy] <;>rfl
 ·have a3:(x^^^y) % 2=x % 2^^^y % 2:=Nat.xor_mod_two_pow (n:=1)
  rw [a3,a2]
  rcases two x with hx | hx <;>rcases two y with hy | hy <;>rw [hx,hy] <;>rfl
theorem jN_or (x y:Nat):x+y - Nat.land x y=x ||| y:=by
 show x+y - (x&&&y)=_
 rw [(Qp x y).1,zbW]
theorem jN_xor (x y:Nat):x+y - 2*Nat.land x y=x^^^y:=by
 show x+y - 2*(x&&&y)=_
 rw [(Qp x y).2,zbW]
noncomputable def J5:List Nat:= [36,38,41,42,43]
theorem Qr {P:Nat→Prop} {s:Nat} (hs:s∈J5) (h1:P 36) (h2:P 38) (h3:P 41) (h4:P 42) (h5:P 43):P s:=by
 rcases zh.mp hs with rfl | hs
 ·exact h1
 rcases zh.mp hs with rfl | hs
 ·exact h2
 rcases zh.mp hs with rfl | hs
 ·exact h3
 rcases zh.mp hs with rfl | hs
 ·exact h4
 rcases zh.mp hs with rfl | hs
 ·exact h5
 ·exact absurd hs yu
theorem j42 (x y:Nat):jN 42 x y=x ||| y:=jN_or x y
theorem j43 (x y:Nat):jN 43 x y=x^^^y:=jN_xor x y
theorem jN_comm {s:Nat} (hs:s∈J5) (x y:Nat):jN s x y=jN s y x:=
 Qr (P:=fun s=>jN s x y=jN s y x) hs (Wh x y) (Nat.mul_comm x y) (Nat.and_comm x y) (by rw [j42,j42];exact Nat.or_comm x y) (by rw [j43,j43];exact Nat.xor_comm x y)
theorem jN_assoc {s:Nat} (hs:s∈J5) (x y z:Nat):jN s (jN s x y) z=jN s x (jN s y z):=
 Qr (P:=fun s=>jN s (jN s x y) z=jN s x (jN s y z)) hs (Nat.add_assoc x y z) (Nat.mul_assoc x y z) (Nat.and_assoc x y z) (by rw [j42,j42,j42,j42];exact Nat.or_assoc x y z) (by rw [j43,j43,j43,j43];exact Nat.xor_assoc x y z)
theorem jN_le {s:Nat} (hs:s∈J5) (x y:Nat):1+jN s x y≤(1+x)*(1+y):=by
 have e:(1+x)*(1+y)=1+(x+y+x*y):=by rw [Nat.add_mul,Nat.mul_add x 1 y,Nat.one_mul,Nat.mul_one,Nat.add_assoc,←Nat.add_assoc y,Wh y x]
 rw [e]
 have h: ∀ {z:Nat},z≤x+y→1+z≤1+(x+y+x*y):=fun h=>Nat.add_le_add_left (zm h (xC _ _)) 1
 exact Qr (P:=fun s=>1+jN s x y≤1+(x+y+x*y)) hs (h (zo _)) (Nat.add_le_add_left (Nat.le_add_left _ _) 1) (h (zm Nat.and_le_left (xC _ _))) (h (Nat.sub_le _ _)) (h (Nat.sub_le _ _))
theorem show_eq (v:Nat):yR (v:Int)=(Nat.toDigits 10 v).map Char.toNat:=PySem.W.KIN.signs_num v
theorem zaQ {v c:Nat} (h:c∈yR (v:Int)):48≤c∧c≤57:=by
 rw [show_eq] at h
 refine k12 (zy.mp h) fun ch hch e=> ?_
 subst e
 exact PyProof.Rows.digit_range (Nat.isDigit_of_mem_toDigits (by decide) (by decide) hch)
theorem show_ctl (v:Nat):ZQ (yR (v:Int))=true:=zq.mpr fun c hc=>by
 have:=zaQ hc
 rw [yC]
 exact ⟨zT (by lia),zT (show c+1≤127 by lia)⟩
theorem show_okS (v:Nat):okS (yR (v:Int))=true:=okS_of fun c hc=>by have:=zaQ hc;lia
theorem show_len {v:Nat} (h:v≤100000000):(yR (v:Int)).length≤10:=
 PySem.W.KT.len_num (n:=(v:Int)) (by lia) (show (v:Int) < 10000000000 by lia)
theorem Jb {v:Nat} (h:v≤100000000):Xb (yR (v:Int))=some (v:Int):=by
 unfold Xb
 rw [if_pos (zT (zm (show_len h) (by decide)))]
 exact PySem.W.KIN.num_reads (n:=(v:Int)) (by lia) (show (v:Int) < 10000000000 by lia)
theorem show_zero:yR ((0:Nat):Int)= [48]:=by kernel_rfl
noncomputable def LET:List Nat:= [97,98,99,100,101,102,65,66,67,68,69,70]
theorem qE: ∀c∈LET,(Nat.blt c 128=true∧ZQ [c]=true∧ZQ [lowC c]=true∧okS [lowC c]=true∧okS [c]=true)∧upC c∈LET∧Nat.blt (lowC c) 128=true:=by decide+kernel
theorem c_retK {f:Addr} {F:Fn} {n:Nat} {as:List V} {ks:List (Nat×V)} {vars vars':Vars} {σ σ':H} {v:V} (h:spec f as σ=none) (hF:Γ.fns.lookup f=some F) (hb:Zp Γ F as ks=some vars) (he:exs Γ (cfX n) 60 60 F.body vars σ=some (.ret v,vars',σ')):cfX (n+1) f as ks σ=some (v,σ'):=by
 rw [c_run h hF]
 unfold qR
 rw [hb];dsimp only;rw [he]
section
variable {cf:Cf} {n:Nat} {vars:Vars} {σ:H} {s:Txt} {b:Bool} {x:V} {c:Nat}
theorem conv_body:yo.body= [.ite (.cmp .is_ (.call (.lit (.cst (.type "type"))) [.var 29]) (.lit (.cst (.type "str")))) [.names [30] (.ite (.var 28) (.lit (.cst (.ref 138))) (.lit (.cst (.ref 143)))),.ite (.callM (.var 30) 31 [.var 29] []) [.bad] [],.ret (some (.var 29))] [],.bad]:=rfl
theorem conv_run (h:ZQ s=true):cfX (n+1) 173 [x,.str s] [(28,.bool b)] σ=some (.str s,σ):=by
 let vars:Vars:= [(0,some x),(29,some (.str s)),(28,some (.bool b))]
 let a:Addr:=if b then 138 else 143
 have e1:evB (ev Γ (cfX n) 60) (.cmp .is_ (.call (.lit (.cst (.type "type"))) [.var 29]) (.lit (.cst (.type "str")))) vars σ=some (true,σ):=wj (xD (o_fn (zZ (zl rfl)) rfl) zO rfl)
 have e2:ev Γ (cfX n) 60 (.ite (.var 28) (.lit (.cst (.ref 138))) (.lit (.cst (.ref 143)))) vars σ=some (.cst (.ref a),σ):=by
  cases b with
  | true=>exact o_iteT (t_var (zl rfl)) zO
  | false=>exact zcp (t_var (zl rfl)) zO
 have m1:yA Γ (.cst (.ref a)) 31 σ=some (.search a):=by cases b <;>rfl
 have e3:evB (ev Γ (cfX n) 60) (.callM (.var 30) 31 [.var 29] []) (vars.set 30 (.cst (.ref a))) σ=some (false,σ):=by
  refine t_methN (xz (zl (zL _ _ _)) m1 (zZ (zl (v:= .str s) rfl)) xA ?_)
  show (if ZQ s then some (V.none,σ) else .none)=_
  rw [h];rfl
 have ee:exs Γ (cfX n) 60 60 yo.body vars σ=some (.ret (.str s),vars.set 30 (.cst (.ref a)),σ):=by
  rw [conv_body]
  exact wU (jd e1 (zE (xy e2) (zE (je e3 yV) (wU (qJ (zl rfl))))))
 exact c_retK (F:=yo) rfl rfl rfl ee
theorem low_let (h:c∈LET):xS Γ cf (.str [c] [108,111,119,101,114]) [] [] σ=some (.str [lowC c],σ):=by
 show (if ((Nat.blt c 128&&true)&&szOk 1)=true then some (V.str [lowC c],σ) else .none)=_
 rw [(qE c h).1.1];rfl
theorem up_let (h:c∈LET):xS Γ cf (.str [c] [117,112,112,101,114]) [] [] σ=some (.str [upC c],σ):=by
 show (if ((Nat.blt c 128&&true)&&szOk 1)=true then some (V.str [upC c],σ) else .none)=_
 rw [(qE c h).1.1];rfl
theorem m_low:yA Γ (.str s) 37 σ=some (.str s [108,111,119,101,114]):=rfl
theorem m_up:yA Γ (.str s) 69 σ=some (.str s [117,112,112,101,114]):=rfl
end
noncomputable def hdV (p:Nat×Nat):V:= .tup [.str [p.1],.str (yR (p.2:Int))]
noncomputable def tO (h:Nat):O:= .inst 274 [(24,.ref h)]
structure HT (t h:Nat) (L:List (Nat×Nat)) (σ:H):Prop where
 t:σ[t]? =some (tO h)
 h:σ[h]? =some (.list (L.map hdV))
 ok: ∀p∈L,p.1∈LET∧p.2≤100000000
 len:L.length≤100
theorem HT.ne {t h:Nat} {L:List (Nat×Nat)} {σ:H} (a:HT t h L σ):t≠h:=fun e=>by
 have h1:=a.t
 have h2:=a.h
 subst e
 rw [h1] at h2
 exact nomatch h2
noncomputable def LeX (h:Nat) (σ σ':H):Prop:= ∀(i:Nat) (o:O),i≠h→σ[i]? =some o→σ'[i]? =some o
theorem LeX.refl (h:Nat) (σ:H):LeX h σ σ:=fun ω ω ω e=>e
theorem LeX.trans {h:Nat} {σ σ' σ'':H} (a:LeX h σ σ') (b:LeX h σ' σ''):LeX h σ σ'':=fun i o hn e=>b i o hn (a i o hn e)
theorem LeX.of {h:Nat} {σ σ':H} (a:Le σ σ'):LeX h σ σ':=fun i o ω e=>a i o e
theorem LeX.set {h:Nat} (σ:H) (o:O):LeX h σ (σ.set h o):=fun i x hn e=>(xH (Ne.symm hn)).trans e
theorem HT.le {t h:Nat} {L:List (Nat×Nat)} {σ σ':H} (a:HT t h L σ) (l:Le σ σ'):HT t h L σ':=⟨l _ _ a.t,l _ _ a.h,a.ok,a.len⟩
section
variable {cf:Cf} {n t h:Nat} {vars:Vars} {σ:H} {L:List (Nat×Nat)} {c:Nat}
theorem XA {z:Nat} (T:HT t h L σ) (g:vars.get z=some (.ref t)):ev Γ cf (n+2) (.attr (.var z) 24) vars σ=some (.ref h,σ):=
 o_attr (zl g) (fields_ok Γ σ T.t rfl rfl rfl)
theorem Qj (T:HT t h L σ) {x f:Nat} (hm:xJ Γ 274 x=some f) (hx:(24==x)=false):yA Γ (.ref t) x σ=some (.fn f (.ref t)):=
 meth_ok Γ σ T.t (show (if (24==x)=true then some (V.ref h) else none)=none by rw [hx];rfl) hm
noncomputable def getV:List (Nat×Nat)→Nat→V→V
 | [],_,d=>d
 | p::r,c,d=>if Nat.beq (lowC p.1) (lowC c) then .str (yR (p.2:Int)) else getV r c d
end
noncomputable abbrev qN (b:Bool) (e:E):E:= .callM (.var 0) 27 [e] [(28,.lit (.bool b))]
noncomputable abbrev lowE (z:Nat):E:= .callM (.var z) 37 [] []
section
variable {cf:Cf} {n k t h:Nat} {vars:Vars} {σ σ₁:H} {L:List (Nat×Nat)} {c:Nat} {s:Txt} {b:Bool}
theorem XB {e:E} (T:HT t h L σ) (g0:vars.get 0=some (.ref t)) (he:ev Γ (cfX (k+1)) (n+1) e vars σ=some (.str s,σ)) (hs:ZQ s=true):ev Γ (cfX (k+1)) (n+2) (qN b e) vars σ=some (.str s,σ):=by
 have m1:yA Γ (.ref t) 27 σ=some (.fn 173 (.ref t)):=Qj T rfl rfl
 exact xz (zl g0) m1 (zZ he) (kw_one zO) ((qz Γ (cfX (k+1)) σ 173 _ _ _).trans (conv_run hs))
theorem o_low {z:Nat} (hc:c∈LET) (g:vars.get z=some (.str [c])):ev Γ cf (n+2) (lowE z) vars σ=some (.str [lowC c],σ):=xz (zl g) m_low wo xA (low_let hc)
theorem beq1 (a b:Nat):yW [a] [b]=Nat.beq a b:=zaA _
theorem get_hd {L:List (Nat×Nat)} {k:Nat} {v:V} (hv:(L.map hdV)[k]? =some v): ∃p,L[k]? =some p∧v=hdV p∧p∈L:=by
 rw [zA] at hv
 refine k12 (zc.mp hv) fun p hp e=>⟨p,hp,e.symm,zM hp⟩
theorem drop_at {α:Type} {L:List α} {k:Nat} {p:α} (h:L[k]? =some p):L.drop k=p::L.drop (k+1):=by
 obtain ⟨hk,e⟩:=zR.mp h
 rw [YS hk,e]
theorem get_body:wb.body= [.names [28] (qN true (lowE 28)),.for_ (.tup [.name 25,.name 26]) (.plain (.attr (.var 0) 24)) [.ite (.cmp .eq (lowE 25) (.var 28)) [.ret (some (.var 26))] []],.ret (some (.var 39))]:=rfl
theorem get_run {dv:V} (T:HT t h L σ) (hc:c∈LET) (v0:Vars) (hb:v0= [(0,some (.ref t)),(28,some (.str [c])),(39,some dv)]): ∃vars',exs Γ (cfX (k+1)) 60 60 wb.body v0 σ=some (.ret (getV L c dv),vars',σ):=by
 have lc:=qE c hc
 have e1:ex Γ (cfX (k+1)) 60 59 (.names [28] (qN true (lowE 28))) v0 σ=some (.next,v0.set 28 (.str [lowC c]),σ):=xy (XB (n:=58) T (by rw [hb];rfl) (o_low (n:=57) hc (by rw [hb];rfl)) lc.1.2.2.1)
 have it0:evIt (ev Γ (cfX (k+1)) 60) (.plain (.attr (.var 0) 24)) (v0.set 28 (.str [lowC c])) σ=some (.one (.ls h 0),σ):=jZ (XA (n:=58) T (by rw [hb];rfl)) T.h
 refine k32 (for_inv (Γ:=Γ) (cf:=cfX (k+1)) (fe:=60) (n:=57) (t:= .tup [.name 25,.name 26]) (b:= [.ite (.cmp .eq (lowE 25) (.var 28)) [.ret (some (.var 26))] []]) (itr:=fun j=> .one (.ls h j)) (xs:=L.map hdV) it0 rfl (by rw [zf];exact yx T.len (by decide))
  (I:=fun j vs τ=>τ=σ∧vs.get 28=some (.str [lowC c])∧vs.get 39=some dv∧getV L c dv=getV (L.drop j) c dv) (R:=fun w vs τ=>τ=σ∧w=getV L c dv) ⟨rfl,by rw [hb];rfl,by rw [hb];rfl,rfl⟩
  (fun j v vs τ hv I=>Yk (by rw [I.1];exact T.h) hv) (fun vs τ I=>Zk (by rw [I.1];exact T.h) (yj (zo _))) fun j v vs τ hv I=> ?_) fun fl vars' σ' e2 H=> ?_
 ·refine k13 (get_hd hv) fun p hp e hm=> ?_
  subst e
  obtain ⟨rfl,g28,g39,hd⟩:=I
  rw [drop_at hp] at hd
  have po:=qE p.1 (T.ok p hm).1
  refine ⟨(vs.set 25 (.str [p.1])).set 26 (.str (yR (p.2:Int))),rfl,?_⟩
  have et:evB (ev Γ (cfX (k+1)) 60) (.cmp .eq (lowE 25) (.var 28)) ((vs.set 25 (.str [p.1])).set 26 (.str (yR (p.2:Int)))) τ=some (Nat.beq (lowC p.1) (lowC c),τ):=
   wj (xD (o_low (n:=57) (c:=p.1) (T.ok p hm).1 (by exact gn rfl (zL _ _ _))) (zl (by exact gn rfl (gn rfl g28))) (Wp (x:= [lowC p.1]) (y:= [lowC c]) po.1.2.2.2.1 lc.1.2.2.2.1 (beq1 _ _)))
  have hd':getV L c dv=if Nat.beq (lowC p.1) (lowC c) then .str (yR (p.2:Int)) else getV (L.drop (j+1)) c dv:=hd
  cases q:Nat.beq (lowC p.1) (lowC c) with
  | true=>
   rw [q] at et hd'
   exact ⟨_,_,_,wU (jd et (wU (qJ (zl (zL _ _ _))))),.inr ⟨_,rfl,rfl,hd'.symm⟩⟩
  | false=>
   rw [q] at et hd'
   exact ⟨_,_,_,zE (je et yV) yV,.inl ⟨rfl,rfl,by exact gn rfl (gn rfl g28),by exact gn rfl (gn rfl g39),hd'⟩⟩
 ·rw [get_body]
  rcases H with ⟨q,rfl,_,g39,hd⟩ | ⟨w,q,rfl,hw⟩
  ·subst q
   rw [zf,XS] at hd
   rw [hd]
   exact ⟨_,zE e1 (zE e2 (wU (qJ (zl g39))))⟩
  ·subst q;subst hw
   exact ⟨_,zE e1 (wU e2)⟩
theorem get2 {dv:V} (T:HT t h L σ) (hc:c∈LET):cfX (k+2) 221 [.ref t,.str [c],dv] [] σ=some (getV L c dv,σ):=
 k11 (get_run (k:=k) (dv:=dv) T hc _ rfl) fun ω e=>jD (F:=wb) rfl rfl rfl e
theorem get1 (T:HT t h L σ) (hc:c∈LET):cfX (k+2) 221 [.ref t,.str [c]] [] σ=some (getV L c .none,σ):=
 k11 (get_run (k:=k) (dv:= .none) T hc _ rfl) fun ω e=>jD (F:=wb) rfl rfl rfl e
noncomputable def dL (L:List (Nat×Nat)) (c:Nat):List (Nat×Nat):=L.filter fun p=> !(Nat.beq (lowC p.1) (lowC c))
noncomputable def hdC (v:V):Nat:=match v with
 | .tup vs=>match vs with
  | []=>0
  | x::_=>match x with
   | .str s=>s.headD 0
   | _=>0
 | _=>0
noncomputable abbrev delC:E:= .cmp .ne (.callM (.sub (.var 36) (.lit (.int 0))) 37 [] []) (.var 28)
noncomputable abbrev delP:E:= .comp (.var 36) [.mk (.name 36) (.plain (.attr (.var 0) 24)) [delC]] [36]
theorem del_body:xR.body= [.names [28] (qN true (lowE 28)),.setAll (.attr (.var 0) 24) delP]:=rfl
theorem cmp_nes {x y:Txt} {σ:H} {b:Bool} (hx:okS x=true) (hy:okS y=true) (h:yW x y=b):wG Γ .ne (.str x) (.str y) σ=some (!b):=by
 have:=eq_str σ hx hy
 rw [h] at this
 show (eqV σ (.str x) (.str y)).map (fun ω=> !ω)=_
 rw [this];rfl
theorem dL_map (L:List (Nat×Nat)) (c:Nat):(L.map hdV).filter (fun v=> !(Nat.beq (lowC (hdC v)) (lowC c)))=(dL L c).map hdV:=by
 rw [wc];rfl
theorem HT.del (T:HT t h L σ) (hl:LeX h σ σ₁) (hh:σ₁[h]? =some (.list ((dL L c).map hdV))):HT t h (dL L c) σ₁:=
 ⟨hl _ _ T.ne T.t,hh,fun p hp=>T.ok p (yJ.mp hp).1,zm (yp _ _) T.len⟩
theorem del_run (T:HT t h L σ) (hc:c∈LET): ∃σ',cfX (k+2) 192 [.ref t,.str [c]] [] σ=some (.none,σ')∧HT t h (dL L c) σ'∧LeX h σ σ':=by
 have lc:=qE c hc
 let v0:Vars:= [(0,some (.ref t)),(28,some (.str [c]))]
 let v1:Vars:= [(0,some (.ref t)),(28,some (.str [lowC c]))]
 have e1:ex Γ (cfX (k+1)) 60 59 (.names [28] (qN true (lowE 28))) v0 σ=some (.next,v1,σ):=xy (XB (n:=58) T rfl (o_low (n:=57) hc rfl) lc.1.2.2.1)
 have it0:evIt (ev Γ (cfX (k+1)) 59) (.plain (.attr (.var 0) 24)) v1 σ=some (.one (.ls h 0),σ):=jZ (XA (n:=57) T rfl) T.h
 refine k12 (wd (Γ:=Γ) (cf:=cfX (k+1)) (n:=59) (t:= .name 36) (elt:= .var 36) (ifs:= [delC]) (own:= [36]) (itr:=fun j=> .one (.ls h j)) (xs:=L.map hdV) it0 rfl (by rw [zf];exact yx T.len (by decide)) (qW T.h)
  (fun vs=>vs.get 28=some (.str [lowC c])) (fun v vs=>vs.set 36 v) (fun v=> !(Nat.beq (lowC (hdC v)) (lowC c))) id (fun v ω σ vs=>rfl) (fun v ω vs h=>(yb rfl _ _).trans h) rfl fun v hv vs τ l P=>⟨τ,?_,.refl _,fun ω=>⟨τ,zl (zL _ _ _),.refl _⟩⟩) fun σ₁ e2 l1=> ?_
 ·refine k12 (zy.mp hv) fun p hm e=> ?_
  subst e
  have po:=qE p.1 (T.ok p hm).1
  exact qS (wj (xD (xz (n:=57) (yU (x:=hdV p) (zl (zL _ _ _)) zO rfl) m_low wo xA (low_let (T.ok p hm).1)) (zl ((yb rfl _ _).trans P)) (cmp_nes (x:= [lowC p.1]) (y:= [lowC c]) po.1.2.2.2.1 lc.1.2.2.2.1 (beq1 _ _))))
 ·rw [QT,dL_map] at e2
  have T1:=(T.le l1).le (.app σ₁ [O.list ((dL L c).map hdV)])
  have hl:(dL L c).length≤100:=zm (yp _ _) T.len
  have e3:=s_setAll (n:=57) e2 (XA (n:=58) (z:=0) T1 rfl) T1.h (zw _ _) (by rw [zf];lia)
  have hx:LeX h σ ((σ₁++ [O.list ((dL L c).map hdV)]).set h (O.list ((dL L c).map hdV))):=(LeX.of (l1.snoc _)).trans (.set _ _)
  refine ⟨_,zal (F:=xR) rfl rfl rfl (by rw [del_body];exact zE e1 (zE e3 yV)),T.del hx (wW T1.h),hx⟩
theorem HT.add (T:HT t h L σ) {v:Nat} {xs:List (Nat×Nat)} (hl:LeX h σ σ₁) (hx: ∀p∈xs,p∈L) (hxl:xs.length≤98) (hc:c∈LET) (hv:v≤100000000) (hh:σ₁[h]? =some (.list ((xs++ [(c,v)]).map hdV))):HT t h (xs++ [(c,v)]) σ₁:=by
 refine ⟨hl _ _ T.ne T.t,hh,fun p hp=> ?_,?_⟩
 ·rcases zt.mp hp with hp | hp
  ·exact T.ok p (hx p hp)
  ·cases zv.mp hp;exact ⟨hc,hv⟩
 ·rw [zd];exact zm (Nat.add_le_add_right hxl 1) (by decide)
noncomputable abbrev putE (a b:E):E:= .callM (.attr (.var 0) 24) 34 [.tup [a,b]] []
theorem o_put {a b:E} {s u:Txt} (T:HT t h L σ) (g0:vars.get 0=some (.ref t)) (ha:ev Γ cf (n+1) a vars σ=some (.str s,σ)) (hb:ev Γ cf (n+1) b vars σ=some (.str u,σ)):ev Γ cf (n+3) (putE a b) vars σ=some (.none,σ.set h (.list (L.map hdV++ [.tup [.str s,.str u]]))):=
 xz (XA (n:=n) T g0) (XW Γ σ T.h rfl) (zZ (qv (ya ha (zZ hb)) (by decide:2≤1000000))) xA (Xp Γ cf σ T.h (by have:=T.len;rw [zf];lia))
theorem setI_body:xQ.body= [.del (.var 0) (.var 28),.expr (putE (qN true (.var 28)) (qN false (.var 33)))]:=rfl
theorem set_run {v:Nat} (T:HT t h L σ) (hc:c∈LET) (hv:v≤100000000) (hl:L.length≤98): ∃σ',cfX (k+3) 187 [.ref t,.str [c],.str (yR (v:Int))] [] σ=some (.none,σ')∧HT t h (dL L c++ [(c,v)]) σ'∧LeX h σ σ':=by
 have lc:=qE c hc
 let v0:Vars:= [(0,some (.ref t)),(28,some (.str [c])),(33,some (.str (yR (v:Int))))]
 refine k13 (del_run (k:=k) T hc) fun σ₁ e1 T1 l1=> ?_
 have x1:ex Γ (cfX (k+2)) 60 59 (.del (.var 0) (.var 28)) v0 σ=some (.next,v0,σ₁):=s_del (zl rfl) (zl rfl) T.t rfl e1
 have x2:=o_put (cf:=cfX (k+2)) (n:=57) (vars:=v0) T1 rfl (XB (n:=56) (b:=true) T1 rfl (zl (i:=28) rfl) lc.1.2.1) (XB (n:=56) (b:=false) T1 rfl (zl (i:=33) rfl) (show_ctl v))
 have hx:=l1.trans (LeX.set σ₁ (O.list ((dL L c).map hdV++ [.tup [.str [c],.str (yR (v:Int))]])))
 refine ⟨_,zal (F:=xQ) rfl rfl rfl (by rw [setI_body];exact zE x1 (zE (jf x2) yV)),T.add hx (fun p hp=>(yJ.mp hp).1) (zm (yp _ _) hl) hc hv ((wW T1.h).trans (by rw [zX];rfl)),hx⟩
end
section
variable {cf:Cf} {n k t h:Nat} {vars:Vars} {σ σ₁:H} {L:List (Nat×Nat)} {c:Nat} {s:Txt} {b:Bool}
noncomputable def addB:List S:= [.names [25] (qN true (.var 25)),.ite (.cmp .is_ (.var 26) (.lit .none)) [.expr (.callM (.var 46) 34 [.callM (.var 25) 48 [.lit (.str [95]),.lit (.str [45])] []] [])] [.names [26] (qN false (.var 26)),.expr (.callM (.var 46) 34 [.call (.lit (.cst (.ref 151))) [.callM (.var 25) 48 [.lit (.str [95]),.lit (.str [45])] [],.var 26]] [])]]
noncomputable abbrev semiE:E:= .callM (.lit (.str [59,32])) 47 [.var 46] []
theorem add_body:xL.body= [.names [46] (.list []),.ite (.cmp .isNot (.var 44) (.lit .none)) [.names [44] (qN false (.var 44)),.expr (.callM (.var 46) 34 [.var 44] [])] [],.for_ (.tup [.name 25,.name 26]) (.items (.var 45)) addB,.expr (putE (qN true (.var 43)) semiE)]:=rfl
theorem semi_one {q:Nat} (hq:σ[q]? =some (.list [.str [48]])) (g:vars.get 46=some (.ref q)):ev Γ cf (n+2) semiE vars σ=some (.str [48],σ):=by
 have m1:yA Γ (.str [59,32]) 47 σ=some (.str [59,32] [106,111,105,110]):=rfl
 refine xz zO m1 (zZ (zl g)) xA ?_
 show ((yn σ (.ref q)).bind fun xs=>(qB xs).bind fun l=>if jK [59,32] l then some (V.str (tsT (PySem.Txt.join (stT [59,32]) (l.map stT))),σ) else .none)=_
 rw [yk _ hq,zF]
 rfl
theorem add_run (T:HT t h L σ) (hc:c∈LET) (hl:L.length≤98): ∃σ',cfX (k+2) 271 [.ref t,.str [c],.str [48]] [] σ=some (.none,σ')∧HT t h (L++ [(c,0)]) σ'∧LeX h σ σ':=by
 have lc:=qE c hc
 let q:=σ.length
 let v0:Vars:= [(0,some (.ref t)),(43,some (.str [c])),(44,some (.str [48])),(45,some .emp)]
 let v1:Vars:= [(0,some (.ref t)),(43,some (.str [c])),(44,some (.str [48])),(45,some .emp),(46,some (.ref q))]
 let σ1:H:=σ++ [O.list []]
 let σ2:H:=σ1.set q (O.list [.str [48]])
 have l1:Le σ σ1:= .app _ _
 have l2:Le σ σ2:=l1.set (zo _) _
 have h1:σ1[q]? =some (O.list []):=zw _ _
 have h2:σ2[q]? =some (O.list [.str [48]]):=wW h1
 have T2:=T.le l2
 have e1:ex Γ (cfX (k+1)) 60 59 (.names [46] (.list [])) v0 σ=some (.next,v1,σ1):=xy (xm wo (by decide))
 have et:evB (ev Γ (cfX (k+1)) 60) (.cmp .isNot (.var 44) (.lit .none)) v1 σ1=some (true,σ1):=wj (xD (zl (i:=44) rfl) zO rfl)
 have e2:ex Γ (cfX (k+1)) 60 58 (.ite (.cmp .isNot (.var 44) (.lit .none)) [.names [44] (qN false (.var 44)),.expr (.callM (.var 46) 34 [.var 44] [])] []) v1 σ1=some (.next,v1,σ2):=
  jd et (zE (vars₁:=v1) (xy (XB (n:=58) (T.le l1) rfl (zl (i:=44) rfl) (by decide+kernel))) (zE (jf (jg (n:=58) (xs:= []) (v:= .str [48]) rfl h1 (zl rfl) h1 (by decide:0 < 1000000))) yV))
 refine k22 (qx (Γ:=Γ) (cf:=cfX (k+1)) (fe:=60) (n:=56) (t:= .tup [.name 25,.name 26]) (iter:= .items (.var 45)) (b:=addB) (vars:=v1) (σ:=σ2) (σb:=σ2) (itr:=fun ω=> .nil) (xs:= []) rfl rfl (by decide:0 < 1999) (I:=fun ω vs τ=>vs=v1∧τ=σ2) ⟨rfl,rfl⟩
  (fun j v vs τ hv I=>ns hv) (fun vs τ I=>rfl) (fun j v vs τ hv I=>ns hv)) fun vars' σ' e3 I=> ?_
 obtain ⟨rfl,rfl⟩:=I
 have e4:=o_put (cf:=cfX (k+1)) (n:=57) (vars:=v1) T2 rfl (XB (n:=56) (b:=true) T2 rfl (zl (i:=43) rfl) lc.1.2.1) (semi_one (n:=56) h2 rfl)
 have hx:=(LeX.of (h:=h) l2).trans (LeX.set σ2 (O.list (L.map hdV++ [.tup [.str [c],.str [48]]])))
 refine ⟨_,zal (F:=xL) rfl rfl rfl (by rw [add_body];exact zE e1 (zE e2 (zE e3 (zE (jf e4) yV)))),T.add hx (fun p hp=>hp) hl hc (zK _) ((wW T2.h).trans ?_),hx⟩
 rw [zX]
 show _=some (O.list (L.map hdV++ [V.tup [.str [c],.str (yR ((0:Nat):Int))]]))
 rw [show_zero]
noncomputable def keyV (p:Nat×Nat):V:= .str [p.1]
noncomputable def tupL (v:V):List V:=match v with
 | .tup vs=>vs
 | _=> []
theorem zbm (T:HT t h L σ): ∃r σ',cfX (k+1) 226 [.ref t] [] σ=some (.ref r,σ')∧σ'[r]? =some (.list (L.map keyV))∧Le σ σ':=by
 have it0:evIt (ev Γ (cfX k) 59) (.plain (.attr (.var 0) 24)) [(0,some (.ref t))] σ=some (.one (.ls h 0),σ):=jZ (XA (n:=57) T rfl) T.h
 refine k12 (wd (Γ:=Γ) (cf:=cfX k) (n:=59) (t:= .tup [.name 25,.name 26]) (elt:= .var 25) (ifs:= []) (own:= [25,26]) (itr:=fun j=> .one (.ls h j)) (xs:=L.map hdV) it0 rfl (by rw [zf];exact yx T.len (by decide)) (qW T.h)
  (fun vs=>True) (fun v vs=>(vs.set 25 ((tupL v).getD 0 .none)).set 26 ((tupL v).getD 1 .none)) (fun ω=>true) (fun v=>(tupL v).getD 0 .none) (fun v hv σ vs=> ?_) (fun v ω vs h=>trivial) trivial fun v hv vs τ l P=>⟨τ,rfl,.refl _,fun ω=>⟨τ,zl (by exact gn rfl (zL _ _ _)),.refl _⟩⟩) fun σ₁ e2 l1=> ?_
 ·refine k12 (zy.mp hv) fun p hm e=> ?_
  subst e
  rfl
 ·have ee:exs Γ (cfX k) 60 60 wY.body [(0,some (.ref t))] σ=_:=wU (ss:= []) (qJ e2)
  refine ⟨_,_,jD (F:=wY) rfl rfl rfl ee,?_,l1.snoc _⟩
  rw [zw,xB _ fun ω=>rfl,yy];rfl
theorem cut_one (x:V):qy [x] .none .none .none= [x]:=by kernel_rfl
theorem items_run {p:Nat×Nat} (T:HT t h [p] σ):cfX (k+1) 238 [.ref t] [] σ=some (.ref σ.length,σ++ [O.list [hdV p]]):=by
 have e1:ev Γ (cfX k) 60 (.slice (.attr (.var 0) 24) .none .none .none) [(0,some (.ref t))] σ=some (.ref σ.length,σ++ [O.list [hdV p]]):=by
  refine qX (XA (n:=57) T rfl) (rfl:_=some (V.none,σ)) (rfl:_=some (V.none,σ)) (rfl:_=some (V.none,σ)) ?_
  have hh:σ[h]? =some (O.list [hdV p]):=T.h
  show (match σ[h]? with
  | some (.list xs)=>mkL (qy xs .none .none .none) σ
  | _=> .none)=_
  rw [hh]
  show mkL (qy [hdV p] .none .none .none) σ=_
  rw [cut_one]
  exact jI σ (vs:= [hdV p]) (by decide:1≤1000000)
 exact jD (F:=qH) rfl rfl rfl (wU (ss:= []) (qJ e1))
theorem zcJ:wv.body= [.names [23] (.ite (.cmp .isNot (.var 23) (.lit .none)) (.var 23) (.list [])),.ite (.cmp .isNot (.call (.lit (.cst (.type "type"))) [.var 23]) (.lit (.cst (.type "list")))) [.bad] [],.setAttr (.var 0) 24 (.var 23),
  .ite (.lit (.bool true)) [.for_ (.tup [.name 25,.name 26]) (.plain (.var 23)) [.expr (qN true (.var 25)),.expr (qN false (.var 26))]] []]:=rfl
theorem new_run: ∃σ',jC Γ (cfX (k+1)) (.cst (.ref 274)) [] σ=some (.ref σ.length,σ')∧HT σ.length (σ.length+1) [] σ'∧Le σ σ':=by
 let t:=σ.length
 let σ0:H:=σ++ [O.inst 274 []]
 let h:=σ0.length
 let σ1:H:=σ0++ [O.list []]
 let σ2:H:=σ1.set t (tO h)
 let v0:Vars:= [(0,some (.ref t)),(23,some .none)]
 let v1:Vars:= [(0,some (.ref t)),(23,some (.ref h))]
 have hh:h=t+1:=zd ..
 have ht:σ1[t]? =some (O.inst 274 []):=yf _ _ (zw _ _)
 have h1:σ1[h]? =some (O.list []):=zw _ _
 have h2:σ2[h]? =some (O.list []):=Wl (by lia) h1
 have l2:Le σ σ2:=((Le.app σ _).trans (.app _ _)).set (zo _) _
 have e1:ex Γ (cfX k) 60 59 (.names [23] (.ite (.cmp .isNot (.var 23) (.lit .none)) (.var 23) (.list []))) v0 σ0=some (.next,v1,σ1):=
  xy (zcp (wj (xD (zl (i:=23) rfl) zO rfl)) (xm wo (by decide)))
 have ety:builtin (.type "type") [.ref h] σ1=some (.cst (.type "list"),σ1):=by
  show (match σ1[h]? with
   | some (.list _)=>some (V.cst (.type "list"),σ1)
   | _=> .none)=_
  rw [h1]
 have e2:ex Γ (cfX k) 60 58 (.ite (.cmp .isNot (.call (.lit (.cst (.type "type"))) [.var 23]) (.lit (.cst (.type "list")))) [.bad] []) v1 σ1=some (.next,v1,σ1):=
  je (wj (xD (o_fn (zZ (zl (i:=23) rfl)) ety) zO rfl)) yV
 have e3:ex Γ (cfX k) 60 57 (.setAttr (.var 0) 24 (.var 23)) v1 σ1=some (.next,v1,σ2):=s_setAttr (v:= .ref h) (zl rfl) (zl rfl) ht rfl
 refine k22 (qx (Γ:=Γ) (cf:=cfX k) (fe:=60) (n:=54) (t:= .tup [.name 25,.name 26]) (b:= [.expr (qN true (.var 25)),.expr (qN false (.var 26))]) (itr:=fun j=> .one (.ls h j)) (xs:= []) (jZ (zl (i:=23) (vars:=v1) (σ:=σ2) rfl) h2) rfl (by decide:0 < 1999) (I:=fun ω vs τ=>vs=v1∧τ=σ2) ⟨rfl,rfl⟩
  (fun j v vs τ hv I=>ns hv) (fun vs τ I=>Zk (xs:= []) (by rw [I.2];exact h2) rfl) (fun j v vs τ hv I=>ns hv)) fun vars' σ' e4 I=> ?_
 obtain ⟨rfl,rfl⟩:=I
 have ec:cfX (k+1) 166 [.ref t] [] σ0=some (.none,σ2):=zal (F:=wv) rfl rfl rfl (by rw [zcJ];exact zE e1 (zE e2 (zE e3 (zE (jd (t_lit zO) (zE e4 yV)) yV))))
 refine ⟨σ2,?_,⟨by rw [←hh];exact wW ht,by rw [←hh];exact h2,fun p hp=>absurd hp yu,zK _⟩,l2⟩
 show newI 274 σ (cfX (k+1) 166 [.ref t] [] σ0)=_
 rw [ec];rfl
end
noncomputable def chV (c:Nat):V:= .str [c]
noncomputable def nmE:E:= .comp (.var 28) [.mk (.name 28) (.plain (.var 78)) [.and (.cmp .ne (.var 79) (.list [.lit (.int 22)])) (.not (.callM (.var 28) 81 [] []))]] [28]
noncomputable def othE:E:= .call (.lit (.cst (.type "int"))) [.ite (.callM (.sub (.var 78) (.lit (.int 1))) 81 [] []) (.sub (.var 78) (.lit (.int 1))) (.callM (.var 75) 40 [.sub (.var 78) (.lit (.int 1))] [])]
noncomputable def valE:E:= .call (.lit (.cst (.type "str"))) [.call (.lit (.cst (.ref 312))) [.sub (.var 79) (.lit (.int 0)),.call (.lit (.cst (.type "int"))) [.callM (.var 75) 40 [.sub (.var 78) (.lit (.int 0)),.lit (.str [48])] []],.var 19]]
noncomputable def opB:List S:= [.for_ (.name 28) (.plain nmE) [.expr (.callM (.var 75) 49 [.callM (.var 28) 69 [] [],.lit (.str [48])] [])],.names [19] othE,.setSub (.var 75) (.sub (.var 78) (.lit (.int 0))) valE,
 .names [77] (.and (.var 77) (.cmp .eq (.sub (.callM (.var 75) 41 [] []) (.neg (.lit (.int 1)))) (.sub (.var 78) (.lit (.int 0)))))]
noncomputable def doS:S:= .ite (.cmp .eq (.var 79) (.list [.lit (.int 31)])) [.del (.var 75) (.sub (.var 78) (.lit (.int 0)))] [.ite (.cmp .ne (.var 79) (.list [])) opB []]
noncomputable def stdE:E:= .callM (.callM (.lit (.str [])) 47 [.callM (.var 75) 41 [] []] []) 37 [] []
noncomputable def mostE:E:= .call (.lit (.cst (.builtin "max"))) [.var 76,.call (.lit (.cst (.builtin "len"))) [.comp (.var 28) [.mk (.name 28) (.plain (.lit (.str [97,98,99,100,101,102]))) [.cmp .isIn (.var 28) (.var 80)]] [28]]]
noncomputable def endB:List S:= [doS,.names [80] stdE,.names [76] mostE,.unpack [.name 78,.name 79] (.tup [.list [],.list []])]
noncomputable def nonS:S:= .ite (.call (.lit (.cst (.ref 121))) [.var 74]) [.expr (.callM (.var 78) 34 [.sub (.lit (.str D22)) (.bin .sub (.var 74) (.lit (.int 256)))] [])] []
noncomputable def endS:S:= .ite (.or (.cmp .eq (.var 74) (.lit (.int 13))) (.call (.lit (.cst (.ref 128))) [.var 74])) endB [.ite (.call (.lit (.cst (.ref 114))) [.var 74]) [.expr (.callM (.var 79) 34 [.var 74] [])] []]
theorem run_body:Yt.body= [.unpack [.name 75,.name 76,.name 77,.name 78,.name 79] (.tup [.call (.lit (.cst (.ref 274))) [],.lit (.int 0),.lit (.bool true),.list [],.list []]),.for_ (.name 74) (.plain (.var 70)) [nonS,endS],
 .ret (some (.tup [.callM (.var 75) 42 [] [],.var 76,.var 77]))]:=rfl
structure St where
 L:List (Nat×Nat)
 most:Nat
 names:List Nat
 signs:List Nat
structure RInv (t h sy:Nat) (syms:List Nat) (σ₀:H) (s:St) (vars:Vars) (σ:H):Prop where
 le:Le σ₀ σ
 T:HT t h s.L σ
 h0:σ₀.length≤h
 hsy:σ₀[sy]? =some (.list (zx syms))
 g70:vars.get 70=some (.ref sy)
 g75:vars.get 75=some (.ref t)
 g76:vars.get 76=some (natV s.most)
 g77:vars.get 77=some (.bool true)
 lists: ∃nm sn,vars.get 78=some (.ref nm)∧vars.get 79=some (.ref sn)∧σ[nm]? =some (.list (s.names.map chV))∧σ[sn]? =some (.list (zx s.signs))∧h≠nm∧h≠sn∧nm≠sn∧σ₀.length≤nm∧σ₀.length≤sn
 small:s.names.length≤10∧s.signs.length≤10∧s.most≤6
section
variable {n k t h sy y:Nat} {syms:List Nat} {σ₀ σ:H} {s:St} {vars:Vars}
theorem c121 {m:Nat} {τ:H} (y:Nat):cfX (m+1) 121 [natV y] [] τ=some (.bool (decide (256≤(y:Int))),τ):=by
 have e:ev Γ (cfX m) 60 (.cmp .ge (.var 22) (.lit (.int 256))) [(22,some (natV y))] τ=some (.bool (decide (256≤(y:Int))),τ):=xD (zl rfl) zO (cmp_ge ..)
 exact jD (F:=qG) rfl rfl rfl (wU (ss:= []) (qJ e))
theorem c114 {m:Nat} {τ:H} (y:Nat):cfX (m+1) 114 [natV y] [] τ=some (.bool (decide ((y:Int) < 256)),τ):=by
 have e:ev Γ (cfX m) 60 (.cmp .lt (.var 22) (.lit (.int 256))) [(22,some (natV y))] τ=some (.bool (decide ((y:Int) < 256)),τ):=xD (zl rfl) zO (zc1 ..)
 exact jD (F:=Zw) rfl rfl rfl (wU (ss:= []) (qJ e))
theorem c128 {m:Nat} {τ:H} (y:Nat):cfX (m+1) 128 [natV y] [] τ=some (.bool ((y:Int)==0),τ):=by
 have e:ev Γ (cfX m) 60 (.cmp .eq (.var 22) (.lit (.int 0))) [(22,some (natV y))] τ=some (.bool ((y:Int)==0),τ):=xD (zl rfl) zO rfl
 exact jD (F:=zav) rfl rfl rfl (wU (ss:= []) (qJ e))
theorem t_end {m:Nat} {τ:H} (g:vars.get 74=some (natV y)):evB (ev Γ (cfX (m+1)) 60) (.or (.cmp .eq (.var 74) (.lit (.int 13))) (.call (.lit (.cst (.ref 128))) [.var 74])) vars τ=some (((y:Int)==13) || ((y:Int)==0),τ):=
 t_or (wj (xD (zl g) zO rfl)) (fun ω=>zb4 (o_fn (zZ (zl g)) (c128 (m:=m) y))) fun ω=>rfl
theorem t_non {m:Nat} {τ:H} (g:vars.get 74=some (natV y)):evB (ev Γ (cfX (m+1)) 60) (.call (.lit (.cst (.ref 121))) [.var 74]) vars τ=some (decide (256≤(y:Int)),τ):=zb4 (o_fn (zZ (zl g)) (c121 (m:=m) y))
theorem t_ter {m:Nat} {τ:H} (g:vars.get 74=some (natV y)):evB (ev Γ (cfX (m+1)) 60) (.call (.lit (.cst (.ref 114))) [.var 74]) vars τ=some (decide ((y:Int) < 256),τ):=zb4 (o_fn (zZ (zl g)) (c114 (m:=m) y))
theorem run_name {i c:Nat} (I:RInv t h sy syms σ₀ s vars σ) (hc:D22[i]? =some c) (hy:y=256+i) (hl:s.names.length≤9): ∃vars' σ',exs Γ (cfX (n+1)) 60 57 [nonS,endS] (vars.set 74 (natV y)) σ=some (.next,vars',σ')∧RInv t h sy syms σ₀ {s with names:=s.names++ [c]} vars' σ':=by
 obtain ⟨nm,sn,g78,g79,hn,hs,d1,d2,d3,b1,b2⟩:=I.lists
 have hi:i < 22:=zV hc
 generalize hv:vars.set 74 (natV y)=vs
 have g74:vs.get 74=some (natV y):=by rw [←hv];exact zL _ _ _
 have up: ∀ {x:Nat} {u:V},(x==74)=false→vars.get x=some u→vs.get x=some u:=fun h1 h=>by rw [←hv,yb (by rw [zaz];exact h1)];exact h
 have t1:evB (ev Γ (cfX (n+1)) 60) (.call (.lit (.cst (.ref 121))) [.var 74]) vs σ=some (true,σ):=(t_non g74).trans (by rw [decide_eq_true (by lia)])
 have e0:ev Γ (cfX (n+1)) 58 (.bin .sub (.var 74) (.lit (.int 256))) vs σ=some (natV i,σ):=qK (zl g74) zO ((zan σ (y:Int) 256).trans (by rw [show (y:Int) - 256=(i:Int) by lia,mkN (by lia)];rfl))
 have e1:=jg (n:=58) (up rfl g78) hn (yU zO e0 (Wj hc (by decide:22≤1000000))) hn (by rw [zf];lia)
 have t2:evB (ev Γ (cfX (n+1)) 60) (.or (.cmp .eq (.var 74) (.lit (.int 13))) (.call (.lit (.cst (.ref 128))) [.var 74])) vs (σ.set nm (O.list (s.names.map chV++ [.str [c]])))=some (false,σ.set nm (O.list (s.names.map chV++ [.str [c]]))):=
  (t_end g74).trans (by rw [beq_eq_false_iff_ne.mpr (show (y:Int)≠13 by lia),beq_eq_false_iff_ne.mpr (show (y:Int)≠0 by lia)];rfl)
 have t3:evB (ev Γ (cfX (n+1)) 60) (.call (.lit (.cst (.ref 114))) [.var 74]) vs (σ.set nm (O.list (s.names.map chV++ [.str [c]])))=some (false,σ.set nm (O.list (s.names.map chV++ [.str [c]]))):=(t_ter g74).trans (by rw [decide_eq_false (by lia)])
 have hx:LeX nm σ (σ.set nm (O.list (s.names.map chV++ [.str [c]]))):=LeX.set _ _
 have tn:t≠nm:=fun e=>by
  have:=I.T.t
  rw [e,hn] at this
  exact nomatch this
 refine ⟨vs,_,zE (jd t1 (zE (jf e1) yV)) (zE (je t2 (zE (je t3 yV) yV)) yV),I.le.set b1 _,⟨hx _ _ tn I.T.t,hx _ _ d1 I.T.h,I.T.ok,I.T.len⟩,I.h0,I.hsy,up rfl I.g70,up rfl I.g75,up rfl I.g76,up rfl I.g77,⟨nm,sn,up rfl g78,up rfl g79,?_,hx _ _ (Ne.symm d3) hs,d1,d2,d3,b1,b2⟩,?_,I.small.2⟩
 ·rw [wW hn,zX];rfl
 ·show (s.names++ [c]).length≤10
  rw [zd];exact xc hl
theorem run_sign (I:RInv t h sy syms σ₀ s vars σ) (hy:y < 256) (h13:y≠13) (h00:y≠0) (hl:s.signs.length≤9): ∃vars' σ',exs Γ (cfX (n+1)) 60 57 [nonS,endS] (vars.set 74 (natV y)) σ=some (.next,vars',σ')∧RInv t h sy syms σ₀ {s with signs:=s.signs++ [y]} vars' σ':=by
 obtain ⟨nm,sn,g78,g79,hn,hs,d1,d2,d3,b1,b2⟩:=I.lists
 generalize hv:vars.set 74 (natV y)=vs
 have g74:vs.get 74=some (natV y):=by rw [←hv];exact zL _ _ _
 have up: ∀ {x:Nat} {u:V},(x==74)=false→vars.get x=some u→vs.get x=some u:=fun h1 h=>by rw [←hv,yb (by rw [zaz];exact h1)];exact h
 have t1:evB (ev Γ (cfX (n+1)) 60) (.call (.lit (.cst (.ref 121))) [.var 74]) vs σ=some (false,σ):=(t_non g74).trans (by rw [decide_eq_false (by lia)])
 have t2:evB (ev Γ (cfX (n+1)) 60) (.or (.cmp .eq (.var 74) (.lit (.int 13))) (.call (.lit (.cst (.ref 128))) [.var 74])) vs σ=some (false,σ):=
  (t_end g74).trans (by rw [beq_eq_false_iff_ne.mpr (show (y:Int)≠13 by lia),beq_eq_false_iff_ne.mpr (show (y:Int)≠0 by lia)];rfl)
 have t3:evB (ev Γ (cfX (n+1)) 60) (.call (.lit (.cst (.ref 114))) [.var 74]) vs σ=some (true,σ):=(t_ter g74).trans (by rw [decide_eq_true (by lia)])
 have e1:=jg (cf:=cfX (n+1)) (n:=58) (up rfl g79) hs (zl g74) hs (by rw [yM];lia)
 have hx:LeX sn σ (σ.set sn (O.list (zx s.signs++ [natV y]))):=LeX.set _ _
 have tn:t≠sn:=fun e=>by
  have:=I.T.t
  rw [e,hs] at this
  exact nomatch this
 refine ⟨vs,_,zE (je t1 yV) (zE (je t2 (zE (jd t3 (zE (jf e1) yV)) yV)) yV),I.le.set b2 _,⟨hx _ _ tn I.T.t,hx _ _ d2 I.T.h,I.T.ok,I.T.len⟩,I.h0,I.hsy,up rfl I.g70,up rfl I.g75,up rfl I.g76,up rfl I.g77,⟨nm,sn,up rfl g78,up rfl g79,hx _ _ d3 hn,?_,d1,d2,d3,b1,b2⟩,I.small.1,?_,I.small.2.2⟩
 ·rw [wW hs,wu];rfl
 ·show (s.signs++ [y]).length≤10
  rw [zd];exact xc hl
end
noncomputable def lEq (a b:List Nat):Bool:=eqDs (zx a) (zx b)
theorem zbl (x y:Nat) (a b:List Nat):lEq (x::a) (y::b)=(((x:Int)==(y:Int))&&lEq a b):=rfl
theorem zbk: ∀a:List Nat,lEq a a=true
 | []=>rfl
 | x::a=>by rw [zbl,zbk a,zaA];exact beq_self_eq_true _
theorem Jp (σ:H) (n:Nat): ∀a:List Nat,mapO (flat σ (n+1)) (zx a)=some (zx a)
 | []=>rfl
 | x::a=>by
  show (match mapO (flat σ (n+1)) (zx a) with
   | some ys=>some (V.int (x:Int)::ys)
   | .none=> .none)=_
  rw [Jp σ n a];rfl
theorem zbx {σ:H} {i n:Nat} {a:List Nat} (h:σ[i]? =some (.list (zx a))):flat σ (n+2) (.ref i)=some (.flist (zx a)):=by
 show (match σ[i]? with
   | some (.list vs)=>match mapO (flat σ (n+1)) vs with
    | some ds=>some (V.flist ds)
    | .none=> .none
   | _=> .none)=_
 rw [h];dsimp only;rw [Jp]
theorem zbC {σ:H} {i j:Nat} {a b:List Nat} (h:σ[i]? =some (.list (zx a))) (h':σ[j]? =some (.list (zx b))):eqV σ (.ref i) (.ref j)=some (lEq a b):=by
 unfold eqV
 rw [zbx (n:=10) h];dsimp only;rw [zbx (n:=10) h'];rfl
theorem zaj {σ:H} {i j:Nat} {a b:List Nat} (h:σ[i]? =some (.list (zx a))) (h':σ[j]? =some (.list (zx b))):wG Γ .eq (.ref i) (.ref j) σ=some (lEq a b):=zbC h h'
theorem cmp_nen {σ:H} {i j:Nat} {a b:List Nat} (h:σ[i]? =some (.list (zx a))) (h':σ[j]? =some (.list (zx b))):wG Γ .ne (.ref i) (.ref j) σ=some (!(lEq a b)):=by
 show (eqV σ (.ref i) (.ref j)).map (fun ω=> !ω)=_
 rw [zbC h h'];rfl
noncomputable def valL:List (Nat×Nat)→Nat→Option Nat
 | [],_=>none
 | p::r,c=>if Nat.beq (lowC p.1) (lowC c) then some p.2 else valL r c
theorem XJ {c w:Nat} {d:V} : ∀ {L:List (Nat×Nat)},valL L c=some w→getV L c d= .str (yR (w:Int))
 | [],h=>ns h
 | p::r,h=>by
  have e:valL (p::r) c=if Nat.beq (lowC p.1) (lowC c) then some p.2 else valL r c:=rfl
  show (if Nat.beq (lowC p.1) (lowC c) then V.str (yR (p.2:Int)) else getV r c d)=_
  rw [e] at h
  cases q:Nat.beq (lowC p.1) (lowC c) with
  | true=>rw [q] at h;cases za h;rfl
  | false=>rw [q] at h;exact XJ (L:=r) h
theorem Jm {c:Nat} {d:V} : ∀ {L:List (Nat×Nat)},valL L c=none→getV L c d=d
 | [],h=>rfl
 | p::r,h=>by
  have e:valL (p::r) c=if Nat.beq (lowC p.1) (lowC c) then some p.2 else valL r c:=rfl
  show (if Nat.beq (lowC p.1) (lowC c) then V.str (yR (p.2:Int)) else getV r c d)=_
  rw [e] at h
  cases q:Nat.beq (lowC p.1) (lowC c) with
  | true=>rw [q] at h;exact sn h
  | false=>rw [q] at h;exact Jm (L:=r) h
theorem zaE {c w:Nat} : ∀ {L:List (Nat×Nat)},valL L c=some w→ ∃p∈L,p.2=w
 | [],h=>ns h
 | p::r,h=>by
  have e:valL (p::r) c=if Nat.beq (lowC p.1) (lowC c) then some p.2 else valL r c:=rfl
  rw [e] at h
  cases q:Nat.beq (lowC p.1) (lowC c) with
  | true=>rw [q] at h;exact ⟨p,.head _,za h⟩
  | false=>rw [q] at h;exact k12 (zaE (L:=r) h) fun p hp e=>⟨p,.tail _ hp,e⟩
theorem zcV: ∀c∈D22,PySem.Txt.isdigit (stT [c])=Nat.ble c 57∧(Nat.ble c 57=true∨c∈LET):=by decide+kernel
theorem Wm: ∀c∈LET,c∈D22∧Nat.ble c 57=false:=by decide+kernel
theorem QA: ∀d < 10,Xb [48+d]=some (d:Int)∧48+d∈D22∧Nat.ble (48+d) 57=true:=by decide+kernel
noncomputable def wz (s:Nat) (names:List Nat):List Nat:=if s==22 then [] else names.filter fun c=> !(Nat.ble c 57)
noncomputable def zer (A:List Nat):List (Nat×Nat):=A.map fun c=>(upC c,0)
section
variable {cf:Cf} {n k t h nm sn s c c0 c1:Nat} {σ σ₁:H} {L:List (Nat×Nat)} {vars:Vars} {A:List Nat}
theorem o_int {e:E} {w:Nat} {z:Txt} (he:ev Γ cf (n+1) e vars σ=some (.str z,σ₁)) (hr:Xb z=some (w:Int)):ev Γ cf (n+2) (.call (.lit (.cst (.type "int"))) [e]) vars σ=some (natV w,σ₁):=by
 refine o_fn (zZ he) ((qi Γ _ _ "int" _).trans ?_)
 show (Xb z).map (fun i=>(V.int i,σ₁))=_
 rw [hr];rfl
theorem o_dig {z:Nat} (hc:c∈D22) (he:ev Γ cf (n+1) (.sub (.var 78) (.lit (.int (z:Int)))) vars σ=some (.str [c],σ)):ev Γ cf (n+2) (.callM (.sub (.var 78) (.lit (.int (z:Int)))) 81 [] []) vars σ=some (.bool (Nat.ble c 57),σ):=by
 have m1:yA Γ (.str [c]) 81 σ=some (.str [c] [105,115,100,105,103,105,116]):=rfl
 refine xz he m1 wo xA ?_
 show some (V.bool (PySem.Txt.isdigit (stT [c])),σ)=_
 rw [(zcV c hc).1]
theorem ev_names {names:List Nat} (hn:σ[nm]? =some (.list (names.map chV))) (hs:σ[sn]? =some (.list (zx [s]))) (g78:vars.get 78=some (.ref nm)) (g79:vars.get 79=some (.ref sn)) (hd: ∀c∈names,c∈D22) (hl:names.length≤10):
  ∃σ',ev Γ cf 60 nmE vars σ=some (.ref σ'.length,σ'++ [O.list ((wz s names).map chV)])∧Le σ σ':=by
 refine k12 (wd (Γ:=Γ) (cf:=cf) (n:=59) (t:= .name 28) (iter:= .plain (.var 78)) (elt:= .var 28) (ifs:= [.and (.cmp .ne (.var 79) (.list [.lit (.int 22)])) (.not (.callM (.var 28) 81 [] []))]) (own:= [28]) (itr:=fun j=> .one (.ls nm j)) (xs:=names.map chV) (jZ (zl g78) hn) rfl (by rw [zf];lia) (qW hn)
  (fun vs=>vs.get 79=some (.ref sn)) (fun v vs=>vs.set 28 v) (fun v=> !(lEq [s] [22])&& !(Nat.ble (hdC (.tup [v])) 57)) id (fun v ω σ vs=>rfl) (fun v ω vs h=>(yb rfl _ _).trans h) g79 fun v hv vs τ l P=> ?_) fun σ₁ e l1=> ?_
 ·refine k12 (zy.mp hv) fun c hm e=> ?_
  subst e
  have hs':=l _ _ hs
  have m1:yA Γ (.str [c]) 81 (τ++ [O.list (zx [22])])=some (.str [c] [105,115,100,105,103,105,116]):=rfl
  have e1:evB (ev Γ cf 59) (.cmp .ne (.var 79) (.list [.lit (.int 22)])) (vs.set 28 (chV c)) τ=some (!(lEq [s] [22]),τ++ [O.list (zx [22])]):=
   wj (xD (zl ((yb rfl _ _).trans P)) (xm (zZ zO) (by decide:1≤1000000)) (cmp_nen (yf _ _ hs') (zw _ _)))
  have e2:evB (ev Γ cf 59) (.not (.callM (.var 28) 81 [] [])) (vs.set 28 (chV c)) (τ++ [O.list (zx [22])])=some (!(Nat.ble c 57),τ++ [O.list (zx [22])]):=by
   refine t_not (JF (xz (n:=58) (zl (zL _ _ _)) m1 wo xA ?_))
   show some (V.bool (PySem.Txt.isdigit (stT [c])),_)=_
   rw [(zcV c (hd c hm)).1]
  exact ⟨_,qS (t_and e1 (fun ω=>e2) fun ω=>rfl),(Le.refl τ).snoc _,fun ω=>⟨_,zl (zL _ _ _),.refl _⟩⟩
 ·refine ⟨σ₁,?_,l1⟩
  have hA:((names.map chV).filter fun v=> !(lEq [s] [22])&& !(Nat.ble (hdC (.tup [v])) 57)).map id=(wz s names).map chV:=by
   rw [QT,wc]
   refine congrArg _ ?_
   have hq:lEq [s] [22]=(s==22):=by
    rw [zbl]
    show (((s:Int)==22)&&true)=_
    rw [zaA,wM,beq_iff_eq,beq_iff_eq]
    lia
   unfold wz
   show names.filter (fun c=> !(lEq [s] [22])&& !(Nat.ble c 57))=_
   rw [hq]
   cases (s==22) with
   | true=>exact List.filter_eq_nil_iff.mpr fun ω ω=>zQ
   | false=>rfl
  rw [hA] at e
  exact e
theorem add_all {r:Nat} (T:HT t h L σ) (hA: ∀c∈A,c∈LET) (hl:L.length+A.length≤98) (hr:h < r) (he:ev Γ (cfX (n+3)) 60 nmE vars σ₁=some (.ref r,σ)) (hxs:σ[r]? =some (.list (A.map chV))) (g75:vars.get 75=some (.ref t)):
  ∃vars' σ',ex Γ (cfX (n+3)) 60 (k+4) (.for_ (.name 28) (.plain nmE) [.expr (.callM (.var 75) 49 [.callM (.var 28) 69 [] [],.lit (.str [48])] [])]) vars σ₁=some (.next,vars',σ')∧HT t h (L++zer A) σ'∧LeX h σ σ'∧ ∀x,(28==x)=false→vars'.get x=vars.get x:=by
 refine k22 (qx (Γ:=Γ) (cf:=cfX (n+3)) (fe:=60) (n:=k+3) (t:= .name 28) (b:= [.expr (.callM (.var 75) 49 [.callM (.var 28) 69 [] [],.lit (.str [48])] [])]) (itr:=fun j=> .one (.ls r j)) (xs:=A.map chV) (jZ he hxs) rfl (by rw [zf];lia)
  (I:=fun j vs τ=>HT t h (L++zer (A.take j)) τ∧LeX h σ τ∧ ∀x,(28==x)=false→vs.get x=vars.get x) ⟨by rw [show L++zer (A.take 0)=L from ym _];exact T,.refl _ _,fun ω ω=>rfl⟩
  (fun j v vs τ hv I=>Yk (I.2.1 _ _ (Nat.ne_of_gt hr) hxs) hv) (fun vs τ I=>Zk (I.2.1 _ _ (Nat.ne_of_gt hr) hxs) (yj (zo _))) fun j v vs τ hv I=> ?_) fun vars' σ' e I=> ?_
 ·rw [zA] at hv
  refine k12 (zc.mp hv) fun c hc q=> ?_
  subst q
  have hcl:=hA c (zM hc)
  obtain ⟨T1,l1,g1⟩:=I
  have hlen:(L++zer (A.take j)).length≤98:=by
   rw [zd]
   show L.length+(List.map _ (A.take j)).length≤98
   rw [zf,List.length_take];exact zm (Nat.add_le_add_left (qm _ _) _) hl
  refine k13 (add_run (k:=n+1) T1 (qE c hcl).2.1 hlen) fun σ2 e2 T2 l2=> ?_
  have m1:yA Γ (.ref t) 49 τ=some (.fn 271 (.ref t)):=Qj T1 rfl rfl
  have e3:ev Γ (cfX (n+3)) 60 (.callM (.var 75) 49 [.callM (.var 28) 69 [] [],.lit (.str [48])] []) (vs.set 28 (chV c)) τ=some (.none,σ2):=
   xz (n:=59) (zl (by rw [yb rfl,g1 _ rfl];exact g75)) m1 (ya (xz (n:=58) (zl (zL _ _ _)) m_up wo xA (up_let hcl)) (zZ zO)) xA ((qz Γ (cfX (n+3)) τ 271 _ _ _).trans e2)
  refine ⟨_,rfl,_,σ2,zE (jf e3) yV,?_,l1.trans l2,fun x hx=>by rw [yb hx];exact g1 x hx⟩
  have tk:A.take (j+1)=A.take j++ [c]:=by rw [wf,hc];rfl
  rw [tk]
  show HT t h (L++List.map _ (A.take j++ [c])) σ2
  rw [zX,←zW]
  exact T2
 ·rw [zf,xU] at I
  exact ⟨vars',σ',e,I.1,I.2.1,I.2.2⟩
end
theorem wH {cf:Cf} {a:Addr} {as:List V} {σ:H} (h:Γ.clss.lookup a=none):jC Γ cf (.cst (.ref a)) as σ=cf a as [] σ:=by
 show (match Γ.clss.lookup a with
 | some c=>newI a σ (cf c.init (.ref σ.length::as) [] (σ++ [O.inst a []]))
 | .none=>cf a as [] σ)=_
 rw [h]
theorem b_str {v:Nat} {σ:H} (h:v < 4611686018427387904):builtin (.type "str") [natV v] σ=some (.str (yR (v:Int)),σ):=b_strI (fitN h)
theorem js_eq: ∀s∈JS,lEq [s] [31]=false∧s < 256:=by decide+kernel
theorem cat1 (l:List Nat):tsT (PySem.Txt.join (stT []) (l.map fun k=>stT [k]))=l:=congrArg tsT ((eq_of_beq (PyProof.Rows.join_plain_closes _ _)).trans (PyProof.Rows.join_ones l))
theorem let_of {c:Nat} (h:c∈D22) (hn:Nat.ble c 57=false):c∈LET:=by
 rcases (zcV c h).2 with h1 | h1
 ·rw [hn] at h1;exact ft h1
 ·exact h1
section
variable {n k t h nm sn s c c0 c1 w0 w1:Nat} {σ σ₁:H} {L:List (Nat×Nat)} {vars:Vars}
theorem YM {cf:Cf} {m z:Nat} {names:List Nat} (hn:σ[nm]? =some (.list (names.map chV))) (g78:vars.get 78=some (.ref nm)) (hc:names[z]? =some c) (hl:names.length≤10):ev Γ cf (m+2) (.sub (.var 78) (.lit (.int (z:Int)))) vars σ=some (.str [c],σ):=
 yU (zl g78) zO (Zg hn (by rw [zA,hc];rfl) (by rw [zf];lia))
theorem do_del (T:HT t h L σ) (hn:σ[nm]? =some (.list ([c].map chV))) (hs:σ[sn]? =some (.list (zx [31]))) (g75:vars.get 75=some (.ref t)) (g78:vars.get 78=some (.ref nm)) (g79:vars.get 79=some (.ref sn)) (hc:c∈LET):
  ∃σ',ex Γ (cfX (n+3)) 60 53 doS vars σ=some (.next,vars,σ')∧HT t h (dL L c) σ'∧LeX h σ σ':=by
 have t1:evB (ev Γ (cfX (n+3)) 60) (.cmp .eq (.var 79) (.list [.lit (.int 31)])) vars σ=some (true,σ++ [O.list (zx [31])]):=
  (wj (xD (zl g79) (xm (zZ zO) (by decide:1≤1000000)) (zaj (b:= [31]) (yf _ _ hs) (zw _ _)))).trans rfl
 have T1:=T.le (.app σ [O.list (zx [31])])
 have hn1:=yf (τ:= [O.list (zx [31])]) _ hn
 refine k13 (del_run (k:=n+1) T1 hc) fun σ2 e2 T2 l2=>⟨σ2,jd t1 (zE (s_del (zl g75) (YM (z:=0) hn1 g78 rfl (by decide:1≤10)) T1.t rfl e2) yV),T2,(LeX.of (.app _ _)).trans l2⟩
noncomputable def OthOk (L:List (Nat×Nat)) (c1 w1:Nat):Prop:=(c1=48+w1∧w1 < 10)∨(c1∈LET∧valL L c1=some w1)
theorem HT.val (T:HT t h L σ) {w:Nat} (hv:valL L c=some w):w≤100000000:=k12 (zaE hv) fun p hp e=>by rw [←e];exact (T.ok p hp).2
theorem ev_oth (T:HT t h L σ) (hn:σ[nm]? =some (.list ([c0,c1].map chV))) (g75:vars.get 75=some (.ref t)) (g78:vars.get 78=some (.ref nm)) (ho:OthOk L c1 w1):ev Γ (cfX (n+2)) 60 othE vars σ=some (natV w1,σ):=by
 rcases ho with ⟨e,hw⟩ | ⟨hc,hv⟩
 ·have hd:=QA w1 hw
  rw [←e] at hd
  have e1:=YM (cf:=cfX (n+2)) (m:=55) (z:=1) hn g78 rfl (by decide:2≤10)
  have e2:=YM (cf:=cfX (n+2)) (m:=56) (z:=1) hn g78 rfl (by decide:2≤10)
  have t1:=JF (o_dig (z:=1) hd.2.1 e1)
  rw [hd.2.2] at t1
  exact o_int (n:=58) (o_iteT (n:=58) t1 e2) hd.1
 ·have hd:=Wm c1 hc
  have e1:=YM (cf:=cfX (n+2)) (m:=55) (z:=1) hn g78 rfl (by decide:2≤10)
  have t1:=JF (o_dig (z:=1) hd.1 e1)
  rw [hd.2] at t1
  have m1:yA Γ (.ref t) 40 σ=some (.fn 221 (.ref t)):=Qj T rfl rfl
  have e3:ev Γ (cfX (n+2)) 58 (.callM (.var 75) 40 [.sub (.var 78) (.lit (.int 1))] []) vars σ=some (.str (yR (w1:Int)),σ):=by
   refine xz (n:=57) (zl g75) m1 (zZ e1) xA ((qz Γ (cfX (n+2)) σ 221 _ _ _).trans ((get1 T hc).trans ?_))
   rw [XJ hv]
  exact o_int (n:=58) (zcp (n:=58) t1 e3) (Jb (T.val hv))
theorem ev_val (T:HT t h L σ) (hn:σ[nm]? =some (.list ([c0,c1].map chV))) (hs:σ[sn]? =some (.list (zx [s]))) (g75:vars.get 75=some (.ref t)) (g78:vars.get 78=some (.ref nm)) (g79:vars.get 79=some (.ref sn)) (g19:vars.get 19=some (natV w1))
  (hc:c0∈LET) (hsJ:s∈JS) (hw:w1≤100000000) (hb:jN s ((valL L c0).getD 0) w1≤100000000):ev Γ (cfX (n+2)) 60 valE vars σ=some (.str (yR (jN s ((valL L c0).getD 0) w1:Nat)),σ):=by
 have m1:yA Γ (.ref t) 40 σ=some (.fn 221 (.ref t)):=Qj T rfl rfl
 have e1:ev Γ (cfX (n+2)) 57 (.callM (.var 75) 40 [.sub (.var 78) (.lit (.int 0)),.lit (.str [48])] []) vars σ=some (getV L c0 (.str [48]),σ):=
  xz (n:=56) (zl g75) m1 (ya (YM (z:=0) (m:=54) hn g78 rfl (by decide:2≤10)) (zZ zO)) xA ((qz Γ (cfX (n+2)) σ 221 _ _ _).trans (get2 T hc))
 have e2:ev Γ (cfX (n+2)) 58 (.call (.lit (.cst (.type "int"))) [.callM (.var 75) 40 [.sub (.var 78) (.lit (.int 0)),.lit (.str [48])] []]) vars σ=some (natV ((valL L c0).getD 0),σ)∧(valL L c0).getD 0≤100000000:=by
  have d0:Xb [48]=some ((0:Nat):Int):=(QA 0 (by decide)).1
  cases q:valL L c0 with
  | none=>rw [Jm q] at e1;exact ⟨o_int (w:=0) (z:= [48]) e1 d0,zK _⟩
  | some w=>rw [XJ q] at e1;exact ⟨o_int e1 (Jb (T.val q)),T.val q⟩
 have e3:ev Γ (cfX (n+2)) 58 (.sub (.var 79) (.lit (.int 0))) vars σ=some (natV s,σ):=yU (zl g79) zO (Zg (k:=0) hs rfl (by decide:1≤1000000))
 have e4:jC Γ (cfX (n+2)) (.cst (.ref 312)) [natV s,natV ((valL L c0).getD 0),natV w1] σ=some (natV (jN s ((valL L c0).getD 0) w1),σ):=(wH rfl).trans (zbn (n:=n+1) hsJ e2.2 hw)
 refine o_fn (zZ (o_fn (n:=57) (ya e3 (ya e2.1 (zZ (zl g19)))) e4)) ((qi Γ _ _ "str" _).trans (b_str (by lia)))
theorem do_op (T:HT t h L σ) (hl:L.length≤50) (hn:σ[nm]? =some (.list ([c0,c1].map chV))) (hs:σ[sn]? =some (.list (zx [s]))) (d1:h≠nm) (d2:h≠sn) (g75:vars.get 75=some (.ref t)) (g77:vars.get 77=some (.bool true)) (g78:vars.get 78=some (.ref nm)) (g79:vars.get 79=some (.ref sn))
  (hc0:c0∈LET) (hc1:c1∈D22) (hsJ:s∈JS) {L1:List (Nat×Nat)} (hL1:L1=L++zer (wz s [c0,c1])) (ho:OthOk L1 c1 w1) (hb:jN s ((valL L1 c0).getD 0) w1≤100000000):
  ∃vars' σ',ex Γ (cfX (n+3)) 60 53 doS vars σ=some (.next,vars',σ')∧HT t h (dL L1 c0++ [(c0,jN s ((valL L1 c0).getD 0) w1)]) σ'∧LeX h σ σ'∧vars'.get 77=some (.bool true)∧ ∀x,(28==x)=false→(19==x)=false→(77==x)=false→vars'.get x=vars.get x:=by
 have hlt:h < σ.length:=zV T.h
 let σa:=σ++ [O.list (zx [31])]
 let σb:=σa++ [O.list (zx [])]
 have lab:Le σ σb:=(Le.app σ _).trans (.app _ _)
 have t1:evB (ev Γ (cfX (n+3)) 60) (.cmp .eq (.var 79) (.list [.lit (.int 31)])) vars σ=some (false,σa):=
  (wj (xD (zl g79) (xm (zZ zO) (by decide:1≤1000000)) (zaj (b:= [31]) (yf _ _ hs) (zw _ _)))).trans (by rw [(js_eq s hsJ).1];rfl)
 have t2:evB (ev Γ (cfX (n+3)) 60) (.cmp .ne (.var 79) (.list [])) vars σa=some (true,σb):=
  wj (xD (zl g79) (xm wo (by decide)) (cmp_nen (b:= []) (yf _ _ (yf _ _ hs)) (zw _ _)))
 have hA: ∀c∈wz s [c0,c1],c∈LET:=fun c hc=>by
  unfold wz at hc
  cases hq:(s==22) with
  | true=>rw [hq] at hc;exact absurd hc yu
  | false=>
   rw [hq] at hc
   have h2:=yJ.mp hc
   have h3:Nat.ble c 57=false:=by
    have:=h2.2
    cases hb:Nat.ble c 57 with
    | false=>rfl
    | true=>rw [hb] at this;exact ft this
   refine let_of ?_ h3
   rcases zh.mp h2.1 with e | e
   ·rw [e];exact (Wm c0 hc0).1
   ·rw [zv.mp e];exact hc1
 have hAl:(wz s [c0,c1]).length≤2:=by
  unfold wz
  cases (s==22) with
  | true=>exact zK _
  | false=>exact yp _ _
 refine k12 (ev_names (cf:=cfX (n+3)) (names:= [c0,c1]) (lab _ _ hn) (lab _ _ hs) g78 g79 (fun c hc=> ?_) (by decide:2≤10)) fun σc e1 lc=> ?_
 ·rcases zh.mp hc with e | e
  ·rw [e];exact (Wm c0 hc0).1
  ·rw [zv.mp e];exact hc1
 have lc':Le σ (σc++ [O.list ((wz s [c0,c1]).map chV)]):=(lab.trans lc).snoc _
 refine k24 (add_all (k:=46) (T.le lc') hA (by lia) (yX hlt (lab.trans lc).len) e1 (zw _ _) g75) fun vars1 σd x1 T1 ld g1=> ?_
 rw [←hL1] at T1
 have lD:=(LeX.of (h:=h) lc').trans ld
 have hnd:=lD _ _ (Ne.symm d1) hn
 have hsd:=lD _ _ (Ne.symm d2) hs
 have x2:=xy (n:=48) (z:=19) (ev_oth (n:=n+1) T1 hnd ((g1 75 rfl).trans g75) ((g1 78 rfl).trans g78) ho)
 have up2: ∀ {x:Nat},(28==x)=false→(19==x)=false→Vars.get x (vars1.set 19 (natV w1))=vars.get x:=fun hx hy=>by rw [yb hy];exact g1 _ hx
 have hw:w1≤100000000:=by
  rcases ho with ⟨_,h⟩ | ⟨_,h⟩
  ·lia
  ·exact T1.val h
 have hL1l:L1.length≤98:=by
  rw [hL1,zd]
  show L.length+(List.map _ _).length≤98
  rw [zf];lia
 refine k13 (set_run (k:=n) T1 hc0 hb hL1l) fun σe es T2 le=> ?_
 have x3:=s_setInst (n:=47) (ev_val (n:=n+1) (vars:=vars1.set 19 (natV w1)) T1 hnd hsd ((up2 rfl rfl).trans g75) ((up2 rfl rfl).trans g78) ((up2 rfl rfl).trans g79) (zL _ _ _) hc0 hsJ hw hb) (zl (n:=59) ((up2 rfl rfl).trans g75)) (YM (m:=58) (z:=0) hnd ((up2 rfl rfl).trans g78) rfl (by decide:2≤10)) T1.t rfl es
 refine k23 (zbm (k:=n+2) T2) fun r σf ek hr lf=> ?_
 have hne:=le _ _ (Ne.symm d1) hnd
 have hnf:=lf _ _ hne
 have mk:yA Γ (.ref t) 41 σe=some (.fn 226 (.ref t)):=Qj T2 rfl rfl
 rw [zX] at hr
 have hkl:(List.map keyV (dL L1 c0)).length < 1000000:=by
  rw [zf]
  exact yx (yp _ _) (by lia)
 have e5:ev Γ (cfX (n+3)) 58 (.sub (.callM (.var 75) 41 [] []) (.neg (.lit (.int 1)))) (vars1.set 19 (natV w1)) σe=some (.str [c0],σf):=
  yU (xz (n:=56) (zl ((up2 rfl rfl).trans g75)) mk wo xA ((qz Γ (cfX (n+3)) σe 226 _ _ _).trans ek)) (Qd zO (by decide+kernel)) (WI hr hkl)
 have e6:ev Γ (cfX (n+3)) 60 (.and (.var 77) (.cmp .eq (.sub (.callM (.var 75) 41 [] []) (.neg (.lit (.int 1)))) (.sub (.var 78) (.lit (.int 0))))) (vars1.set 19 (natV w1)) σe=some (.bool (true&&true),σf):=
  o_and (zl ((up2 rfl rfl).trans g77)) (fun ω=>xD e5 (YM (m:=56) (z:=0) hnf ((up2 rfl rfl).trans g78) rfl (by decide:2≤10)) (Wp (x:= [c0]) (y:= [c0]) (qE c0 hc0).1.2.2.2.2 (qE c0 hc0).1.2.2.2.2 (by rw [beq1];exact qp c0))) fun h=>tf h
 refine ⟨_,σf,je t1 (zE (jd t2 (zE x1 (zE x2 (zE x3 (zE (xy e6) yV))))) yV),T2.le lf,(lD.trans le).trans (.of lf),zL _ _ _,fun x h1 h2 h3=>by rw [yb h3];exact up2 h1 h2⟩
noncomputable def lowL (L:List (Nat×Nat)):List Nat:=L.map fun p=>lowC p.1
noncomputable def cntL (L:List (Nat×Nat)):Nat:=([97,98,99,100,101,102].filter fun c=>decide (c∈lowL L)).length
theorem QZ: ∀L:List (Nat×Nat),qB (L.map keyV)=some (L.map fun p=> [p.1])
 | []=>rfl
 | p::L=>by
  show (qB (L.map keyV)).map (fun ω=> [p.1]::ω)=_
  rw [QZ L];rfl
theorem zaM: ∀L:List (Nat×Nat),((L.map fun p=> [p.1]).map fun x=>(stT x).length).sum=L.length
 | []=>rfl
 | p::L=>by
  show 1+((L.map fun p=> [p.1]).map fun x=>(stT x).length).sum=L.length+1
  rw [zaM L,Wh]
theorem ev_std (T:HT t h L σ) (g75:vars.get 75=some (.ref t)): ∃σ',ev Γ (cfX (n+3)) 60 stdE vars σ=some (.str (lowL L),σ')∧Le σ σ':=by
 refine k23 (zbm (k:=n+2) T) fun r σf ek hr lf=>⟨σf,?_,lf⟩
 have mk:yA Γ (.ref t) 41 σ=some (.fn 226 (.ref t)):=Qj T rfl rfl
 have m1:yA Γ (.str []) 47 σ=some (.str [] [106,111,105,110]):=rfl
 have e1:ev Γ (cfX (n+3)) 59 (.callM (.lit (.str [])) 47 [.callM (.var 75) 41 [] []] []) vars σ=some (.str (L.map (fun ω=>ω.1)),σf):=by
  refine xz (n:=58) zO m1 (zZ (xz (n:=57) (zl g75) mk wo xA ((qz Γ (cfX (n+3)) σ 226 _ _ _).trans ek))) xA ?_
  show ((yn σf (.ref r)).bind fun xs=>(qB xs).bind fun l=>if jK [] l then some (V.str (tsT (PySem.Txt.join (stT []) (l.map stT))),σf) else .none)=_
  rw [yk _ hr,zF,QZ,zF]
  have hj:jK [] (L.map fun p=> [p.1])=true:=by
   refine zT ?_
   rw [zaM]
   show L.length+_*0≤1000000
   have:=T.len
   lia
  rw [if_pos hj]
  have hm:(L.map fun p=> [p.1]).map stT=(L.map (fun ω=>ω.1)).map fun k=>stT [k]:=by rw [yy,yy];rfl
  rw [hm,cat1]
 refine xz (n:=59) e1 m_low wo xA ?_
 show (if (Xn (L.map (fun ω=>ω.1))&&szOk (L.map (fun ω=>ω.1)).length)=true then some (V.str ((L.map (fun ω=>ω.1)).map lowC),σf) else .none)=_
 have ha:Xn (L.map (fun ω=>ω.1))=true:=zq.mpr fun c hc=>by
  refine k12 (zy.mp hc) fun p hp e=> ?_
  subst e
  exact (qE p.1 (T.ok p hp).1).1.1
 rw [ha,wV (by rw [zf];have:=T.len;lia),yy]
 rfl
noncomputable def mxN (a b:Nat):Nat:=if a < b then b else a
theorem ev_most {cf:Cf} {m:Nat} (g80:vars.get 80=some (.str (lowL L))) (g76:vars.get 76=some (natV m)): ∃σ',ev Γ cf 60 mostE vars σ=some (natV (mxN m (cntL L)),σ')∧Le σ σ':=by
 refine k12 (wd (Γ:=Γ) (cf:=cf) (n:=57) (t:= .name 28) (iter:= .plain (.lit (.str [97,98,99,100,101,102]))) (elt:= .var 28) (ifs:= [.cmp .isIn (.var 28) (.var 80)]) (own:= [28]) (vars:=vars) (σ:=σ) (σb:=σ) (itr:=fun k=> .one (.vs (([97,98,99,100,101,102].map chV).drop k))) rfl rfl (by decide) (xI _)
  (fun vs=>vs.get 80=some (.str (lowL L))) (fun v vs=>vs.set 28 v) (fun v=>decide (hdC (.tup [v])∈lowL L)) id (fun v ω σ vs=>rfl) (fun v ω vs h=>(yb rfl _ _).trans h) g80 fun v hv vs τ l P=>⟨τ,?_,.refl _,fun ω=>⟨τ,zl (zL _ _ _),.refl _⟩⟩) fun σ₁ e1 l1=> ?_
 ·refine k12 (zy.mp hv) fun c hm e=> ?_
  subst e
  refine qS (wj (xD (zl (zL _ _ _)) (zl ((yb rfl _ _).trans P)) ?_))
  show some (!(Builtin.Str.occurrences (stT (lowL L)) (stT [c]) 0 (lowL L).length 1).isEmpty)=_
  exact congrArg some (PySem.StrLaws.found_one (stT (lowL L)) c)
 ·rw [QT,wc] at e1
  have e2:=XV (n:=57) e1 (zw _ _)
  rw [zf] at e2
  have e3:=o_fn (n:=58) (ya (zl g76) (zZ e2)) ((xM Γ cf _ "max" _).trans (b_max2 _ (m:Int) _))
  have hq:(if decide ((m:Int) < (cntL L:Int))=true then (cntL L:Int) else (m:Int))=((mxN m (cntL L):Nat):Int):=by
   unfold mxN
   by_cases hq:m < cntL L
   ·rw [if_pos hq,if_pos (decide_eq_true (by lia))]
   ·rw [if_neg hq,decide_eq_false (by lia)];rfl
  exact ⟨_,e3.trans (congrArg (fun x=>some (V.int x,_)) hq),l1.snoc _⟩
end
noncomputable def opL (L:List (Nat×Nat)) (q c0 c1 w1:Nat):List (Nat×Nat):=dL (L++zer (wz q [c0,c1])) c0++ [(c0,jN q ((valL (L++zer (wz q [c0,c1])) c0).getD 0) w1)]
inductive Stp:St→Nat→St→Prop
 | name {s i c} :D22[i]? =some c→s.names.length≤9→Stp s (256+i) {s with names:=s.names++ [c]}
 | sign {s y} :y < 256→y≠13→y≠0→s.signs.length≤9→Stp s y {s with signs:=s.signs++ [y]}
 | del {s y c} :y=13∨y=0→s.names= [c]→s.signs= [31]→c∈LET→Stp s y ⟨dL s.L c,mxN s.most (cntL (dL s.L c)),[],[]⟩
 | op {s y c0 c1 q w1} :y=13∨y=0→s.names= [c0,c1]→s.signs= [q]→s.L.length≤50→c0∈LET→c1∈D22→q∈JS→OthOk (s.L++zer (wz q [c0,c1])) c1 w1→jN q ((valL (s.L++zer (wz q [c0,c1])) c0).getD 0) w1≤100000000→
   Stp s y ⟨opL s.L q c0 c1 w1,mxN s.most (cntL (opL s.L q c0 c1 w1)),[],[]⟩
noncomputable def Good (fin:St):List Nat→St→Prop
 | [],s=>s=fin
 | y::r,s=> ∃s',Stp s y s'∧Good fin r s'
theorem cnt_le (L:List (Nat×Nat)):cntL L≤6:=yp _ _
theorem mx_le {a:Nat} (h:a≤6) (L:List (Nat×Nat)):mxN a (cntL L)≤6:=by
 have:=cnt_le L
 unfold mxN
 by_cases hq:a < cntL L
 ·rw [if_pos hq];exact this
 ·rw [if_neg hq];exact h
section
variable {n t h sy y:Nat} {syms:List Nat} {σ₀ σ:H} {s:St} {vars:Vars} {L':List (Nat×Nat)}
theorem run_end (I:RInv t h sy syms σ₀ s vars σ) (hy:y=13∨y=0) (hD: ∃vars1 σ1,ex Γ (cfX (n+3)) 60 53 doS (vars.set 74 (natV y)) σ=some (.next,vars1,σ1)∧HT t h L' σ1∧LeX h σ σ1∧vars1.get 77=some (.bool true)∧ ∀x,(28==x)=false→(19==x)=false→(77==x)=false→vars1.get x=Vars.get x (vars.set 74 (natV y))):
  ∃vars' σ',exs Γ (cfX (n+3)) 60 57 [nonS,endS] (vars.set 74 (natV y)) σ=some (.next,vars',σ')∧RInv t h sy syms σ₀ ⟨L',mxN s.most (cntL L'),[],[]⟩ vars' σ':=by
 refine k25 hD fun vars1 σ1 x1 T1 l1 g77 g1=> ?_
 have g74:Vars.get 74 (vars.set 74 (natV y))=some (natV y):=zL _ _ _
 have up: ∀ {x:Nat} {u:V},(74==x)=false→(28==x)=false→(19==x)=false→(77==x)=false→vars.get x=some u→vars1.get x=some u:=fun h1 h2 h3 h4 e=>by rw [g1 _ h2 h3 h4,yb h1];exact e
 have t1:evB (ev Γ (cfX (n+3)) 60) (.call (.lit (.cst (.ref 121))) [.var 74]) (vars.set 74 (natV y)) σ=some (false,σ):=(t_non (m:=n+2) g74).trans (by rw [decide_eq_false (by rcases hy with h | h <;>rw [h] <;>decide)])
 have t2:evB (ev Γ (cfX (n+3)) 60) (.or (.cmp .eq (.var 74) (.lit (.int 13))) (.call (.lit (.cst (.ref 128))) [.var 74])) (vars.set 74 (natV y)) σ=some (true,σ):=by
  refine (t_end (m:=n+2) g74).trans ?_
  rcases hy with rfl | rfl <;>rfl
 refine k12 (ev_std (n:=n) T1 (up rfl rfl rfl rfl I.g75)) fun σ2 e2 l2=> ?_
 refine k12 (ev_most (σ:=σ2) (vars:=vars1.set 80 (.str (lowL L'))) (cf:=cfX (n+3)) (L:=L') (zL _ _ _) ((yb rfl _ _).trans (up rfl rfl rfl rfl I.g76))) fun σ3 e3 l3=> ?_
 let vars3:=Vars.set 76 (natV (mxN s.most (cntL L'))) (vars1.set 80 (.str (lowL L')))
 let σ4:=σ3++ [O.list []]
 let σ5:=σ4++ [O.list []]
 have l23:Le σ1 σ3:=l2.trans l3
 have l35:Le σ3 σ5:=(Le.app σ3 _).trans (.app _ _)
 have T3:=T1.le l23
 have hlt:h < σ3.length:=zV T3.h
 have l4:σ4.length=σ3.length+1:=zd ..
 have lx:LeX h σ σ5:=l1.trans (.of (l23.trans l35))
 have le0:Le σ₀ σ5:=fun i o e=>lx i o (yi (yX (zV e) I.h0)) (I.le i o e)
 have e4:ex Γ (cfX (n+3)) 60 50 (.unpack [.name 78,.name 79] (.tup [.list [],.list []])) vars3 σ3=some (.next,(vars3.set 78 (.ref σ3.length)).set 79 (.ref σ4.length),σ5):=
  qu (qv (ya (xm wo (by decide)) (zZ (xm wo (by decide)))) (by decide:2≤1000000)) rfl
 refine ⟨_,σ5,zE (je t1 yV) (zE (jd t2 (zE x1 (zE (xy e2) (zE (xy e3) (zE e4 yV))))) yV),le0,T3.le l35,I.h0,I.hsy,?_,?_,?_,?_,⟨σ3.length,σ4.length,?_,zL _ _ _,yf _ _ (zw _ _),zw _ _,yi hlt,yi (l4▸yg hlt),yi (l4▸yc _),zm I.h0 (wI hlt),zm I.h0 (wI (l4▸yg hlt))⟩,zK _,zK _,mx_le I.small.2.2 L'⟩
 ·exact gn rfl (gn rfl (gn rfl (gn rfl (up rfl rfl rfl rfl I.g70))))
 ·exact gn rfl (gn rfl (gn rfl (gn rfl (up rfl rfl rfl rfl I.g75))))
 ·exact gn rfl (gn rfl (zL _ _ _))
 ·exact gn rfl (gn rfl (gn rfl (gn rfl g77)))
 ·exact gn rfl (zL _ _ _)
theorem run_step {s':St} (I:RInv t h sy syms σ₀ s vars σ) (S:Stp s y s'): ∃vars' σ',exs Γ (cfX (n+3)) 60 57 [nonS,endS] (vars.set 74 (natV y)) σ=some (.next,vars',σ')∧RInv t h sy syms σ₀ s' vars' σ':=by
 cases S with
 | name h1 h2=>exact run_name (n:=n+2) I h1 rfl h2
 | sign h1 h2 h3 h4=>exact run_sign (n:=n+2) I h1 h2 h3 h4
 | del h1 h2 h3 h4=>
  obtain ⟨nm,sn,g78,g79,hn,hs,d1,d2,d3,b1,b2⟩:=I.lists
  rw [h2] at hn
  rw [h3] at hs
  refine run_end I h1 (k13 (do_del (n:=n) I.T hn hs ((yb rfl _ _).trans I.g75) ((yb rfl _ _).trans g78) ((yb rfl _ _).trans g79) h4) fun σ1 e T1 l=>⟨_,σ1,e,T1,l,(yb rfl _ _).trans I.g77,fun ω ω ω ω=>rfl⟩)
 | op h1 h2 h3 h4 h5 h6 h7 h8 h9=>
  obtain ⟨nm,sn,g78,g79,hn,hs,d1,d2,d3,b1,b2⟩:=I.lists
  rw [h2] at hn
  rw [h3] at hs
  exact run_end I h1 (do_op (n:=n) I.T h4 hn hs d1 d2 ((yb rfl _ _).trans I.g75) ((yb rfl _ _).trans I.g77) ((yb rfl _ _).trans g78) ((yb rfl _ _).trans g79) h5 h6 h7 rfl h8 h9)
theorem run_run {p:Nat×Nat} {m:Nat} (hsy:σ[sy]? =some (.list (zx syms))) (hl:syms.length≤1000) (G:Good ⟨[p],m,[],[]⟩ syms ⟨[],0,[],[]⟩):
  ∃r σ',cfX (n+4) 317 [.ref sy] [] σ=some (.tup [.ref r,natV m,.bool true],σ')∧σ'[r]? =some (.list [hdV p])∧Le σ σ':=by
 refine k13 (new_run (k:=n+2) (σ:=σ)) fun σ1 e1 T1 l1=> ?_
 let t:=σ.length
 let h:=σ.length+1
 let σ2:=σ1++ [O.list []]
 let σ3:=σ2++ [O.list []]
 let v0:Vars:= [(70,some (.ref sy)),(75,some (.ref t)),(76,some (natV 0)),(77,some (.bool true)),(78,some (.ref σ1.length)),(79,some (.ref σ2.length))]
 have l13:Le σ1 σ3:=(Le.app σ1 _).trans (.app _ _)
 have hlt:h < σ1.length:=zV T1.h
 have hl2:σ2.length=σ1.length+1:=zd ..
 have x1:ex Γ (cfX (n+3)) 60 59 (.unpack [.name 75,.name 76,.name 77,.name 78,.name 79] (.tup [.call (.lit (.cst (.ref 274))) [],.lit (.int 0),.lit (.bool true),.list [],.list []])) [(70,some (.ref sy))] σ=some (.next,v0,σ3):=
  qu (qv (ya (o_fn wo e1) (ya zO (ya zO (ya (xm wo (by decide)) (zZ (xm wo (by decide))))))) (by decide:5≤1000000)) rfl
 have I0:RInv t h sy syms σ ⟨[],0,[],[]⟩ v0 σ3:=⟨l1.trans l13,T1.le l13,wZ _,hsy,rfl,rfl,rfl,rfl,⟨σ1.length,σ2.length,rfl,rfl,yf _ _ (zw _ _),zw _ _,by lia,by lia,by lia,by lia,by lia⟩,zK _,zK _,zK _⟩
 refine k22 (qx (Γ:=Γ) (cf:=cfX (n+3)) (fe:=60) (n:=57) (t:= .name 74) (iter:= .plain (.var 70)) (b:= [nonS,endS]) (vars:=v0) (σ:=σ3) (σb:=σ3) (itr:=fun j=> .one (.ls sy j)) (xs:=zx syms) (jZ (zl rfl) ((l1.trans l13) _ _ hsy)) rfl (by rw [yM];lia)
  (I:=fun j vs τ=> ∃s,RInv t h sy syms σ s vs τ∧Good ⟨[p],m,[],[]⟩ (syms.drop j) s) ⟨_,I0,G⟩
  (fun j v vs τ hv I=>k12 I fun s I ω=>Yk (I.le _ _ hsy) hv) (fun vs τ I=>k12 I fun s I ω=>Zk (I.le _ _ hsy) (yj (zo _))) fun j v vs τ hv I=> ?_) fun vars' σ' e2 I=> ?_
 ·rw [Yi] at hv
  refine k12 (zc.mp hv) fun y hy q=> ?_
  subst q
  refine k12 I fun s I G=> ?_
  rw [drop_at hy] at G
  refine k12 (show∃s',Stp s y s'∧Good ⟨[p],m,[],[]⟩ (syms.drop (j+1)) s' from G) fun s' S G=> ?_
  exact ⟨_,rfl,k22 (run_step (n:=n) I S) fun vars' σ' e I=>⟨vars',σ',e,s',I,G⟩⟩
 ·refine k12 I fun s I G=> ?_
  rw [yM,XS] at G
  cases (show s=⟨[p],m,[],[]⟩ from G)
  have mi:yA Γ (.ref t) 42 σ'=some (.fn 238 (.ref t)):=Qj I.T rfl rfl
  have e3:ev Γ (cfX (n+3)) 59 (.callM (.var 75) 42 [] []) vars' σ'=some (.ref σ'.length,σ'++ [O.list [hdV p]]):=
   xz (n:=58) (zl I.g75) mi wo xA ((qz Γ (cfX (n+3)) σ' 238 _ _ _).trans (items_run (k:=n+2) I.T))
  have e4:ev Γ (cfX (n+3)) 60 (.tup [.callM (.var 75) 42 [] [],.var 76,.var 77]) vars' σ'=some (.tup [.ref σ'.length,natV m,.bool true],σ'++ [O.list [hdV p]]):=qv (ya e3 (ya (zl I.g76) (zZ (zl I.g77)))) (by decide:3≤1000000)
  refine ⟨_,_,jD (F:=Yt) rfl rfl rfl (by rw [run_body];exact zE x1 (zE e2 (wU (qJ e4)))),zw _ _,I.le.snoc _⟩
end
noncomputable def regC (c:Nat):Nat:=lowC c - 97
noncomputable def mkV (K:List (Nat×Nat)) (env:Nat→Nat):List (Nat×Nat):=K.map fun p=>(p.1,env (regC p.1))
noncomputable def upd (env:Nat→Nat) (r v:Nat):Nat→Nat:=fun x=>if x=r then v else env x
theorem jb (env:Nat→Nat) (r v:Nat):upd env r v r=v:=if_pos rfl
theorem Wy (env:Nat→Nat) {r x:Nat} (v:Nat) (h:x≠r):upd env r v x=env x:=if_neg h
theorem JM: ∀c∈LET,lowC c=97+regC c∧regC c≤5:=by decide+kernel
theorem JN: ∀r < 6,((97+r∈LET∧65+r∈LET)∧(regC (97+r)=r∧regC (65+r)=r)∧lowC (65+r)=97+r∧lowC (97+r)=97+r)∧(upC (97+r)=65+r∧upC (65+r)=65+r)∧(D22[10+r]? =some (97+r)∧D22[16+r]? =some (65+r))∧Nat.ble (97+r) 57=false∧Nat.ble (65+r) 57=false:=by decide+kernel
theorem dig_d22: ∀d < 10,D22[d]? =some (48+d):=by decide+kernel
noncomputable def skN (r:Nat) (op:Bool) (K:List (Nat×Nat)) (m:Nat):Option (List (Nat×Nat)×Nat):=match (if op then (valL K (97+r)).map (fun ω=>ω+1) else some 1) with
 | some e=>if Nat.ble e 7&&(Nat.ble K.length 40&&Nat.ble r 5) then some (dL K (97+r)++ [(97+r,e)],mxN m (cntL (dL K (97+r)++ [(97+r,e)]))) else none
 | none=>none
noncomputable def skJ (r:Nat) (K:List (Nat×Nat)) (m:Nat):Option (List (Nat×Nat)×Nat):=match valL K (65+r) with
 | some e=>match valL K (97+(r+1)) with
  | some e'=>if Nat.ble (e+e') 7&&(Nat.ble K.length 40&&Nat.ble r 4) then
    some (dL (dL K (65+r)++ [(65+(r+1),0),(65+r,e+e')]) (65+(r+1)),mxN (mxN m (cntL (dL K (65+r)++ [(65+(r+1),0),(65+r,e+e')]))) (cntL (dL (dL K (65+r)++ [(65+(r+1),0),(65+r,e+e')]) (65+(r+1))))) else none
  | none=>none
 | none=>none
noncomputable def skS (x:Pc) (K:List (Nat×Nat)) (m:Nat):Option (List (Nat×Nat)×Nat):=match x with
 | .num r op _=>skN r op K m
 | .jn r _=>skJ r K m
noncomputable def skA:List Pc→List (Nat×Nat)→Nat→Option (List (Nat×Nat)×Nat)
 | [],K,m=>some (K,m)
 | x::l,K,m=>match skS x K m with
  | some (K',m')=>skA l K' m'
  | none=>none
noncomputable def skTab:Prop:=tabA (fun f=>skA (yN f 8 6 0) [] 0) F132=F132.map fun f=>some ([(97,7)],(yK f).getD 6 0)
theorem sk_tab:skTab:=by unfold skTab;kernel_rfl
theorem sk_at {f:List Nat} (hf:f∈F132):skA (yN f 8 6 0) [] 0=some ([(97,7)],(yK f).getD 6 0):=by
 have e0:=sk_tab
 unfold skTab at e0
 exact wq e0 f hf
noncomputable def enS (sg dg:Nat→Nat) (x:Pc) (env:Nat→Nat):Nat→Nat:=match x with
 | .num r op i=>upd env r (if op then jN (symE (sg i)) (env r) (dg i) else dg i)
 | .jn r i=>upd env r (jN (symE (sg i)) (env r) (env (r+1)))
noncomputable def enA (sg dg:Nat→Nat) (l:List Pc) (env:Nat→Nat):Nat→Nat:=l.foldl (fun e x=>enS sg dg x e) env
noncomputable def Rl (K:List (Nat×Nat)) (env:Nat→Nat):Prop:= ∀p∈K,p.1∈LET∧1+env (regC p.1)≤10^p.2
theorem QB (a b:List (Nat×Nat)) (c:Nat):dL (a++b) c=dL a c++dL b c:=Yz ..
theorem dL_mk (K:List (Nat×Nat)) (env:Nat→Nat) (c:Nat):dL (mkV K env) c=mkV (dL K c) env:=by
 unfold dL mkV
 rw [wc];rfl
theorem zc0 (K:List (Nat×Nat)) (env:Nat→Nat):cntL (mkV K env)=cntL K:=by
 unfold cntL lowL mkV
 rw [yy];rfl
theorem Wx {a b:List (Nat×Nat)} {c w:Nat} (h:valL a c=some w):valL (a++b) c=some w:=by
 induction a with
 | nil=>exact ns h
 | cons p r ih=>
  have e:valL (p::r) c=if Nat.beq (lowC p.1) (lowC c) then some p.2 else valL r c:=rfl
  show (if Nat.beq (lowC p.1) (lowC c) then some p.2 else valL (r++b) c)=some w
  rw [e] at h
  cases q:Nat.beq (lowC p.1) (lowC c) with
  | true=>rw [q] at h;exact h
  | false=>rw [q] at h;exact ih h
theorem JC {K:List (Nat×Nat)} {env:Nat→Nat} {c e:Nat} (R:Rl K env) (hc:c∈LET) (h:valL K c=some e):valL (mkV K env) c=some (env (regC c))∧1+env (regC c)≤10^e:=by
 induction K with
 | nil=>exact ns h
 | cons p r ih=>
  have e1:valL (p::r) c=if Nat.beq (lowC p.1) (lowC c) then some p.2 else valL r c:=rfl
  have e2:valL (mkV (p::r) env) c=if Nat.beq (lowC p.1) (lowC c) then some (env (regC p.1)) else valL (mkV r env) c:=rfl
  have hp:=R p (.head _)
  rw [e1] at h
  rw [e2]
  cases q:Nat.beq (lowC p.1) (lowC c) with
  | true=>
   rw [q] at h
   have hl:=wP q
   have hr:regC p.1=regC c:=congrArg (fun ω=>ω - 97) hl
   cases za h
   rw [hr] at hp
   exact ⟨congrArg (fun x=>some (env x)) hr,hp.2⟩
  | false=>rw [q] at h;exact ih (fun p hp=>R p (.tail _ hp)) h
theorem zcu {K:List (Nat×Nat)} {env:Nat→Nat} {c v:Nat} (R:Rl K env) (hc:c∈LET):mkV (dL K c) (upd env (regC c) v)=mkV (dL K c) env:=by
 refine ZF fun p hp=> ?_
 have hm:=yJ.mp hp
 refine congrArg (Prod.mk p.1) (Wy env v fun e=> ?_)
 have h1:=(JM p.1 (R p hm.1).1).1
 have h2:=(JM c hc).1
 have h3:lowC p.1=lowC c:=by rw [h1,h2,e]
 have h4:=hm.2
 rw [h3,qp] at h4
 exact ft h4
theorem zcc {K:List (Nat×Nat)} {env:Nat→Nat} {c v e:Nat} (R:Rl K env) (hc:c∈LET) (hv:1+v≤10^e):Rl (dL K c++ [(c,e)]) (upd env (regC c) v):=fun p hp=>by
 rcases zt.mp hp with hp | hp
 ·have hm:=yJ.mp hp
  refine ⟨(R p hm.1).1,?_⟩
  rw [Wy env v fun e=> ?_]
  ·exact (R p hm.1).2
  ·have h1:=(JM p.1 (R p hm.1).1).1
   have h2:=(JM c hc).1
   have h3:lowC p.1=lowC c:=by rw [h1,h2,e]
   have h4:=hm.2
   rw [h3,qp] at h4
   exact ft h4
 ·cases zv.mp hp
  refine ⟨hc,?_⟩
  show 1+upd env (regC c) v (regC c)≤10^e
  rw [jb];exact hv
theorem qf {fin s:St} {y i c:Nat} {r:List Nat} (hy:y=256+i) (hc:D22[i]? =some c) (hl:s.names.length≤9) (G:Good fin r {s with names:=s.names++ [c]}):Good fin (y::r) s:=by
 subst hy;exact ⟨_,.name hc hl,G⟩
theorem Ym {fin s:St} {y:Nat} {r:List Nat} (h:y < 256∧y≠13∧y≠0) (hl:s.signs.length≤9) (G:Good fin r {s with signs:=s.signs++ [y]}):Good fin (y::r) s:=⟨_,.sign h.1 h.2.1 h.2.2 hl,G⟩
theorem Xu: ∀c∈SGN,symE c∈J5∧symE c∈JS∧(symE c==22)=false∧(symE c < 256∧symE c≠13∧symE c≠0):=by decide+kernel
theorem zci {e:Nat} (h:e≤7):10^e≤10000000:=zm (Nat.pow_le_pow_right (by decide) h) (by decide)
section
variable {sg dg:Nat→Nat} {fin:St} {rest:List Nat} {K K':List (Nat×Nat)} {m m' r i y:Nat} {env:Nat→Nat} {op:Bool}
theorem za6 (hs: ∀i,sg i∈SGN) (hd: ∀i,dg i≤9) (R:Rl K env) (hy:y=13∨y=0) (h:skN r op K m=some (K',m')):Rl K' (enS sg dg (.num r op i) env)∧(Good fin rest ⟨mkV K' (enS sg dg (.num r op i) env),m',[],[]⟩→Good fin (syN sg dg r op i++y::rest) ⟨mkV K env,m,[],[]⟩):=by
 unfold skN at h
 cases he:(if op then (valL K (97+r)).map (fun ω=>ω+1) else some 1) with
 | none=>rw [he] at h;exact ns h
 | some e=>
 rw [he] at h
 dsimp only at h
 by_cases hq:(Nat.ble e 7&&(Nat.ble K.length 40&&Nat.ble r 5))=true
 ·rw [if_pos hq] at h
  have hq1:=zu.mp hq
  have hq2:=zu.mp hq1.2
  have he7:=zg hq1.1
  have hK:=zg hq2.1
  have hr:=zg hq2.2
  have rl:=JN r (by lia)
  have rc:=rl.1.2.1.1
  have hc:=rl.1.1.1
  have hdi:=hd i
  have dd:=QA (dg i) (by lia)
  cases za h
  have e7:=zci he7
  have hKl:(mkV K env).length≤50:=by unfold mkV;rw [zf];lia
  cases op with
  | false=>
   cases za he
   have R':=zcc (e:=1) (v:=dg i) R hc (show 1+dg i≤10 by lia)
   rw [rc] at R'
   refine ⟨R',fun G=>qf (i:=10+r) (by lia) rl.2.2.1.1 (zK _) (Ym (show (22:Nat) < 256∧(22:Nat)≠13∧(22:Nat)≠0 by decide) (zK _) (qf (i:=dg i) rfl (dig_d22 _ (by lia)) (by decide:1≤9) ⟨_,Stp.op (w1:=dg i) hy rfl rfl hKl hc dd.2.1 (List.mem_cons_self ..) (.inl ⟨rfl,by lia⟩) (show dg i≤100000000 by lia),?_⟩))⟩
   have eo:opL (mkV K env) 22 (97+r) (48+dg i) (dg i)=mkV (dL K (97+r)++ [(97+r,1)]) (upd env r (dg i)):=by
    show dL (mkV K env++ []) (97+r)++ [(97+r,dg i)]=_
    rw [ym,dL_mk]
    have hu:=zcu (v:=dg i) R hc
    rw [rc] at hu
    show _=List.map _ (dL K (97+r)++ [(97+r,1)])
    rw [zX]
    show _=mkV (dL K (97+r)) (upd env r (dg i))++ [(97+r,upd env r (dg i) (regC (97+r)))]
    rw [hu,rc,jb]
   have G':Good fin rest ⟨mkV (dL K (97+r)++ [(97+r,1)]) (upd env r (dg i)),mxN m (cntL (dL K (97+r)++ [(97+r,1)])),[],[]⟩:=G
   show Good fin rest ⟨opL (mkV K env) 22 (97+r) (48+dg i) (dg i),mxN m (cntL (opL (mkV K env) 22 (97+r) (48+dg i) (dg i))),[],[]⟩
   rw [eo,zc0]
   exact G'
  | true=>
   refine k12 (zc.mp he) fun e0 h0 h1=> ?_
   have h1:e0+1=e:=h1
   subst h1
   have hv:=JC R hc h0
   rw [rc] at hv
   have so:=Xu (sg i) (hs i)
   have hj:1+jN (symE (sg i)) (env r) (dg i)≤10^(e0+1):=by
    refine zm (jN_le so.1 _ _) ?_
    rw [Nat.pow_succ]
    exact Yx hv.2 (by lia)
   have R':=zcc (v:=jN (symE (sg i)) (env r) (dg i)) R hc hj
   rw [rc] at R'
   have hA:wz (symE (sg i)) [97+r,48+dg i]= [97+r]:=by
    unfold wz
    rw [so.2.2.1]
    show List.filter _ _=_
    rw [yv (by rw [rl.2.2.2.1];rfl),yH (by rw [dd.2.2];exact zQ)];rfl
   have hz:zer [97+r]= [(65+r,0)]:=by
    show [(upC (97+r),0)]=_
    rw [rl.2.1.1]
   have hvl:valL (mkV K env++zer (wz (symE (sg i)) [97+r,48+dg i])) (97+r)=some (env r):=Wx hv.1
   refine ⟨R',fun G=>qf (i:=10+r) (by lia) rl.2.2.1.1 (zK _) (Ym so.2.2.2 (zK _) (qf (i:=dg i) rfl (dig_d22 _ (by lia)) (by decide:1≤9) ⟨_,Stp.op (w1:=dg i) hy rfl rfl hKl hc dd.2.1 so.2.1 (.inl ⟨rfl,by lia⟩) (show jN (symE (sg i)) ((valL (mkV K env++zer (wz (symE (sg i)) [97+r,48+dg i])) (97+r)).getD 0) (dg i)≤100000000 by rw [hvl];show jN (symE (sg i)) (env r) (dg i)≤100000000;lia),?_⟩))⟩
   have eo:opL (mkV K env) (symE (sg i)) (97+r) (48+dg i) (dg i)=mkV (dL K (97+r)++ [(97+r,e0+1)]) (upd env r (jN (symE (sg i)) (env r) (dg i))):=by
    unfold opL
    rw [hvl,hA,hz,QB,dL_mk]
    have hz2:dL [(65+r,0)] (97+r)= []:=by
     unfold dL
     rw [yH (by rw [rl.1.2.2.1,rl.1.2.2.2,qp];exact zQ)];rfl
    rw [hz2,ym]
    have hu:=zcu (v:=jN (symE (sg i)) (env r) (dg i)) R hc
    rw [rc] at hu
    show _=List.map _ (dL K (97+r)++ [(97+r,e0+1)])
    rw [zX]
    show _=mkV (dL K (97+r)) (upd env r (jN (symE (sg i)) (env r) (dg i)))++ [(97+r,upd env r (jN (symE (sg i)) (env r) (dg i)) (regC (97+r)))]
    rw [hu,rc,jb];rfl
   have G':Good fin rest ⟨mkV (dL K (97+r)++ [(97+r,e0+1)]) (upd env r (jN (symE (sg i)) (env r) (dg i))),mxN m (cntL (dL K (97+r)++ [(97+r,e0+1)])),[],[]⟩:=G
   show Good fin rest ⟨opL (mkV K env) (symE (sg i)) (97+r) (48+dg i) (dg i),mxN m (cntL (opL (mkV K env) (symE (sg i)) (97+r) (48+dg i) (dg i))),[],[]⟩
   rw [eo,zc0]
   exact G'
 ·rw [if_neg hq] at h;exact ns h
end
section
variable {sg dg:Nat→Nat} {fin:St} {rest:List Nat} {K K':List (Nat×Nat)} {m m' r i y:Nat} {env:Nat→Nat} {op:Bool}
theorem jn_step (hs: ∀i,sg i∈SGN) (R:Rl K env) (h:skJ r K m=some (K',m')):Rl K' (enS sg dg (.jn r i) env)∧(Good fin rest ⟨mkV K' (enS sg dg (.jn r i) env),m',[],[]⟩→Good fin (syP sg dg (.jn r i)++rest) ⟨mkV K env,m,[],[]⟩):=by
 unfold skJ at h
 cases h1:valL K (65+r) with
 | none=>rw [h1] at h;exact ns h
 | some e=>
 cases h2:valL K (97+(r+1)) with
 | none=>rw [h1,h2] at h;exact ns h
 | some e'=>
 rw [h1,h2] at h
 dsimp only at h
 by_cases hq:(Nat.ble (e+e') 7&&(Nat.ble K.length 40&&Nat.ble r 4))=true
 ·rw [if_pos hq] at h
  have hq1:=zu.mp hq
  have hq2:=zu.mp hq1.2
  have e7:=zci (zg hq1.1)
  have hK:=zg hq2.1
  have hr:=zg hq2.2
  have rl:=JN r (by lia)
  have rl':=JN (r+1) (by lia)
  have rc:=rl.1.2.1.2
  have rc':=rl'.1.2.1.1
  have hc:=rl.1.1.2
  have hc':=rl'.1.1.1
  have hcu:=rl'.1.1.2
  cases za h
  have hKl:(mkV K env).length≤50:=by unfold mkV;rw [zf];lia
  have so:=Xu (sg i) (hs i)
  have hv:=JC R hc h1
  have hv':=JC R hc' h2
  rw [rc] at hv
  rw [rc'] at hv'
  generalize hvv:jN (symE (sg i)) (env r) (env (r+1))=v
  have hj:1+v≤10^(e+e'):=by
   rw [←hvv]
   refine zm (jN_le so.1 _ _) ?_
   rw [Nat.pow_add]
   exact Yx hv.2 hv'.2
  have R1:=zcc (v:=v) R hc hj
  rw [rc] at R1
  have hA:wz (symE (sg i)) [65+r,97+(r+1)]= [65+r,97+(r+1)]:=by
   unfold wz
   rw [so.2.2.1]
   show List.filter _ _=_
   rw [yv (by rw [rl.2.2.2.2];rfl),yv (by rw [rl'.2.2.2.1];rfl)];rfl
  have hz:zer [65+r,97+(r+1)]= [(65+r,0),(65+(r+1),0)]:=by
   show [(upC (65+r),0),(upC (97+(r+1)),0)]=_
   rw [rl.2.1.2,rl'.2.1.1]
  have n1:Nat.beq (lowC (65+(r+1))) (lowC (65+r))=false:=by
   rw [rl'.1.2.2.1,rl.1.2.2.1]
   exact zdi.mpr fun e=>absurd (wP e) (by lia)
  have n2:Nat.beq (lowC (65+r)) (lowC (65+(r+1)))=false:=by
   rw [rl'.1.2.2.1,rl.1.2.2.1]
   exact zdi.mpr fun e=>absurd (wP e) (by lia)
  have d1:dL [(65+r,0),(65+(r+1),0)] (65+r)= [(65+(r+1),0)]:=by
   unfold dL
   rw [yH (by rw [qp];exact zQ),yv (by rw [n1];rfl)];rfl
  have d2: ∀w:Nat,dL [(65+(r+1),0),(65+r,w)] (65+(r+1))= [(65+r,w)]:=fun w=>by
   unfold dL
   rw [yH (by rw [qp];exact zQ),yv (by rw [n2];rfl)];rfl
  have hvl:valL (mkV K env++zer (wz (symE (sg i)) [65+r,97+(r+1)])) (65+r)=some (env r):=Wx hv.1
  have hvl':valL (mkV K env++zer (wz (symE (sg i)) [65+r,97+(r+1)])) (97+(r+1))=some (env (r+1)):=Wx hv'.1
  have eo:opL (mkV K env) (symE (sg i)) (65+r) (97+(r+1)) (env (r+1))=mkV (dL K (65+r)) env++ [(65+(r+1),0),(65+r,v)]:=by
   unfold opL
   rw [hvl,hA,hz,QB,dL_mk,d1,zW]
   show _++ [(65+(r+1),0),(65+r,jN (symE (sg i)) (env r) (env (r+1)))]=_
   rw [hvv]
  have ec:cntL (mkV (dL K (65+r)) env++ [(65+(r+1),0),(65+r,v)])=cntL (dL K (65+r)++ [(65+(r+1),0),(65+r,e+e')]):=by
   unfold cntL lowL mkV
   rw [zX,zX,yy];rfl
  have ed:dL (mkV (dL K (65+r)) env++ [(65+(r+1),0),(65+r,v)]) (65+(r+1))=mkV (dL (dL K (65+r)++ [(65+(r+1),0),(65+r,e+e')]) (65+(r+1))) (upd env r v):=by
   have hu:=zcu (v:=v) R hc
   rw [rc] at hu
   rw [QB,QB,d2,d2,←hu,dL_mk]
   show _=List.map _ (dL (dL K (65+r)) (65+(r+1))++ [(65+r,e+e')])
   rw [zX]
   show _=mkV (dL (dL K (65+r)) (65+(r+1))) (upd env r v)++ [(65+r,upd env r v (regC (65+r)))]
   rw [rc,jb]
  have R2:Rl (dL (dL K (65+r)++ [(65+(r+1),0),(65+r,e+e')]) (65+(r+1))) (upd env r v):=by
   rw [QB,d2]
   intro p hp
   refine R1 p ?_
   rcases zt.mp hp with hp | hp
   ·exact zt.mpr (.inl (yJ.mp hp).1)
   ·exact zt.mpr (.inr hp)
  have een:enS sg dg (.jn r i) env=upd env r v:=by
   show upd env r (jN (symE (sg i)) (env r) (env (r+1)))=_
   rw [hvv]
  rw [een]
  refine ⟨R2,fun G=> ?_⟩
  refine qf (i:=16+r) (by lia) rl.2.2.1.2 (zK _) (Ym so.2.2.2 (zK _) (qf (i:=10+(r+1)) (by lia) rl'.2.2.1.1 (by decide:1≤9) ⟨_,Stp.op (w1:=env (r+1)) (.inl rfl) rfl rfl hKl hc (Wm _ hc').1 so.2.1 (.inr ⟨hc',hvl'⟩)
   (show jN (symE (sg i)) ((valL (mkV K env++zer (wz (symE (sg i)) [65+r,97+(r+1)])) (65+r)).getD 0) (env (r+1))≤100000000 by rw [hvl];show jN (symE (sg i)) (env r) (env (r+1))≤100000000;rw [hvv];lia),?_⟩))
  refine Ym (show (31:Nat) < 256∧(31:Nat)≠13∧(31:Nat)≠0 by decide) (zK _) (qf (i:=16+(r+1)) (by lia) rl'.2.2.1.2 (zK _) ⟨_,Stp.del (.inl rfl) rfl rfl hcu,?_⟩)
  show Good fin rest ⟨dL (opL (mkV K env) (symE (sg i)) (65+r) (97+(r+1)) (env (r+1))) (65+(r+1)),mxN (mxN m (cntL (opL (mkV K env) (symE (sg i)) (65+r) (97+(r+1)) (env (r+1))))) (cntL (dL (opL (mkV K env) (symE (sg i)) (65+r) (97+(r+1)) (env (r+1))) (65+(r+1)))),[],[]⟩
  rw [eo,ed,ec,zc0]
  exact G
 ·rw [if_neg hq] at h;exact ns h
theorem pc_step (hs: ∀i,sg i∈SGN) (hd: ∀i,dg i≤9) {x:Pc} (R:Rl K env) (h:skS x K m=some (K',m')):Rl K' (enS sg dg x env)∧(Good fin rest ⟨mkV K' (enS sg dg x env),m',[],[]⟩→Good fin (syP sg dg x++rest) ⟨mkV K env,m,[],[]⟩):=by
 cases x with
 | num r op i=>
  have:=za6 (fin:=fin) (rest:=rest) (i:=i) hs hd R (.inl rfl) h
  refine ⟨this.1,fun G=> ?_⟩
  show Good fin (syN sg dg r op i++ [13]++rest) _
  rw [zW]
  exact this.2 G
 | jn r i=>exact jn_step hs R h
theorem pcs_run (hs: ∀i,sg i∈SGN) (hd: ∀i,dg i≤9): ∀ {l:List Pc} {K:List (Nat×Nat)} {m:Nat} {env:Nat→Nat},Rl K env→skA l K m=some (K',m')→Rl K' (enA sg dg l env)∧(Good fin rest ⟨mkV K' (enA sg dg l env),m',[],[]⟩→Good fin (l.flatMap (syP sg dg)++rest) ⟨mkV K env,m,[],[]⟩)
 | [],K,m,env,R,h=>by cases za h;exact ⟨R,id⟩
 | x::l,K,m,env,R,h=>by
  have e:skA (x::l) K m=match skS x K m with | some (K',m')=>skA l K' m' | none=>none:=rfl
  rw [e] at h
  cases hx:skS x K m with
  | none=>rw [hx] at h;exact ns h
  | some q=>
   obtain ⟨K1,m1⟩:=q
   rw [hx] at h
   have h1:=pc_step (fin:=fin) (rest:=l.flatMap (syP sg dg)++rest) hs hd R hx
   have h2:=pcs_run hs hd (l:=l) h1.1 h
   refine ⟨h2.1,fun G=> ?_⟩
   rw [yQ,zW]
   exact h1.2 (h2.2 G)
theorem skA_app: ∀ {l l':List Pc} {K:List (Nat×Nat)} {m:Nat} {q:List (Nat×Nat)×Nat},skA (l++l') K m=some q→ ∃K1 m1,skA l K m=some (K1,m1)∧skA l' K1 m1=some q
 | [],l',K,m,q,h=>⟨K,m,rfl,h⟩
 | x::l,l',K,m,q,h=>by
  have e:skA (x::l++l') K m=match skS x K m with | some (K',m')=>skA (l++l') K' m' | none=>none:=rfl
  have e2:skA (x::l) K m=match skS x K m with | some (K',m')=>skA l K' m' | none=>none:=rfl
  rw [e] at h
  rw [e2]
  cases hx:skS x K m with
  | none=>rw [hx] at h;exact ns h
  | some q=>
   obtain ⟨K1,m1⟩:=q
   rw [hx] at h
   exact skA_app (l:=l) h
theorem last_run (hs: ∀i,sg i∈SGN) (hd: ∀i,dg i≤9) {l:List Pc} {c e:Nat} (h:skA (l++ [.num r op i]) [] 0=some ([(c,e)],m)) (hc:regC c=0):
  Good ⟨[(c,enA sg dg (l++ [.num r op i]) (fun ω=>0) 0)],m,[],[]⟩ (l.flatMap (syP sg dg)++syN sg dg r op i++ [0]) ⟨[],0,[],[]⟩:=by
 refine k22 (skA_app h) fun K1 m1 h1 h2=> ?_
 generalize hf:(⟨[(c,enA sg dg (l++ [.num r op i]) (fun ω=>0) 0)],m,[],[]⟩:St)=fin
 have p1:=pcs_run (fin:=fin) (rest:=syN sg dg r op i++ [0]) (env:=fun ω=>0) hs hd (fun p hp=>absurd hp yu) h1
 have h3:skS (.num r op i) K1 m1=some ([(c,e)],m):=by
  have e2:skA [.num r op i] K1 m1=match skS (.num r op i) K1 m1 with | some (K',m')=>some (K',m') | none=>none:=rfl
  rw [e2] at h2
  cases hx:skS (.num r op i) K1 m1 with
  | none=>rw [hx] at h2;exact ns h2
  | some q=>rw [hx] at h2;exact h2
 have p2:=za6 (fin:=fin) (rest:= []) (i:=i) (y:=0) hs hd p1.1 (.inr rfl) h3
 rw [zW]
 refine p1.2 (p2.2 ?_)
 show (⟨mkV [(c,e)] (enS sg dg (.num r op i) (enA sg dg l fun ω=>0)),m,[],[]⟩:St)=fin
 rw [←hf]
 unfold enA
 rw [List.foldl_append]
 show (⟨[(c,_)],m,[],[]⟩:St)=_
 rw [hc];rfl
end
section
variable (sg dg:Nat→Nat) (f:List Nat)
noncomputable def Ji (i x y:Nat):Nat:=jN (symE (sg i)) x y
noncomputable def Wf:Nat→Nat→Nat
 | 0,_=>0
 | n+1,i=>match ye f i with
  | []=>dg i
  | k::ks=>Ji sg i (ks.foldl (fun a j=>Ji sg i a (Wf n j)) (Wf n k)) (dg i)
end
section
variable {sg dg:Nat→Nat} {f:List Nat}
theorem Wo (l l':List Pc) (env:Nat→Nat):enA sg dg (l++l') env=enA sg dg l' (enA sg dg l env):=List.foldl_append
theorem zaf: ∀ {n i r:Nat} {env:Nat→Nat},okC f n i r=true→enA sg dg (yN f n i r) env r=Wf sg dg f n i∧ ∀x,x < r→enA sg dg (yN f n i r) env x=env x
 | 0,i,r,env,h=>ft h
 | n+1,i,r,env,h=>by
  obtain ⟨c1,c2,hi,hl6,hr5,hk⟩:=Xe h
  have ew:Wf sg dg f (n+1) i=match ye f i with | []=>dg i | k::ks=>Ji sg i (ks.foldl (fun a j=>Ji sg i a (Wf sg dg f n j)) (Wf sg dg f n k)) (dg i):=rfl
  rw [Zo,Wo,ew]
  cases hq:ye f i with
  | nil=>exact ⟨jb _ _ _,fun x hx=>Wy _ _ (yi hx)⟩
  | cons k ks=>
   rw [hq] at hk
   have h0:=(hk 0 k rfl).1 rfl
   have ih0:=zaf (env:=env) h0
   have go: ∀(ks:List Nat),(∀j∈ks,okC f n j (r+1)=true)→ ∀env:Nat→Nat,enA sg dg (ks.flatMap fun j=>yN f n j (r+1)++ [.jn r i]) env r=ks.foldl (fun a j=>Ji sg i a (Wf sg dg f n j)) (env r)∧ ∀x,x < r→enA sg dg (ks.flatMap fun j=>yN f n j (r+1)++ [.jn r i]) env x=env x:=by
    intro ks
    induction ks with
    | nil=>exact fun ω env=>⟨rfl,fun ω ω=>rfl⟩
    | cons j ks ih=>
     intro hok env
     have ij:=zaf (env:=env) (hok j (.head _))
     rw [yQ,Wo,Wo]
     generalize he:enA sg dg [.jn r i] (enA sg dg (yN f n j (r+1)) env)=env2
     have e2:env2 r=Ji sg i (env r) (Wf sg dg f n j):=by
      rw [←he]
      show upd _ r (jN (symE (sg i)) (enA sg dg (yN f n j (r+1)) env r) (enA sg dg (yN f n j (r+1)) env (r+1))) r=_
      rw [jb,ij.1,ij.2 r (yc r)];rfl
     have e3: ∀x,x < r→env2 x=env x:=fun x hx=>by
      rw [←he]
      show upd _ r _ x=_
      rw [Wy _ _ (yi hx),ij.2 x (yg hx)]
     have:=ih (fun j hj=>hok j (.tail _ hj)) env2
     rw [e2] at this
     exact ⟨this.1,fun x hx=>(this.2 x hx).trans (e3 x hx)⟩
   have hks: ∀j∈ks,okC f n j (r+1)=true:=fun j hj=>by
    refine k11 (wQ.mp hj) fun q hj'=> ?_
    exact ((hk (q+1) j hj').2 (yZ _)).2
   have g:=go ks hks (enA sg dg (yN f n k r) env)
   show enA sg dg [.num r true i] (enA sg dg (yN f n k r++ks.flatMap fun j=>yN f n j (r+1)++ [.jn r i]) env) r=_∧ ∀x,x < r→enA sg dg [.num r true i] (enA sg dg (yN f n k r++ks.flatMap fun j=>yN f n j (r+1)++ [.jn r i]) env) x=env x
   rw [Wo]
   refine ⟨?_,fun x hx=> ?_⟩
   ·show upd _ r (jN (symE (sg i)) (enA sg dg _ (enA sg dg (yN f n k r) env) r) (dg i)) r=_
    rw [jb,g.1,ih0.1];rfl
   ·show upd _ r _ x=_
    rw [Wy _ _ (yi hx),g.2 x hx,ih0.2 x hx]
end
section
variable (J:Nat→Nat→Nat→Nat) (d:Nat→Nat) (f:List Nat)
noncomputable def kidsD (i:Nat):List Nat:=(Jj f i).reverse
noncomputable def DG:Nat→Nat→Nat
 | 0,i=>d i
 | n+1,i=>(kidsD f i).foldl (fun a j=>J i a (DG n j)) (d i)
noncomputable def wStep (w:List Nat) (i:Nat):List Nat:=w.set (f.getD i 0) (J (f.getD i 0) (w.getD (f.getD i 0) 0) (w.getD i 0))
noncomputable def wAt:Nat→List Nat
 | 0=>(List.range 7).map d
 | k+1=>wStep J f (wAt k) (5 - k)
end
noncomputable def zcS (J:Nat→Nat→Nat→Nat) (d:Nat→Nat):Prop:=tabA (fun f=>(wAt J d f 6).getD 6 0) F132=F132.map fun f=>DG J d f 8 6
theorem due_tab (J:Nat→Nat→Nat→Nat) (d:Nat→Nat):zcS J d:=by unfold zcS;kernel_rfl
theorem Ju {f:List Nat} (hf:f∈F132) (J:Nat→Nat→Nat→Nat) (d:Nat→Nat):(wAt J d f 6).getD 6 0=DG J d f 8 6:=by
 have e0:=due_tab J d
 unfold zcS at e0
 exact wq e0 f hf
theorem kids_perm: ∀f∈F132,∀i < 7,(ye f i).isPerm (kidsD f i)=true:=by
 have e:F132.all (fun f=>(List.range 7).all fun i=>(ye f i).isPerm (kidsD f i))=true:=by kernel_rfl
 intro f hf i hi
 exact zq.mp (zq.mp e f hf) i (zI.mpr hi)
section
variable {sg dg:Nat→Nat} {f:List Nat}
theorem Ji_comm (hs: ∀i,sg i∈SGN) (i x y:Nat):Ji sg i x y=Ji sg i y x:=jN_comm (Xu (sg i) (hs i)).1 x y
theorem QH (hs: ∀i,sg i∈SGN) (i x y z:Nat):Ji sg i (Ji sg i x y) z=Ji sg i x (Ji sg i y z):=jN_assoc (Xu (sg i) (hs i)).1 x y z
theorem zbu (hs: ∀i,sg i∈SGN) (i:Nat) (g:Nat→Nat) (a:Nat): ∀(l:List Nat) (b:Nat),Ji sg i a (l.foldl (fun x j=>Ji sg i x (g j)) b)=l.foldl (fun x j=>Ji sg i x (g j)) (Ji sg i a b)
 | [],b=>rfl
 | j::l,b=>by
  show Ji sg i a (l.foldl _ (Ji sg i b (g j)))=l.foldl _ (Ji sg i (Ji sg i a b) (g j))
  rw [zbu hs i g a l,QH hs]
theorem W_eq (hf:f∈F132) (hs: ∀i,sg i∈SGN): ∀ {n i r:Nat},okC f n i r=true→Wf sg dg f n i=DG (Ji sg) dg f n i
 | 0,i,r,h=>ft h
 | n+1,i,r,h=>by
  obtain ⟨c1,c2,hi,hl6,hr5,hk⟩:=Xe h
  have ew:Wf sg dg f (n+1) i=match ye f i with | []=>dg i | k::ks=>Ji sg i (ks.foldl (fun a j=>Ji sg i a (Wf sg dg f n j)) (Wf sg dg f n k)) (dg i):=rfl
  have ed:DG (Ji sg) dg f (n+1) i=(kidsD f i).foldl (fun a j=>Ji sg i a (DG (Ji sg) dg f n j)) (dg i):=rfl
  have hp:=List.isPerm_iff.mp (kids_perm f hf i hi)
  have hj: ∀j∈ye f i,Wf sg dg f n j=DG (Ji sg) dg f n j:=fun j hj=>by
   refine k11 (wQ.mp hj) fun q hq=> ?_
   have:=hk q j hq
   by_cases h0:q=0
   ·exact W_eq hf hs (this.1 h0)
   ·exact W_eq hf hs (this.2 h0).2
  have hw:Wf sg dg f (n+1) i=(ye f i).foldl (fun a j=>Ji sg i a (Wf sg dg f n j)) (dg i):=by
   rw [ew]
   cases ye f i with
   | nil=>rfl
   | cons k ks=>
    show Ji sg i (ks.foldl (fun a j=>Ji sg i a (Wf sg dg f n j)) (Wf sg dg f n k)) (dg i)=ks.foldl (fun a j=>Ji sg i a (Wf sg dg f n j)) (Ji sg i (dg i) (Wf sg dg f n k))
    rw [Ji_comm hs,zbu hs]
  have hc:(ye f i).foldl (fun a j=>Ji sg i a (Wf sg dg f n j)) (dg i)=(ye f i).foldl (fun a j=>Ji sg i a (DG (Ji sg) dg f n j)) (dg i):=by
   generalize dg i=b
   revert b
   generalize ye f i=l at hj
   induction l with
   | nil=>exact fun b=>rfl
   | cons k l ih=>
    intro b
    show l.foldl _ (Ji sg i b (Wf sg dg f n k))=l.foldl _ (Ji sg i b (DG (Ji sg) dg f n k))
    rw [hj k (.head _)]
    exact ih (fun j hj'=>hj j (.tail _ hj')) _
  rw [hw,hc,ed]
  refine List.Perm.foldl_eq' hp (fun x ω y ω z=> ?_) _
  rw [QH hs,QH hs,Ji_comm hs i (DG (Ji sg) dg f n x)]
end
noncomputable def inKs (ks:List Int) (q:Nat):Int:=maxI (ks.getD q 0) (((List.range ks.length).filter fun j=>decide (j≠q)).map fun j=>1+ks.getD j 0)
noncomputable def minL (l:List Int):Int:=match l with
 | []=>0
 | a::r=>minI a r
noncomputable def lStep (ks:List Int):Int:=minL ((List.range ks.length).map (inKs ks)++if ks.isEmpty then [1] else [])
noncomputable def Qq (f:List Nat) (l:List Int) (i:Nat):List Int:=(Jj f i).map fun j=>l.getD j 0
noncomputable def lNext (f:List Nat) (l:List Int) (i:Nat):List Int:=l.set i (lStep (Qq f l i))
noncomputable def ordI (k:Nat):Nat:=if k=6 then 6 else 5 - k
noncomputable def lAt (f:List Nat):Nat→List Int
 | 0=>List.replicate 7 1
 | k+1=>lNext f (lAt f k) (ordI k)
noncomputable def zcE:Prop:=tabA (fun f=>(lAt f 7).getD 6 0) F132=F132.map fun f=>(((yK f).getD 6 0:Nat):Int)
theorem least_tab:zcE:=by unfold zcE;kernel_rfl
theorem least_at {f:List Nat} (hf:f∈F132):(lAt f 7).getD 6 0=(((yK f).getD 6 0:Nat):Int):=by
 have e0:=least_tab
 unfold zcE at e0
 exact wq e0 f hf
noncomputable def smallF (f:List Nat):Bool:=(List.range 8).all fun k=>(lAt f k).all fun x=>decide (0≤x)&&decide (x≤9)
theorem small_all:F132.all smallF=true:=by kernel_rfl
noncomputable def eAt (f:List Nat):Nat→List Nat
 | 0=>List.replicate 7 1
 | k+1=>wStep (fun ω a b=>a+b) f (eAt f k) (5 - k)
noncomputable def sizeF (f:List Nat):Bool:=(List.range 7).all fun k=>(eAt f k).all fun x=>Nat.ble x 7
theorem size_all:F132.all sizeF=true:=by kernel_rfl
theorem prog_run {n:Nat} {sg dg:Nat→Nat} {f:List Nat} {σ:H} (hf:f∈F132) (hs: ∀i,sg i∈SGN) (hd: ∀i,dg i≤9):
  ∃s:Txt,xN sg dg (yN f 8 6 0)=s++ [59]∧s.length≤1000∧ ∃q σ1,cfX (n+4) 305 [.str s] [] σ=some (.ref q,σ1)∧Le σ σ1∧ ∃r σ2,cfX (n+4) 317 [.ref q] [] σ1=some (.tup [.ref r,natV ((yK f).getD 6 0),.bool true],σ2)∧σ2[r]? =some (.list [hdV (97,DG (Ji sg) dg f 8 6)])∧Le σ σ2:=by
 have hok:okC f 8 6 0=true:=zq.mp okC_all f hf
 obtain ⟨c1,c2,hi,hl6,hr5,hk⟩:=Xe hok
 have hsk:=sk_at hf
 have hen:=(zaf (sg:=sg) (dg:=dg) (env:=fun ω=>0) hok).1
 rw [W_eq hf hs hok] at hen
 rw [Zo] at c1 c2 hsk hen⊢
 generalize wF f 7 6 0 (ye f 6)=l at c1 c2 hsk hen⊢
 have hl:=last_run hs hd hsk rfl
 rw [hen] at hl
 rw [zd] at c1
 have c2:=Wu.symm.trans c2
 have hla:l.all pcOk=true:=(zu.mp c2).1
 have hln:l.length≤100:=zm (xC _ _) c1
 refine k13 (cut_code (n:=n+3) (i:=6) (op:= !(ye f 6).isEmpty) (r:=0) hs hd hla hln (by decide) σ) fun s e1 h1 h2=>⟨s,e1,h1,k23 h2 fun q σ1 e2 h3 l1=>⟨q,σ1,e2,l1,?_⟩⟩
 have hsl:(l.flatMap (syP sg dg)++syN sg dg 0 (!(ye f 6).isEmpty) 6++ [0]).length≤1000:=by
  have h7: ∀l:List Pc,(l.flatMap (syP sg dg)).length≤7*l.length:=by
   intro l
   induction l with
   | nil=>exact zK _
   | cons x l ih=>
    rw [yQ,zd,xg]
    have:(syP sg dg x).length≤7:=by
     cases x with
     | num r op i=>exact (by decide:4≤7)
     | jn r i=>exact (by decide:7≤7)
    lia
  have:=h7 l
  rw [zd,zd]
  show (l.flatMap (syP sg dg)).length+3+1≤1000
  lia
 exact k23 (run_run (n:=n) h3 hsl hl) fun r σ2 e4 h4 l2=>⟨r,σ2,e4,h4,l1.trans l2⟩
noncomputable abbrev colE:E:= .comp (.call (.lit (.cst (.ref 324))) [.sub (.var 87) (.lit (.int 0)),.var 71]) [.mk (.name 71) (.plain (.call (.lit (.cst (.type "range"))) [.lit (.int 1),.lit (.int 6)])) []] [71]
noncomputable abbrev colsE:E:= .comp colE [.mk (.name 87) (.plain (.var 51)) []] [87]
noncomputable def Wa (a:Txt):List V:=(List.range 5).map fun (k:Nat)=>V.int (col a ((k:Int)+1) 0)
noncomputable def zcF (v:V):Txt:=match v with
 | .tup vs=>match vs with
  | []=> []
  | x::_=>match x with
   | .str s=>s
   | _=> []
 | _=> []
noncomputable def intD (v:V):Int:=(jz v).getD 0
structure CG (le:Nat→Txt) (c:Nat) (σ:H):Prop where
 g: ∃ws,σ[c]? =some (.list ws)∧ws.length=7∧ ∀i,i < 7→ ∃r,ws[i]? =some (.ref r)∧σ[r]? =some (.list (Wa (le i)))
theorem CG.le {le:Nat→Txt} {c:Nat} {σ σ':H} (C:CG le c σ) (l:Le σ σ'):CG le c σ':=by
 obtain ⟨ws,h1,h2,h3⟩:=C.g
 exact ⟨ws,l _ _ h1,h2,fun i hi=>k12 (h3 i hi) fun r a b=>⟨r,a,l _ _ b⟩⟩
section
variable {n m p i:Nat} {le:Nat→Txt} {sg dg:Nat→Nat} {σ:H} {vars:Vars}
theorem it_rng2 {cf:Cf} {a b:E} {lo:Int} {k:Nat} (ha:ev Γ cf (n+1) a vars σ=some (.int lo,σ)) (hb:ev Γ cf (n+1) b vars σ=some (.int (lo+k),σ)) (hk:k < 1000) (h1:fit lo=true) (h2:fit (lo+k)=true):evIt (ev Γ cf (n+2)) (.plain (.call (.lit (.cst (.type "range"))) [a,b])) vars σ=some (.one (.vs ((yq lo k).drop 0)),σ):=by
 refine Zl (o_fn (ya ha (zZ hb)) ((qi Γ cf σ "range" _).trans ((b_range2 σ lo (lo+k)).trans ?_))) hk h1 h2
 rw [h1,h2];rfl
theorem ev_col (hq: ∀i,i < 7→le i∈L31) (hi:i < 7) (g87:vars.get 87=some (qM le sg dg i)): ∃σ',ev Γ (cfX (m+1)) (n+6) colE vars σ=some (.ref σ'.length,σ'++ [O.list (Wa (le i))])∧Le σ σ':=by
 refine k12 (wd (Γ:=Γ) (cf:=cfX (m+1)) (n:=n+5) (t:= .name 71) (elt:= .call (.lit (.cst (.ref 324))) [.sub (.var 87) (.lit (.int 0)),.var 71]) (ifs:= []) (own:= [71]) (vars:=vars) (σ:=σ) (σb:=σ) (iter:= .plain (.call (.lit (.cst (.type "range"))) [.lit (.int 1),.lit (.int 6)])) (itr:=fun k=> .one (.vs ((yq 1 5).drop k))) (xs:=yq 1 5) (it_rng2 (n:=n+3) (lo:=1) (k:=5) zO zO (by decide) (by decide+kernel) (by decide+kernel)) rfl (by decide) (xI _)
  (fun vs=>vs.get 87=some (qM le sg dg i)) (fun v vs=>vs.set 71 v) (fun ω=>true) (fun v=> .int (col (le i) (intD v) 0)) (fun v ω σ vs=>rfl) (fun v ω vs h=>(yb rfl _ _).trans h) g87 fun v hv vs τ l P=>⟨τ,rfl,.refl _,fun ω=>⟨τ,?_,.refl _⟩⟩) fun σ₁ e1 l1=> ?_
 ·refine k11 (wQ.mp hv) fun q hq'=> ?_
  have:=YJ hq'
  have h2:=this.2
  subst h2
  have e1:jC Γ (cfX (m+1)) (.cst (.ref 324)) [.str (le i),.int (1+(q:Int))] τ=some (.int (col (le i) (1+(q:Int)) 0),τ):=(wH rfl).trans (c_col (le i) (hq i hi) _ (by lia) (by lia) τ)
  exact o_fn (ya (yU (zl ((yb rfl _ _).trans P)) zO rfl) (zZ (zl (zL _ _ _)))) e1
 ·rw [xB _ fun ω=>rfl] at e1
  exact ⟨σ₁,e1,l1⟩
theorem cols_ev (hq: ∀i,i < 7→le i∈L31) (P:PG le sg dg p σ) (g51:vars.get 51=some (.ref p)): ∃c σ',ev Γ (cfX (m+1)) 60 colsE vars σ=some (.ref c,σ')∧CG le c σ'∧Le σ σ':=by
 refine k23 (comp_le (Γ:=Γ) (cf:=cfX (m+1)) (n:=59) (t:= .name 87) (elt:=colE) (ifs:= []) (own:= [87]) (vars:=vars) (itr:=fun k=> .one (.ls p k)) (xs:=(List.range 7).map (qM le sg dg)) (jZ (zl g51) P.l) rfl (by rw [zf,zG];decide) (qW P.l)
  (fun vs=>True) (fun v vs=>vs.set 87 v) (fun ω=>true) (fun v w τ=> ∃r,w= .ref r∧τ[r]? =some (.list (Wa (zcF v)))) (fun v ω σ vs=>rfl) (fun v ω vs h=>trivial) trivial (fun v hv vs τ l ω=>⟨τ,rfl,.refl _,fun ω=> ?_⟩) fun v w τ τ' l h=>k12 h fun r a b=>⟨r,a,l _ _ b⟩) fun ws σ' e l hA=> ?_
 ·refine k12 (zy.mp hv) fun i hi e=> ?_
  subst e
  exact k12 (ev_col (m:=m) (n:=53) hq (zI.mp hi) (zL _ _ _)) fun σ₁ e1 l1=>⟨_,_,e1,l1.snoc _,_,rfl,zw _ _⟩
 ·rw [xB _ fun ω=>rfl] at hA
  refine ⟨_,_,e,⟨ws,zw _ _,by rw [hA.length];rfl,fun i hi=> ?_⟩,l.snoc _⟩
  refine k12 (hA.get (by rw [zA,yP hi];rfl)) fun w hw h=> ?_
  refine k12 h fun r a b=> ?_
  subst a
  exact ⟨r,hw,yf _ _ b⟩
end
noncomputable abbrev zipE:E:= .comp (.bin .sub (.var 91) (.var 4)) [.mk (.tup [.name 91,.name 4]) (.zip (.sub (.var 83) (.var 17)) (.sub (.var 83) (.var 63))) []] [91,4]
noncomputable abbrev endC:E:= .cmp .ge (.call (.lit (.cst (.builtin "max"))) [zipE]) (.lit (.int 0))
noncomputable abbrev endE:E:= .call (.lit (.cst (.builtin "min"))) [.bin .add (.comp (.var 63) [.mk (.name 63) (.plain (.call (.lit (.cst (.type "range"))) [.bin .add (.var 17) (.lit (.int 1)),.var 3])) [endC]] [63]) (.list [.var 3])]
noncomputable abbrev endsE:E:= .comp endE [.mk (.name 17) (.plain (.call (.lit (.cst (.type "range"))) [.var 3])) []] [17]
noncomputable abbrev hangE:E:= .sub (.bin .add (.list [.var 3]) (.comp (.var 88) [.mk (.name 88) (.plain (.call (.lit (.cst (.type "range"))) [.var 17])) [.cmp .gt (.sub (.var 84) (.var 88)) (.var 17)]] [88])) (.neg (.lit (.int 1)))
noncomputable abbrev hangsE:E:= .comp hangE [.mk (.name 17) (.plain (.call (.lit (.cst (.type "range"))) [.var 3])) []] [17]
noncomputable def difL (a b:Txt):List Int:=(List.range 5).map fun (k:Nat)=>col a ((k:Int)+1) 0 - col b ((k:Int)+1) 0
theorem Jw: ∀a∈L31,∀t∈T5,(decide (0≤col a t 0)&&decide (col a t 0≤100))=true:=by
 have e:L31.all (fun a=>T5.all fun t=>decide (0≤col a t 0)&&decide (col a t 0≤100))=true:=by kernel_rfl
 exact fun a ha t ht=>zq.mp (zq.mp e a ha) t ht
theorem max_nn: ∀(l:List Int) (m:Int),0≤maxI m l↔0≤m∨ ∃x∈l,0≤x
 | [],m=>⟨.inl,fun h=>h.elim id fun h=>k12 h fun x hx ω=>absurd hx yu⟩
 | x::l,m=>by
  have e:maxI m (x::l)=maxI (if decide (m < x) then x else m) l:=rfl
  rw [e,max_nn l]
  by_cases hq:m < x
  ·rw [if_pos (decide_eq_true hq)]
   constructor
   ·rintro (h | ⟨y,hy,h⟩)
    ·exact .inr ⟨x,.head _,h⟩
    ·exact .inr ⟨y,.tail _ hy,h⟩
   ·rintro (h | ⟨y,hy,h⟩)
    ·exact .inl (by omega)
    ·rcases zh.mp hy with rfl | hy
     ·exact .inl h
     ·exact .inr ⟨y,hy,h⟩
  ·rw [decide_eq_false hq]
   constructor
   ·rintro (h | ⟨y,hy,h⟩)
    ·exact .inl h
    ·exact .inr ⟨y,.tail _ hy,h⟩
   ·rintro (h | ⟨y,hy,h⟩)
    ·exact .inl h
    ·rcases zh.mp hy with rfl | hy
     ·exact .inl (show 0≤m by omega)
     ·exact .inr ⟨y,hy,h⟩
theorem dif_lt (a b:Txt): ∃d l,difL a b=d::l∧decide (0≤maxI d l)= !jX a b:=by
 refine ⟨_,_,rfl,?_⟩
 rw [wM,decide_eq_true_iff,max_nn]
 have e: ∀P:Int→Prop,(P (col a ((0:Nat)+1) 0 - col b ((0:Nat)+1) 0)∨ ∃x∈(List.range 5).tail.map fun (k:Nat)=>col a ((k:Int)+1) 0 - col b ((k:Int)+1) 0,P x)↔ ∃x∈difL a b,P x:=fun P=>
  ⟨fun h=>h.elim (fun h=>⟨_,.head _,h⟩) fun ⟨x,hx,h⟩=>⟨x,.tail _ hx,h⟩,fun ⟨x,hx,h⟩=>by
   rcases zh.mp hx with rfl | hx
   ·exact .inl h
   ·exact .inr ⟨x,hx,h⟩⟩
 refine (e fun x=>0≤x).trans ?_
 unfold jX
 constructor
 ·rintro ⟨x,hx,h⟩
  refine k12 (zy.mp hx) fun k hk e=> ?_
  cases hq:(List.range 5).all fun (k:Nat)=>decide (col a ((k:Int)+1) 0 < col b ((k:Int)+1) 0) with
  | false=>rfl
  | true=>
   have:=of_decide_eq_true (zq.mp hq k hk)
   omega
 ·intro h
  have hq:((List.range 5).all fun (k:Nat)=>decide (col a ((k:Int)+1) 0 < col b ((k:Int)+1) 0))=false:=by
   cases hq:(List.range 5).all fun (k:Nat)=>decide (col a ((k:Int)+1) 0 < col b ((k:Int)+1) 0) with
   | false=>rfl
   | true=>rw [hq] at h;exact ft h
  rw [List.all_eq_false] at hq
  refine k12 hq fun k hk h=>⟨_,zy.mpr ⟨k,hk,rfl⟩,?_⟩
  have: ¬(col a ((k:Int)+1) 0 < col b ((k:Int)+1) 0):=fun h'=>h (decide_eq_true h')
  omega
theorem rng_tab:tabA (fun i=>(yq ((i+1:Nat):Int) (5 - i))) (List.range 6)=(List.range 6).map fun i=>zx ((List.range 6).filter fun j=>decide (i < j)):=by kernel_rfl
theorem rng_tab2:tabA (fun i=>yq 0 i) (List.range 7)=(List.range 7).map fun i=>zx (List.range i):=by kernel_rfl
theorem zaX (i:Nat) (h:i < 6):yq ((i+1:Nat):Int) (5 - i)=zx ((List.range 6).filter fun j=>decide (i < j)):=wq rng_tab i (zI.mpr h)
theorem jH (i:Nat) (h:i < 7):yq 0 i=zx (List.range i):=wq rng_tab2 i (zI.mpr h)
theorem nats_ints (l:List Nat):zx l=yw (l.map fun (x:Nat)=>(x:Int)):=(yy ..).symm
theorem zbb: ∀ {l:List Int} {a:Int},(∀x∈l,a≤x)→minI a l=a
 | [],a,h=>rfl
 | x::l,a,h=>by
  have e:minI a (x::l)=minI (if decide (x < a) then x else a) l:=rfl
  rw [e,decide_eq_false (by have:=h x (.head _);omega)]
  exact zbb fun y hy=>h y (.tail _ hy)
theorem end_cons (lt:Nat→Nat→Bool) (i:Nat): ∃r,((List.range 6).filter fun j=>decide (i < j)&& !lt i j)++ [6]=endP lt i::r∧ ∀x∈r,endP lt i≤x:=by
 unfold endP
 have hp:(((List.range 6).filter fun j=>decide (i < j)&& !lt i j)++ [6]).Pairwise (· < ·):=by
  rw [Zz]
  refine ⟨List.Pairwise.filter _ List.pairwise_lt_range,XO ..,fun a ha b hb=> ?_⟩
  cases zv.mp hb
  exact zI.mp (yJ.mp ha).1
 cases hq:((List.range 6).filter fun j=>decide (i < j)&& !lt i j)++ [6] with
 | nil=>exact absurd (ju.mp hq).2 (xV _ _)
 | cons x r=>
  rw [hq] at hp
  exact ⟨r,rfl,fun y hy=>wI ((zbX.mp hp).1 y hy)⟩
theorem it_zip {cf:Cf} {n i j:Nat} {vars:Vars} {σ:H} {a b:E} {xs ys:List V} (ha:ev Γ cf n a vars σ=some (.ref i,σ)) (hb:ev Γ cf n b vars σ=some (.ref j,σ)) (hi:σ[i]? =some (.list xs)) (hj:σ[j]? =some (.list ys)):evIt (ev Γ cf n) (.zip a b) vars σ=some (.zip i j 0,σ):=by
 show (match ev Γ cf n a vars σ with
  | some (v,σ')=>match ev Γ cf n b vars σ' with
   | some (w,σ'')=>zipOf v w σ''
   | .none=> .none
  | .none=> .none)=_
 rw [ha];dsimp only;rw [hb]
 show ((yn σ (.ref i)).bind fun ω=>(yn σ (.ref j)).map fun ω=>(Itr.zip i j 0,σ))=_
 rw [yk _ hi,yk _ hj];rfl
section
variable {cf:Cf} {n c i j e:Nat} {le:Nat→Txt} {σ:H} {vars:Vars}
theorem zbE (C:CG le c σ) (hi:i < 7) {z y:Nat} (g83:vars.get z=some (.ref c)) (g17:vars.get y=some (natV i)): ∃r,ev Γ cf (n+2) (.sub (.var z) (.var y)) vars σ=some (.ref r,σ)∧σ[r]? =some (.list (Wa (le i))):=by
 obtain ⟨ws,h1,h2,h3⟩:=C.g
 exact k12 (h3 i hi) fun r a b=>⟨r,yU (zl g83) (zl g17) (Zg h1 a (by rw [h2];decide)),b⟩
theorem ev_zip2 (C:CG le c σ) (hq: ∀i,i < 7→le i∈L31) (hi:i < 7) (hj:j < 7) (g83:vars.get 83=some (.ref c)) (g17:vars.get 17=some (natV i)) (g63:vars.get 63=some (natV j)): ∃σ',ev Γ cf (n+4) zipE vars σ=some (.ref σ'.length,σ'++ [O.list (yw (difL (le i) (le j)))])∧Le σ σ':=by
 have hcl:(Wa (le i)).length=(Wa (le j)).length:=rfl
 refine k12 (zbE (cf:=cf) (n:=n+1) (vars:=vars) C hi g83 g17) fun r a1 b1=> ?_
 refine k12 (zbE (cf:=cf) (n:=n+1) (vars:=vars) C hj g83 g63) fun r' a2 b2=> ?_
 refine k12 (wd (Γ:=Γ) (cf:=cf) (n:=n+3) (t:= .tup [.name 91,.name 4]) (elt:= .bin .sub (.var 91) (.var 4)) (ifs:= []) (own:= [91,4]) (vars:=vars) (σ:=σ) (σb:=σ) (itr:=fun k=> .zip r r' k) (xs:=zipL (Wa (le i)) (Wa (le j))) (it_zip a1 a2 b1 b2) rfl (by rw [XT hcl];exact (by decide:5 < 1999)) (zcL b1 b2 hcl)
  (fun vs=>True) (fun v vs=>(vs.set 91 ((tupL v).getD 0 .none)).set 4 ((tupL v).getD 1 .none)) (fun ω=>true) (fun v=> .int (intD ((tupL v).getD 0 .none) - intD ((tupL v).getD 1 .none))) (fun v hv σ vs=> ?_) (fun v ω vs h=>trivial) trivial fun v hv vs τ l P=>⟨τ,rfl,.refl _,fun ω=>⟨τ,?_,.refl _⟩⟩) fun σ₁ e1 l1=> ?_
 ·refine k11 (wQ.mp hv) fun q hv'=> ?_
  obtain ⟨x,y,hx,hy,e⟩:=Wv hcl hv'
  subst e
  rfl
 ·refine k11 (wQ.mp hv) fun q hv'=> ?_
  obtain ⟨x,y,hx,hy,e⟩:=Wv hcl hv'
  subst e
  have hx':((List.range 5)[q]?).map (fun (k:Nat)=>V.int (col (le i) ((k:Int)+1) 0))=some x:=(zA ..).symm.trans hx
  have hy':((List.range 5)[q]?).map (fun (k:Nat)=>V.int (col (le j) ((k:Int)+1) 0))=some y:=(zA ..).symm.trans hy
  refine k12 (zc.mp hx') fun k hk ex=> ?_
  rw [hk] at hy'
  have ey:=za hy'
  subst ex;subst ey
  have ht:((k:Int)+1)∈T5:=zy.mpr ⟨k,zM hk,rfl⟩
  have s1:=zu.mp (Jw (le i) (hq i hi) _ ht)
  have s2:=zu.mp (Jw (le j) (hq j hj) _ ht)
  have q1:=of_decide_eq_true s1.1
  have q2:=of_decide_eq_true s1.2
  have q3:=of_decide_eq_true s2.1
  have q4:=of_decide_eq_true s2.2
  refine qK (x:= .int (col (le i) ((k:Int)+1) 0)) (y:= .int (col (le j) ((k:Int)+1) 0)) (zl (by rw [yb rfl,zL];rfl)) (zl (zL _ _ _)) ((zan ..).trans ?_)
  rw [qD (wt (by omega) (by omega))];rfl
 ·rw [xB _ fun ω=>rfl] at e1
  exact ⟨σ₁,e1,l1⟩
theorem ev_end (C:CG le c σ) (hq: ∀i,i < 7→le i∈L31) (hi:i < 6) (g3:vars.get 3=some (natV 6)) (g83:vars.get 83=some (.ref c)) (g17:vars.get 17=some (natV i)): ∃σ',ev Γ cf (n+20) endE vars σ=some (natV (endP (ltQ le) i),σ')∧Le σ σ':=by
 have it0:evIt (ev Γ cf (n+17)) (.plain (.call (.lit (.cst (.type "range"))) [.bin .add (.var 17) (.lit (.int 1)),.var 3])) vars σ=some (.one (.vs ((yq ((i+1:Nat):Int) (5 - i)).drop 0)),σ):=
  it_rng2 (n:=n+15) (JT (n:=n+15) (b:=i) (c:=1) (zl g17) zO (by omega)) (by rw [show ((i+1:Nat):Int)+((5 - i:Nat):Int)=((6:Nat):Int) by omega];exact zl g3) (by omega) (wt (by omega) (by omega)) (wt (by omega) (by omega))
 refine k12 (wd (Γ:=Γ) (cf:=cf) (n:=n+17) (t:= .name 63) (elt:= .var 63) (ifs:= [endC]) (own:= [63]) (vars:=vars) (σ:=σ) (σb:=σ) (itr:=fun k=> .one (.vs ((yq ((i+1:Nat):Int) (5 - i)).drop k))) (xs:=yq ((i+1:Nat):Int) (5 - i)) it0 rfl (by rw [wK];omega) (xI _)
  (fun vs=>vs.get 83=some (.ref c)∧vs.get 17=some (natV i)) (fun v vs=>vs.set 63 v) (fun v=> !ltQ le i (intD v).toNat) id (fun v ω σ vs=>rfl) (fun v ω vs h=>⟨(yb rfl _ _).trans h.1,(yb rfl _ _).trans h.2⟩) ⟨g83,g17⟩ fun v hv vs τ l P=> ?_) fun σ₁ e1 l1=> ?_
 ·rw [zaX i hi] at hv
  refine k12 (zy.mp hv) fun j hj e=> ?_
  subst e
  have hj6:=zI.mp (yJ.mp hj).1
  refine k12 (ev_zip2 (cf:=cf) (n:=n+11) (vars:=vs.set 63 (natV j)) (C.le l) hq (by omega) (show j < 7 by omega) ((yb rfl _ _).trans P.1) ((yb rfl _ _).trans P.2) (zL _ _ _)) fun σ₁ e1 l1=> ?_
  obtain ⟨d,dl,h1,h2⟩:=dif_lt (le i) (le j)
  rw [h1] at e1
  have e2:=o_max (n:=n+14) e1 (zw _ _)
  refine ⟨_,qS (wj (xD e2 zO ((cmp_ge ..).trans (congrArg some h2)))),l1.snoc _,fun ω=>⟨_,zl (zL _ _ _),.refl _⟩⟩
 ·rw [QT,zaX i hi] at e1
  unfold zx at e1
  rw [wc,List.filter_filter] at e1
  have e1:ev Γ cf (n+18) (.comp (.var 63) [.mk (.name 63) (.plain (.call (.lit (.cst (.type "range"))) [.bin .add (.var 17) (.lit (.int 1)),.var 3])) [endC]] [63]) vars σ=some (.ref σ₁.length,σ₁++ [O.list (zx ((List.range 6).filter fun j=> !ltQ le i j&&decide (i < j)))]):=e1
  have e0:((List.range 6).filter fun j=> !ltQ le i j&&decide (i < j))=(List.range 6).filter fun j=>decide (i < j)&& !ltQ le i j:=List.filter_congr fun x ω=>Bool.and_comm _ _
  rw [e0] at e1
  obtain ⟨r,h1,h2⟩:=end_cons (ltQ le) i
  have e2:=ZP (n:=n+18) e1 (xm (zZ (zl g3)) (by decide:1≤1000000)) (yf _ _ (zw _ _)) (zw _ _) (by
   have:=yp (fun j=>decide (i < j)&& !ltQ le i j) (List.range 6)
   rw [zd,yM]
   rw [zG] at this
   show _+1≤1000000
   omega)
  have h3:zx ((List.range 6).filter fun j=>decide (i < j)&& !ltQ le i j)++ [natV 6]=yw ((endP (ltQ le) i:Int)::r.map fun (x:Nat)=>(x:Int)):=by
   rw [show ([natV 6]:List V)=zx [6] from rfl,←wu,h1,nats_ints];rfl
  rw [h3] at e2
  have e3:=o_min (n:=n+18) e2 (zw _ _)
  rw [zbb fun x hx=>k12 (zy.mp hx) fun y hy e=>by rw [←e];have:=h2 y hy;omega] at e3
  exact ⟨_,e3,((l1.snoc _).snoc _).snoc _⟩
theorem ends_ev (C:CG le c σ) (hq: ∀i,i < 7→le i∈L31) (g3:vars.get 3=some (natV 6)) (g83:vars.get 83=some (.ref c)): ∃e σ',ev Γ cf 60 endsE vars σ=some (.ref e,σ')∧σ'[e]? =some (.list (zx ((List.range 6).map (endP (ltQ le)))))∧Le σ σ':=by
 refine k12 (wd (Γ:=Γ) (cf:=cf) (n:=59) (t:= .name 17) (elt:=endE) (ifs:= []) (own:= [17]) (vars:=vars) (σ:=σ) (σb:=σ) (itr:=fun k=> .one (.vs ((yq 0 6).drop k))) (xs:=yq 0 6) (Zl (lo:=0) (m:=6) (Xf (n:=57) (zl g3) (by decide+kernel)) (by decide) (by decide+kernel) (by decide+kernel)) rfl (by decide) (xI _)
  (fun vs=>vs.get 3=some (natV 6)∧vs.get 83=some (.ref c)) (fun v vs=>vs.set 17 v) (fun ω=>true) (fun v=>natV (endP (ltQ le) (intD v).toNat)) (fun v ω σ vs=>rfl) (fun v ω vs h=>⟨(yb rfl _ _).trans h.1,(yb rfl _ _).trans h.2⟩) ⟨g3,g83⟩ fun v hv vs τ l P=>⟨τ,rfl,.refl _,fun ω=> ?_⟩) fun σ₁ e1 l1=> ?_
 ·rw [jH 6 (by decide)] at hv
  refine k12 (zy.mp hv) fun i hi e=> ?_
  subst e
  exact ev_end (n:=39) (C.le l) hq (zI.mp hi) ((yb rfl _ _).trans P.1) ((yb rfl _ _).trans P.2) (zL _ _ _)
 ·rw [xB _ fun ω=>rfl] at e1
  exact ⟨_,_,e1,zw _ _,l1.snoc _⟩
end
theorem sub_lastN {σ:H} {a:Nat} {x:Nat} {l:List Nat} (h:σ[a]? =some (.list (zx (x::l)))) (hl:l.length≤1000):wL Γ (.ref a) (.int (-1)) σ=some (natV ((x::l).getLastD 6)):=by
 rcases List.eq_nil_or_concat (x::l) with e | ⟨m,y,e⟩
 ·exact absurd e (xV _ _)
 ·have e:x::l=m++ [y]:=by rw [e];simp
  have hlen:m.length < 1000000:=by
   have:=congrArg List.length e
   rw [zd,xg] at this
   have:l.length+1=m.length+1:=this
   lia
  rw [e,wu] at h
  rw [e,List.getLastD_concat]
  exact WI h (by rw [yM];exact hlen)
section
variable {cf:Cf} {n c i j e p:Nat} {le:Nat→Txt} {sg dg:Nat→Nat} {σ:H} {vars:Vars}
theorem ev_hang {lt:Nat→Nat→Bool} (hi:i < 6) (he:σ[e]? =some (.list (zx ((List.range 6).map (endP lt))))) (g3:vars.get 3=some (natV 6)) (g84:vars.get 84=some (.ref e)) (g17:vars.get 17=some (natV i)): ∃σ',ev Γ cf (n+20) hangE vars σ=some (natV (hangP lt i),σ')∧Le σ σ':=by
 have it0:evIt (ev Γ cf (n+17)) (.plain (.call (.lit (.cst (.type "range"))) [.var 17])) vars σ=some (.one (.vs ((yq 0 i).drop 0)),σ):=by
  have hz:(0:Int)+(i:Int)=(i:Int):=Yd _
  exact Zl (lo:=0) (m:=i) (by rw [hz];exact Xf (n:=n+15) (zl g17) (wt (by lia) (by lia))) (by lia) (by decide+kernel) (wt (by lia) (by lia))
 refine k12 (wd (Γ:=Γ) (cf:=cf) (n:=n+17) (t:= .name 88) (elt:= .var 88) (ifs:= [.cmp .gt (.sub (.var 84) (.var 88)) (.var 17)]) (own:= [88]) (vars:=vars) (σ:=σ++ [O.list [natV 6]]) (σb:=σ++ [O.list [natV 6]]) (itr:=fun k=> .one (.vs ((yq 0 i).drop k))) (xs:=yq 0 i) (by
   have hz:(0:Int)+(i:Int)=(i:Int):=Yd _
   exact Zl (lo:=0) (m:=i) (by rw [hz];exact Xf (n:=n+15) (zl g17) (wt (by lia) (by lia))) (by lia) (by decide+kernel) (wt (by lia) (by lia))) rfl (by rw [wK];lia) (xI _)
  (fun vs=>vs.get 84=some (.ref e)∧vs.get 17=some (natV i)) (fun v vs=>vs.set 88 v) (fun v=>decide (i < endP lt (intD v).toNat)) id (fun v ω σ vs=>rfl) (fun v ω vs h=>⟨(yb rfl _ _).trans h.1,(yb rfl _ _).trans h.2⟩) ⟨g84,g17⟩ fun v hv vs τ l P=> ?_) fun σ₁ e1 l1=> ?_
 ·rw [jH i (by lia)] at hv
  refine k12 (zy.mp hv) fun h hh e=> ?_
  subst e
  have hh6:h < 6:=we (zI.mp hh) hi
  have he':=l _ _ (yf _ _ he)
  refine ⟨τ,qS (wj (xD (yU (n:=n+15) (zl ((yb rfl _ _).trans P.1)) (zl (zL _ _ _)) (ji he' (k:=h) (by rw [zA,yP hh6];rfl) (by rw [zf,zG];decide))) (zl ((yb rfl _ _).trans P.2)) ((cmp_gt ..).trans ?_))),.refl _,fun ω=>⟨τ,zl (zL _ _ _),.refl _⟩⟩
  refine congrArg some ?_
  show decide ((i:Int) < (endP lt h:Int))=decide (i < endP lt h)
  exact decide_eq_decide.mpr ⟨fun h=>by lia,fun h=>by lia⟩
 ·rw [QT,jH i (by lia)] at e1
  unfold zx at e1
  rw [wc] at e1
  have e1:ev Γ cf (n+18) (.comp (.var 88) [.mk (.name 88) (.plain (.call (.lit (.cst (.type "range"))) [.var 17])) [.cmp .gt (.sub (.var 84) (.var 88)) (.var 17)]] [88]) vars (σ++ [O.list [natV 6]])=some (.ref σ₁.length,σ₁++ [O.list (zx ((List.range i).filter fun h=>decide (i < endP lt h)))]):=e1
  have hl:((List.range i).filter fun h=>decide (i < endP lt h)).length≤6:=by
   have:=yp (fun h=>decide (i < endP lt h)) (List.range i)
   rw [zG] at this
   lia
  have e2:=ZP (n:=n+18) (xm (zZ (zl g3)) (by decide:1≤1000000)) e1 (yf _ _ (l1 _ _ (zw _ _))) (zw _ _) (by
   rw [zd,yM]
   show 1+_≤1000000
   lia)
  exact ⟨_,yU e2 (Qd (i:=1) zO (by decide+kernel)) (sub_lastN (x:=6) (l:=(List.range i).filter fun h=>decide (i < endP lt h)) (zw _ _) (zm hl (by decide))),(((Le.refl σ).snoc _).trans l1).snoc _ |>.snoc _⟩
theorem hangs_ev (he:σ[e]? =some (.list (zx ((List.range 6).map (endP (ltQ le)))))) (g3:vars.get 3=some (natV 6)) (g84:vars.get 84=some (.ref e)): ∃a σ',ev Γ cf 60 hangsE vars σ=some (.ref a,σ')∧σ'[a]? =some (.list (zx (xT (ltQ le))))∧Le σ σ':=by
 refine k12 (wd (Γ:=Γ) (cf:=cf) (n:=59) (t:= .name 17) (elt:=hangE) (ifs:= []) (own:= [17]) (vars:=vars) (σ:=σ) (σb:=σ) (itr:=fun k=> .one (.vs ((yq 0 6).drop k))) (xs:=yq 0 6) (Zl (lo:=0) (m:=6) (Xf (n:=57) (zl g3) (by decide+kernel)) (by decide) (by decide+kernel) (by decide+kernel)) rfl (by decide) (xI _)
  (fun vs=>vs.get 3=some (natV 6)∧vs.get 84=some (.ref e)) (fun v vs=>vs.set 17 v) (fun ω=>true) (fun v=>natV (hangP (ltQ le) (intD v).toNat)) (fun v ω σ vs=>rfl) (fun v ω vs h=>⟨(yb rfl _ _).trans h.1,(yb rfl _ _).trans h.2⟩) ⟨g3,g84⟩ fun v hv vs τ l P=>⟨τ,rfl,.refl _,fun ω=> ?_⟩) fun σ₁ e1 l1=> ?_
 ·rw [jH 6 (by decide)] at hv
  refine k12 (zy.mp hv) fun i hi e=> ?_
  subst e
  exact ev_hang (n:=39) (zI.mp hi) (l _ _ he) ((yb rfl _ _).trans P.1) ((yb rfl _ _).trans P.2) (zL _ _ _)
 ·rw [xB _ fun ω=>rfl] at e1
  refine ⟨_,_,e1,?_,l1.snoc _⟩
  rw [zw,←zcK (lt:=ltQ le) fun a b c=>lt_trans]
  rfl
noncomputable abbrev worE:E:= .comp (.sub (.var 87) (.lit (.int 2))) [.mk (.name 87) (.plain (.var 51)) []] [87]
theorem wor_ev (P:PG le sg dg p σ) (g51:vars.get 51=some (.ref p)): ∃σ',ev Γ cf (n+4) worE vars σ=some (.ref σ'.length,σ'++ [O.list (zx ((List.range 7).map dg))])∧Le σ σ':=by
 refine k12 (wd (Γ:=Γ) (cf:=cf) (n:=n+3) (t:= .name 87) (elt:= .sub (.var 87) (.lit (.int 2))) (ifs:= []) (own:= [87]) (vars:=vars) (σ:=σ) (σb:=σ) (itr:=fun k=> .one (.ls p k)) (xs:=(List.range 7).map (qM le sg dg)) (jZ (zl g51) P.l) rfl (by rw [zf,zG];decide) (qW P.l)
  (fun vs=>True) (fun v vs=>vs.set 87 v) (fun ω=>true) (fun v=>(tupL v).getD 2 .none) (fun v ω σ vs=>rfl) (fun v ω vs h=>trivial) trivial fun v hv vs τ l ω=>⟨τ,rfl,.refl _,fun ω=>⟨τ,?_,.refl _⟩⟩) fun σ₁ e1 l1=> ?_
 ·refine k12 (zy.mp hv) fun i hi e=> ?_
  subst e
  exact yU (x:=qM le sg dg i) (zl (zL _ _ _)) zO rfl
 ·rw [xB _ fun ω=>rfl] at e1
  exact ⟨σ₁,e1,l1⟩
noncomputable abbrev oneE:E:= .bin .mul (.list [.lit (.int 1)]) (.call (.lit (.cst (.builtin "len"))) [.var 51])
theorem one_ev (P:PG le sg dg p σ) (g51:vars.get 51=some (.ref p)): ∃σ',ev Γ cf (n+4) oneE vars σ=some (.ref σ'.length,σ'++ [O.list (yw (List.replicate 7 1))])∧Le σ σ':=by
 have e1:=XV (cf:=cf) (n:=n+1) (vars:=vars) (σ:=σ++ [O.list [V.int 1]]) (zl g51) (yf _ _ P.l)
 refine ⟨σ++ [O.list [V.int 1]],qK (xm (zZ zO) (by decide:1≤1000000)) e1 ?_,.app _ _⟩
 show ((yn (σ++ [O.list [V.int 1]]) (.ref σ.length)).bind fun xs=>if decide (((7:Nat):Int)≤1000)&&(fit ((7:Nat):Int)&&Nat.ble xs.length 1000) then mkL (List.replicate ((7:Nat):Int).toNat xs).flatten (σ++ [O.list [V.int 1]]) else .none)=_
 rw [yk _ (zw _ _),zF]
 rfl
end
noncomputable abbrev lenE:E:= .call (.lit (.cst (.builtin "len"))) [.var 62]
noncomputable abbrev maxC:E:= .comp (.bin .add (.lit (.int 1)) (.sub (.var 62) (.var 63))) [.mk (.name 63) (.plain (.call (.lit (.cst (.type "range"))) [lenE])) [.cmp .ne (.var 63) (.var 89)]] [63]
noncomputable abbrev maxE:E:= .call (.lit (.cst (.builtin "max"))) [.bin .add (.list [.sub (.var 62) (.var 89)]) maxC]
noncomputable abbrev minC:E:= .comp maxE [.mk (.name 89) (.plain (.call (.lit (.cst (.type "range"))) [lenE])) []] [89]
noncomputable abbrev minE:E:= .call (.lit (.cst (.builtin "min"))) [.bin .add minC (.bin .mul (.list [.lit (.int 1)]) (.cmp .eq (.var 62) (.list [])))]
noncomputable abbrev kidE:E:= .comp (.sub (.var 86) (.var 63)) [.mk (.name 63) (.plain (.call (.lit (.cst (.type "range"))) [.var 3])) [.cmp .eq (.sub (.var 58) (.var 63)) (.var 17)]] [63]
theorem ints_get {σ:H} {a k:Nat} {l:List Int} (h:σ[a]? =some (.list (yw l))) (hk:k < l.length) (hl:l.length≤1000):wL Γ (.ref a) (.int (k:Int)) σ=some (.int (l.getD k 0)):=by
 refine Zg h ?_ (by show (List.map V.int l).length≤1000000;rw [zf];lia)
 show (List.map V.int l)[k]? =_
 rw [zA,zk,zj hk];rfl
theorem Jq (σ:H) (n:Nat): ∀a:List Int,mapO (flat σ (n+1)) (yw a)=some (yw a)
 | []=>rfl
 | x::a=>by
  show (match mapO (flat σ (n+1)) (yw a) with
   | some ys=>some (V.int x::ys)
   | .none=> .none)=_
  rw [Jq σ n a];rfl
theorem eqV_ints0 {σ:H} {i j:Nat} {a:List Int} (h:σ[i]? =some (.list (yw a))) (h':σ[j]? =some (.list [])):wG Γ .eq (.ref i) (.ref j) σ=some a.isEmpty:=by
 have e1:flat σ 12 (.ref i)=some (.flist (yw a)):=by
  show (match σ[i]? with
   | some (.list vs)=>match mapO (flat σ 11) vs with
    | some ds=>some (V.flist ds)
    | .none=> .none
   | _=> .none)=_
  rw [h];dsimp only;rw [Jq]
 have e2:flat σ 12 (.ref j)=some (.flist []):=by
  show (match σ[j]? with
   | some (.list vs)=>match mapO (flat σ 11) vs with
    | some ds=>some (V.flist ds)
    | .none=> .none
   | _=> .none)=_
  rw [h'];rfl
 show (match flat σ 12 (.ref i) with
  | some x=>match flat σ 12 (.ref j) with
   | some y=>some (eqD x y)
   | .none=> .none
  | .none=> .none)=_
 rw [e1];dsimp only;rw [e2]
 cases a <;>rfl
theorem minL_cons {l:List Int} (h:l≠ []): ∃a r,l=a::r∧minL l=minI a r:=by
 cases l with
 | nil=>exact absurd rfl h
 | cons a r=>exact ⟨a,r,rfl,rfl⟩
section
variable {cf:Cf} {n K q:Nat} {ks:List Int} {σ:H} {vars:Vars}
theorem it_len (hK:σ[K]? =some (.list (yw ks))) (hl:ks.length≤6) (g62:vars.get 62=some (.ref K)):evIt (ev Γ cf (n+3)) (.plain (.call (.lit (.cst (.type "range"))) [lenE])) vars σ=some (.one (.vs ((yq 0 ks.length).drop 0)),σ):=by
 have hz:(0:Int)+(ks.length:Int)=(ks.length:Int):=Yd _
 have e:=XV (cf:=cf) (n:=n) (vars:=vars) (σ:=σ) (zl g62) hK
 have hlen:(yw ks).length=ks.length:=zf ..
 rw [hlen] at e
 exact Zl (lo:=0) (m:=ks.length) (by rw [hz];exact Xf (n:=n+1) e (wt (by lia) (by lia))) (by lia) (by decide+kernel) (wt (by lia) (by lia))
theorem ev_max1 (hK:σ[K]? =some (.list (yw ks))) (hl:ks.length≤6) (hs: ∀x∈ks,0≤x∧x≤9) (hq:q < ks.length) (g62:vars.get 62=some (.ref K)) (g89:vars.get 89=some (natV q)): ∃σ',ev Γ cf (n+8) maxE vars σ=some (.int (inKs ks q),σ')∧Le σ σ':=by
 have e0:ev Γ cf (n+6) (.list [.sub (.var 62) (.var 89)]) vars σ=some (.ref σ.length,σ++ [O.list [.int (ks.getD q 0)]]):=xm (zZ (yU (n:=n+4) (zl g62) (zl g89) (ints_get hK hq (by lia)))) (by decide:1≤1000000)
 refine k12 (wd (Γ:=Γ) (cf:=cf) (n:=n+5) (t:= .name 63) (elt:= .bin .add (.lit (.int 1)) (.sub (.var 62) (.var 63))) (ifs:= [.cmp .ne (.var 63) (.var 89)]) (own:= [63]) (vars:=vars) (σ:=σ++ [O.list [.int (ks.getD q 0)]]) (σb:=σ++ [O.list [.int (ks.getD q 0)]]) (itr:=fun k=> .one (.vs ((yq 0 ks.length).drop k))) (xs:=yq 0 ks.length) (it_len (n:=n+2) (yf _ _ hK) hl g62) rfl (by rw [wK];lia) (xI _)
  (fun vs=>vs.get 62=some (.ref K)∧vs.get 89=some (natV q)) (fun v vs=>vs.set 63 v) (fun v=>decide ((intD v).toNat≠q)) (fun v=> .int (1+ks.getD (intD v).toNat 0)) (fun v ω σ vs=>rfl) (fun v ω vs h=>⟨(yb rfl _ _).trans h.1,(yb rfl _ _).trans h.2⟩) ⟨g62,g89⟩ fun v hv vs τ l P=> ?_) fun σ₁ e1 l1=> ?_
 ·rw [jH _ (by lia)] at hv
  refine k12 (zy.mp hv) fun j hj e=> ?_
  subst e
  have hj':=zI.mp hj
  have hK':=l _ _ (yf _ _ hK)
  have hm:ks.getD j 0∈ks:=by
   rw [zk,zj hj']
   exact ww hj'
  have hb:=hs _ hm
  refine ⟨τ,qS (wj (xD (n:=n+4) (zl (zL _ _ _)) (zl ((yb rfl _ _).trans P.2)) ?_)),.refl _,fun ω=>⟨τ,qK (n:=n+4) zO (yU (zl ((yb rfl _ _).trans P.1)) (zl (zL _ _ _)) (ints_get hK' hj' (by lia))) ((Ys ..).trans ?_),.refl _⟩⟩
  ·show some (!((j:Int)==(q:Int)))=some (decide (j≠q))
   refine congrArg some ?_
   by_cases hjq:j=q
   ·subst hjq
    rw [beq_self_eq_true,decide_eq_false (fun h=>h rfl)];rfl
   ·rw [beq_eq_false_iff_ne.mpr (show (j:Int)≠(q:Int) by lia),decide_eq_true hjq];rfl
  ·rw [qD (wt (by lia) (by lia))];rfl
 ·rw [jH _ (by lia)] at e1
  unfold zx at e1
  rw [wc,yy] at e1
  have e1:ev Γ cf (n+6) maxC vars (σ++ [O.list [.int (ks.getD q 0)]])=some (.ref σ₁.length,σ₁++ [O.list (yw (((List.range ks.length).filter fun j=>decide (j≠q)).map fun j=>1+ks.getD j 0))]):=by
   unfold yw
   rw [yy]
   exact e1
  have hlf:((List.range ks.length).filter fun j=>decide (j≠q)).length≤6:=by
   have:=yp (fun j=>decide (j≠q)) (List.range ks.length)
   rw [zG] at this
   lia
  have e2:=ZP (n:=n+6) e0 e1 (yf _ _ (l1 _ _ (zw _ _))) (zw _ _) (by
   unfold yw
   rw [zd,zf,zf]
   show 1+_≤1000000
   lia)
  have e3:=o_max (n:=n+6) (a:=ks.getD q 0) (l:=((List.range ks.length).filter fun j=>decide (j≠q)).map fun j=>1+ks.getD j 0) e2 (zw _ _)
  exact ⟨_,e3,((((Le.refl σ).snoc _).trans l1).snoc _).snoc _⟩
theorem ev_min1 (hK:σ[K]? =some (.list (yw ks))) (hl:ks.length≤6) (hs: ∀x∈ks,0≤x∧x≤9) (g62:vars.get 62=some (.ref K)): ∃σ',ev Γ cf (n+12) minE vars σ=some (.int (lStep ks),σ')∧Le σ σ':=by
 refine k12 (wd (Γ:=Γ) (cf:=cf) (n:=n+9) (t:= .name 89) (elt:=maxE) (ifs:= []) (own:= [89]) (vars:=vars) (σ:=σ) (σb:=σ) (itr:=fun k=> .one (.vs ((yq 0 ks.length).drop k))) (xs:=yq 0 ks.length) (it_len (n:=n+6) hK hl g62) rfl (by rw [wK];lia) (xI _)
  (fun vs=>vs.get 62=some (.ref K)) (fun v vs=>vs.set 89 v) (fun ω=>true) (fun v=> .int (inKs ks (intD v).toNat)) (fun v ω σ vs=>rfl) (fun v ω vs h=>(yb rfl _ _).trans h) g62 fun v hv vs τ l P=>⟨τ,rfl,.refl _,fun ω=> ?_⟩) fun σ₁ e1 l1=> ?_
 ·rw [jH _ (by lia)] at hv
  refine k12 (zy.mp hv) fun j hj e=> ?_
  subst e
  exact ev_max1 (n:=n+1) (l _ _ hK) hl hs (zI.mp hj) ((yb rfl _ _).trans P) (zL _ _ _)
 ·rw [xB _ fun ω=>rfl,jH _ (by lia)] at e1
  have e1:ev Γ cf (n+10) minC vars σ=some (.ref σ₁.length,σ₁++ [O.list (yw ((List.range ks.length).map (inKs ks)))]):=by
   unfold yw
   rw [yy]
   unfold zx at e1
   rw [yy] at e1
   exact e1
  let σ2:=σ₁++ [O.list (yw ((List.range ks.length).map (inKs ks)))]
  let σ3:=σ2++ [O.list [V.int 1]]
  let σ4:=σ3++ [O.list []]
  have hK4:σ4[K]? =some (.list (yw ks)):=yf _ _ (yf _ _ (yf _ _ (l1 _ _ hK)))
  have e2:ev Γ cf (n+9) (.cmp .eq (.var 62) (.list [])) vars σ3=some (.bool ks.isEmpty,σ4):=xD (n:=n+8) (zl g62) (xm (n:=n+7) wo (by decide)) (eqV_ints0 hK4 (zw _ _))
  have e3:ev Γ cf (n+10) (.bin .mul (.list [.lit (.int 1)]) (.cmp .eq (.var 62) (.list []))) vars σ2=some (.ref σ4.length,σ4++ [O.list (yw (if ks.isEmpty then [1] else []))]):=by
   refine qK (n:=n+9) (xm (zZ zO) (by decide:1≤1000000)) e2 ?_
   show ((yn σ4 (.ref σ2.length)).bind fun xs=>if Nat.ble xs.length 1000 then mkL (if ks.isEmpty then xs else []) σ4 else .none)=_
   rw [yk _ (yf _ _ (zw σ2 _)),zF]
   cases ks.isEmpty <;>rfl
  have hne:(List.range ks.length).map (inKs ks)++(if ks.isEmpty then [1] else [])≠ []:=by
   cases ks with
   | nil=>exact xV _ _
   | cons x ks=>
    intro e
    have:=congrArg List.length e
    rw [zd,zf,zG] at this
    exact absurd this (by show¬(ks.length+1+0=0);lia)
  have hap:yw ((List.range ks.length).map (inKs ks))++yw (if ks.isEmpty then [1] else [])=yw ((List.range ks.length).map (inKs ks)++if ks.isEmpty then [1] else []):=(zX ..).symm
  have e4:=ZP (n:=n+10) e1 e3 (yf _ _ (yf _ _ (yf _ _ (zw σ₁ _)))) (zw _ _) (by
   unfold yw
   rw [zd,zf,zf,zf,zG]
   have:(if ks.isEmpty then [(1:Int)] else []).length≤1:=by cases ks.isEmpty <;>decide
   lia)
  rw [hap] at e4
  obtain ⟨a,r,h1,h2⟩:=minL_cons hne
  have hls:lStep ks=minI a r:=h2
  rw [h1] at e4
  have e5:=o_min (n:=n+10) e4 (zw _ _)
  rw [hls]
  exact ⟨_,e5,((((l1.snoc _).snoc _).snoc _).snoc _).snoc _⟩
theorem ev_kids1 {ab ll i:Nat} {f:List Nat} {l:List Int} (hf:f.length=6) (hab:σ[ab]? =some (.list (zx f))) (hll:σ[ll]? =some (.list (yw l))) (hl7:l.length=7) (g3:vars.get 3=some (natV 6)) (g58:vars.get 58=some (.ref ab)) (g86:vars.get 86=some (.ref ll)) (g17:vars.get 17=some (natV i)):
  ∃K σ',ev Γ cf 60 kidE vars σ=some (.ref K,σ')∧σ'[K]? =some (.list (yw (Qq f l i)))∧Le σ σ':=by
 refine k12 (wd (Γ:=Γ) (cf:=cf) (n:=59) (t:= .name 63) (elt:= .sub (.var 86) (.var 63)) (ifs:= [.cmp .eq (.sub (.var 58) (.var 63)) (.var 17)]) (own:= [63]) (vars:=vars) (σ:=σ) (σb:=σ) (itr:=fun k=> .one (.vs ((yq 0 6).drop k))) (xs:=yq 0 6) (Zl (lo:=0) (m:=6) (Xf (n:=57) (zl g3) (by decide+kernel)) (by decide) (by decide+kernel) (by decide+kernel)) rfl (by decide) (xI _)
  (fun vs=>vs.get 58=some (.ref ab)∧vs.get 86=some (.ref ll)∧vs.get 17=some (natV i)) (fun v vs=>vs.set 63 v) (fun v=>(f.getD (intD v).toNat 9).beq i) (fun v=> .int (l.getD (intD v).toNat 0)) (fun v ω σ vs=>rfl) (fun v ω vs h=>⟨(yb rfl _ _).trans h.1,(yb rfl _ _).trans h.2.1,(yb rfl _ _).trans h.2.2⟩) ⟨g58,g86,g17⟩ fun v hv vs τ le P=> ?_) fun σ₁ e1 l1=> ?_
 ·rw [jH 6 (by decide)] at hv
  refine k12 (zy.mp hv) fun j hj e=> ?_
  subst e
  have hj':=zI.mp hj
  have hfj:f[j]? =some (f.getD j 9):=by rw [zk,zj (by lia)];rfl
  refine ⟨τ,qS (wj (xD (yU (n:=57) (zl ((yb rfl _ _).trans P.1)) (zl (zL _ _ _)) (ji (le _ _ hab) hfj (by lia))) (zl ((yb rfl _ _).trans P.2.2)) ?_)),.refl _,fun ω=>⟨τ,yU (zl ((yb rfl _ _).trans P.2.1)) (zl (zL _ _ _)) (ints_get (le _ _ hll) (by lia) (by lia)),.refl _⟩⟩
  show some (((f.getD j 9:Nat):Int)==(i:Int))=some ((f.getD j 9).beq i)
  refine congrArg some ?_
  rw [wM,beq_iff_eq]
  exact ⟨fun h=>by rw [show f.getD j 9=i by lia];exact qp i,fun h=>by rw [wP h]⟩
 ·rw [jH 6 (by decide)] at e1
  unfold zx at e1
  rw [wc,yy] at e1
  refine ⟨_,_,e1,?_,l1.snoc _⟩
  rw [zw]
  unfold Qq yw Jj
  rw [yy];rfl
end
theorem zbs {l:List Nat} {a x v:Nat} (h:a < l.length):(l.set a v).getD x 0=if x=a then v else l.getD x 0:=by
 rw [zk,zk]
 by_cases hx:x=a
 ·subst hx
  rw [if_pos rfl,jt h];rfl
 ·rw [if_neg hx,xH (Ne.symm hx)]
theorem F_lt: ∀f∈F132,∀i < 6,f[i]? =some (f.getD i 0)∧f.getD i 0 < 7:=by decide+kernel
section
variable {sg dg:Nat→Nat} {f:List Nat}
theorem QV (J:Nat→Nat→Nat→Nat) (d:Nat→Nat) (f:List Nat): ∀k,(wAt J d f k).length=7
 | 0=>by show ((List.range 7).map d).length=7;rw [zf,zG]
 | k+1=>(ZD ..).trans (QV J d f k)
theorem e_len (f:List Nat): ∀k,(eAt f k).length=7
 | 0=>rfl
 | k+1=>(ZD ..).trans (e_len f k)
theorem Jh (f:List Nat): ∀k,(lAt f k).length=7
 | 0=>rfl
 | k+1=>(ZD ..).trans (Jh f k)
theorem w_bound (hf:f∈F132) (hs: ∀i,sg i∈SGN) (hd: ∀i,dg i≤9): ∀k,k≤6→ ∀x,x < 7→1+(wAt (Ji sg) dg f k).getD x 0≤10^(eAt f k).getD x 0
 | 0,_,x,hx=>by
  have e1:(wAt (Ji sg) dg f 0).getD x 0=dg x:=by
   show ((List.range 7).map dg).getD x 0=_
   rw [zk,zA,yP hx];rfl
  have e2:(eAt f 0).getD x 0=1:=by
   show (List.replicate 7 1).getD x 0=1
   rw [zk,List.getElem?_replicate_of_lt hx];rfl
  rw [e1,e2]
  have:=hd x
  lia
 | k+1,hk,x,hx=>by
  have ih:=w_bound hf hs hd k (by lia)
  have hi:=F_lt f hf (5 - k) (by lia)
  show 1+((wAt (Ji sg) dg f k).set (f.getD (5 - k) 0) _).getD x 0≤10^((eAt f k).set (f.getD (5 - k) 0) _).getD x 0
  rw [zbs (by rw [QV];exact hi.2),zbs (by rw [e_len];exact hi.2)]
  by_cases hq:x=f.getD (5 - k) 0
  ·rw [if_pos hq,if_pos hq]
   refine zm (jN_le (Xu _ (hs _)).1 _ _) ?_
   rw [Nat.pow_add]
   exact Yx (ih _ hi.2) (ih _ (by lia))
  ·rw [if_neg hq,if_neg hq]
   exact ih x hx
theorem e_small (hf:f∈F132) {k x:Nat} (hk:k≤6) (hx:x < 7):(eAt f k).getD x 0≤7:=by
 have h1:=zq.mp size_all f hf
 have h2:=zq.mp h1 k (zI.mpr (by lia))
 rw [zk,zj (by rw [e_len];exact hx)]
 exact zg (zq.mp h2 _ (ww _))
theorem w_small (hf:f∈F132) (hs: ∀i,sg i∈SGN) (hd: ∀i,dg i≤9) {k x:Nat} (hk:k≤6) (hx:x < 7):(wAt (Ji sg) dg f k).getD x 0≤10000000:=by
 have h1:=w_bound hf hs hd k hk x hx
 have h2:=zci (e_small hf hk hx)
 lia
theorem l_small (hf:f∈F132) {k:Nat} (hk:k≤7): ∀x∈lAt f k,0≤x∧x≤9:=fun x hx=>by
 have h1:=zq.mp small_all f hf
 have h2:=zq.mp h1 k (zI.mpr (by lia))
 have h3:=zu.mp (zq.mp h2 x hx)
 exact ⟨of_decide_eq_true h3.1,of_decide_eq_true h3.2⟩
end
noncomputable def sgI (c:Nat):Nat:=if c==43 then 0 else if c==42 then 1 else if c==38 then 2 else if c==124 then 3 else 4
noncomputable def sgT:Txt:= [43,42,38,124,94]
theorem sg_idx: ∀c∈SGN,(Builtin.Str.occurrences (stT sgT) (stT [c]) 0 sgT.length 1).head? =some (sgI c)∧J5[sgI c]? =some (symE c):=by decide+kernel
noncomputable abbrev abE:E:= .sub (.var 58) (.var 17)
noncomputable abbrev sgnE:E:= .sub (.tup [.lit (.int 36),.lit (.int 38),.lit (.int 41),.lit (.int 42),.lit (.int 43)]) (.callM (.lit (.str [43,42,38,124,94])) 90 [.sub (.sub (.var 51) abE) (.lit (.int 1))] [])
noncomputable abbrev wjE:E:= .call (.lit (.cst (.ref 312))) [sgnE,.sub (.var 85) abE,.sub (.var 85) (.var 17)]
noncomputable abbrev loopB:List S:= [.names [62] kidE,.setSub (.var 86) (.var 17) minE,.ite (.cmp .lt (.var 17) (.var 3)) [.setSub (.var 85) abE wjE] []]
section
variable {n p ab wl ll i a:Nat} {le:Nat→Txt} {sg dg:Nat→Nat} {f:List Nat} {σ:H} {vars:Vars} {w:List Nat}
theorem ev_sgn {cf:Cf} (P:PG le sg dg p σ) (hs: ∀i,sg i∈SGN) (ha:a < 7) (g51:vars.get 51=some (.ref p)) (hab: ∀m,ev Γ cf (m+2) abE vars σ=some (natV a,σ)):ev Γ cf (n+6) sgnE vars σ=some (natV (symE (sg a)),σ):=by
 have so:=sg_idx (sg a) (hs a)
 have m1:yA Γ (.str [43,42,38,124,94]) 90 σ=some (.str [43,42,38,124,94] [105,110,100,101,120]):=rfl
 have e1:ev Γ cf (n+5) (.callM (.lit (.str [43,42,38,124,94])) 90 [.sub (.sub (.var 51) abE) (.lit (.int 1))] []) vars σ=some (natV (sgI (sg a)),σ):=by
  refine xz zO m1 (zZ (yU (n:=n+3) (yU (zl g51) (hab n) (WY P ha)) zO (rfl:_=some (V.str [sg a])))) xA ?_
  show ((Builtin.Str.occurrences (stT sgT) (stT [sg a]) 0 sgT.length 1).head?).map (fun n=>(V.int (n:Int),σ))=_
  rw [so.1];rfl
 have e0:ev Γ cf (n+5) (.tup [.lit (.int 36),.lit (.int 38),.lit (.int 41),.lit (.int 42),.lit (.int 43)]) vars σ=some (.tup (zx J5),σ):=qv (ya zO (ya zO (ya zO (ya zO (zZ zO))))) (by decide:5≤1000000)
 refine yU e0 e1 ?_
 show (idx (zx J5).length ((sgI (sg a):Nat):Int)).bind (fun j=>(zx J5)[j]?)=_
 have hk:(zx J5)[sgI (sg a)]? =some (natV (symE (sg a))):=by rw [Yi,so.2];rfl
 rw [Yl (zV hk) (by decide),zF,hk]
theorem ev_wj (P:PG le sg dg p σ) (hs: ∀i,sg i∈SGN) (hi:i < 7) (hab:σ[ab]? =some (.list (zx f))) (hfi:f[i]? =some a) (hfl:f.length=6) (ha:a < 7) (hw:σ[wl]? =some (.list (zx w))) (hwl:w.length=7) (hb: ∀x:Nat,x < 7→w.getD x 0≤10000000)
  (g51:vars.get 51=some (.ref p)) (g58:vars.get 58=some (.ref ab)) (g85:vars.get 85=some (.ref wl)) (g17:vars.get 17=some (natV i)):ev Γ (cfX (n+1)) 60 wjE vars σ=some (natV (Ji sg a (w.getD a 0) (w.getD i 0)),σ)∧ ∀m,ev Γ (cfX (n+1)) (m+2) abE vars σ=some (natV a,σ):=by
 have eab: ∀m,ev Γ (cfX (n+1)) (m+2) abE vars σ=some (natV a,σ):=fun m=>yU (zl g58) (zl g17) (ji hab hfi (by lia))
 have wg: ∀x:Nat,x < 7→wL Γ (.ref wl) (.int (x:Int)) σ=some (natV (w.getD x 0)):=fun x hx=>ji hw (by rw [zk,zj (by lia)];rfl) (by lia)
 have hJ:symE (sg a)∈JS:=(Xu (sg a) (hs a)).2.1
 have b1:=hb a ha
 have b2:=hb i hi
 have e4:jC Γ (cfX (n+1)) (.cst (.ref 312)) [natV (symE (sg a)),natV (w.getD a 0),natV (w.getD i 0)] σ=some (natV (Ji sg a (w.getD a 0) (w.getD i 0)),σ):=(wH rfl).trans (zbn (n:=n) hJ (by lia) (by lia))
 exact ⟨o_fn (n:=58) (ya (ev_sgn (n:=53) P hs ha g51 eab) (ya (yU (n:=58) (zl g85) (eab 56) (wg a ha)) (zZ (yU (zl g85) (zl g17) (wg i hi))))) e4,eab⟩
structure LInv (le:Nat→Txt) (sg dg:Nat→Nat) (f:List Nat) (p ab wl ll r:Nat) (σ₀:H) (k:Nat) (vars:Vars) (σ:H):Prop where
 le:Le σ₀ σ
 g3:vars.get 3=some (natV 6)
 g51:vars.get 51=some (.ref p)
 g58:vars.get 58=some (.ref ab)
 g85:vars.get 85=some (.ref wl)
 g86:vars.get 86=some (.ref ll)
 w:σ[wl]? =some (.list (zx (wAt (Ji sg) dg f (min k 6))))
 l:σ[ll]? =some (.list (yw (lAt f k)))
 r:σ[r]? =some (.list (zx [5,4,3,2,1,0,6]))
theorem ord_at: ∀k < 7,([5,4,3,2,1,0,6]:List Nat)[k]? =some (ordI k)∧ordI k < 7:=by decide+kernel
theorem loop_step {r k:Nat} {σ₀:H} (hf:f∈F132) (hs: ∀i,sg i∈SGN) (P:PG le sg dg p σ₀) (hab:σ₀[ab]? =some (.list (zx f))) (h1:σ₀.length≤wl) (h2:σ₀.length≤ll) (h3:wl≠ll) (h4:r≠wl) (h5:r≠ll) (hk:k < 7) (I:LInv le sg dg f p ab wl ll r σ₀ k vars σ):
  ∃vars' σ',exs Γ (cfX (n+1)) 60 53 loopB (vars.set 17 (natV (ordI k))) σ=some (.next,vars',σ')∧LInv le sg dg f p ab wl ll r σ₀ (k+1) vars' σ':=by
 have hf6:=(F_len f hf).1
 have ho:=(ord_at k hk).2
 have up: ∀ {x:Nat} {u:V},(17==x)=false→vars.get x=some u→Vars.get x (vars.set 17 (natV (ordI k)))=some u:=fun h e=>by rw [yb h];exact e
 refine k23 (ev_kids1 (cf:=cfX (n+1)) (vars:=vars.set 17 (natV (ordI k))) hf6 (I.le _ _ hab) I.l (Jh f k) (up rfl I.g3) (up rfl I.g58) (up rfl I.g86) (zL _ _ _)) fun K σ1 e1 hK l1=> ?_
 generalize hv:Vars.set 62 (.ref K) (vars.set 17 (natV (ordI k)))=vs
 have up2: ∀ {x:Nat} {u:V},(17==x)=false→(62==x)=false→vars.get x=some u→vs.get x=some u:=fun h h' e=>by rw [←hv,yb h',yb h];exact e
 have g17:vs.get 17=some (natV (ordI k)):=by rw [←hv,yb rfl,zL]
 have g62:vs.get 62=some (.ref K):=by rw [←hv,zL]
 have hkl:(Qq f (lAt f k) (ordI k)).length≤6:=by
  unfold Qq Jj
  rw [zf]
  exact zm (yp _ _) (by rw [zG];exact zo _)
 have hks: ∀x∈Qq f (lAt f k) (ordI k),0≤x∧x≤9:=fun x hx=>by
  refine k12 (zy.mp hx) fun j hj e=> ?_
  have hj6:=zI.mp (yJ.mp hj).1
  refine l_small hf (k:=k) (by lia) x ?_
  rw [←e,zk,zj (by rw [Jh];lia)]
  exact ww _
 refine k12 (ev_min1 (cf:=cfX (n+1)) (n:=48) (vars:=vs) hK hkl hks g62) fun σ2 e2 l2=> ?_
 have L2:=l1.trans l2
 have hl2:=L2 _ _ I.l
 have hlen:(yw (lAt f k)).length=7:=(zf ..).trans (Jh f k)
 have x2:=zaW (n:=51) (k:=ordI k) e2 (zl (n:=59) (up2 rfl rfl I.g86)) (zl (n:=59) g17) hl2 (by rw [hlen];exact ho) (by rw [hlen];decide)
 let σ3:=σ2.set ll (O.list ((yw (lAt f k)).set (ordI k) (.int (lStep (Qq f (lAt f k) (ordI k))))))
 have lx:LeX ll σ2 σ3:=LeX.set _ _
 have L3:Le σ₀ σ3:=fun i o e=>lx i o (yi (yX (zV e) h2)) (L2 _ _ (I.le i o e))
 have hw3:=lx _ _ h3 (L2 _ _ I.w)
 have hl3:σ3[ll]? =some (.list (yw (lAt f (k+1)))):=by
  rw [wW hl2]
  refine congrArg (fun x=>some (O.list x)) ?_
  show (List.map V.int _).set _ _=List.map V.int _
  rw [←List.map_set];rfl
 have hr3:=lx _ _ h5 (L2 _ _ I.r)
 have t3:evB (ev Γ (cfX (n+1)) 60) (.cmp .lt (.var 17) (.var 3)) vs σ3=some (decide ((ordI k:Int) < 6),σ3):=wj (xD (zl g17) (zl (up2 rfl rfl I.g3)) (zc1 ..))
 by_cases h6:k=6
 ·have ho6:ordI k=6:=if_pos h6
  rw [decide_eq_false (by rw [ho6];decide)] at t3
  refine ⟨vs,σ3,zE (by rw [←hv];exact xy e1) (zE x2 (zE (je t3 yV) yV)),L3,up2 rfl rfl I.g3,up2 rfl rfl I.g51,up2 rfl rfl I.g58,up2 rfl rfl I.g85,up2 rfl rfl I.g86,?_,hl3,hr3⟩
  rw [hw3,h6];rfl
 ·have ho6:ordI k=5 - k:=if_neg h6
  have hk6:k < 6:=Nat.lt_of_le_of_ne (wR hk) h6
  have hm:min k 6=k:=Wr (wI hk6)
  have hm1:min (k+1) 6=k+1:=Wr hk6
  rw [hm] at hw3
  rw [decide_eq_true (by rw [ho6];exact Int.ofNat_lt.mpr (yx (Nat.sub_le _ _) (by decide)))] at t3
  have h5:5 - k < 6:=yx (Nat.sub_le _ _) (by decide)
  have fl:=F_lt f hf (5 - k) h5
  rw [ho6] at g17
  have hwj:=ev_wj (n:=n) (vars:=vs) (P.le L3) hs (yg h5) (L3 _ _ hab) fl.1 hf6 fl.2 hw3 (QV ..) (fun x hx=>w_small hf hs P.d (wI hk6) hx) (up2 rfl rfl I.g51) (up2 rfl rfl I.g58) (up2 rfl rfl I.g85) g17
  have hwl:(zx (wAt (Ji sg) dg f k)).length=7:=(yM _).trans (QV ..)
  have x3:=zaW (n:=48) (k:=f.getD (5 - k) 0) hwj.1 (zl (n:=59) (up2 rfl rfl I.g85)) (hwj.2 58) hw3 (by rw [hwl];exact fl.2) (by rw [hwl];decide)
  have lx4:LeX wl σ3 (σ3.set wl (O.list ((zx (wAt (Ji sg) dg f k)).set (f.getD (5 - k) 0) (natV (Ji sg (f.getD (5 - k) 0) ((wAt (Ji sg) dg f k).getD (f.getD (5 - k) 0) 0) ((wAt (Ji sg) dg f k).getD (5 - k) 0)))))):=LeX.set _ _
  refine ⟨vs,_,zE (by rw [←hv];exact xy e1) (zE x2 (zE (jd t3 (zE x3 yV)) yV)),fun i o e=>lx4 i o (yi (yX (zV e) h1)) (L3 i o e),up2 rfl rfl I.g3,up2 rfl rfl I.g51,up2 rfl rfl I.g58,up2 rfl rfl I.g85,up2 rfl rfl I.g86,?_,lx4 _ _ (Ne.symm h3) hl3,lx4 _ _ h4 hr3⟩
  rw [wW hw3,hm1]
  refine congrArg (fun x=>some (O.list x)) ?_
  show (List.map natV _).set _ _=List.map natV _
  rw [←List.map_set];rfl
end
noncomputable abbrev ordE:E:= .bin .add (.slice (.call (.lit (.cst (.type "list"))) [.call (.lit (.cst (.type "range"))) [.var 3]]) .none .none (some (.neg (.lit (.int 1))))) (.list [.var 3])
noncomputable abbrev dueE:E:= .tup [.var 58,.tup [.list [.tup [.lit (.str [97]),.call (.lit (.cst (.type "str"))) [.sub (.var 85) (.var 3)]]],.sub (.var 86) (.var 3),.lit (.bool true)]]
theorem due_body:Yu.body= [.names [3] (.bin .sub (.call (.lit (.cst (.builtin "len"))) [.var 51]) (.lit (.int 1))),.names [83] colsE,.names [84] endsE,.names [58] hangsE,.unpack [.name 85,.name 86] (.tup [worE,oneE]),.for_ (.name 17) (.plain ordE) loopB,.ret (some dueE)]:=rfl
theorem cut_rev:qy (xZ 0 6) .none .none (some (-1))=zx [5,4,3,2,1,0]:=by kernel_rfl
section
variable {n p:Nat} {le:Nat→Txt} {sg dg:Nat→Nat} {σ:H} {vars:Vars} {cf:Cf}
theorem ord_ev (g3:vars.get 3=some (natV 6)): ∃σ',ev Γ cf 60 ordE vars σ=some (.ref σ'.length,σ'++ [O.list (zx [5,4,3,2,1,0,6])])∧Le σ σ':=by
 let σ1:=σ++ [O.list (xZ 0 6)]
 let σ2:=σ1++ [O.list (zx [5,4,3,2,1,0])]
 let σ3:=σ2++ [O.list [natV 6]]
 have e1:ev Γ cf 58 (.call (.lit (.cst (.type "list"))) [.call (.lit (.cst (.type "range"))) [.var 3]]) vars σ=some (.ref σ.length,σ1):=
  o_fn (n:=56) (zZ (Xf (n:=55) (zl g3) (by decide+kernel))) rfl
 have e2:ev Γ cf 59 (.slice (.call (.lit (.cst (.type "list"))) [.call (.lit (.cst (.type "range"))) [.var 3]]) .none .none (some (.neg (.lit (.int 1))))) vars σ=some (.ref σ1.length,σ2):=by
  refine qX e1 (rfl:_=some (V.none,σ1)) (rfl:_=some (V.none,σ1)) (Qd (i:=1) zO (by decide+kernel):ev Γ cf 58 (.neg (.lit (.int 1))) vars σ1=some (.int (-1),σ1)) ?_
  have hh:σ1[σ.length]? =some (O.list (xZ 0 6)):=zw _ _
  show (match σ1[σ.length]? with
  | some (.list xs)=>mkL (qy xs .none .none (some (-1))) σ1
  | _=> .none)=_
  rw [hh]
  show mkL (qy (xZ 0 6) .none .none (some (-1))) σ1=_
  rw [cut_rev]
  exact jI σ1 (by decide:6≤1000000)
 have e3:=ZP (n:=59) e2 (xm (zZ (zl g3)) (by decide:1≤1000000)) (yf _ _ (zw _ _)) (zw _ _) (by decide:7≤1000000)
 exact ⟨σ3,e3,(((Le.refl σ).snoc _).snoc _).snoc _⟩
theorem due_run (P:PG le sg dg p σ) (hq: ∀i,i < 7→le i∈L31) (hs: ∀i,sg i∈SGN): ∃ab q σ',cfX (n+2) 329 [.ref p] [] σ=some (.tup [.ref ab,.tup [.ref q,natV ((yK (xT (ltQ le))).getD 6 0),.bool true]],σ')∧σ'[ab]? =some (.list (zx (xT (ltQ le))))∧σ'[q]? =some (.list [hdV (97,DG (Ji sg) dg (xT (ltQ le)) 8 6)])∧Le σ σ':=by
 have hf:=above_F (ltQ le)
 let v0:Vars:= [(51,some (.ref p))]
 let v1:Vars:= [(51,some (.ref p)),(3,some (natV 6))]
 have hlen:((List.range 7).map (qM le sg dg)).length=7:=by rw [zf,zG]
 have e0:=XV (cf:=cfX (n+1)) (n:=57) (vars:=v0) (σ:=σ) (zl (i:=51) rfl) P.l
 rw [hlen] at e0
 have b0:Ze .sub (.int ((7:Nat):Int)) (.int 1) σ=some (natV 6,σ):=(zan σ 7 1).trans (by rw [qD (by decide+kernel)];rfl)
 have x1:ex Γ (cfX (n+1)) 60 59 (.names [3] (.bin .sub (.call (.lit (.cst (.builtin "len"))) [.var 51]) (.lit (.int 1)))) v0 σ=some (.next,v1,σ):=
  xy (v:=natV 6) (qK (n:=59) e0 zO b0)
 refine k23 (cols_ev (m:=n) (vars:=v1) hq P rfl) fun c σ1 e1 C l1=> ?_
 let v2:Vars:= [(51,some (.ref p)),(3,some (natV 6)),(83,some (.ref c))]
 refine k23 (ends_ev (cf:=cfX (n+1)) (vars:=v2) C hq rfl rfl) fun e σ2 e2 he l2=> ?_
 let v3:Vars:= [(51,some (.ref p)),(3,some (natV 6)),(83,some (.ref c)),(84,some (.ref e))]
 refine k23 (hangs_ev (cf:=cfX (n+1)) (vars:=v3) he rfl rfl) fun ab σ3 e3 hab l3=> ?_
 let v4:Vars:= [(51,some (.ref p)),(3,some (natV 6)),(83,some (.ref c)),(84,some (.ref e)),(58,some (.ref ab))]
 have L3:Le σ σ3:=(l1.trans l2).trans l3
 have P3:=P.le L3
 refine k12 (wor_ev (cf:=cfX (n+1)) (n:=55) (vars:=v4) P3 rfl) fun σ4 e4 l4=> ?_
 let σ4':=σ4++ [O.list (zx ((List.range 7).map dg))]
 have l4':Le σ3 σ4':=l4.snoc _
 refine k12 (one_ev (cf:=cfX (n+1)) (n:=55) (vars:=v4) (P3.le l4') rfl) fun σ5 e5 l5=> ?_
 let σ5':=σ5++ [O.list (yw (List.replicate 7 1))]
 let v5:Vars:= [(51,some (.ref p)),(3,some (natV 6)),(83,some (.ref c)),(84,some (.ref e)),(58,some (.ref ab)),(85,some (.ref σ4.length)),(86,some (.ref σ5.length))]
 have x5:ex Γ (cfX (n+1)) 60 55 (.unpack [.name 85,.name 86] (.tup [worE,oneE])) v4 σ3=some (.next,v5,σ5'):=qu (qv (ya e4 (zZ e5)) (by decide:2≤1000000)) rfl
 refine k12 (ord_ev (cf:=cfX (n+1)) (vars:=v5) (σ:=σ5') rfl) fun σ6 e6 l6=> ?_
 let σ6':=σ6++ [O.list (zx [5,4,3,2,1,0,6])]
 have w4:σ4'[σ4.length]? =some (O.list (zx ((List.range 7).map dg))):=zw _ _
 have w6:σ6'[σ4.length]? =some (O.list (zx ((List.range 7).map dg))):=yf _ _ (l6 _ _ (yf _ _ (l5 _ _ w4)))
 have u5:σ5'[σ5.length]? =some (O.list (yw (List.replicate 7 1))):=zw _ _
 have u6:σ6'[σ5.length]? =some (O.list (yw (List.replicate 7 1))):=yf _ _ (l6 _ _ u5)
 have len4:σ4'.length=σ4.length+1:=zd ..
 have len5:σ5'.length=σ5.length+1:=zd ..
 have q1:=l4.len
 have q2:=l5.len
 have q3:=l6.len
 have L36:Le σ3 σ6':=((l4'.trans l5).snoc _).trans (l6.snoc _)
 have I0:LInv le sg dg (xT (ltQ le)) p ab σ4.length σ5.length σ6.length σ3 0 v5 σ6':=⟨L36,rfl,rfl,rfl,rfl,rfl,w6,u6,zw _ _⟩
 refine k22 (qx (Γ:=Γ) (cf:=cfX (n+1)) (fe:=60) (n:=53) (t:= .name 17) (iter:= .plain ordE) (b:=loopB) (vars:=v5) (σ:=σ5') (σb:=σ6') (itr:=fun j=> .one (.ls σ6.length j)) (xs:=zx [5,4,3,2,1,0,6]) (jZ e6 (zw _ _)) rfl (by decide:7 < 1999)
  (I:=fun j vs τ=>LInv le sg dg (xT (ltQ le)) p ab σ4.length σ5.length σ6.length σ3 j vs τ) I0
  (fun j v vs τ hv I=>Yk I.r hv) (fun vs τ I=>Zk I.r rfl) fun j v vs τ hv I=> ?_) fun vars' σ' x6 I=> ?_
 ·have hj:j < 7:=zV hv
  rw [Yi,(ord_at j hj).1] at hv
  cases za hv
  exact ⟨_,rfl,loop_step (n:=n) hf hs P3 hab q1 (by lia) (by lia) (by lia) (by lia) hj I⟩
 ·have I:LInv le sg dg (xT (ltQ le)) p ab σ4.length σ5.length σ6.length σ3 7 vars' σ':=I
  have hw:σ'[σ4.length]? =some (.list (zx (wAt (Ji sg) dg (xT (ltQ le)) 6))):=I.w
  have e7:ev Γ (cfX (n+1)) 55 (.sub (.var 85) (.var 3)) vars' σ'=some (natV (DG (Ji sg) dg (xT (ltQ le)) 8 6),σ'):=by
   refine yU (zl I.g85) (zl I.g3) (ji (k:=6) hw ?_ (by rw [QV];decide))
   rw [←Ju hf,zk,zj (by rw [QV];decide)];rfl
  have hb:DG (Ji sg) dg (xT (ltQ le)) 8 6≤10000000:=by
   rw [←Ju hf]
   exact w_small hf hs P.d (zo 6) (by decide)
  have e8:ev Γ (cfX (n+1)) 58 (.list [.tup [.lit (.str [97]),.call (.lit (.cst (.type "str"))) [.sub (.var 85) (.var 3)]]]) vars' σ'=some (.ref σ'.length,σ'++ [O.list [hdV (97,DG (Ji sg) dg (xT (ltQ le)) 8 6)]]):=
   xm (zZ (qv (ya zO (zZ (o_fn (n:=54) (zZ e7) ((qi Γ _ _ "str" _).trans (b_str (by lia)))))) (by decide:2≤1000000))) (by decide:1≤1000000)
  have e9:ev Γ (cfX (n+1)) 58 (.sub (.var 86) (.var 3)) vars' (σ'++ [O.list [hdV (97,DG (Ji sg) dg (xT (ltQ le)) 8 6)]])=some (natV ((yK (xT (ltQ le))).getD 6 0),σ'++ [O.list [hdV (97,DG (Ji sg) dg (xT (ltQ le)) 8 6)]]):=by
   refine yU (zl I.g86) (zl I.g3) ((ints_get (k:=6) (yf _ _ I.l) (by rw [Jh];decide) (by rw [Jh];decide)).trans ?_)
   rw [least_at hf];rfl
  have e10:ev Γ (cfX (n+1)) 60 dueE vars' σ'=some (.tup [.ref ab,.tup [.ref σ'.length,natV ((yK (xT (ltQ le))).getD 6 0),.bool true]],σ'++ [O.list [hdV (97,DG (Ji sg) dg (xT (ltQ le)) 8 6)]]):=
   qv (ya (zl I.g58) (zZ (qv (ya e8 (ya e9 (zZ zO))) (by decide:3≤1000000)))) (by decide:2≤1000000)
  refine ⟨ab,σ'.length,_,jD (F:=Yu) rfl rfl rfl (by rw [due_body];exact zE x1 (zE (xy e1) (zE (xy e2) (zE (xy e3) (zE x5 (zE x6 (wU (qJ e10)))))))),yf _ _ (I.le _ _ hab),zw _ _,(L3.trans I.le).snoc _⟩
end
noncomputable def cutN (ns:List Int) (k:Int):List V:=qy (ns.map V.int) (some k) (some 60) (some 6)
theorem cut_ints (ns:List Int) (k:Int): ∀v∈cutN ns k,∃i,v= .int i:=by
 intro v hv
 unfold cutN qy at hv
 refine k12 (zbY.mp hv) fun j ω hj=> ?_
 rw [zA] at hj
 refine k12 (zc.mp hj) fun i ω q1=> ?_;subst q1
 exact ⟨i,rfl⟩
theorem cut_len (ns:List Int) (k:Int) (hk:0≤k):(cutN ns k).length≤100:=by
 unfold cutN qy
 refine zm (List.length_filterMap_le _ _) ?_
 unfold sliceRange sliceBounds
 simp only [zf,zG,Option.getD_some]
 have h4:(6:Int)>0:=by decide
 rw [if_pos h4,if_pos h4,if_pos h4]
 rw [if_neg (zbZ.mpr hk),if_neg (by decide: ¬(60:Int) < 0)]
 have l0:0≤max 0 (min k (ns.length:Int)):=Int.le_max_left _ _
 have l1:max 0 (min 60 (ns.length:Int))≤60:=Int.max_le.mpr ⟨by decide,Int.min_le_left _ _⟩
 generalize max 0 (min k (ns.length:Int))=lo at*
 generalize max 0 (min 60 (ns.length:Int))=hi at*
 by_cases h:lo < hi
 ·rw [if_pos h]
  refine Int.toNat_le.mpr (Int.ediv_le_of_le_mul (by decide) ?_)
  clear h4 h hk;omega
 ·rw [if_neg h];exact zK _
theorem ss0 (a n:Int):a+4050+4050*n=a+4050*(n+1):=by rw [Int.mul_add,Int.mul_one,Int.add_assoc,Int.add_comm 4050]
theorem ss1 {a q n:Int} (h1:a+4050*(n+1)≤1000000) (b1:q < 4050):a+q+4050*n≤1000000:=Int.le_trans (Int.add_le_add_right (Int.add_le_add_left (Int.le_of_lt b1) a) _) (ss0 a n▸h1)
theorem ss2 {a q n:Int} (h1:a+q+4050*n≤1000000) (hn:0≤n):a+q≤1000000:=Int.le_trans (Int.le_add_of_nonneg_right (Int.mul_nonneg (by decide) hn)) h1
theorem ss3 {a q n r:Int} (h:r≤a+q+4050*n) (b1:q < 4050):r≤a+4050*(n+1):=ss0 a n▸Int.le_trans h (Int.add_le_add_right (Int.add_le_add_left (Int.le_of_lt b1) a) _)
theorem Yo {i:Int} (h0:0≤i) (h1:i≤2000000):fit i=true:=wt (Int.lt_of_lt_of_le (by decide) h0) (Int.lt_of_le_of_lt h1 (by decide))
theorem QY: ∀(xs:List V) (a:Int),0≤a→a+4050*xs.length≤1000000→ ∃r,sumI a (xs.map fun v=>Int.fmod (intD v) 4050)=some r∧a≤r∧r≤a+4050*xs.length
 | [],a,h0,h1=>⟨a,rfl,Int.le_refl _,Int.le_add_of_nonneg_right (by decide)⟩
 | v::r,a,h0,h1=>by
  have b0:0≤Int.fmod (intD v) 4050:=xq _ (by decide)
  have b1:Int.fmod (intD v) 4050 < 4050:=wJ _ (by decide)
  have h2:=ss1 (n:=r.length) h1 b1
  have h3:=Int.add_nonneg h0 b0
  refine k13 (QY r (a+Int.fmod (intD v) 4050) h3 h2) fun q e2 e3 e4=> ?_
  refine ⟨q,?_,Int.le_trans (Int.le_add_of_nonneg_right b0) e3,ss3 e4 b1⟩
  show (if (fit (Int.fmod (intD v) 4050)&&fit (a+Int.fmod (intD v) 4050))=true then sumI (a+Int.fmod (intD v) 4050) (r.map fun v=>Int.fmod (intD v) 4050) else .none)=_
  rw [Yo b0 (Int.le_trans (Int.le_of_lt b1) (by decide)),Yo h3 (Int.le_trans (ss2 h2 (xW _)) (by decide))]
  exact e2
theorem int_lt {x:Int} {m:Nat} (h0:0≤x) (h1:x < m): ∃k:Nat,k < m∧x=k:=(ja h0).elim fun k hk=>⟨k,Int.ofNat_lt.mp (hk▸h1),hk⟩
theorem fin3 {x:Int} (h0:0≤x) (h1:x < 3):x=0∨x=1∨x=2:=k12 (int_lt (m:=3) h0 h1) fun k hk e=>
 ((by decide: ∀k < 3,k=0∨k=1∨k=2) k hk).imp (fun q=>e.trans (congrArg Nat.cast q)) (Or.imp (fun q=>e.trans (congrArg Nat.cast q)) fun q=>e.trans (congrArg Nat.cast q))
theorem fin5 {x:Int} (h0:0≤x) (h1:x < 5):x=0∨x=1∨x=2∨x=3∨x=4:=k12 (int_lt (m:=5) h0 h1) fun k hk e=>
 ((by decide: ∀k < 5,k=0∨k=1∨k=2∨k=3∨k=4) k hk).imp (fun q=>e.trans (congrArg Nat.cast q)) (Or.imp (fun q=>e.trans (congrArg Nat.cast q)) (Or.imp (fun q=>e.trans (congrArg Nat.cast q)) (Or.imp (fun q=>e.trans (congrArg Nat.cast q)) fun q=>e.trans (congrArg Nat.cast q))))
noncomputable def jV (y s:Int):Txt:=([[],[32],[9]]:List Txt).getD (Int.fmod (Int.fdiv y s) 3).toNat []
noncomputable def joinP (ps:List Txt):Txt:=tsT (PySem.Txt.join (stT []) (ps.map stT))
noncomputable def Jg (y:Int):Txt:=joinP ([1,3,9,27].map (jV y))
theorem join_L: ∀a∈P3,∀b∈P3,∀c∈P3,∀d∈P3,joinP [a,b,c,d]∈L31∧jK [] [a,b,c,d]=true:=by decide+kernel
theorem JP (y s:Int):jV y s∈P3:=by
 unfold jV
 generalize (Int.fmod (Int.fdiv y s) 3).toNat=m
 match m with
 | 0=>exact .head _
 | 1=>exact .tail _ (.head _)
 | 2=>exact .tail _ (.tail _ (.head _))
 | m+3=>exact .head _
theorem lead_L (y:Int):Jg y∈L31∧jK [] ([1,3,9,27].map (jV y))=true:=join_L _ (JP ..) _ (JP ..) _ (JP ..) _ (JP ..)
noncomputable def sgY (y:Int):Nat:=sgT.getD (Int.fmod (Int.fdiv y 81) 5).toNat 43
noncomputable def dgY (y:Int):Nat:=(Int.fmod (Int.fdiv y 405) 10).toNat
theorem sgY_ok (y:Int):sgY y∈SGN:=by
 unfold sgY
 generalize (Int.fmod (Int.fdiv y 81) 5).toNat=m
 match m with
 | 0=>exact .head _
 | 1=>exact .tail _ (.head _)
 | 2=>exact .tail _ (.tail _ (.head _))
 | 3=>exact .tail _ (.tail _ (.tail _ (.head _)))
 | 4=>exact .tail _ (.tail _ (.tail _ (.tail _ (.head _))))
 | m+5=>exact .head _
theorem dgY_ok (y:Int):dgY y≤9:=by
 have b0:0≤Int.fmod (Int.fdiv y 405) 10:=xq _ (by decide)
 have b1:Int.fmod (Int.fdiv y 405) 10 < 10:=wJ _ (by decide)
 exact Int.toNat_le.mpr (Int.le_of_lt_add_one b1)
noncomputable def zbi (y:Int):V:= .tup [.str (Jg y),.str [sgY y],.int (dgY y:Int)]
section
variable {cf:Cf} {n:Nat} {σ:H} {vars:Vars} {ns:List Int} {y s d m:Int}
theorem ev_dm {e:E} (hy:0≤y∧y≤1000000) (hs:0 < s∧s≤1000) (hm:0 < m∧m≤100) (g53:vars.get 53=some (.int y)) (he:ev Γ cf (n+1) e vars σ=some (.int s,σ)):ev Γ cf (n+3) (.bin .mod (.bin .fdiv (.var 53) e) (.lit (.int m))) vars σ=some (.int (Int.fmod (Int.fdiv y s) m),σ):=by
 have hd:Int.fdiv y s=y / s:=Int.fdiv_eq_ediv_of_nonneg _ (Int.le_of_lt hs.1)
 have h0:0≤y / s:=Int.ediv_nonneg hy.1 (Int.le_of_lt hs.1)
 have h1:y / s≤y:=Int.ediv_le_self _ hy.1
 have b0:0≤Int.fmod (Int.fdiv y s) m:=xq _ hm.1
 have b1:Int.fmod (Int.fdiv y s) m < m:=wJ _ hm.1
 have e1:ev Γ cf (n+2) (.bin .fdiv (.var 53) e) vars σ=some (.int (Int.fdiv y s),σ):=by
  refine qK (zl g53) he ((bin_fdiv σ y s).trans ?_)
  rw [decide_eq_true hs.1,decide_eq_true (Int.lt_of_le_of_lt hs.2 (by decide)),qD (Yo (hd▸h0) (hd▸Int.le_trans (Int.le_trans h1 hy.2) (by decide)))];rfl
 refine qK e1 zO ((bin_mod σ (Int.fdiv y s) m).trans ?_)
 rw [decide_eq_true hm.1,qD (Yo b0 (Int.le_trans (Int.le_of_lt b1) (Int.le_trans hm.2 (by decide))))];rfl
end
noncomputable abbrev yE:E:= .bin .add (.var 52) (.call (.lit (.cst (.builtin "sum"))) [.comp (.bin .mod (.var 22) (.lit (.int 4050))) [.mk (.name 22) (.plain (.slice (.var 50) (some (.var 25)) (some (.lit (.int 60))) (some (.lit (.int 6))))) []] [22]])
noncomputable abbrev leadE:E:= .callM (.lit (.str [])) 47 [.comp (.sub (.tup [.lit (.str []),.lit (.str [32]),.lit (.str [9])]) (.bin .mod (.bin .fdiv (.var 53) (.var 55)) (.lit (.int 3)))) [.mk (.name 55) (.plain (.tup [.lit (.int 1),.lit (.int 3),.lit (.int 9),.lit (.int 27)])) []] [55]] []
noncomputable abbrev lineE:E:= .tup [.var 54,.sub (.lit (.str [43,42,38,124,94])) (.bin .mod (.bin .fdiv (.var 53) (.lit (.int 81))) (.lit (.int 5))),.bin .mod (.bin .fdiv (.var 53) (.lit (.int 405))) (.lit (.int 10))]
noncomputable abbrev pageB:List S:= [.names [53] yE,.names [54] leadE,.expr (.callM (.var 51) 34 [lineE] [])]
noncomputable def basL:List Int:= [1296,2027,1060,2754,3808,1703]
noncomputable abbrev basE:E:= .list [.lit (.int 1296),.lit (.int 2027),.lit (.int 1060),.lit (.int 2754),.lit (.int 3808),.lit (.int 1703)]
noncomputable abbrev lastE:E:= .list [.tup [.lit (.str []),.lit (.str [43]),.lit (.int 0)]]
theorem page_body:Zt.body= [.names [51] (.list []),.for_ (.tup [.name 25,.name 52]) (.enum basE) pageB,.ret (some (.bin .add (.var 51) lastE))]:=rfl
section
variable {cf:Cf} {n k pg b:Nat} {σ:H} {vars:Vars} {ns:List Int} {y:Int} {ls:List V}
theorem ev_y (hk:k < 6) (hb:0≤y∧y≤5000) (g50:vars.get 50=some (.flist (ns.map .int))) (g25:vars.get 25=some (natV k)) (g52:vars.get 52=some (.int y)): ∃z σ',ev Γ cf 60 yE vars σ=some (.int z,σ')∧(0≤z∧z≤1000000)∧Le σ σ':=by
 have hl:=cut_len ns (k:Int) (xW k)
 have e0:ev Γ cf 57 (.slice (.var 50) (some (.var 25)) (some (.lit (.int 60))) (some (.lit (.int 6)))) vars σ=some (.ref σ.length,σ++ [O.list (cutN ns k)]):=by
  refine qX (zl g50) (zl g25:ev Γ cf 56 (.var 25) vars σ=some (natV k,σ)) (rfl:qd (ev Γ cf 56) (some (.lit (.int 60))) vars σ=some (.int 60,σ)) (rfl:qd (ev Γ cf 56) (some (.lit (.int 6))) vars σ=some (.int 6,σ)) ?_
  show mkL (cutN ns k) σ=_
  exact jI σ (zm hl (by decide))
 refine k12 (wd (Γ:=Γ) (cf:=cf) (n:=57) (t:= .name 22) (elt:= .bin .mod (.var 22) (.lit (.int 4050))) (ifs:= []) (own:= [22]) (vars:=vars) (σ:=σ) (σb:=σ++ [O.list (cutN ns k)]) (itr:=fun j=> .one (.ls σ.length j)) (xs:=cutN ns k) (jZ e0 (zw _ _)) rfl (yx hl (by decide)) (qW (zw _ _))
  (fun vs=>True) (fun v vs=>vs.set 22 v) (fun ω=>true) (fun v=> .int (Int.fmod (intD v) 4050)) (fun v ω σ vs=>rfl) (fun v ω vs h=>trivial) trivial fun v hv vs τ l P=>⟨τ,rfl,.refl _,fun ω=>⟨τ,?_,.refl _⟩⟩) fun σ₁ e1 l1=> ?_
 ·refine k11 (cut_ints ns k v hv) fun i e=> ?_
  subst e
  have b0:0≤Int.fmod i 4050:=xq _ (by decide)
  have b1:Int.fmod i 4050 < 4050:=wJ _ (by decide)
  refine qK (zl (zL _ _ _)) zO ((bin_mod τ i 4050).trans ?_)
  rw [decide_eq_true (show (0:Int) < 4050 by decide),qD (Yo b0 (Int.le_trans (Int.le_of_lt b1) (by decide)))];rfl
 ·rw [xB _ fun ω=>rfl] at e1
  have hl4:4050*((cutN ns k).length:Int)≤405000:=Int.mul_le_mul_of_nonneg_left (Int.ofNat_le.mpr hl) (by decide)
  refine k13 (QY (cutN ns k) 0 (Int.le_refl _) ((Yd _).symm▸Int.le_trans hl4 (by decide))) fun q e2 e3 e4=> ?_
  have q2:q≤405000:=Int.le_trans (by rwa [Yd] at e4) hl4
  have hm:(cutN ns k).map (fun v=>V.int (Int.fmod (intD v) 4050))=yw ((cutN ns k).map fun v=>Int.fmod (intD v) 4050):=(yy ..).symm
  rw [hm] at e1
  have sm:builtin (.builtin "sum") [.ref σ₁.length] (σ₁++ [O.list (yw ((cutN ns k).map fun v=>Int.fmod (intD v) 4050))])=some (.int q,σ₁++ [O.list (yw ((cutN ns k).map fun v=>Int.fmod (intD v) 4050))]):=by
   show ((yn (σ₁++ [O.list (yw ((cutN ns k).map fun v=>Int.fmod (intD v) 4050))]) (.ref σ₁.length)).bind fun xs=>(qF xs).bind fun l=>(sumI 0 l).map fun r=>(V.int r,σ₁++ [O.list (yw ((cutN ns k).map fun v=>Int.fmod (intD v) 4050))]))=_
   rw [yk _ (zw _ _),zF,Xj,zF,e2];rfl
  have e5:=o_fn (n:=57) (zZ e1) ((xM Γ cf _ "sum" _).trans sm)
  refine ⟨y+q,σ₁++ [O.list (yw ((cutN ns k).map fun v=>Int.fmod (intD v) 4050))],qK (n:=59) (zl g52) e5 ((Ys _ y q).trans ?_),⟨Int.add_nonneg hb.1 e3,Int.le_trans (Int.add_le_add hb.2 q2) (by decide)⟩,((Le.refl σ).snoc _).trans (l1.snoc _)⟩
  rw [qD (Yo (Int.add_nonneg hb.1 e3) (Int.le_trans (Int.add_le_add hb.2 q2) (by decide)))];rfl
theorem ev_lead (hy:0≤y∧y≤1000000) (g53:vars.get 53=some (.int y)): ∃σ',ev Γ cf 60 leadE vars σ=some (.str (Jg y),σ')∧Le σ σ':=by
 refine k12 (wd (Γ:=Γ) (cf:=cf) (n:=58) (t:= .name 55) (iter:= .plain (.tup [.lit (.int 1),.lit (.int 3),.lit (.int 9),.lit (.int 27)])) (elt:= .sub (.tup [.lit (.str []),.lit (.str [32]),.lit (.str [9])]) (.bin .mod (.bin .fdiv (.var 53) (.var 55)) (.lit (.int 3)))) (ifs:= []) (own:= [55]) (vars:=vars) (σ:=σ) (σb:=σ) (itr:=fun k=> .one (.vs (([V.int 1,.int 3,.int 9,.int 27]).drop k))) rfl rfl (by decide) (xI _)
  (fun vs=>vs.get 53=some (.int y)) (fun v vs=>vs.set 55 v) (fun ω=>true) (fun v=> .str (jV y (intD v))) (fun v ω σ vs=>rfl) (fun v ω vs h=>(yb rfl _ _).trans h) g53 fun v hv vs τ l P=>⟨τ,rfl,.refl _,fun ω=>⟨τ,?_,.refl _⟩⟩) fun σ₁ e1 l1=> ?_
 ·have hv': ∃s,v= .int s∧0 < s∧s≤1000:=by
   rcases zh.mp hv with e | hv
   ·exact ⟨_,e,by decide,by decide⟩
   rcases zh.mp hv with e | hv
   ·exact ⟨_,e,by decide,by decide⟩
   rcases zh.mp hv with e | hv
   ·exact ⟨_,e,by decide,by decide⟩
   rcases zh.mp hv with e | hv
   ·exact ⟨_,e,by decide,by decide⟩
   ·exact absurd hv yu
  obtain ⟨s,rfl,h1,h2⟩:=hv'
  have e1:=ev_dm (cf:=cf) (n:=54) (σ:=τ) (m:=3) hy ⟨h1,h2⟩ (by decide) ((yb (x:=55) rfl (.int s) vs).trans P) (zl (zL _ _ _))
  refine yU (qv (ya zO (ya zO (zZ zO))) (by decide:3≤1000000)) e1 ?_
  have b0:0≤Int.fmod (Int.fdiv y s) 3:=xq _ (by decide)
  have b1:Int.fmod (Int.fdiv y s) 3 < 3:=wJ _ (by decide)
  have hp:jV y (intD (.int s))=jV y s:=rfl
  rw [hp]
  unfold jV
  have h:=fin3 b0 b1
  rcases h with h | h | h <;>rw [h] <;>rfl
 ·rw [xB _ fun ω=>rfl] at e1
  have m1:yA Γ (.str []) 47 σ=some (.str [] [106,111,105,110]):=rfl
  refine ⟨_,xz (n:=59) zO m1 (zZ e1) xA ?_,l1.snoc (.list ((([1,3,9,27]:List Int).map fun s=>V.str (jV y s))))⟩
  show ((yn (σ₁++ [O.list ((([1,3,9,27]:List Int).map fun s=>V.str (jV y s)))]) (.ref σ₁.length)).bind fun xs=>(qB xs).bind fun l=>if jK [] l then some (V.str (tsT (PySem.Txt.join (stT []) (l.map stT))),σ₁++ [O.list ((([1,3,9,27]:List Int).map fun s=>V.str (jV y s)))]) else .none)=_
  rw [yk _ (zw _ _),zF]
  show (if jK [] (([1,3,9,27]:List Int).map (jV y)) then some (V.str (joinP (([1,3,9,27]:List Int).map (jV y))),_) else .none)=_
  rw [(lead_L y).2];rfl
theorem ev_line (hy:0≤y∧y≤1000000) (g53:vars.get 53=some (.int y)) (g54:vars.get 54=some (.str (Jg y))):ev Γ cf 59 lineE vars σ=some (zbi y,σ):=by
 have e1:=ev_dm (cf:=cf) (n:=54) (σ:=σ) (s:=81) (m:=5) hy (by decide) (by decide) g53 zO
 have e2:=ev_dm (cf:=cf) (n:=55) (σ:=σ) (s:=405) (m:=10) hy (by decide) (by decide) g53 zO
 have b0:0≤Int.fmod (Int.fdiv y 81) 5:=xq _ (by decide)
 have b1:Int.fmod (Int.fdiv y 81) 5 < 5:=wJ _ (by decide)
 have b2:0≤Int.fmod (Int.fdiv y 405) 10:=xq _ (by decide)
 have e3:ev Γ cf 58 (.sub (.lit (.str [43,42,38,124,94])) (.bin .mod (.bin .fdiv (.var 53) (.lit (.int 81))) (.lit (.int 5)))) vars σ=some (.str [sgY y],σ):=by
  refine yU zO e1 ?_
  unfold sgY
  have h:=fin5 b0 b1
  rcases h with h | h | h | h | h <;>rw [h] <;>rfl
 have e4:V.int (Int.fmod (Int.fdiv y 405) 10)= .int (dgY y:Int):=congrArg V.int (Int.toNat_of_nonneg b2).symm
 rw [e4] at e2
 exact qv (ya (zl g54) (ya e3 (zZ e2))) (by decide:3≤1000000)
structure GInv (ns:List Int) (pg b:Nat) (σ₀:H) (k:Nat) (vars:Vars) (σ:H):Prop where
 le:Le σ₀ σ
 g50:vars.get 50=some (.flist (ns.map .int))
 g51:vars.get 51=some (.ref pg)
 b:σ[b]? =some (.list (yw basL))
 p: ∃ys:List Int,ys.length=k∧σ[pg]? =some (.list (ys.map zbi))
theorem bas_at: ∀k < 6,basL[k]? =some (basL.getD k 0)∧(0≤basL.getD k 0∧basL.getD k 0≤5000):=by decide+kernel
theorem page_turn {σ₀:H} (h0:σ₀.length≤pg) (hne:pg≠b) (hk:k < 6) (I:GInv ns pg b σ₀ k vars σ): ∃vars' σ',exs Γ cf 60 57 pageB ((vars.set 25 (natV k)).set 52 (.int (basL.getD k 0))) σ=some (.next,vars',σ')∧GInv ns pg b σ₀ (k+1) vars' σ':=by
 obtain ⟨ys,hys,hp⟩:=I.p
 generalize hv:(vars.set 25 (natV k)).set 52 (.int (basL.getD k 0))=vs
 have up: ∀ {x:Nat} {u:V},(25==x)=false→(52==x)=false→vars.get x=some u→vs.get x=some u:=fun h h' e=>by rw [←hv,yb h',yb h];exact e
 refine k23 (ev_y (cf:=cf) (σ:=σ) (vars:=vs) hk (bas_at k hk).2 (up rfl rfl I.g50) (by rw [←hv,yb rfl,zL]) (by rw [←hv,zL])) fun z σ1 e1 hz l1=> ?_
 refine k12 (ev_lead (cf:=cf) (σ:=σ1) (vars:=vs.set 53 (.int z)) hz (zL _ _ _)) fun σ2 e2 l2=> ?_
 have hp2:=l2 _ _ (l1 _ _ hp)
 have e3:=ev_line (cf:=cf) (σ:=σ2) (vars:=(vs.set 53 (.int z)).set 54 (.str (Jg z))) hz (by exact gn rfl (zL _ _ _)) (zL _ _ _)
 have e4:=jg (n:=58) (z:=51) (by exact gn rfl (gn rfl (up rfl rfl I.g51))) hp2 e3 hp2 (by rw [zf];lia)
 have L2:=l1.trans l2
 refine ⟨_,_,zE (xy e1) (zE (xy e2) (zE (jf e4) yV)),(I.le.trans L2).set h0 _,?_,?_,Wl hne (L2 _ _ I.b),ys++ [z],by rw [zd,hys];rfl,?_⟩
 ·exact gn rfl (gn rfl (up rfl rfl I.g50))
 ·exact gn rfl (gn rfl (up rfl rfl I.g51))
 ·rw [wW hp2,zX];rfl
noncomputable def leF (ys:List Int) (i:Nat):Txt:=if i < 6 then Jg (ys.getD i 0) else []
noncomputable def sgF (ys:List Int) (i:Nat):Nat:=if i < 6 then sgY (ys.getD i 0) else 43
noncomputable def dgF (ys:List Int) (i:Nat):Nat:=if i < 6 then dgY (ys.getD i 0) else 0
theorem leF_ok (ys:List Int) (i:Nat):leF ys i∈L31:=by
 unfold leF
 by_cases h:i < 6
 ·rw [if_pos h];exact (lead_L _).1
 ·rw [if_neg h];exact .head _
theorem sgF_ok (ys:List Int) (i:Nat):sgF ys i∈SGN:=by
 unfold sgF
 by_cases h:i < 6
 ·rw [if_pos h];exact sgY_ok _
 ·rw [if_neg h];exact .head _
theorem dgF_ok (ys:List Int) (i:Nat):dgF ys i≤9:=by
 unfold dgF
 by_cases h:i < 6
 ·rw [if_pos h];exact dgY_ok _
 ·rw [if_neg h];exact zK _
theorem list6 {ys:List Int} (h:ys.length=6):ys=(List.range 6).map fun i=>ys.getD i 0:=by
 refine List.ext_getElem? fun i=> ?_
 rw [zA]
 by_cases hi:i < 6
 ·rw [yP hi,Option.map_some,zk,zj (by rw [h];exact hi)];rfl
 ·rw [yj (by rw [h];exact qo hi),yj (by rw [zG];exact qo hi)];rfl
theorem lines_eq {ys:List Int} (h:ys.length=6):ys.map zbi++ [.tup [.str [],.str [43],.int 0]]=(List.range 7).map (qM (leF ys) (sgF ys) (dgF ys)):=by
 have e:ys.map zbi=(List.range 6).map fun i=>zbi (ys.getD i 0):=by
  conv=>lhs;rw [list6 h]
  rw [yy];rfl
 rw [e];rfl
theorem sgn_small: ∀c∈SGN,c < 128:=by decide+kernel
theorem page_run (ns:List Int) (σ:H): ∃ys p σ',cfX (n+1) 283 [.flist (ns.map .int)] [] σ=some (.ref p,σ')∧PG (leF ys) (sgF ys) (dgF ys) p σ'∧Le σ σ':=by
 let v0:Vars:= [(50,some (.flist (ns.map .int)))]
 let v1:Vars:= [(50,some (.flist (ns.map .int))),(51,some (.ref σ.length))]
 let σ1:=σ++ [O.list []]
 let σ2:=σ1++ [O.list (yw basL)]
 have len1:σ1.length=σ.length+1:=zd ..
 have x1:ex Γ (cfX n) 60 59 (.names [51] (.list [])) v0 σ=some (.next,v1,σ1):=xy (xm wo (by decide))
 have e0:ev Γ (cfX n) 60 basE v1 σ1=some (.ref σ1.length,σ2):=xm (ya zO (ya zO (ya zO (ya zO (ya zO (zZ zO)))))) (by decide:6≤1000000)
 have it0:evIt (ev Γ (cfX n) 60) (.enum basE) v1 σ1=some (.enum σ1.length 0,σ2):=by
  show (match ev Γ (cfX n) 60 basE v1 σ1 with
  | some (.ref i,σ')=>match σ'[i]? with
   | some (.list _)=>some (Itr.enum i 0,σ')
   | _=> .none
  | _=> .none)=_
  rw [e0];dsimp only;rw [show σ2[σ1.length]? =some (O.list (yw basL)) from zw _ _]
 have I0:GInv ns σ.length σ1.length σ 0 v1 σ2:=⟨((Le.refl σ).snoc _).snoc _,rfl,rfl,zw _ _,[],rfl,yf _ _ (zw _ _)⟩
 refine k22 (qx (Γ:=Γ) (cf:=cfX n) (fe:=60) (n:=57) (t:= .tup [.name 25,.name 52]) (iter:= .enum basE) (b:=pageB) (vars:=v1) (σ:=σ1) (σb:=σ2) (itr:=fun j=> .enum σ1.length j) (xs:=(List.range 6).map fun (k:Nat)=>V.tup [natV k,.int (basL.getD k 0)]) it0 rfl (by rw [zf,zG];decide)
  (I:=fun j vs τ=>GInv ns σ.length σ1.length σ j vs τ) I0 (fun j v vs τ hv I=> ?_) (fun vs τ I=> ?_) fun j v vs τ hv I=> ?_) fun vars' σ' x2 I=> ?_
 ·rw [zA] at hv
  refine k12 (zc.mp hv) fun k hk e=> ?_
  have hj:j < 6:=by have:=zV hk;rw [zG] at this;exact this
  rw [yP hj] at hk
  cases za hk
  subst e
  show (match τ[σ1.length]? with
  | some (.list xs)=>match xs[j]? with
   | some v=>some (some (V.tup [.int (j:Int),v],Itr.enum σ1.length (j+1)))
   | .none=>some .none
  | _=> .none)=_
  have hb:(yw basL)[j]? =some (.int (basL.getD j 0)):=by
   show (List.map V.int basL)[j]? =_
   rw [zA,(bas_at j hj).1];rfl
  rw [I.b];dsimp only;rw [hb];rfl
 ·show (match τ[σ1.length]? with
  | some (.list xs)=>match xs[6]? with
   | some v=>some (some (V.tup [.int ((6:Nat):Int),v],Itr.enum σ1.length (6+1)))
   | .none=>some .none
  | _=> .none)=_
  rw [I.b];rfl
 ·rw [zA] at hv
  refine k12 (zc.mp hv) fun k hk e=> ?_
  have hj:j < 6:=by have:=zV hk;rw [zG] at this;exact this
  rw [yP hj] at hk
  cases za hk
  subst e
  exact ⟨_,rfl,page_turn (zo _) (by lia) hj I⟩
 ·have I:GInv ns σ.length σ1.length σ 6 vars' σ':=I
  obtain ⟨ys,hys,hp⟩:=I.p
  have e3:=ZP (cf:=cfX n) (n:=59) (vars:=vars') (σ:=σ') (y:=lastE) (zl I.g51) (xm (zZ (qv (ya zO (ya zO (zZ zO))) (by decide:3≤1000000))) (by decide:1≤1000000)) (yf _ _ hp) (zw _ _) (by rw [zd,zf,hys];decide)
  rw [lines_eq hys] at e3
  exact ⟨ys,_,_,jD (F:=Zt) rfl rfl rfl (by rw [page_body];exact zE x1 (zE x2 (wU (qJ e3)))),⟨zw _ _,fun i=>sgn_small _ (sgF_ok ys i),dgF_ok ys⟩,(I.le.snoc _).snoc _⟩
end
noncomputable abbrev whE:E:= .comp (.call (.lit (.cst (.ref 100))) [.bin .add (.sub (.var 87) (.lit (.int 0))) (.lit (.str [120,9,32]))]) [.mk (.name 87) (.plain (.slice (.var 51) .none (some (.neg (.lit (.int 1)))) .none)) []] [87]
noncomputable abbrev eqE:E:= .cmp .eq (.call (.lit (.cst (.ref 317))) [.call (.lit (.cst (.ref 305))) [.slice (.var 65) .none (some (.neg (.lit (.int 1)))) .none]]) (.var 93)
theorem law_body:F_law.body= [.names [51] (.call (.lit (.cst (.ref 283))) [.var 50]),.names [58] (.call (.lit (.cst (.ref 290))) [whE]),.unpack [.name 92,.name 93] (.call (.lit (.cst (.ref 329))) [.var 51]),
  .names [65] (.call (.lit (.cst (.ref 300))) [.var 51,.var 58,.call (.lit (.cst (.ref 295))) [.var 58],.call (.lit (.cst (.builtin "len"))) [.var 58],.lit (.int 0)]),.ret (some (.and (.cmp .eq (.var 58) (.var 92)) eqE))]:=rfl
theorem cut_last (le:Nat→Txt) (sg dg:Nat→Nat):qy ((List.range 7).map (qM le sg dg)) .none (some (-1)) .none=(List.range 6).map (qM le sg dg):=by kernel_rfl
theorem lead_len: ∀l∈L31,l.length≤4:=by decide+kernel
section
variable {cf:Cf} {n p i:Nat} {le:Nat→Txt} {sg dg:Nat→Nat} {σ:H} {vars:Vars}
theorem new_white {l:Txt} (hl:l∈L31):jC Γ (cfX n) (.cst (.ref 100)) [.str (wRaw l)] σ=some (.ref σ.length,σ++ [wO l]):=by
 have e:=c_init (n:=n) (σ:=σ++ [O.inst 100 []]) (i:=σ.length) hl (zw σ _)
 show newI 100 σ (cfX n 55 [.ref σ.length,.str (wRaw l)] [] (σ++ [O.inst 100 []]))=_
 rw [e,set_last];rfl
theorem whites_ev (hq: ∀i,i < 7→le i∈L31) (P:PG le sg dg p σ) (g51:vars.get 51=some (.ref p)): ∃w ws σ',ev Γ (cfX n) 59 whE vars σ=some (.ref w,σ')∧WG le w ws σ'∧Le σ σ':=by
 let σb:=σ++ [O.list ((List.range 6).map (qM le sg dg))]
 have e0:ev Γ (cfX n) 58 (.slice (.var 51) .none (some (.neg (.lit (.int 1)))) .none) vars σ=some (.ref σ.length,σb):=by
  refine qX (zl g51) (rfl:_=some (V.none,σ)) (Qd (i:=1) zO (by decide+kernel):ev Γ (cfX n) 57 (.neg (.lit (.int 1))) vars σ=some (.int (-1),σ)) (rfl:_=some (V.none,σ)) ?_
  show (match σ[p]? with
  | some (.list xs)=>mkL (qy xs .none (some (-1)) .none) σ
  | _=> .none)=_
  rw [P.l]
  show mkL (qy ((List.range 7).map (qM le sg dg)) .none (some (-1)) .none) σ=_
  rw [cut_last]
  exact jI σ (by rw [zf,zG];decide)
 have e1:=comp_ev (Γ:=Γ) (cf:=cfX n) (n:=58) (t:= .name 87) (elt:= .call (.lit (.cst (.ref 100))) [.bin .add (.sub (.var 87) (.lit (.int 0))) (.lit (.str [120,9,32]))]) (ifs:= []) (own:= [87]) (vars:=vars) (σ:=σ) (it:=fun k=> .one (.ls σ.length k)) (xs:=(List.range 6).map (qM le sg dg)) (σb:=σb) (jZ e0 (zw _ _)) rfl (by rw [zf,zG];decide) (hands_ls (zw _ _)) (P:=fun ω=>True) (bnd:=fun v vars=>vars.set 87 v) (p:=fun ω=>true) (g:=fun ω τ=> .ref (σb.length+τ.length)) (δi:=fun ω ω=> []) (δ:=fun v ω=> [wO (zcF v)]) (fun v hv σ vars=>rfl) (fun v ω vars h=>trivial) trivial (fun ω ω ω τ ω=>by rw [ym];rfl) (fun v hv vars τ h ω=>by
  refine k12 (zy.mp hv) fun i hi e=> ?_
  subst e
  have hl:=hq i (yg (zI.mp hi))
  rw [ym]
  have e2:jC Γ (cfX n) (.cst (.ref 100)) [.str (wRaw (le i))] (σb++τ)=some (.ref (σb.length+τ.length),σb++(τ++ [wO (le i)])):=by
   rw [new_white hl,zd,zW]
  exact o_fn (n:=56) (zZ (jx (yU (x:=qM le sg dg i) (zl (zL _ _ _)) zO rfl) zO (by have:=lead_len _ hl;rw [zd];show _+3≤1000000;lia))) e2)
 have c1:(YC (fun ω=>true) (fun (_:V) (τ:List O)=>V.ref (σb.length+τ.length)) (fun ω ω=> []) (fun v ω=> [wO (zcF v)]) ((List.range 6).map (qM le sg dg)) [] [])=((List.range 6).map fun i=>V.ref (σb.length+i),(List.range 6).map fun i=>wO (le i)):=rfl
 rw [c1] at e1
 have e1:=e1.trans (jI (σb++(List.range 6).map fun i=>wO (le i)) (by rw [zf,zG];decide))
 refine ⟨_,fun i=>σb.length+i,_,e1,⟨zw _ _,fun i hi=> ?_,fun i hi=>hq i (yg hi),fun i j ω ω hn e=>hn (Nat.add_left_cancel e)⟩,?_⟩
 ·rw [zW,zJ (xC _ _),qZ,zH (by rw [zf,zG];exact hi),zA,yP hi];rfl
 ·exact ((Le.app σ _).trans (.app _ _)).snoc _
theorem zbw {r m w:Nat} (h:σ[r]? =some (.list [hdV (97,w)])):flat σ 12 (.tup [.ref r,natV m,.bool true])=some (.tup [.flist [hdV (97,w)],natV m,.bool true]):=by
 have h1:flat σ 11 (.ref r)=some (.flist [hdV (97,w)]):=by
  show (match σ[r]? with
   | some (.list vs)=>match mapO (flat σ 10) vs with
    | some ds=>some (V.flist ds)
    | .none=> .none
   | _=> .none)=_
  rw [h]
  have h2:flat σ 10 (hdV (97,w))=some (hdV (97,w)):=by
   have h3:flat σ 9 (.str (yR (w:Int)))=some (.str (yR (w:Int))):=by
    show (if okS (yR (w:Int))=true then some (V.str (yR (w:Int))) else .none)=_
    rw [show_okS];rfl
   show (match mapO (flat σ 9) [.str [97],.str (yR (w:Int))] with
    | some ds=>some (V.tup ds)
    | .none=> .none)=_
   show (match (match flat σ 9 (.str [97]) with
    | some y=>match (match flat σ 9 (.str (yR (w:Int))) with
     | some y=>match (some []:Option (List V)) with
      | some ys=>some (y::ys)
      | .none=> .none
     | .none=> .none) with
     | some ys=>some (y::ys)
     | .none=> .none
    | .none=> .none) with
    | some ds=>some (V.tup ds)
    | .none=> .none)=_
   rw [h3];rfl
  show (match (match flat σ 10 (hdV (97,w)) with
    | some y=>match (some []:Option (List V)) with
     | some ys=>some (y::ys)
     | .none=> .none
    | .none=> .none) with
    | some ds=>some (V.flist ds)
    | .none=> .none)=_
  rw [h2]
 show (match (match flat σ 11 (.ref r) with
  | some y=>match mapO (flat σ 11) [natV m,.bool true] with
   | some ys=>some (y::ys)
   | .none=> .none
  | .none=> .none) with
  | some ds=>some (V.tup ds)
  | .none=> .none)=_
 rw [h1];rfl
theorem res_eq {r q m w:Nat} (h:σ[r]? =some (.list [hdV (97,w)])) (h':σ[q]? =some (.list [hdV (97,w)])):wG Γ .eq (.tup [.ref r,natV m,.bool true]) (.tup [.ref q,natV m,.bool true]) σ=some true:=by
 show (match flat σ 12 (.tup [.ref r,natV m,.bool true]) with
  | some x=>match flat σ 12 (.tup [.ref q,natV m,.bool true]) with
   | some y=>some (eqD x y)
   | .none=> .none
  | .none=> .none)=_
 rw [zbw h];dsimp only;rw [zbw h']
 refine congrArg some ?_
 show (((true&&((yW (yR (w:Int)) (yR (w:Int)))&&true))&&true)&&(((m:Int)==(m:Int))&&true))=true
 rw [Ye.mpr rfl,beq_self_eq_true];rfl
theorem run3:Run:=by
 intro ns _
 refine ⟨spec,?_⟩
 show∃σ',cfX (18+1) 334 [.flist (ns.map .int)] [] []=some (.bool true,σ')
 refine k33 (page_run (n:=17) ns []) fun ys p σ1 e1 P l1=> ?_
 have hq: ∀i,i < 7→leF ys i∈L31:=fun i ω=>leF_ok ys i
 have hs:=sgF_ok ys
 let v1:Vars:= [(50,some (.flist (ns.map .int))),(51,some (.ref p))]
 refine k33 (whites_ev (n:=18) (vars:=v1) hq P rfl) fun w ws σ2 e2 W l2=> ?_
 refine k23 (above_run (n:=17) W) fun a σ3 e3 ha l3=> ?_
 have hf:=above_F (ltQ (leF ys))
 generalize hff:xT (ltQ (leF ys))=f at ha hf
 have P3:=P.le (l2.trans l3)
 have hd:=due_run (n:=16) P3 hq hs
 rw [hff] at hd
 refine k34 hd fun ab q σ4 e4 hab hqq l4=> ?_
 let v4:Vars:= [(50,some (.flist (ns.map .int))),(51,some (.ref p)),(58,some (.ref a)),(92,some (.ref ab)),(93,some (.tup [.ref q,natV ((yK f).getD 6 0),.bool true]))]
 have ha4:=l4 _ _ ha
 have e5:=c_needs (n:=18) hf ha4
 let σ5:=σ4++ [O.list (zx (yK f))]
 have l5:Le σ4 σ5:= .app _ _
 have hok:okC f 8 6 0=true:=zq.mp okC_all f hf
 have C:qj (cfX 18) (leF ys) (sgF ys) (dgF ys) f 8:=zbF (k:=10) hf
 refine k12 (C hok ((P3.le l4).le l5) (l5 _ _ ha4) (zw _ _)) fun σ6 e6 l6=> ?_
 refine k13 (prog_run (n:=14) (sg:=sgF ys) (dg:=dgF ys) (σ:=σ6) hf hs P.d) fun s t1 t2 t3=> ?_
 refine k23 t3 fun z σ7 e7 l7 t4=> ?_
 refine k23 t4 fun r σ8 e8 hr l8=> ?_
 rw [t1] at e6
 let v5:Vars:= [(50,some (.flist (ns.map .int))),(51,some (.ref p)),(58,some (.ref a)),(92,some (.ref ab)),(93,some (.tup [.ref q,natV ((yK f).getD 6 0),.bool true])),(65,some (.str (s++ [59])))]
 have x1:ex Γ (cfX 18) 60 59 (.names [51] (.call (.lit (.cst (.ref 283))) [.var 50])) [(50,some (.flist (ns.map .int)))] []=some (.next,v1,σ1):=xy (o_fn (n:=58) (zZ (zl rfl)) ((wH rfl).trans e1))
 have x2:ex Γ (cfX 18) 60 58 (.names [58] (.call (.lit (.cst (.ref 290))) [whE])) v1 σ1=some (.next,[(50,some (.flist (ns.map .int))),(51,some (.ref p)),(58,some (.ref a))],σ3):=xy (o_fn (n:=58) (zZ e2) ((wH rfl).trans e3))
 have x3:ex Γ (cfX 18) 60 57 (.unpack [.name 92,.name 93] (.call (.lit (.cst (.ref 329))) [.var 51])) [(50,some (.flist (ns.map .int))),(51,some (.ref p)),(58,some (.ref a))] σ3=some (.next,v4,σ4):=qu (o_fn (n:=58) (zZ (zl rfl)) ((wH rfl).trans e4)) rfl
 have hlen:(zx f).length=6:=(yM f).trans (F_len f hf).1
 have e9:=XV (cf:=cfX 18) (n:=57) (vars:=v4) (σ:=σ5) (zl (i:=58) rfl) (l5 _ _ ha4)
 rw [hlen] at e9
 have x4:ex Γ (cfX 18) 60 56 (.names [65] (.call (.lit (.cst (.ref 300))) [.var 51,.var 58,.call (.lit (.cst (.ref 295))) [.var 58],.call (.lit (.cst (.builtin "len"))) [.var 58],.lit (.int 0)])) v4 σ4=some (.next,v5,σ6):=
  xy (o_fn (n:=58) (ya (zl rfl) (ya (zl rfl) (ya (o_fn (n:=57) (zZ (zl rfl)) ((wH rfl).trans e5)) (ya e9 (zZ zO))))) ((wH rfl).trans e6))
 have L48:Le σ4 σ8:=(l5.trans l6).trans l8
 have t1':ev Γ (cfX 18) 59 (.cmp .eq (.var 58) (.var 92)) v5 σ6=some (.bool true,σ6):=(xD (zl (v:= .ref a) rfl) (zl (v:= .ref ab) rfl) (zaj ((l5.trans l6) _ _ ha4) ((l5.trans l6) _ _ hab))).trans (by rw [zbk])
 have e10:ev Γ (cfX 18) 56 (.slice (.var 65) .none (some (.neg (.lit (.int 1)))) .none) v5 σ6=some (.str s,σ6):=o_init (zl rfl) (Qd zO (by decide+kernel)) (zm t2 (by decide))
 have e11:ev Γ (cfX 18) 58 (.call (.lit (.cst (.ref 317))) [.call (.lit (.cst (.ref 305))) [.slice (.var 65) .none (some (.neg (.lit (.int 1)))) .none]]) v5 σ6=some (.tup [.ref r,natV ((yK f).getD 6 0),.bool true],σ8):=
  o_fn (n:=56) (zZ (o_fn (n:=55) (zZ e10) ((wH rfl).trans e7))) ((wH rfl).trans e8)
 have e12:ev Γ (cfX 18) 59 eqE v5 σ6=some (.bool true,σ8):=xD e11 (zl rfl) (res_eq hr (L48 _ _ hqq))
 have e13:ev Γ (cfX 18) 60 (.and (.cmp .eq (.var 58) (.var 92)) eqE) v5 σ6=some (.bool (true&&true),σ8):=o_and t1' (fun ω=>e12) fun h=>tf h
 exact ⟨σ8,jD (F:=F_law) rfl rfl rfl (by rw [law_body];exact zE x1 (zE x2 (zE x3 (zE x4 (wU (qJ e13))))))⟩
end
end MI.L3
end T13
section T14
open PySem PySem.W PyProof.Rows PySem.Spec PySem.Calls
set_option maxHeartbeats 8000000
theorem MI.h.tw2795451140116958084:True:=⟨⟩
theorem MI.h.tw9951359947512095492:True:=⟨⟩
theorem MI.h.tw9439816439147322118:True:=⟨⟩
theorem MI.h.tw11810458658519621247:True:=⟨⟩
theorem MI.h.tw8606448958868700013:True:=⟨⟩
theorem MI.h.tw14761838410509515046:True:=⟨⟩
theorem MI.h.tw3619401371934175607:True:=⟨⟩
theorem MI.h.tw8799179347520493222:True:=⟨⟩
theorem MI.h.tw15518426809193813362:True:=⟨⟩
theorem MI.h.tw9452600819013710031:True:=⟨⟩
theorem MI.h.tw766289818967804029:True:=⟨⟩
theorem MI.h.tw539178212558662056:True:=⟨⟩
theorem MI.h.tw7311152303425937890:True:=⟨⟩
theorem MI.h.tw5687567928995614284:True:=⟨⟩
theorem MI.h.tw16601363134934898558:True:=⟨⟩
theorem MI.h.tw87150347279074274:True:=⟨⟩
theorem MI.h.tw3139058926019810062:True:=⟨⟩
theorem MI.h.tw5844218916384193805:True:=⟨⟩
theorem MI.h.tw3272525137371728339:True:=⟨⟩
theorem MI.h.tw4831978084266165782:True:=⟨⟩
theorem MI.h.tw6095793311086840307:True:=⟨⟩
theorem MI.h.tw1272722670343894533:True:=⟨⟩
theorem MI.h.tw17196065194067931578:True:=⟨⟩
theorem MI.h.tw7303961468275993194:True:=⟨⟩
theorem MI.h.tw9154246674622704504:True:=⟨⟩
theorem MI.h.tw7967493916900451535:True:=⟨⟩
theorem MI.h.tw6427223372128860756:True:=⟨⟩
theorem MI.h.tw7553442300937972680:True:=⟨⟩
theorem MI.h.tw9659549632043495924:True:=⟨⟩
theorem MI.h.tw6317087188808260833:True:=⟨⟩
theorem MI.h.tw14178730304663139796:True:=⟨⟩
theorem MI.h.tw6495915881525592481:True:=⟨⟩
theorem MI.h.tw4478740691137824503:True:=⟨⟩
theorem MI.h.tw12966390520774852187:True:=⟨⟩
theorem MI.h.tw14498859069917345558:True:=⟨⟩
theorem MI.h.tw10533256425262641346:True:=⟨⟩
theorem MI.h.tw7699808456951306150:True:=⟨⟩
theorem MI.h.tw18337460889229207387:True:=⟨⟩
theorem MI.h.tw4218560599628214877:True:=⟨⟩
theorem MI.h.tw16952313472956638425:True:=⟨⟩
theorem MI.h.tw14272978524557718034:True:=⟨⟩
theorem MI.h.tw2324353109478610700:True:=⟨⟩
theorem MI.h.tw16307847166070527645:True:=⟨⟩
theorem MI.h.tw4159701700605265347:True:=⟨⟩
theorem MI.h.tw7263603715724294802:True:=⟨⟩
theorem MI.h.tw7998253638370111664:True:=⟨⟩
theorem MI.h.tw5869356504264226336:True:=⟨⟩
theorem MI.h.tw15215405258509866925:True:=⟨⟩
theorem MI.h.tw8159004181495384387:True:=⟨⟩
theorem MI.h.tw16224744892546545244:True:=⟨⟩
theorem MI.h.tw14269351450881109133:True:=⟨⟩
theorem MI.h.tw17409366498172073143:True:=⟨⟩
theorem MI.h.tw6114603228386712561:True:=⟨⟩
theorem MI.h.tw12800590780280845022:True:=⟨⟩
theorem MI.h.tw5931112979532080276:True:=⟨⟩
theorem MI.h.tw11315914138417596727:True:=⟨⟩
theorem MI.h.tw1914264334430198746:True:=⟨⟩
theorem MI.h.tw7641766960571083636:True:=⟨⟩
theorem MI.h.tw17885931382179144439:True:=⟨⟩
theorem MI.h.tw5214579807418809142:True:=⟨⟩
theorem MI.h.tw14987414480971261731:True:=⟨⟩
theorem MI.h.tw538147253693522941:True:=⟨⟩
theorem MI.h.tw206009008898466244:True:=⟨⟩
theorem MI.h.tw7800676936146857068:True:=⟨⟩
theorem MI.h.tw2231741215466186278:True:=⟨⟩
theorem MI.h.tw12211413589333321976:True:=⟨⟩
theorem MI.h.tw1979772951489811462:True:=⟨⟩
theorem MI.h.tw12942543953657903565:True:=⟨⟩
theorem MI.h.tw9832156972132484596:True:=⟨⟩
theorem MI.h.tw1136819353846469920:True:=⟨⟩
theorem MI.h.tw13344961724804497456:True:=⟨⟩
theorem MI.h.tw13645470027985622301:True:=⟨⟩
theorem MI.h.tw1950302955785267674:True:=⟨⟩
theorem MI.h.tw5919519279708743527:True:=⟨⟩
theorem MI.h.tw12655532207739617828:True:=⟨⟩
theorem MI.h.tw5406957626852335441:True:=⟨⟩
theorem MI.h.tw17080564969476016762:True:=⟨⟩
theorem MI.h.tw4980156067176112380:True:=⟨⟩
theorem MI.h.tw11319352116400360815:True:=⟨⟩
theorem MI.h.tw5251195709364820825:True:=⟨⟩
theorem MI.h.tw5375117080292313040:True:=⟨⟩
theorem MI.h.tw8490608378110165178:True:=⟨⟩
theorem MI.h.tw17161668164672157251:True:=⟨⟩
theorem MI.h.tw6011877220226338442:True:=⟨⟩
theorem MI.h.tw13511319699052746321:True:=⟨⟩
theorem MI.h.tw7681399926316259504:True:=⟨⟩
theorem MI.h.tw15977524916459698249:True:=⟨⟩
theorem MI.h.tw4950431762049429505:True:=⟨⟩
theorem MI.h.tw625218098212169964:True:=⟨⟩
theorem MI.h.tw14896291089016517148:True:=⟨⟩
theorem MI.h.tw9354508531778793147:True:=⟨⟩
theorem MI.h.tw8207155010889364141:True:=⟨⟩
theorem MI.h.tw3380358926200389415:True:=⟨⟩
theorem MI.h.tw8011645948859850380:True:=⟨⟩
theorem MI.h.tw4661283025981170494:True:=⟨⟩
theorem MI.h.tw3981059114541383899:True:=⟨⟩
theorem MI.h.tw8536874343587781473:True:=⟨⟩
theorem MI.h.tw6548398758676780981:True:=⟨⟩
theorem MI.h.tw13773517218595335415:True:=⟨⟩
theorem MI.h.tw7870666040641496112:True:=⟨⟩
theorem MI.h.tw7088010054815574803:True:=⟨⟩
theorem MI.h.tw3161834836587384643:True:=⟨⟩
theorem MI.h.tw15033760526476772922:True:=⟨⟩
theorem MI.h.tw4122128705968527996:True:=⟨⟩
theorem MI.h.tw3966080628177408820:True:=⟨⟩
theorem MI.h.tw4460608152839655614:True:=⟨⟩
theorem MI.h.tw2352664224425441106:True:=⟨⟩
theorem MI.h.tw10948500800405597411:True:=⟨⟩
theorem MI.h.tw4787803535339266171:True:=⟨⟩
theorem MI.h.tw8677683001880330203:True:=⟨⟩
theorem MI.h.tw16334460989010949702:True:=⟨⟩
theorem MI.h.tw8198797409047812523:True:=⟨⟩
theorem MI.h.tw991004918015138083:True:=⟨⟩
theorem MI.h.tw17708527478820896087:True:=⟨⟩
theorem MI.h.tw10855135569718635205:True:=⟨⟩
theorem MI.h.tw13677308830866057740:True:=⟨⟩
theorem MI.h.tw15396219642820783782:True:=⟨⟩
theorem MI.h.tw7107581686104465207:True:=⟨⟩
theorem MI.h.tw7685655297236725522:True:=⟨⟩
theorem MI.h.tw114510246371067246:True:=⟨⟩
theorem MI.h.tw1011401019241278401:True:=⟨⟩
theorem MI.h.tw15186996752643995849:True:=⟨⟩
theorem MI.h.tw17211049344591354308:True:=⟨⟩
theorem MI.h.tw3132309389487929210:True:=⟨⟩
theorem MI.h.tw4602796872389476230:True:=⟨⟩
theorem MI.h.tw18367611712987656685:True:=⟨⟩
theorem MI.h.tw10501476238546904848:True:=⟨⟩
theorem MI.h.tw5876930700323262384:True:=⟨⟩
theorem MI.h.tw570984839993987933:True:=⟨⟩
theorem MI.h.tw15831560950195749234:True:=⟨⟩
theorem MI.h.tw6727002536562721803:True:=⟨⟩
theorem MI.h.tw8641606938980169353:True:=⟨⟩
theorem MI.h.tw6343393122817937344:True:=⟨⟩
theorem MI.h.tw10808186131409962348:True:=⟨⟩
theorem MI.h.tw2842837978048837443:True:=⟨⟩
theorem MI.h.tw9634381440452309246:True:=⟨⟩
theorem MI.h.tw5323191896587985366:True:=⟨⟩
theorem MI.h.tw13873048805569408654:True:=⟨⟩
theorem MI.h.tw5250594821925487850:True:=⟨⟩
theorem MI.h.tw12757329826319916307:True:=⟨⟩
theorem MI.h.tw15684202523030328441:True:=⟨⟩
theorem MI.h.tw12423088567891511871:True:=⟨⟩
theorem MI.h.tw16244459961323036834:True:=⟨⟩
theorem MI.h.tw370486610177827933:True:=⟨⟩
theorem MI.h.tw3768299158841506722:True:=⟨⟩
theorem MI.h.tw2320342661452870951:True:=⟨⟩
theorem MI.h.tw753668035967892403:True:=⟨⟩
theorem MI.h.tw3240273648757554595:True:=⟨⟩
theorem MI.h.tw16042956550787363070:True:=⟨⟩
theorem MI.h.tw16449938280688742634:True:=⟨⟩
theorem MI.h.tw9316221774349399208:True:=⟨⟩
theorem MI.h.tw15498660344447040316:True:=⟨⟩
theorem MI.h.tw4175635528654030736:True:=⟨⟩
theorem MI.h.tw14147428429185372798:True:=⟨⟩
theorem MI.h.tw12709404137681319899:True:=⟨⟩
theorem MI.h.tw1635867894891724943:True:=⟨⟩
theorem MI.h.tw6485761855128319986:True:=⟨⟩
theorem MI.h.tw7414049370317230688:True:=⟨⟩
theorem MI.h.tw14484715720456187214:True:=⟨⟩
theorem MI.h.tw5537404773867497337:True:=⟨⟩
theorem MI.h.tw6783122765002947681:True:=⟨⟩
theorem MI.h.tw13988465935683623887:True:=⟨⟩
theorem MI.h.tw16886600850880474653:True:=⟨⟩
theorem MI.h.tw5589252267870633807:True:=⟨⟩
theorem MI.h.tw13330356579083021911:True:=⟨⟩
theorem MI.h.tw5314566795722963905:True:=⟨⟩
theorem MI.h.tw12992687340277797193:True:=⟨⟩
theorem MI.h.tw3986155751930733341:True:=⟨⟩
theorem MI.h.tw9023574322776181932:True:=⟨⟩
theorem MI.h.tw5231746143424986680:True:=⟨⟩
theorem MI.h.tw8661057138561124247:True:=⟨⟩
theorem MI.h.tw15872365230317915800:True:=⟨⟩
theorem MI.h.tw14862232780646705150:True:=⟨⟩
theorem MI.h.tw8646851385467070121:True:=⟨⟩
theorem MI.h.tw15742709927082142385:True:=⟨⟩
theorem MI.h.tw7221810974446901544:True:=⟨⟩
theorem MI.h.tw426085996160716512:True:=⟨⟩
theorem MI.h.tw13034281736522886310:True:=⟨⟩
theorem MI.h.tw15486162244592415344:True:=⟨⟩
theorem MI.h.tw9648692639547385068:True:=⟨⟩
theorem MI.h.tw12437614306836556901:True:=⟨⟩
theorem MI.h.tw15511962089348322606:True:=⟨⟩
theorem MI.h.tw7886238137557128014:True:=⟨⟩
theorem MI.h.tw3517108978226615445:True:=⟨⟩
theorem MI.h.tw1053335195504953637:True:=⟨⟩
theorem MI.h.tw1095467022140598918:True:=⟨⟩
theorem MI.h.tw9527089709778875979:True:=⟨⟩
theorem MI.h.tw4264699509428024130:True:=⟨⟩
theorem MI.h.tw1605451969717248476:True:=⟨⟩
theorem MI.h.tw4824695741619331758:True:=⟨⟩
theorem MI.h.tw9768646008864867001:True:=⟨⟩
theorem MI.h.tw992739158974513426:True:=⟨⟩
theorem MI.h.tw7432086079278873464:True:=⟨⟩
theorem MI.h.tw3908194119645394814:True:=⟨⟩
theorem MI.h.tw13421285455648993846:True:=⟨⟩
theorem MI.h.tw10152126285143538658:True:=⟨⟩
theorem MI.h.tw4297960755638571517:True:=⟨⟩
theorem MI.h.tw12658707888644272507:True:=⟨⟩
theorem MI.h.tw9308232988566513635:True:=⟨⟩
theorem MI.h.tw16693541028615365652:True:=⟨⟩
theorem MI.h.tw3106658715387719538:True:=⟨⟩
theorem MI.h.tw17889544996163584383:True:=⟨⟩
theorem MI.h.tw1526144053155649391:True:=⟨⟩
theorem MI.h.tw8857350650673035650:True:=⟨⟩
theorem MI.h.tw13100315616137742069:True:=⟨⟩
theorem MI.h.tw14413901012829904778:True:=⟨⟩
theorem MI.h.tw15648966159094655416:True:=⟨⟩
theorem MI.h.tw11932229315479172871:True:=⟨⟩
theorem MI.h.tw8969304045824136619:True:=⟨⟩
theorem MI.h.tw12050105046674465795:True:=⟨⟩
theorem MI.h.tw7064160539918490211:True:=⟨⟩
theorem MI.h.tw8718744058142206370:True:=⟨⟩
theorem MI.h.tw2060567271918688466:True:=⟨⟩
theorem MI.h.tw6265707403724225191:True:=⟨⟩
theorem MI.h.tw2469350617910780499:True:=⟨⟩
theorem MI.h.tw5661011148375472301:True:=⟨⟩
theorem MI.h.tw13990226573354266164:True:=⟨⟩
theorem MI.h.tw10140631252787427454:True:=⟨⟩
theorem MI.h.tw5379924368777260876:True:=⟨⟩
theorem MI.h.tw8947256709689005906:True:=⟨⟩
theorem MI.h.tw7575290677930274572:True:=⟨⟩
theorem MI.h.tw3472378606323182240:True:=⟨⟩
theorem MI.h.tw14824384220416556845:True:=⟨⟩
theorem MI.h.tw6489207939541828725:True:=⟨⟩
theorem MI.h.tw4708334375690927784:True:=⟨⟩
theorem MI.h.tw12724077181990310255:True:=⟨⟩
theorem MI.h.tw10311521697816829955:True:=⟨⟩
theorem MI.h.tw10003174872371908099:True:=⟨⟩
theorem MI.h.tw2414144455822743273:True:=⟨⟩
theorem MI.h.tw6780468577338507813:True:=⟨⟩
theorem MI.h.tw13780185532098862610:True:=⟨⟩
theorem MI.h.tw9005331106295716034:True:=⟨⟩
theorem MI.h.tw14340888981568083504:True:=⟨⟩
theorem MI.h.tw13671855548259790361:True:=⟨⟩
theorem MI.h.tw15915658796540520126:True:=⟨⟩
theorem MI.h.tw13897511692132896382:True:=⟨⟩
theorem MI.h.tw4392389986384364310:True:=⟨⟩
theorem MI.h.tw2602126109314521962:True:=⟨⟩
theorem MI.h.tw13677402378465924144:True:=⟨⟩
theorem MI.h.tw5417291620777594990:True:=⟨⟩
theorem MI.h.tw15214153668272595618:True:=⟨⟩
theorem MI.h.tw2216489486758742584:True:=⟨⟩
theorem MI.h.tw14152495275767501726:True:=⟨⟩
theorem MI.h.tw4615654357030040772:True:=⟨⟩
theorem MI.h.tw2632678239683726783:True:=⟨⟩
theorem MI.h.tw17876999132001950919:True:=⟨⟩
theorem MI.h.tw15308433096326148809:True:=⟨⟩
theorem MI.h.tw16075062268427103804:True:=⟨⟩
theorem MI.h.tw14742216871288018075:True:=⟨⟩
theorem MI.h.tw4613590217950729492:True:=⟨⟩
theorem MI.h.tw13880557926402700379:True:=⟨⟩
theorem MI.h.tw14836327735372181211:True:=⟨⟩
theorem MI.h.tw14332421562885214225:True:=⟨⟩
theorem MI.h.tw16624235299039253062:True:=⟨⟩
theorem MI.h.tw1810673153998328641:True:=⟨⟩
theorem MI.h.tw18096309294176781608:True:=⟨⟩
theorem MI.h.tw17800021823864527915:True:=⟨⟩
theorem MI.h.tw4909637155564228187:True:=⟨⟩
theorem MI.h.tw5677497221591460749:True:=⟨⟩
theorem MI.h.tw7495353393809701108:True:=⟨⟩
theorem MI.h.tw17714907532840276008:True:=⟨⟩
theorem MI.h.tw9316117972322802984:True:=⟨⟩
theorem MI.h.tw4792485389547669108:True:=⟨⟩
theorem MI.h.tw18156356171282918681:True:=⟨⟩
theorem MI.h.tw8716834879846760352:True:=⟨⟩
theorem MI.h.tw265565092057873650:True:=⟨⟩
theorem MI.h.tw15237816317570812528:True:=⟨⟩
theorem MI.h.tw16553791192580206162:True:=⟨⟩
theorem MI.h.tw8536642597009991246:True:=⟨⟩
theorem MI.h.tw4885384468345662946:True:=⟨⟩
theorem MI.h.tw5461476594853440071:True:=⟨⟩
theorem MI.h.tw9329557545102064387:True:=⟨⟩
theorem MI.h.tw7563853393758430005:True:=⟨⟩
theorem MI.h.tw14139732588118859165:True:=⟨⟩
theorem MI.h.tw11337244951021135948:True:=⟨⟩
theorem MI.h.tw1056561638026204726:True:=⟨⟩
theorem MI.h.tw12013596874108532387:True:=⟨⟩
theorem MI.h.tw2699145595296155233:True:=⟨⟩
theorem MI.h.tw14817459586996669845:True:=⟨⟩
theorem MI.h.tw16957767084515704992:True:=⟨⟩
theorem MI.h.tw12687896187690058388:True:=⟨⟩
theorem MI.h.tw17042767742041209403:True:=⟨⟩
theorem MI.h.tw5358253492132277373:True:=⟨⟩
theorem MI.h.tw16985802551108525327:True:=⟨⟩
theorem MI.h.tw12729618529089208383:True:=⟨⟩
theorem MI.h.tw7212011518391065162:True:=⟨⟩
theorem MI.h.tw7204743496073134794:True:=⟨⟩
theorem MI.h.tw14243120384066314776:True:=⟨⟩
theorem MI.h.tw14776929148192491822:True:=⟨⟩
theorem MI.h.tw18121622643058177375:True:=⟨⟩
theorem MI.h.tw2930694151340655931:True:=⟨⟩
theorem MI.h.tw10680460800738331518:True:=⟨⟩
theorem MI.h.tw301181026051444518:True:=⟨⟩
theorem MI.h.tw3934631138387515321:True:=⟨⟩
theorem MI.h.tw6855272717762293095:True:=⟨⟩
theorem MI.h.tw8449015683340604661:True:=⟨⟩
theorem MI.h.tw8682296180001362438:True:=⟨⟩
theorem MI.h.tw9542647219696440825:True:=⟨⟩
theorem MI.h.tw10565250394946491377:True:=⟨⟩
theorem MI.h.tw10814310366305385824:True:=⟨⟩
theorem MI.h.tw5914214391831917083:True:=⟨⟩
theorem MI.h.tw12955775429086202908:True:=⟨⟩
theorem MI.h.tw10902536218424964520:True:=⟨⟩
theorem MI.h.tw8848646254694538664:True:=⟨⟩
theorem MI.h.tw8439632037572732231:True:=⟨⟩
theorem MI.h.tw7120252543364587837:True:=⟨⟩
theorem MI.h.tw13132226787595575145:True:=⟨⟩
theorem MI.h.tw5434136935987173547:True:=⟨⟩
theorem MI.h.tw10516128174349651892:True:=⟨⟩
theorem MI.h.tw7052511106545228294:True:=⟨⟩
theorem MI.h.tw11904312023369303029:True:=⟨⟩
theorem MI.h.tw12659518114856757170:True:=⟨⟩
theorem MI.h.tw11890821517517841010:True:=⟨⟩
theorem MI.h.tw1110427974676150573:True:=⟨⟩
theorem MI.h.tw3544512679135274708:True:=⟨⟩
theorem MI.h.tw8751917010681672251:True:=⟨⟩
theorem MI.h.tw15824136379771664824:True:=⟨⟩
theorem MI.h.tw4795870215232361891:True:=⟨⟩
theorem MI.h.tw12054067824850594281:True:=⟨⟩
theorem MI.h.tw2067688860793099544:True:=⟨⟩
theorem MI.h.tw18080781134424121486:True:=⟨⟩
theorem MI.h.tw966088218002447128:True:=⟨⟩
theorem MI.h.tw8006520539369802256:True:=⟨⟩
theorem MI.h.tw13980075197151722576:True:=⟨⟩
theorem MI.h.tw8922250187614510260:True:=⟨⟩
theorem MI.h.tw7227253917192531135:True:=⟨⟩
theorem MI.h.tw172622257404836054:True:=⟨⟩
theorem MI.h.tw895507107005011551:True:=⟨⟩
theorem MI.h.tw347492410655238935:True:=⟨⟩
theorem MI.h.tw6331589515471783081:True:=⟨⟩
theorem MI.h.tw334643224279122657:True:=⟨⟩
theorem MI.h.tw1197798343522990386:True:=⟨⟩
theorem MI.h.tw1740333116957301100:True:=⟨⟩
theorem MI.h.tw15170690850536292380:True:=⟨⟩
theorem MI.h.tw12373893316805541126:True:=⟨⟩
theorem MI.h.tw13476481588198473386:True:=⟨⟩
theorem MI.h.tw12355317211224975114:True:=⟨⟩
theorem MI.h.tw11007380328233836994:True:=⟨⟩
theorem MI.h.tw9579371860814772686:True:=⟨⟩
theorem MI.h.tw11656204951095333773:True:=⟨⟩
theorem MI.h.tw12350972126975334522:True:=⟨⟩
theorem MI.h.tw6343567892298353387:True:=⟨⟩
theorem MI.h.tw10763406742421372075:True:=⟨⟩
theorem MI.h.tw12460367361980150388:True:=⟨⟩
theorem MI.h.tw17959723380430996057:True:=⟨⟩
theorem MI.h.tw6275787247463614820:True:=⟨⟩
theorem MI.h.tw4439866237008585008:True:=⟨⟩
theorem MI.h.tw18196503021868084175:True:=⟨⟩
theorem MI.h.tw14468109376427299653:True:=⟨⟩
theorem MI.h.tw13587792088082880262:True:=⟨⟩
theorem MI.h.tw11737559138232422511:True:=⟨⟩
theorem MI.h.tw3533334344974105687:True:=⟨⟩
theorem MI.h.tw203656455634883904:True:=⟨⟩
theorem MI.h.tw3383608237210831627:True:=⟨⟩
theorem MI.h.tw3743837394386260688:True:=⟨⟩
theorem MI.h.tw10419502692379743783:True:=⟨⟩
theorem MI.h.tw648068997301114173:True:=⟨⟩
theorem MI.h.tw7289835552884774911:True:=⟨⟩
theorem MI.h.tw18395909863104184607:True:=⟨⟩
theorem MI.h.tw17918522705804183637:True:=⟨⟩
theorem MI.h.tw5616044094081230683:True:=⟨⟩
theorem MI.h.tw7630035162684332457:True:=⟨⟩
theorem MI.h.tw8348466785981823304:True:=⟨⟩
theorem MI.h.tw7539725197088427410:True:=⟨⟩
theorem MI.h.tw800162142722235397:True:=⟨⟩
theorem MI.h.tw12147817962618378108:True:=⟨⟩
theorem MI.h.tw1076032422457175805:True:=⟨⟩
theorem MI.h.tw18235093220256922412:True:=⟨⟩
theorem MI.h.tw7660853879643921842:True:=⟨⟩
theorem MI.h.tw6164916216506472562:True:=⟨⟩
theorem MI.h.tw10843076970805042449:True:=⟨⟩
theorem MI.h.tw8816385559863683553:True:=⟨⟩
theorem MI.h.tw17799721791662994663:True:=⟨⟩
theorem MI.h.tw13482035217508805444:True:=⟨⟩
theorem MI.h.tw4387307387020604207:True:=⟨⟩
theorem MI.h.tw17504483304878806325:True:=⟨⟩
theorem MI.h.tw13612431139875084487:True:=⟨⟩
theorem MI.h.tw10586408445335202245:True:=⟨⟩
theorem MI.h.tw6715418339682147097:True:=⟨⟩
theorem MI.h.tw7145592805755954929:True:=⟨⟩
theorem MI.h.tw6640494949327562702:True:=⟨⟩
theorem MI.h.tw14667626124016539418:True:=⟨⟩
theorem MI.h.tw15420072408978152962:True:=⟨⟩
theorem MI.h.tw8160855493187839060:True:=⟨⟩
theorem MI.h.tw6880285942476779878:True:=⟨⟩
theorem MI.h.tw8881487747762438487:True:=⟨⟩
theorem MI.h.tw3567783193084311961:True:=⟨⟩
theorem MI.h.tw16287994594222739754:True:=⟨⟩
theorem MI.h.tw16684693490178677285:True:=⟨⟩
theorem MI.h.tw8207850306311870169:True:=⟨⟩
theorem MI.h.tw14647779844744032869:True:=⟨⟩
theorem MI.h.tw16953185341875957715:True:=⟨⟩
theorem MI.h.tw14513202867052359148:True:=⟨⟩
theorem MI.h.tw15888834720048044444:True:=⟨⟩
theorem MI.h.tw5650492471373900725:True:=⟨⟩
theorem MI.h.tw4211905736105490719:True:=⟨⟩
theorem MI.h.tw11237561986070961182:True:=⟨⟩
theorem MI.h.tw17218139650694851480:True:=⟨⟩
theorem MI.h.tw9344278814265342737:True:=⟨⟩
theorem MI.h.tw5925153030993671826:True:=⟨⟩
theorem MI.h.tw2731053270182056710:True:=⟨⟩
theorem MI.h.tw7912078809233970155:True:=⟨⟩
theorem MI.h.tw5523734026757050999:True:=⟨⟩
theorem MI.h.tw7241715293167279812:True:=⟨⟩
theorem MI.h.tw14171035495164681720:True:=⟨⟩
theorem MI.h.tw9506952214323141020:True:=⟨⟩
theorem MI.h.tw4956202815408069519:True:=⟨⟩
theorem MI.h.tw11641106802727210624:True:=⟨⟩
theorem MI.h.tw3632596519376591488:True:=⟨⟩
theorem MI.h.tw6226242813739104755:True:=⟨⟩
theorem MI.h.tw11269944870141430855:True:=⟨⟩
theorem MI.h.tw13583735781255718168:True:=⟨⟩
theorem MI.h.tw7118163709684992584:True:=⟨⟩
theorem MI.h.tw9427939774342251444:True:=⟨⟩
theorem MI.h.tw14291568892626499006:True:=⟨⟩
theorem MI.h.tw6353825752783223493:True:=⟨⟩
theorem MI.h.tw13125589177819030729:True:=⟨⟩
theorem MI.h.tw18068791092708541295:True:=⟨⟩
theorem MI.h.tw983117079085739365:True:=⟨⟩
theorem MI.h.tw8012070816986593502:True:=⟨⟩
theorem MI.h.tw5248434798532375649:True:=⟨⟩
theorem MI.h.tw4430606448351942949:True:=⟨⟩
theorem MI.h.tw7170332874562651162:True:=⟨⟩
theorem MI.h.tw11688029955930547537:True:=⟨⟩
theorem MI.h.tw5677050140410315230:True:=⟨⟩
theorem MI.h.tw1788229997281612558:True:=⟨⟩
theorem MI.h.tw1963568534201772741:True:=⟨⟩
theorem MI.h.tw18066238671866490595:True:=⟨⟩
theorem MI.h.tw12485018930355531808:True:=⟨⟩
theorem MI.h.tw14334642373721317314:True:=⟨⟩
theorem MI.h.tw11673832446544817812:True:=⟨⟩
theorem MI.h.tw3462770174691879448:True:=⟨⟩
theorem MI.h.tw5560319901312160208:True:=⟨⟩
theorem MI.h.tw715834273050250981:True:=⟨⟩
theorem MI.h.tw7977950451457169837:True:=⟨⟩
theorem MI.h.tw13432653248351403408:True:=⟨⟩
theorem MI.h.tw13300421093377906988:True:=⟨⟩
theorem MI.h.tw13720752882511215527:True:=⟨⟩
theorem MI.h.tw16830985959230494662:True:=⟨⟩
theorem MI.h.tw11225973936706129674:True:=⟨⟩
theorem MI.h.tw3695243705979300330:True:=⟨⟩
theorem MI.h.tw1321024417047019546:True:=⟨⟩
theorem MI.h.tw4768191516409823675:True:=⟨⟩
theorem MI.h.tw5455649461471918896:True:=⟨⟩
theorem MI.h.tw4029457112048200832:True:=⟨⟩
theorem MI.h.tw9172898890816482597:True:=⟨⟩
theorem MI.h.tw2047067620395056460:True:=⟨⟩
theorem MI.h.tw4523827945173512887:True:=⟨⟩
theorem MI.h.tw6816069801127217609:True:=⟨⟩
theorem MI.h.tw14033471449464465267:True:=⟨⟩
theorem MI.h.tw14173006712167488571:True:=⟨⟩
theorem MI.h.tw5434034534479146159:True:=⟨⟩
theorem MI.h.tw2359107598205803400:True:=⟨⟩
theorem MI.h.tw4805004134235001936:True:=⟨⟩
theorem MI.h.tw7767326955497791704:True:=⟨⟩
theorem MI.h.tw5505994698530431375:True:=⟨⟩
theorem MI.h.tw2714289519214690443:True:=⟨⟩
namespace MI
open MI.L3
set_option Elab.async true in
theorem h:PySem.Challenge.rw_rs0232_03.Holds:=by
 (w_on;o_law;k_head;(case hw=>w_witness2))
 have FX:Facts h.heap_1_39:= {
  tab:=fun P=>by kernel_rfl
  glob:=fun P=>by kernel_rfl
  look_F_law:=fun P=>
  yd.of (by kernel_rfl) ⟨by kernel_rfl,by kernel_rfl,by kernel_rfl⟩ (by
    intro us kus S h1 h2 h3
    obtain rfl:=kex0 h3
    obtain ⟨a,rfl⟩:=lex1 (zS h1 h2)
    kernel_rfl)
  look_F_law_page:=fun P=>
  yd.of (by kernel_rfl) ⟨by kernel_rfl,by kernel_rfl,by kernel_rfl⟩ (by
    intro us kus S h1 h2 h3
    obtain rfl:=kex0 h3
    obtain ⟨a,rfl⟩:=lex1 (zS h1 h2)
    kernel_rfl)
  look_F_law_above:=fun P=>
  yd.of (by kernel_rfl) ⟨by kernel_rfl,by kernel_rfl,by kernel_rfl⟩ (by
    intro us kus S h1 h2 h3
    obtain rfl:=kex0 h3
    obtain ⟨a,rfl⟩:=lex1 (zS h1 h2)
    kernel_rfl)
  look_F_law_needs:=fun P=>
  yd.of (by kernel_rfl) ⟨by kernel_rfl,by kernel_rfl,by kernel_rfl⟩ (by
    intro us kus S h1 h2 h3
    obtain rfl:=kex0 h3
    obtain ⟨a,rfl⟩:=lex1 (zS h1 h2)
    kernel_rfl)
  look_F_law_code:=fun P=>
  yd.of (by kernel_rfl) ⟨by kernel_rfl,by kernel_rfl,by kernel_rfl⟩ (by
    intro us kus S h1 h2 h3
    obtain rfl:=kex0 h3
    obtain ⟨a,b,d,e,f,rfl⟩:=lex5 (zS h1 h2)
    kernel_rfl)
  look_F_law_cut:=fun P=>
  yd.of (by kernel_rfl) ⟨by kernel_rfl,by kernel_rfl,by kernel_rfl⟩ (by
    intro us kus S h1 h2 h3
    obtain rfl:=kex0 h3
    obtain ⟨a,rfl⟩:=lex1 (zS h1 h2)
    kernel_rfl)
  look_F_law_join:=fun P=>
  yd.of (by kernel_rfl) ⟨by kernel_rfl,by kernel_rfl,by kernel_rfl⟩ (by
    intro us kus S h1 h2 h3
    obtain rfl:=kex0 h3
    obtain ⟨a,b,d,rfl⟩:=lex3 (zS h1 h2)
    kernel_rfl)
  look_F_law_run:=fun P=>
  yd.of (by kernel_rfl) ⟨by kernel_rfl,by kernel_rfl,by kernel_rfl⟩ (by
    intro us kus S h1 h2 h3
    obtain rfl:=kex0 h3
    obtain ⟨a,rfl⟩:=lex1 (zS h1 h2)
    kernel_rfl)
  look_F_law_column:=fun P=>
  yd.of (by kernel_rfl) ⟨by kernel_rfl,by kernel_rfl,by kernel_rfl⟩ (by
    intro us kus S h1 h2 h3
    obtain rfl:=kex0 h3
    obtain ⟨a,b,rfl⟩:=lex2 (zS h1 h2)
    kernel_rfl)
  look_F_law_due:=fun P=>
  yd.of (by kernel_rfl) ⟨by kernel_rfl,by kernel_rfl,by kernel_rfl⟩ (by
    intro us kus S h1 h2 h3
    obtain rfl:=kex0 h3
    obtain ⟨a,rfl⟩:=lex1 (zS h1 h2)
    kernel_rfl)
  look_F_ISTERMINAL:=fun P=>
  yd.of (by kernel_rfl) ⟨by kernel_rfl,by kernel_rfl,by kernel_rfl⟩ (by
    intro us kus S h1 h2 h3
    obtain rfl:=kex0 h3
    obtain ⟨a,rfl⟩:=lex1 (zS h1 h2)
    kernel_rfl)
  look_F_ISNONTERMINAL:=fun P=>
  yd.of (by kernel_rfl) ⟨by kernel_rfl,by kernel_rfl,by kernel_rfl⟩ (by
    intro us kus S h1 h2 h3
    obtain rfl:=kex0 h3
    obtain ⟨a,rfl⟩:=lex1 (zS h1 h2)
    kernel_rfl)
  look_F_ISEOF:=fun P=>
  yd.of (by kernel_rfl) ⟨by kernel_rfl,by kernel_rfl,by kernel_rfl⟩ (by
    intro us kus S h1 h2 h3
    obtain rfl:=kex0 h3
    obtain ⟨a,rfl⟩:=lex1 (zS h1 h2)
    kernel_rfl)
  look_F_WhitespaceU_initU:=fun P=>
  yd.of (by kernel_rfl) ⟨by kernel_rfl,by kernel_rfl,by kernel_rfl⟩ (by
    intro us kus S h1 h2 h3
    obtain rfl:=kex0 h3
    obtain ⟨a,b,rfl⟩:=lex2 (zS h1 h2)
    kernel_rfl)
  look_F_Whitespace_longest_run_of_spaces:=fun P=>
  yd.of (by kernel_rfl) ⟨by kernel_rfl,by kernel_rfl,by kernel_rfl⟩ (by
    intro us kus S h1 h2 h3
    obtain rfl:=kex0 h3
    obtain ⟨a,rfl⟩:=lex1 (zS h1 h2)
    kernel_rfl)
  look_F_Whitespace_indent_level:=fun P=>
  yd.of (by kernel_rfl) ⟨by kernel_rfl,by kernel_rfl,by kernel_rfl⟩ (by
    intro us kus S h1 h2 h3
    obtain rfl:=kex0 h3
    obtain ⟨a,b,rfl⟩:=lex2 (zS h1 h2)
    kernel_rfl)
  look_F_Whitespace_less:=fun P=>
  yd.of (by kernel_rfl) ⟨by kernel_rfl,by kernel_rfl,by kernel_rfl⟩ (by
    intro us kus S h1 h2 h3
    obtain rfl:=kex0 h3
    obtain ⟨a,b,rfl⟩:=lex2 (zS h1 h2)
    kernel_rfl)
  look_F_HeadersU_initU:=fun P=>
  yd.of (by kernel_rfl) ⟨by kernel_rfl,by kernel_rfl,by kernel_rfl⟩ (by
    intro us kus S h1 h2 h3
    obtain rfl:=kex0 h3
    have hl:us.length=1∨us.length=2:=by
     simp only [xg,List.length_nil] at h1 h2
     omega
    rcases hl with hl | hl
    ·obtain ⟨a,rfl⟩:=lex1 hl
     kernel_rfl
    ·obtain ⟨a,b,rfl⟩:=lex2 hl
     kernel_rfl)
  look_F_HeadersUconvert_string_type:=fun P=>
  yd.of (by kernel_rfl) ⟨by kernel_rfl,by kernel_rfl,by kernel_rfl⟩ (by
    intro us kus S h1 h2 h3
    obtain ⟨k,rfl⟩:=kex1 h3
    obtain ⟨a,b,rfl⟩:=lex2 (zS h1 h2)
    kernel_rfl)
  look_F_HeadersU_setitemU:=fun P=>
  yd.of (by kernel_rfl) ⟨by kernel_rfl,by kernel_rfl,by kernel_rfl⟩ (by
    intro us kus S h1 h2 h3
    obtain rfl:=kex0 h3
    obtain ⟨a,b,d,rfl⟩:=lex3 (zS h1 h2)
    kernel_rfl)
  look_F_HeadersU_delitemU:=fun P=>
  yd.of (by kernel_rfl) ⟨by kernel_rfl,by kernel_rfl,by kernel_rfl⟩ (by
    intro us kus S h1 h2 h3
    obtain rfl:=kex0 h3
    obtain ⟨a,b,rfl⟩:=lex2 (zS h1 h2)
    kernel_rfl)
  look_F_Headers_get:=fun P=>
  yd.of (by kernel_rfl) ⟨by kernel_rfl,by kernel_rfl,by kernel_rfl⟩ (by
    intro us kus S h1 h2 h3
    obtain rfl:=kex0 h3
    have hl:us.length=2∨us.length=3:=by
     simp only [xg,List.length_nil] at h1 h2
     omega
    rcases hl with hl | hl
    ·obtain ⟨a,b,rfl⟩:=lex2 hl
     kernel_rfl
    ·obtain ⟨a,b,d,rfl⟩:=lex3 hl
     kernel_rfl)
  look_F_Headers_keys:=fun P=>
  yd.of (by kernel_rfl) ⟨by kernel_rfl,by kernel_rfl,by kernel_rfl⟩ (by
    intro us kus S h1 h2 h3
    obtain rfl:=kex0 h3
    obtain ⟨a,rfl⟩:=lex1 (zS h1 h2)
    kernel_rfl)
  look_F_Headers_items:=fun P=>
  yd.of (by kernel_rfl) ⟨by kernel_rfl,by kernel_rfl,by kernel_rfl⟩ (by
    intro us kus S h1 h2 h3
    obtain rfl:=kex0 h3
    obtain ⟨a,rfl⟩:=lex1 (zS h1 h2)
    kernel_rfl)
  look_F_Headers_add_header:=fun P=>
  ⟨.of (by kernel_rfl) ⟨by kernel_rfl,by kernel_rfl,by kernel_rfl⟩,⟨rfl,rfl,rfl,rfl⟩,fun a b d=>by kernel_rfl,by decide⟩
  clsH:=fun P=>⟨by kernel_rfl,by kernel_rfl,by kernel_rfl,by kernel_rfl,by kernel_rfl,by kernel_rfl,by kernel_rfl,by kernel_rfl,by kernel_rfl,by kernel_rfl,by kernel_rfl⟩
  clsW:=fun P=>⟨by kernel_rfl,by kernel_rfl,by kernel_rfl,by kernel_rfl,by kernel_rfl,by kernel_rfl,by kernel_rfl,by kernel_rfl,by kernel_rfl,by kernel_rfl,by kernel_rfl⟩
  pat0:=fun P=>by kernel_rfl
  pit0:=fun P=>by kernel_rfl
  pat1:=fun P=>by kernel_rfl
  pit1:=fun P=>by kernel_rfl
  catS:=fun P=>⟨by kernel_rfl,by kernel_rfl⟩
  catT:=fun P=>⟨by kernel_rfl,by kernel_rfl⟩
  law:=fun P=>by kernel_rfl}
 w_strict (
  k_fill
  intro w s₀ s₁ mg mb G Y fa o pm cd doc dV kV ho hd hcd hD hmg hg args vals as hpre hlay hrd hwl hlo
  have KX:=kIn_of Y
  refine Ground.open G ?_
  intro T B D TE TW
  wrow_args hpre hlay hrd hwl hlo
  all_goals exact MI.L3.fin2 MI.L3.run3 FX KX (topRead_of T) hmg (by assumption) (by assumption) (by assumption) hg)
end MI
end T14
set_option maxRecDepth 100000 in
theorem PySem.Challenge.cw_rs0232_03_holds : PySem.Challenge.rw_rs0232_03.Holds := by
  exact MI.h
