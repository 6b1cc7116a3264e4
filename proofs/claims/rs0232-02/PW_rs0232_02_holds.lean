import PyProof.Rows.All
import Wide.All
import OpenK.AllK
import Wide.FinOn
import KE.KSortTup
import KE.KIntText
import KE.KPar
import Lean
import PySem.Challenge.RW_rs0232_02
set_option Elab.async false
set_option bootstrap.genMatcherCode false
set_option genInjectivity false
set_option genSizeOf false
set_option genSizeOfSpec false

section TKK
namespace MI
theorem k02  {A0 A1 : Prop} {G : Prop} (h : A0 ∧ A1) (k : A0 → A1 → G) : G := k h.1 h.2
theorem k03  {A0 A1 A2 : Prop} {G : Prop} (h : A0 ∧ A1 ∧ A2) (k : A0 → A1 → A2 → G) : G := k h.1 h.2.1 h.2.2
theorem k04  {A0 A1 A2 A3 : Prop} {G : Prop} (h : A0 ∧ A1 ∧ A2 ∧ A3) (k : A0 → A1 → A2 → A3 → G) : G := k h.1 h.2.1 h.2.2.1 h.2.2.2
theorem k05  {A0 A1 A2 A3 A4 : Prop} {G : Prop} (h : A0 ∧ A1 ∧ A2 ∧ A3 ∧ A4) (k : A0 → A1 → A2 → A3 → A4 → G) : G := k h.1 h.2.1 h.2.2.1 h.2.2.2.1 h.2.2.2.2
theorem k11 {X0 : Type _} {A0 : X0 → Prop} {G : Prop} (h : ∃ x0, A0 x0) (k : ∀ x0, A0 x0 → G) : G := h.elim fun x0 h => k x0 h
theorem k12 {X0 : Type _} {A0 A1 : X0 → Prop} {G : Prop} (h : ∃ x0, A0 x0 ∧ A1 x0) (k : ∀ x0, A0 x0 → A1 x0 → G) : G := h.elim fun x0 h => k x0 h.1 h.2
theorem k13 {X0 : Type _} {A0 A1 A2 : X0 → Prop} {G : Prop} (h : ∃ x0, A0 x0 ∧ A1 x0 ∧ A2 x0) (k : ∀ x0, A0 x0 → A1 x0 → A2 x0 → G) : G := h.elim fun x0 h => k x0 h.1 h.2.1 h.2.2
theorem k14 {X0 : Type _} {A0 A1 A2 A3 : X0 → Prop} {G : Prop} (h : ∃ x0, A0 x0 ∧ A1 x0 ∧ A2 x0 ∧ A3 x0) (k : ∀ x0, A0 x0 → A1 x0 → A2 x0 → A3 x0 → G) : G := h.elim fun x0 h => k x0 h.1 h.2.1 h.2.2.1 h.2.2.2
theorem k21 {X0 : Type _} {X1 : Type _} {A0 : X0 → X1 → Prop} {G : Prop} (h : ∃ x0, ∃ x1, A0 x0 x1) (k : ∀ x0 x1, A0 x0 x1 → G) : G := h.elim fun x0 h => h.elim fun x1 h => k x0 x1 h
theorem k22 {X0 : Type _} {X1 : Type _} {A0 A1 : X0 → X1 → Prop} {G : Prop} (h : ∃ x0, ∃ x1, A0 x0 x1 ∧ A1 x0 x1) (k : ∀ x0 x1, A0 x0 x1 → A1 x0 x1 → G) : G := h.elim fun x0 h => h.elim fun x1 h => k x0 x1 h.1 h.2
theorem k23 {X0 : Type _} {X1 : Type _} {A0 A1 A2 : X0 → X1 → Prop} {G : Prop} (h : ∃ x0, ∃ x1, A0 x0 x1 ∧ A1 x0 x1 ∧ A2 x0 x1) (k : ∀ x0 x1, A0 x0 x1 → A1 x0 x1 → A2 x0 x1 → G) : G := h.elim fun x0 h => h.elim fun x1 h => k x0 x1 h.1 h.2.1 h.2.2
theorem k24 {X0 : Type _} {X1 : Type _} {A0 A1 A2 A3 : X0 → X1 → Prop} {G : Prop} (h : ∃ x0, ∃ x1, A0 x0 x1 ∧ A1 x0 x1 ∧ A2 x0 x1 ∧ A3 x0 x1) (k : ∀ x0 x1, A0 x0 x1 → A1 x0 x1 → A2 x0 x1 → A3 x0 x1 → G) : G := h.elim fun x0 h => h.elim fun x1 h => k x0 x1 h.1 h.2.1 h.2.2.1 h.2.2.2
theorem k25 {X0 X1 : Type _} {A0 A1 A2 A3 A4 : X0 → X1 → Prop} {G : Prop} (h : ∃ x0, ∃ x1, A0 x0 x1 ∧ A1 x0 x1 ∧ A2 x0 x1 ∧ A3 x0 x1 ∧ A4 x0 x1) (k : ∀ x0 x1, A0 x0 x1 → A1 x0 x1 → A2 x0 x1 → A3 x0 x1 → A4 x0 x1 → G) : G := h.elim fun x0 h => h.elim fun x1 h => k x0 x1 h.1 h.2.1 h.2.2.1 h.2.2.2.1 h.2.2.2.2
theorem k31 {X0 : Type _} {X1 : Type _} {X2 : Type _} {A0 : X0 → X1 → X2 → Prop} {G : Prop} (h : ∃ x0, ∃ x1, ∃ x2, A0 x0 x1 x2) (k : ∀ x0 x1 x2, A0 x0 x1 x2 → G) : G := h.elim fun x0 h => h.elim fun x1 h => h.elim fun x2 h => k x0 x1 x2 h
theorem k32 {X0 : Type _} {X1 : Type _} {X2 : Type _} {A0 A1 : X0 → X1 → X2 → Prop} {G : Prop} (h : ∃ x0, ∃ x1, ∃ x2, A0 x0 x1 x2 ∧ A1 x0 x1 x2) (k : ∀ x0 x1 x2, A0 x0 x1 x2 → A1 x0 x1 x2 → G) : G := h.elim fun x0 h => h.elim fun x1 h => h.elim fun x2 h => k x0 x1 x2 h.1 h.2
theorem k33 {X0 : Type _} {X1 : Type _} {X2 : Type _} {A0 A1 A2 : X0 → X1 → X2 → Prop} {G : Prop} (h : ∃ x0, ∃ x1, ∃ x2, A0 x0 x1 x2 ∧ A1 x0 x1 x2 ∧ A2 x0 x1 x2) (k : ∀ x0 x1 x2, A0 x0 x1 x2 → A1 x0 x1 x2 → A2 x0 x1 x2 → G) : G := h.elim fun x0 h => h.elim fun x1 h => h.elim fun x2 h => k x0 x1 x2 h.1 h.2.1 h.2.2
theorem k34 {X0 : Type _} {X1 : Type _} {X2 : Type _} {A0 A1 A2 A3 : X0 → X1 → X2 → Prop} {G : Prop} (h : ∃ x0, ∃ x1, ∃ x2, A0 x0 x1 x2 ∧ A1 x0 x1 x2 ∧ A2 x0 x1 x2 ∧ A3 x0 x1 x2) (k : ∀ x0 x1 x2, A0 x0 x1 x2 → A1 x0 x1 x2 → A2 x0 x1 x2 → A3 x0 x1 x2 → G) : G := h.elim fun x0 h => h.elim fun x1 h => h.elim fun x2 h => k x0 x1 x2 h.1 h.2.1 h.2.2.1 h.2.2.2
theorem k35 {X0 : Type _} {X1 : Type _} {X2 : Type _} {A0 A1 A2 A3 A4 : X0 → X1 → X2 → Prop} {G : Prop} (h : ∃ x0, ∃ x1, ∃ x2, A0 x0 x1 x2 ∧ A1 x0 x1 x2 ∧ A2 x0 x1 x2 ∧ A3 x0 x1 x2 ∧ A4 x0 x1 x2) (k : ∀ x0 x1 x2, A0 x0 x1 x2 → A1 x0 x1 x2 → A2 x0 x1 x2 → A3 x0 x1 x2 → A4 x0 x1 x2 → G) : G := h.elim fun x0 h => h.elim fun x1 h => h.elim fun x2 h => k x0 x1 x2 h.1 h.2.1 h.2.2.1 h.2.2.2.1 h.2.2.2.2
theorem k42 {X0 : Type _} {X1 : Type _} {X2 : Type _} {X3 : Type _} {A0 A1 : X0 → X1 → X2 → X3 → Prop} {G : Prop} (h : ∃ x0, ∃ x1, ∃ x2, ∃ x3, A0 x0 x1 x2 x3 ∧ A1 x0 x1 x2 x3) (k : ∀ x0 x1 x2 x3, A0 x0 x1 x2 x3 → A1 x0 x1 x2 x3 → G) : G := h.elim fun x0 h => h.elim fun x1 h => h.elim fun x2 h => h.elim fun x3 h => k x0 x1 x2 x3 h.1 h.2
theorem k43 {X0 : Type _} {X1 : Type _} {X2 : Type _} {X3 : Type _} {A0 A1 A2 : X0 → X1 → X2 → X3 → Prop} {G : Prop} (h : ∃ x0, ∃ x1, ∃ x2, ∃ x3, A0 x0 x1 x2 x3 ∧ A1 x0 x1 x2 x3 ∧ A2 x0 x1 x2 x3) (k : ∀ x0 x1 x2 x3, A0 x0 x1 x2 x3 → A1 x0 x1 x2 x3 → A2 x0 x1 x2 x3 → G) : G := h.elim fun x0 h => h.elim fun x1 h => h.elim fun x2 h => h.elim fun x3 h => k x0 x1 x2 x3 h.1 h.2.1 h.2.2
theorem k44 {X0 : Type _} {X1 : Type _} {X2 : Type _} {X3 : Type _} {A0 A1 A2 A3 : X0 → X1 → X2 → X3 → Prop} {G : Prop} (h : ∃ x0, ∃ x1, ∃ x2, ∃ x3, A0 x0 x1 x2 x3 ∧ A1 x0 x1 x2 x3 ∧ A2 x0 x1 x2 x3 ∧ A3 x0 x1 x2 x3) (k : ∀ x0 x1 x2 x3, A0 x0 x1 x2 x3 → A1 x0 x1 x2 x3 → A2 x0 x1 x2 x3 → A3 x0 x1 x2 x3 → G) : G := h.elim fun x0 h => h.elim fun x1 h => h.elim fun x2 h => h.elim fun x3 h => k x0 x1 x2 x3 h.1 h.2.1 h.2.2.1 h.2.2.2
theorem k51 {X0 : Type _} {X1 : Type _} {X2 : Type _} {X3 : Type _} {X4 : Type _} {A0 : X0 → X1 → X2 → X3 → X4 → Prop} {G : Prop} (h : ∃ x0, ∃ x1, ∃ x2, ∃ x3, ∃ x4, A0 x0 x1 x2 x3 x4) (k : ∀ x0 x1 x2 x3 x4, A0 x0 x1 x2 x3 x4 → G) : G := h.elim fun x0 h => h.elim fun x1 h => h.elim fun x2 h => h.elim fun x3 h => h.elim fun x4 h => k x0 x1 x2 x3 x4 h
theorem k54 {X0 : Type _} {X1 : Type _} {X2 : Type _} {X3 : Type _} {X4 : Type _} {A0 A1 A2 A3 : X0 → X1 → X2 → X3 → X4 → Prop} {G : Prop} (h : ∃ x0, ∃ x1, ∃ x2, ∃ x3, ∃ x4, A0 x0 x1 x2 x3 x4 ∧ A1 x0 x1 x2 x3 x4 ∧ A2 x0 x1 x2 x3 x4 ∧ A3 x0 x1 x2 x3 x4) (k : ∀ x0 x1 x2 x3 x4, A0 x0 x1 x2 x3 x4 → A1 x0 x1 x2 x3 x4 → A2 x0 x1 x2 x3 x4 → A3 x0 x1 x2 x3 x4 → G) : G := h.elim fun x0 h => h.elim fun x1 h => h.elim fun x2 h => h.elim fun x3 h => h.elim fun x4 h => k x0 x1 x2 x3 x4 h.1 h.2.1 h.2.2.1 h.2.2.2
end MI
namespace MI
theorem lt_of_get {α : Type _} {l : List α} {i : Nat} {x : α} (e : l[i]? = some x) : i < l.length := (List.getElem?_eq_some_iff.mp e).1
theorem ns {α : Type _} {x : α} {G : Prop} (h : Option.none = some x) : G := nomatch h
theorem sn {α : Type _} {x : α} {G : Prop} (h : some x = Option.none) : G := nomatch h
theorem ft {G : Prop} (h : false = true) : G := nomatch h
theorem tf {G : Prop} (h : true = false) : G := nomatch h
theorem sp {α β : Type _} {a c : α} {b d : β} {G : Prop} (h : some (a, b) = some (c, d)) (k : a = c → b = d → G) : G := k (congrArg Prod.fst (Option.some.inj h)) (congrArg Prod.snd (Option.some.inj h))
theorem si {α : Type _} {a c : α} {G : Prop} (h : some a = some c) (k : a = c → G) : G := k (Option.some.inj h)
end MI
end TKK
section TMI1
open PySem

namespace MI

abbrev Txt := List Nat

set_option genInjectivity false
set_option genSizeOf false
set_option genSizeOfSpec false
set_option genCtorIdx false in
inductive V where
  | none
  | bool (b : Bool)
  | int (i : Int)
  | str (s : Txt)
  | tup (vs : List V)
  | ref (i : Nat)
  | cst (c : Value)
  | flist (vs : List V)
  | rng (a b : Int)
  deriving Inhabited
noncomputable def V.ctorIdx (x : V) : Nat := V.casesOn x 0 (fun _ => 1) (fun _ => 2) (fun _ => 3) (fun _ => 4) (fun _ => 5) (fun _ => 6) (fun _ => 7) (fun _ _ => 8)

set_option genCtorIdx false in
inductive O where
  | list (vs : List V)
  | inst (C : Addr) (fs : List (Nat × V))
  deriving Inhabited
noncomputable def O.ctorIdx (x : O) : Nat := O.casesOn x (fun _ => 0) (fun _ _ => 1)

abbrev H := List O
abbrev Vars := List (Nat × Option V)

noncomputable def Vars.get (x : Nat) : Vars → Option V
  | [] => .none
  | (y, v) :: r => if y == x then v else Vars.get x r
noncomputable def Vars.set (x : Nat) (v : V) : Vars → Vars
  | [] => [(x, some v)]
  | (y, u) :: r => if y == x then (y, some v) :: r else (y, u) :: Vars.set x v r
noncomputable def look (x : Nat) : List (Nat × V) → Option V
  | [] => .none
  | (y, v) :: r => if y == x then some v else look x r
noncomputable def put (x : Nat) (v : V) : List (Nat × V) → List (Nat × V)
  | [] => [(x, v)]
  | (y, u) :: r => if y == x then (y, v) :: r else (y, u) :: put x v r

inductive Bop | add | sub | mul | fdiv | mod | bxor
  deriving DecidableEq
inductive Cop | eq | ne | lt | le | gt | ge | isIn | notIn | is_ | isNot
  deriving DecidableEq

set_option genCtorIdx false in
inductive T where
  | name (x : Nat)
  | tup (ts : List T)
noncomputable def T.ctorIdx (x : T) : Nat := T.casesOn x (fun _ => 0) (fun _ => 1)

set_option genCtorIdx false in
mutual
inductive E where
  | lit (v : V)
  | var (x : Nat)
  | bin (op : Bop) (a b : E)
  | neg (a : E)
  | not (a : E)
  | and (a b : E)
  | or (a b : E)
  | ite (t a b : E)
  | list (es : List E)
  | tup (es : List E)
  | dict (ks vs : List E)
  | cmp (op : Cop) (a b : E)
  | sub (a i : E)
  | slice (a : E) (l u s : Option E)
  | attr (a : E) (x : Nat)
  | call (f : E) (as : List E)
  | callM (o : E) (x : Nat) (as : List E) (ks : List (Nat × E))
  | listZip (es : List E)
  | comp (elt : E) (gens : List Gen) (own : List Nat)
inductive Gen where
  | mk (t : T) (it : It) (ifs : List E)
inductive It where
  | plain (e : E)
  | enum (e : E)
  | zip (es : List E)
  | items (e : E)
end
noncomputable def E.ctorIdx (x : E) : Nat := E.casesOn x (fun _ => 0) (fun _ => 1) (fun _ _ _ => 2) (fun _ => 3) (fun _ => 4) (fun _ _ => 5) (fun _ _ => 6) (fun _ _ _ => 7) (fun _ => 8) (fun _ => 9) (fun _ _ => 10) (fun _ _ _ => 11) (fun _ _ => 12) (fun _ _ _ _ => 13) (fun _ _ => 14) (fun _ _ => 15) (fun _ _ _ _ => 16) (fun _ => 17) (fun _ _ _ => 18)
noncomputable def It.ctorIdx (x : It) : Nat := It.casesOn x (fun _ => 0) (fun _ => 1) (fun _ => 2) (fun _ => 3)

set_option genCtorIdx false in
inductive S where
  | names (xs : List Nat) (e : E)
  | unpack (ts : List T) (e : E)
  | setAttr (o : E) (x : Nat) (e : E)
  | setSub (o i e : E)
  | setAll (o e : E)
  | del (o i : E)
  | expr (e : E)
  | ite (t : E) (a b : List S)
  | whil (t : E) (b : List S)
  | for_ (t : T) (it : It) (b : List S)
  | ret (e : Option E)
  | brk
  | pass
  | bad
noncomputable def S.ctorIdx (x : S) : Nat := S.casesOn x (fun _ _ => 0) (fun _ _ => 1) (fun _ _ _ => 2) (fun _ _ _ => 3) (fun _ _ => 4) (fun _ _ => 5) (fun _ => 6) (fun _ _ _ => 7) (fun _ _ => 8) (fun _ _ _ => 9) (fun _ => 10) 11 12 13

structure Fn where
  params : List Nat
  dflts : List V
  kwonly : List Nat
  kwarg : Option Nat
  body : List S

structure Cls where
  meths : List (Nat × Addr)
  init : Addr
  flds : List Nat

structure G where
  fns : List (Addr × Fn)
  clss : List (Addr × Cls)
  dicts : List (Addr × List (Txt × V))
  pats : List Addr
  ids : List Txt
  delId : Nat
  setId : Nat

set_option genCtorIdx false in
inductive Fl where
  | next | brk | ret (v : V)
noncomputable def Fl.ctorIdx (x : Fl) : Nat := Fl.casesOn x 0 1 (fun _ => 2)

/-! operations -/
noncomputable def fit (i : Int) : Bool := decide (-4611686018427387904 < i) && decide (i < 4611686018427387904)
noncomputable def mkI (i : Int) : Option V := if fit i then some (.int i) else .none
noncomputable def szOk (n : Nat) : Bool := Nat.ble n 1000000

noncomputable def mkL (vs : List V) (σ : H) : Option (V × H) := if szOk vs.length then some (.ref σ.length, σ ++ [.list vs]) else .none
noncomputable def mkS (s : Txt) (σ : H) : Option (V × H) := if szOk s.length then some (.str s, σ) else .none
noncomputable def setL (σ : H) (i : Nat) (vs : List V) (v : V) : Option (V × H) := if szOk vs.length then some (v, σ.set i (.list vs)) else .none
/-- the items of a list of ours -/
noncomputable def lstOf (σ : H) : V → Option (List V)
  | .ref i => match σ[i]? with
    | some (.list xs) => some xs
    | _ => .none
  | _ => .none
noncomputable def binI (op : Bop) (a b : Int) (σ : H) : Option (V × H) := match op with
  | .add => (mkI (a + b)).map (·, σ)
  | .sub => (mkI (a - b)).map (·, σ)
  | .mul => if fit a then (mkI (a * b)).map (·, σ) else .none
  | .fdiv => if decide (0 < b) && decide (b < 1000000000) then (mkI (Int.fdiv a b)).map (·, σ) else .none
  | .mod => if decide (0 < b) then (mkI (Int.fmod a b)).map (·, σ) else .none
  | .bxor => match a with
    | .ofNat x => match b with
      | .ofNat y => (mkI (.ofNat (x + y - 2 * Nat.land x y))).map (·, σ)
      | _ => .none
    | _ => .none
noncomputable def addL (x y : V) (σ : H) : Option (V × H) := (lstOf σ x).bind fun xs => (lstOf σ y).bind fun ys => mkL (xs ++ ys) σ
noncomputable def mulL (x y : V) (σ : H) : Option (V × H) := match y with
  | .int n => (lstOf σ x).bind fun xs => if decide (n ≤ 1000) && (fit n && Nat.ble xs.length 1000) then mkL (List.replicate n.toNat xs).flatten σ else .none
  | _ => .none
noncomputable def binS (x y : V) (σ : H) : Option (V × H) := match x with
  | .str a => match y with
    | .str b => mkS (a ++ b) σ
    | _ => .none
  | _ => .none
noncomputable def binR (op : Bop) (x y : V) (σ : H) : Option (V × H) := match op with
  | .add => addL x y σ
  | .mul => mulL x y σ
  | _ => .none
noncomputable def binop (op : Bop) (x y : V) (σ : H) : Option (V × H) := match x with
  | .int a => match y with
    | .int b => binI op a b σ
    | _ => .none
  | .str _ => match op with
    | .add => binS x y σ
    | _ => .none
  | _ => binR op x y σ

noncomputable def truthy : V → Option Bool
  | .none => some false
  | .bool b => some b
  | .int i => some (!(i == 0))
  | _ => .none

noncomputable def txtEq : Txt → Txt → Bool
  | [], [] => true
  | a :: r, b :: q => Nat.beq a b && txtEq r q
  | _, _ => false
noncomputable def txtLt : Txt → Txt → Bool
  | [], [] => false
  | [], _ :: _ => true
  | _ :: _, [] => false
  | a :: r, b :: q => if Nat.beq a b then txtLt r q else Nat.blt a b

noncomputable def okS (s : Txt) : Bool := s.all fun c => Nat.blt c 1114112
noncomputable def mapO (f : V → Option V) : List V → Option (List V)
  | [] => some []
  | x :: r => match f x with
    | some y => match mapO f r with
      | some ys => some (y :: ys)
      | .none => .none
    | .none => .none
/-- the data alone: a list of ours becomes a written one -/
noncomputable def flat (σ : H) : Nat → V → Option V
  | 0, _ => .none
  | n + 1, v => match v with
    | .none => some .none
    | .bool b => some (.bool b)
    | .int i => some (.int i)
    | .str s => if okS s then some (.str s) else .none
    | .tup vs => match mapO (flat σ n) vs with
      | some ds => some (.tup ds)
      | .none => .none
    | .ref i => match σ[i]? with
      | some (.list vs) => match mapO (flat σ n) vs with
        | some ds => some (.flist ds)
        | .none => .none
      | _ => .none
    | _ => .none
mutual
noncomputable def eqD : V → V → Bool
  | .none, .none => true
  | .bool a, .bool b => a == b
  | .bool a, .int j => (if a then 1 else 0) == j
  | .int i, .bool b => i == (if b then 1 else 0)
  | .int a, .int b => a == b
  | .str a, .str b => txtEq a b
  | .tup xs, .tup ys => eqDs xs ys
  | .flist xs, .flist ys => eqDs xs ys
  | _, _ => false
noncomputable def eqDs : List V → List V → Bool
  | [], [] => true
  | x :: xs, y :: ys => eqD x y && eqDs xs ys
  | _, _ => false
end
/-- Python's == on the values that are met. -/
noncomputable def eqV (σ : H) (a b : V) : Option Bool := match flat σ 12 a with
  | some x => match flat σ 12 b with
    | some y => some (eqD x y)
    | .none => .none
  | .none => .none
noncomputable def memV (σ : H) (x : V) (ys : List V) : Option Bool := match flat σ 12 x with
  | some d => match mapO (flat σ 12) ys with
    | some es => some (es.any fun e => eqD e d)
    | .none => .none
  | .none => .none
noncomputable def stT (s : Txt) : Str := ⟨s.toArray⟩
noncomputable def tsT (s : Str) : Txt := s.cps.toList
noncomputable def tlook (k : Txt) : List (Txt × V) → Option V
  | [] => .none
  | (a, v) :: r => if txtEq a k then some v else tlook k r

/-- Python's < for the pairs that are sorted -/
noncomputable def ltV : V → V → Bool
  | .tup [.str a, .str b], .tup [.str c, .str d] => txtLt a c || (txtEq a c && txtLt b d)
  | _, _ => false
noncomputable def isStr : V → Bool
  | .str _ => true
  | _ => false
noncomputable def isSS2 (vs : List V) : Bool := match vs with
  | [] => false
  | a :: r => match r with
    | [] => false
    | b :: r => isStr a && (isStr b && r.isEmpty)
noncomputable def isSS : V → Bool
  | .tup vs => isSS2 vs
  | _ => false
noncomputable def sortOk (xs : List V) : Bool := Nat.blt xs.length 64 && xs.all isSS
/-- the decisions of the model's sort, taken -/
noncomputable def kasGo {α : Type} (n : Nat) (lt : Nat → Nat → Bool) : PySem.W.KasT α → Option α
  | .ret a => some a
  | .ask i j k => if Nat.blt i n && Nat.blt j n then kasGo n lt (k (lt i j)) else .none
noncomputable def ltAt (xs : List V) (i j : Nat) : Bool := ltV (xs.getD i .none) (xs.getD j .none)
noncomputable def sortL (xs : List V) (σ : H) : Option (V × H) := if Nat.blt xs.length 2 then mkL xs σ else match kasGo xs.length (ltAt xs) (PySem.W.kas_sort xs.length) with
  | some p => if Nat.ble p.size 64 then mkL (p.toList.map fun i => xs.getD i .none) σ else .none
  | .none => .none

noncomputable def cmpI (f : Int → Int → Bool) : V → V → Option Bool
  | .int a, .int b => some (f a b)
  | _, _ => .none
noncomputable def cmpop (Γ : G) (op : Cop) (x y : V) (σ : H) : Option Bool := match op with
  | .eq => eqV σ x y
  | .ne => (eqV σ x y).map (!·)
  | .lt => cmpI (fun a b => decide (a < b)) x y
  | .le => cmpI (fun a b => decide (a ≤ b)) x y
  | .gt => cmpI (fun a b => decide (b < a)) x y
  | .ge => cmpI (fun a b => decide (b ≤ a)) x y
  | .isIn => inV x y
  | .notIn => (inV x y).map (!·)
  | .is_ => isV x y
  | .isNot => (isV x y).map (!·)
where
  inV (x y : V) : Option Bool := match y with
    | .ref i => match σ[i]? with
      | some (.list xs) => memV σ x xs
      | _ => .none
    | .cst (.ref a) => match x with
      | .str s => match Γ.dicts.lookup a with
        | some kvs => some (tlook s kvs).isSome
        | .none => .none
      | _ => .none
    | _ => .none
  isN : V → Option Bool
    | .none => some true
    | .str _ => some false
    | .ref _ => some false
    | .int _ => some false
    | _ => .none
  isV (x y : V) : Option Bool := match y with
    | .none => isN x
    | .cst b => match b with
      | .type b => match x with
        | .cst a => match a with
          | .type a => some (a == b)
          | _ => .none
        | _ => .none
      | _ => .none
    | _ => .none

noncomputable def idx (n : Nat) (i : Int) : Option Nat := if fit i then seqIndex? i n else .none

noncomputable def itemAt (σ : H) (x : V) (k : Int) : Option V := match x with
  | .ref a => match σ[a]? with
    | some (.list xs) => (idx xs.length k).bind fun j => xs[j]?
    | _ => .none
  | .tup xs => (idx xs.length k).bind fun j => xs[j]?
  | .str xs => (idx xs.length k).bind fun j => (xs[j]?).map fun c => .str [c]
  | _ => .none
noncomputable def getSub (_ : G) (x i : V) (σ : H) : Option V := match i with
  | .int k => itemAt σ x k
  | _ => .none

noncomputable def part : V → Option (Option Int)
  | .none => some .none
  | .int i => some (some i)
  | _ => .none
noncomputable def cutAt (xs : List V) (lo hi st : Option Int) : List V :=
  let b := sliceBounds lo hi st xs.length
  (sliceRange b.1 b.2.1 b.2.2).filterMap fun (i : Nat) => xs[i]?
noncomputable def txtAt (xs : Txt) (lo hi st : Option Int) : Txt :=
  let l := Builtin.Str.strSliceIndices lo hi (st.getD 1) xs.length
  if (st.getD 1 == 1 && l.length == xs.length) = true then xs else l.filterMap fun (i : Nat) => xs[i]?
noncomputable def slice2 (x : V) (lo hi st : Option Int) (σ : H) : Option (V × H) := match x with
  | .str xs => if Nat.ble (txtAt xs lo hi st).length 1000000 then some (.str (txtAt xs lo hi st), σ) else .none
  | .flist xs => mkL (cutAt xs lo hi st) σ
  | .ref i => match σ[i]? with
    | some (.list xs) => mkL (cutAt xs lo hi st) σ
    | _ => .none
  | _ => .none
noncomputable def getSlice (x l u s : V) (σ : H) : Option (V × H) :=
  match part l with
  | .none => .none
  | some lo => match part u with
    | .none => .none
    | some hi => match part s with
      | .none => .none
      | some st => if st == some 0 then .none else slice2 x lo hi st σ

noncomputable def intsOf : List V → Option (List Int)
  | [] => some []
  | .int i :: r => (intsOf r).map (i :: ·)
  | _ => .none
noncomputable def strsOf : List V → Option (List Txt)
  | [] => some []
  | .str s :: r => (strsOf r).map (s :: ·)
  | _ => .none
noncomputable def maxI : Int → List Int → Int
  | m, [] => m
  | m, x :: r => maxI (if decide (m < x) then x else m) r
noncomputable def minI : Int → List Int → Int
  | m, [] => m
  | m, x :: r => minI (if decide (x < m) then x else m) r
noncomputable def sumI : Int → List Int → Option Int
  | a, [] => some a
  | a, x :: r => if fit x && fit (a + x) then sumI (a + x) r else .none
noncomputable def rangeL (a : Int) : Nat → List V
  | 0 => []
  | n + 1 => .int a :: rangeL (a + 1) n
noncomputable def rngItems (a b : Int) : List V := rangeL a (b - a).toNat
noncomputable def showI (i : Int) : Txt := tsT (Str.ofString (toString i))
noncomputable def readI (s : Txt) : Option Int := if Nat.ble s.length 640 then PySem.intText? (stT s) else .none
noncomputable def joinOk (sep : Txt) (l : List Txt) : Bool := Nat.ble ((l.map fun x => (stT x).length).sum + l.length * (stT sep).length) 1000000
noncomputable def lowC (c : Nat) : Nat := if Nat.ble 65 c && Nat.ble c 90 then c + 32 else c
noncomputable def upC (c : Nat) : Nat := if Nat.ble 97 c && Nat.ble c 122 then c - 32 else c
noncomputable def ascii (s : Txt) : Bool := s.all fun c => Nat.blt c 128
noncomputable def noCtl (s : Txt) : Bool := s.all fun c => Nat.ble 32 c && Nat.blt c 127

noncomputable def seqOf (v : V) (σ : H) : Option (List V) := match v with
  | .ref i => match σ[i]? with
    | some (.list xs) => some xs
    | _ => .none
  | .tup xs => some xs
  | .rng a b => some (rngItems a b)
  | _ => .none

noncomputable def bLen (v : V) (σ : H) : Option (V × H) := match v with
  | .str s => if szOk s.length then some (.int (s.length : Int), σ) else .none
  | .tup xs => some (.int (xs.length : Int), σ)
  | .ref i => match σ[i]? with
    | some (.list xs) => some (.int (xs.length : Int), σ)
    | _ => .none
  | _ => .none
noncomputable def bMax (xs : List V) (σ : H) : Option (V × H) := (intsOf xs).bind fun l => match l with
  | [] => .none
  | x :: r => some (.int (maxI x r), σ)
noncomputable def bMin (xs : List V) (σ : H) : Option (V × H) := (intsOf xs).bind fun l => match l with
  | [] => .none
  | x :: r => some (.int (minI x r), σ)
noncomputable def bSum (xs : List V) (σ : H) : Option (V × H) := (intsOf xs).bind fun l => (sumI 0 l).map fun r => (.int r, σ)
noncomputable def bSort (xs : List V) (σ : H) : Option (V × H) := if sortOk xs then sortL xs σ else .none
noncomputable def bOne (s : String) (v : V) (σ : H) : Option (V × H) := if s = "len" then bLen v σ else if s = "max" then (lstOf σ v).bind fun xs => bMax xs σ else if s = "min" then (lstOf σ v).bind fun xs => bMin xs σ
    else if s = "sum" then (lstOf σ v).bind fun xs => bSum xs σ else if s = "sorted" then (lstOf σ v).bind fun xs => bSort xs σ else .none
noncomputable def bTwo (s : String) (x y : V) (σ : H) : Option (V × H) := match x with
  | .int a => match y with
    | .int b => if s = "max" then some (.int (if decide (a < b) then b else a), σ) else .none
    | _ => .none
  | _ => .none
noncomputable def bFn (s : String) (as : List V) (σ : H) : Option (V × H) := match as with
  | [v] => bOne s v σ
  | [x, y] => bTwo s x y σ
  | _ => .none
noncomputable def tRange (b : Int) (σ : H) : Option (V × H) := if fit b then some (.rng 0 b, σ) else .none
noncomputable def tList (v : V) (σ : H) : Option (V × H) := match v with
  | .rng a b => if decide (b - a < 1000) && fit a && fit b then mkL (rngItems a b) σ else .none
  | _ => .none
noncomputable def tInt (v : V) (σ : H) : Option (V × H) := match v with
  | .str s => (readI s).map fun i => (.int i, σ)
  | _ => .none
noncomputable def tStr (v : V) (σ : H) : Option (V × H) := match v with
  | .int i => if fit i then some (.str (showI i), σ) else .none
  | _ => .none
noncomputable def tType (v : V) (σ : H) : Option (V × H) := match v with
  | .str _ => some (.cst (.type "str"), σ)
  | .ref i => match σ[i]? with
    | some (.list _) => some (.cst (.type "list"), σ)
    | _ => .none
  | _ => .none
noncomputable def tOne (s : String) (v : V) (σ : H) : Option (V × H) := if s = "range" then (match v with | .int b => tRange b σ | _ => .none) else if s = "list" then tList v σ else if s = "tuple" then (lstOf σ v).map fun xs => (.tup xs, σ)
    else if s = "int" then tInt v σ else if s = "str" then tStr v σ else if s = "type" then tType v σ else .none
noncomputable def tTwo (s : String) (x y : V) (σ : H) : Option (V × H) := match x with
  | .int a => match y with
    | .int b => if s = "range" then (if fit a && fit b then some (.rng a b, σ) else .none) else .none
    | _ => .none
  | _ => .none
noncomputable def tFn (s : String) (as : List V) (σ : H) : Option (V × H) := match as with
  | [v] => tOne s v σ
  | [x, y] => tTwo s x y σ
  | _ => .none
noncomputable def builtin (f : Value) (as : List V) (σ : H) : Option (V × H) := match f with
  | .builtin s => bFn s as σ
  | .type s => tFn s as σ
  | _ => .none

noncomputable def sJoin (s : Txt) (as : List V) (σ : H) : Option (V × H) := match as with
  | [v] => (lstOf σ v).bind fun xs => (strsOf xs).bind fun l => if joinOk s l then some (.str (tsT (PySem.Txt.join (stT s) (l.map stT))), σ) else .none
  | _ => .none
noncomputable def sMap (f : Nat → Nat) (s : Txt) (as : List V) (σ : H) : Option (V × H) := match as with
  | [] => if ascii s && szOk s.length then some (.str (s.map f), σ) else .none
  | _ => .none
noncomputable def strOf : V → Option Txt
  | .str p => some p
  | _ => .none
noncomputable def sFind (s : Txt) (as : List V) (σ : H) : Option (V × H) := match as with
  | [v] => (strOf v).map fun p => (.int (PySem.Txt.find (stT s) (stT p)), σ)
  | _ => .none
noncomputable def oneOf : Txt → Option Nat
  | [c] => some c
  | _ => .none
noncomputable def sSplit (s : Txt) (as : List V) (σ : H) : Option (V × H) := match as with
  | [v] => (strOf v).bind fun p => (oneOf p).bind fun c => if szOk s.length then mkL ((PySem.Txt.split (stT s) (stT [c])).map fun x => .str (tsT x)) σ else .none
  | _ => .none
noncomputable def strMeth (s : Txt) (m : Txt) (as : List V) (σ : H) : Option (V × H) :=
  if txtEq m [106, 111, 105, 110] then sJoin s as σ   -- join
  else if txtEq m [108, 111, 119, 101, 114] then sMap lowC s as σ   -- lower
  else if txtEq m [117, 112, 112, 101, 114] then sMap upC s as σ   -- upper
  else if txtEq m [102, 105, 110, 100] then sFind s as σ   -- find
  else if txtEq m [115, 112, 108, 105, 116] then sSplit s as σ   -- split
  else .none
noncomputable def lAppend (i : Nat) (xs : List V) (as : List V) (σ : H) : Option (V × H) := match as with
  | [v] => setL σ i (xs ++ [v]) .none
  | _ => .none
noncomputable def lPop (i : Nat) (xs : List V) (as : List V) (σ : H) : Option (V × H) := match as with
  | [] => xs.getLast?.bind fun v => setL σ i xs.dropLast v
  | _ => .none
noncomputable def listMeth (i : Nat) (xs : List V) (m : Txt) (as : List V) (σ : H) : Option (V × H) :=
  if txtEq m [97, 112, 112, 101, 110, 100] then lAppend i xs as σ   -- append
  else if txtEq m [112, 111, 112] then lPop i xs as σ   -- pop
  else .none

/-! iterators -/
set_option genCtorIdx false in
inductive Zc where
  | ls (i k : Nat)
  | vs (l : List V)
  deriving Inhabited
noncomputable def Zc.ctorIdx (x : Zc) : Nat := Zc.casesOn x (fun _ _ => 0) (fun _ => 1)
set_option genCtorIdx false in
inductive Itr where
  | one (z : Zc)
  | enum (i k : Nat)
  | zip (zs : List Zc)
  deriving Inhabited
noncomputable def Itr.ctorIdx (x : Itr) : Nat := Itr.casesOn x (fun _ => 0) (fun _ _ => 1) (fun _ => 2)

/-- none: stuck; some none: at its end -/
noncomputable def Zc.next (σ : H) : Zc → Option (Option (V × Zc))
  | .ls i k => match σ[i]? with
    | some (.list xs) => match xs[k]? with
      | some v => some (some (v, .ls i (k + 1)))
      | .none => some .none
    | _ => .none
  | .vs [] => some .none
  | .vs (v :: r) => some (some (v, .vs r))
noncomputable def zipNext (σ : H) : List Zc → Option (Option (List V × List Zc))
  | [] => some (some ([], []))
  | z :: r => match z.next σ with
    | some (some (v, z')) => match zipNext σ r with
      | some (some (vs, zs)) => some (some (v :: vs, z' :: zs))
      | some .none => some .none
      | .none => .none
    | some .none => some .none
    | .none => .none
noncomputable def Itr.next (σ : H) : Itr → Option (Option (V × Itr))
  | .one z => match z.next σ with
    | some (some (v, z')) => some (some (v, .one z'))
    | some .none => some .none
    | .none => .none
  | .enum i k => match σ[i]? with
    | some (.list xs) => match xs[k]? with
      | some v => some (some (.tup [.int (k : Int), v], .enum i (k + 1)))
      | .none => some .none
    | _ => .none
  | .zip zs => match zipNext σ zs with
    | some (some (vs, zs')) => some (some (.tup vs, .zip zs'))
    | some .none => some .none
    | .none => .none

noncomputable def zcOf (v : V) (σ : H) : Option Zc := match v with
  | .ref i => match σ[i]? with
    | some (.list _) => some (.ls i 0)
    | _ => .none
  | .tup vs => some (.vs vs)
  | .str s => if ascii s then some (.vs (s.map fun c => .str [c])) else .none
  | .rng a b => if decide (b - a < 1000) && fit a && fit b then some (.vs (rngItems a b)) else .none
  | _ => .none

mutual
noncomputable def bindT : T → V → H → Vars → Option Vars
  | .name x, v, _, vars => some (vars.set x v)
  | .tup ts, v, σ, vars => match v with
    | .tup vs => bindTs ts vs σ vars
    | _ => .none
noncomputable def bindTs : List T → List V → H → Vars → Option Vars
  | [], [], _, vars => some vars
  | t :: ts, v :: vs, σ, vars => match bindT t v σ vars with
    | some vars' => bindTs ts vs σ vars'
    | .none => .none
  | _, _, _, _ => .none
end

noncomputable def loopF (next : H → Itr → Option (Option (V × Itr))) (body : V → Vars → H → Option (Fl × Vars × H)) : Nat → Itr → Vars → H → Option (Fl × Vars × H)
  | 0, _, _, _ => .none
  | k + 1, it, vars, σ => match next σ it with
    | .none => .none
    | some .none => some (.next, vars, σ)
    | some (some (v, it')) => match body v vars σ with
      | some (fl, vars', σ') => match fl with
        | .next => loopF next body k it' vars' σ'
        | .brk => some (.next, vars', σ')
        | .ret v => some (.ret v, vars', σ')
      | .none => .none
noncomputable def loopW (test : Vars → H → Option (Bool × H)) (body : Vars → H → Option (Fl × Vars × H)) : Nat → Vars → H → Option (Fl × Vars × H)
  | 0, _, _ => .none
  | k + 1, vars, σ => match test vars σ with
    | some (x, σ') => match x with
      | false => some (.next, vars, σ')
      | true => match body vars σ' with
        | some (fl, vars', σ'') => match fl with
          | .next => loopW test body k vars' σ''
          | .brk => some (.next, vars', σ'')
          | .ret v => some (.ret v, vars', σ'')
        | .none => .none
    | .none => .none
/-- a comprehension's loop: the accumulator is handed on -/
noncomputable def loopC (next : H → Itr → Option (Option (V × Itr))) (body : V → Vars → List V → H → Option (Vars × List V × H)) : Nat → Itr → Vars → List V → H → Option (Vars × List V × H)
  | 0, _, _, _, _ => .none
  | k + 1, it, vars, acc, σ => match next σ it with
    | .none => .none
    | some .none => some (vars, acc, σ)
    | some (some (v, it')) => match body v vars acc σ with
      | some (vars', acc', σ') => loopC next body k it' vars' acc' σ'
      | .none => .none
noncomputable def loopFuel : Nat := 2000

abbrev Ev := E → Vars → H → Option (V × H)
abbrev Cf := Addr → List V → List (Nat × V) → H → Option (V × H)

noncomputable def evAll (ev : Ev) : List E → Vars → H → Option (List V × H)
  | [], _, σ => some ([], σ)
  | e :: r, vars, σ => match ev e vars σ with
    | some (v, σ') => match evAll ev r vars σ' with
      | some (vs, σ'') => some (v :: vs, σ'')
      | .none => .none
    | .none => .none
noncomputable def evOpt (ev : Ev) : Option E → Vars → H → Option (V × H)
  | .none, _, σ => some (.none, σ)
  | some e, vars, σ => ev e vars σ
noncomputable def evKw (ev : Ev) : List (Nat × E) → Vars → H → Option (List (Nat × V) × H)
  | [], _, σ => some ([], σ)
  | (x, e) :: r, vars, σ => match ev e vars σ with
    | some (v, σ') => match evKw ev r vars σ' with
      | some (vs, σ'') => some ((x, v) :: vs, σ'')
      | .none => .none
    | .none => .none
noncomputable def evB (ev : Ev) : E → Vars → H → Option (Bool × H)
  | .not a, vars, σ => match evB ev a vars σ with
    | some (b, σ') => some (!b, σ')
    | .none => .none
  | .and a b, vars, σ => match evB ev a vars σ with
    | some (x, σ') => match x with
      | true => evB ev b vars σ'
      | false => some (false, σ')
    | .none => .none
  | .or a b, vars, σ => match evB ev a vars σ with
    | some (x, σ') => match x with
      | true => some (true, σ')
      | false => evB ev b vars σ'
    | .none => .none
  | .ite t a b, vars, σ => match evB ev t vars σ with
    | some (x, σ') => match x with
      | true => evB ev a vars σ'
      | false => evB ev b vars σ'
    | .none => .none
  | e, vars, σ => match ev e vars σ with
    | some (v, σ') => (truthy v).map (·, σ')
    | .none => .none
noncomputable def evIfs (ev : Ev) : List E → Vars → H → Option (Bool × H)
  | [], _, σ => some (true, σ)
  | e :: r, vars, σ => match evB ev e vars σ with
    | some (x, σ') => match x with
      | true => evIfs ev r vars σ'
      | false => some (false, σ')
    | .none => .none
noncomputable def evIt (ev : Ev) : It → Vars → H → Option (Itr × H)
  | .plain e, vars, σ => match ev e vars σ with
    | some (v, σ') => (zcOf v σ').map fun z => (.one z, σ')
    | .none => .none
  | .enum e, vars, σ => match ev e vars σ with
    | some (.ref i, σ') => match σ'[i]? with
      | some (.list _) => some (.enum i 0, σ')
      | _ => .none
    | _ => .none
  | .zip _, _, _ => .none
  | .items e, vars, σ => match ev e vars σ with
    | _ => .none
noncomputable def okT : T → Itr → Bool
  | .name _, .one _ => true
  | .tup _, .one (.ls _ _) => true
  | .tup _, .one (.vs []) => true
  | .tup _, .enum _ _ => true
  | .tup _, .zip _ => true
  | _, _ => false
noncomputable def compGo (ev : Ev) (elt : E) (t : T) (ifs : List E) : Itr → Vars → List V → H → Option (Vars × List V × H) :=
  loopC (fun σ it => it.next σ) (fun v vars acc σ =>
      match bindT t v σ vars with
      | some vars => match evIfs ev ifs vars σ with
        | some (x, σ) => match x with
          | false => some (vars, acc, σ)
          | true => match ev elt vars σ with
            | some (v, σ) => if szOk acc.length then some (vars, acc ++ [v], σ) else .none
            | .none => .none
        | .none => .none
      | .none => .none) loopFuel

noncomputable def hasFld (Γ : G) (C : Addr) (x : Nat) : Bool := (Γ.clss.lookup C).any fun c => c.flds.contains x
noncomputable def notCst : Option V → Option V
  | some (.cst _) => .none
  | o => o
noncomputable def fields (Γ : G) (σ : H) (i : Nat) (x : Nat) : Option V := match σ[i]? with
  | some (.inst C fs) => if hasFld Γ C x then notCst (look x fs) else .none
  | _ => .none

set_option genCtorIdx false in
inductive Meth where
  | fn (f : Addr) (self : V)
  | lst (i : Nat) (m : Txt)
  | str (s m : Txt)
  | dget (a : Addr)
  | search (a : Addr)
noncomputable def Meth.ctorIdx (x : Meth) : Nat := Meth.casesOn x (fun _ _ => 0) (fun _ _ => 1) (fun _ _ => 2) (fun _ => 3) (fun _ => 4)
noncomputable def clsMeth (Γ : G) (C : Addr) (x : Nat) : Option Addr := match Γ.clss.lookup C with
  | some c => c.meths.lookup x
  | .none => .none
noncomputable def listMeths : List Txt := [[97, 112, 112, 101, 110, 100], [112, 111, 112]]
noncomputable def strMeths : List Txt := [[106, 111, 105, 110], [108, 111, 119, 101, 114], [117, 112, 112, 101, 114], [102, 105, 110, 100], [115, 112, 108, 105, 116]]
/-- the method, read off ahead of the arguments -/
noncomputable def methOf (Γ : G) (o : V) (x : Nat) (σ : H) : Option Meth := match o with
  | .ref i => match σ[i]? with
    | some (.inst C fs) => match look x fs with
      | some _ => .none
      | .none => (clsMeth Γ C x).map fun f => .fn f (.ref i)
    | some (.list _) => match Γ.ids[x]? with
      | some m => if listMeths.any (txtEq m) then some (.lst i m) else .none
      | .none => .none
    | .none => .none
  | .str s => match Γ.ids[x]? with
    | some m => if strMeths.any (txtEq m) then some (.str s m) else .none
    | .none => .none
  | .cst (.ref a) => match Γ.ids[x]? with
    | some m => if txtEq m [103, 101, 116] && (Γ.dicts.lookup a).isSome then some (.dget a)   -- get
      else if txtEq m [115, 101, 97, 114, 99, 104] && Γ.pats.contains a then some (.search a) else .none   -- search
    | .none => .none
  | _ => .none
noncomputable def dGet (Γ : G) (a : Addr) (as : List V) (σ : H) : Option (V × H) := match as with
  | [v, d] => (strOf v).bind fun k => (Γ.dicts.lookup a).map fun kvs => ((tlook k kvs).getD d, σ)
  | _ => .none
noncomputable def dSearch (as : List V) (σ : H) : Option (V × H) := match as with
  | [v] => (strOf v).bind fun s => if noCtl s then some (.none, σ) else .none
  | _ => .none
noncomputable def applyMeth (Γ : G) (cf : Cf) (m : Meth) (as : List V) (ks : List (Nat × V)) (σ : H) : Option (V × H) := match m with
  | .fn f self => cf f (self :: as) ks σ
  | .lst i m => if ks.isEmpty then (lstOf σ (.ref i)).bind fun xs => listMeth i xs m as σ else .none
  | .str s m => if ks.isEmpty then strMeth s m as σ else .none
  | .dget a => if ks.isEmpty then dGet Γ a as σ else .none
  | .search _ => if ks.isEmpty then dSearch as σ else .none

noncomputable def newI (a : Addr) (σ : H) (o : Option (V × H)) : Option (V × H) := match o with
  | some (v, σ') => match v with
    | .none => some (.ref σ.length, σ')
    | _ => .none
  | .none => .none
noncomputable def callR (Γ : G) (cf : Cf) (a : Addr) (as : List V) (σ : H) : Option (V × H) := match Γ.clss.lookup a with
  | some c => newI a σ (cf c.init (.ref σ.length :: as) [] (σ ++ [.inst a []]))
  | .none => cf a as [] σ
noncomputable def callV (Γ : G) (cf : Cf) (f : V) (as : List V) (σ : H) : Option (V × H) := match f with
  | .cst w => match w with
    | .ref a => callR Γ cf a as σ
    | _ => builtin w as σ
  | _ => .none

noncomputable def zip3 : Int → Nat → List V → List V → List V
  | _, 0, _, _ => []
  | a, n + 1, xs, ys => match xs with
    | [] => []
    | x :: xs => match ys with
      | [] => []
      | y :: ys => .tup [.int a, x, y] :: zip3 (a + 1) n xs ys
/-- list(zip(range(a, b), xs, ys)), where the range ends first -/
noncomputable def listZip3 (x y z : V) (σ : H) : Option (V × H) := match x with
  | .rng a b => (lstOf σ y).bind fun xs => (lstOf σ z).bind fun ys => if decide (b - a < 1000) && (fit a && (fit b && (Nat.ble (b - a).toNat xs.length && Nat.ble (b - a).toNat ys.length))) then mkL (zip3 a (b - a).toNat xs ys) σ else .none
  | _ => .none
noncomputable def listZip (vs : List V) (σ : H) : Option (V × H) := match vs with
  | x :: r => match r with
    | y :: r => match r with
      | z :: r => match r with
        | [] => listZip3 x y z σ
        | _ => .none
      | _ => .none
    | _ => .none
  | _ => .none
noncomputable def negV (x : V) (σ : H) : Option (V × H) := match x with
  | .int i => (mkI (-i)).map (·, σ)
  | _ => .none
noncomputable def ev (Γ : G) (cf : Cf) : Nat → Ev
  | 0, _, _, _ => .none
  | n + 1, e, vars, σ => match e with
    | .lit v => some (v, σ)
    | .var x => (vars.get x).map (·, σ)
    | .bin op a b => match ev Γ cf n a vars σ with
      | some (x, σ) => match ev Γ cf n b vars σ with
        | some (y, σ) => binop op x y σ
        | .none => .none
      | .none => .none
    | .neg a => match ev Γ cf n a vars σ with
      | some (x, σ) => negV x σ
      | .none => .none
    | .not _ => .none
    | .and _ _ => .none
    | .or _ _ => .none
    | .ite t a b => match evB (ev Γ cf n) t vars σ with
      | some (x, σ) => match x with
        | true => ev Γ cf n a vars σ
        | false => ev Γ cf n b vars σ
      | .none => .none
    | .list es => match evAll (ev Γ cf n) es vars σ with
      | some (vs, σ) => mkL vs σ
      | .none => .none
    | .tup es => match evAll (ev Γ cf n) es vars σ with
      | some (vs, σ) => if szOk vs.length then some (.tup vs, σ) else .none
      | .none => .none
    | .dict _ _ => .none
    | .cmp op a b => match ev Γ cf n a vars σ with
      | some (x, σ) => match ev Γ cf n b vars σ with
        | some (y, σ) => (cmpop Γ op x y σ).map fun b => (.bool b, σ)
        | .none => .none
      | .none => .none
    | .sub a i => match ev Γ cf n a vars σ with
      | some (x, σ) => match ev Γ cf n i vars σ with
        | some (y, σ) => (getSub Γ x y σ).map (·, σ)
        | .none => .none
      | .none => .none
    | .slice a l u s => match ev Γ cf n a vars σ with
      | some (x, σ) => match evOpt (ev Γ cf n) l vars σ with
        | some (lv, σ) => match evOpt (ev Γ cf n) u vars σ with
          | some (uv, σ) => match evOpt (ev Γ cf n) s vars σ with
            | some (sv, σ) => getSlice x lv uv sv σ
            | .none => .none
          | .none => .none
        | .none => .none
      | .none => .none
    | .attr a x => match ev Γ cf n a vars σ with
      | some (.ref i, σ) => (fields Γ σ i x).map (·, σ)
      | _ => .none
    | .call f as => match ev Γ cf n f vars σ with
      | some (fv, σ) => match evAll (ev Γ cf n) as vars σ with
        | some (vs, σ) => callV Γ cf fv vs σ
        | .none => .none
      | .none => .none
    | .callM o x as ks => match ev Γ cf n o vars σ with
      | some (ov, σ) => match methOf Γ ov x σ with
        | some m => match evAll (ev Γ cf n) as vars σ with
          | some (vs, σ) => match evKw (ev Γ cf n) ks vars σ with
            | some (kv, σ) => applyMeth Γ cf m vs kv σ
            | .none => .none
          | .none => .none
        | .none => .none
      | .none => .none
    | .listZip es => match evAll (ev Γ cf n) es vars σ with
      | some (vs, σ) => listZip vs σ
      | .none => .none
    | .comp elt gens own => match gens with
      | [.mk t it ifs] => match evIt (ev Γ cf n) it vars σ with
        | some (itr, σ) => if okT t itr then match compGo (ev Γ cf n) elt t ifs itr (own.map (·, .none) ++ vars) [] σ with
          | some (_, acc, σ) => mkL acc σ
          | .none => .none else .none
        | .none => .none
      | _ => .none
end MI
end TMI1
section TMI2
open PySem
namespace MI
set_option genInjectivity false
set_option genSizeOf false
set_option genSizeOfSpec false

/-- positional, defaults for the last, keyword-only by name, the rest as a dict -/
noncomputable def bindFn (Γ : G) (F : Fn) (as : List V) (ks : List (Nat × V)) : Option Vars :=
  let np := F.params.length
  let na := as.length
  if Nat.blt np na then .none else
  let miss := np - na
  if Nat.blt F.dflts.length miss then .none else
  let pos := F.params.zip (as ++ F.dflts.drop (F.dflts.length - miss))
  let base : Vars := pos.map fun p => (p.1, some p.2)
  match F.kwonly, F.kwarg with
  | [], .none => if ks.isEmpty then some base else .none
  | ko, .none => if ks.map (·.1) == ko then some (base ++ ks.map fun p => (p.1, some p.2)) else .none
  | _, _ => .none

noncomputable def setSubL (σ : H) (j : Nat) (iv v : V) (vars : Vars) : Option (Fl × Vars × H) := match iv with
  | .int k => if decide (0 ≤ k) then (lstOf σ (.ref j)).bind fun xs => (idx xs.length k).bind fun q => (setL σ j (xs.set q v) .none).map fun p => (.next, vars, p.2) else .none
  | _ => .none
mutual
noncomputable def ex (Γ : G) (cf : Cf) (fe : Nat) : Nat → S → Vars → H → Option (Fl × Vars × H)
  | 0, _, _, _ => .none
  | n + 1, s, vars, σ =>
    let e1 := ev Γ cf fe
    match s with
    | .names xs e => match e1 e vars σ with
      | some (v, σ) => some (.next, xs.foldl (fun vs x => vs.set x v) vars, σ)
      | .none => .none
    | .unpack ts e => match e1 e vars σ with
      | some (v, σ) => match bindT (.tup ts) v σ vars with
        | some vars => some (.next, vars, σ)
        | .none => .none
      | .none => .none
    | .setAttr o x e => match e1 e vars σ with
      | some (v, σ) => match e1 o vars σ with
        | some (.ref i, σ) => match σ[i]? with
          | some (.inst C fs) => if hasFld Γ C x && Nat.ble fs.length 100 then some (.next, vars, σ.set i (.inst C (put x v fs))) else .none
          | _ => .none
        | _ => .none
      | .none => .none
    | .setSub o i e => match e1 e vars σ with
      | some (v, σ) => match e1 o vars σ with
        | some (.ref j, σ) => match e1 i vars σ with
          | some (iv, σ) => setSubL σ j iv v vars
          | .none => .none
        | _ => .none
      | .none => .none
    | .setAll _ _ => .none
    | .del _ _ => .none
    | .expr e => match e1 e vars σ with
      | some (_, σ) => some (.next, vars, σ)
      | .none => .none
    | .ite t a b => match evB e1 t vars σ with
      | some (x, σ) => match x with
        | true => exs Γ cf fe n a vars σ
        | false => exs Γ cf fe n b vars σ
      | .none => .none
    | .whil t b => loopW (fun vars σ => evB e1 t vars σ) (fun vars σ => exs Γ cf fe n b vars σ) loopFuel vars σ
    | .for_ t it b => match evIt e1 it vars σ with
      | some (itr, σ) => if okT t itr then loopF (fun σ it => it.next σ) (fun v vars σ => match bindT t v σ vars with
          | some vars => exs Γ cf fe n b vars σ
          | .none => .none) loopFuel itr vars σ else .none
      | .none => .none
    | .ret .none => some (.ret .none, vars, σ)
    | .ret (some e) => match e1 e vars σ with
      | some (v, σ) => some (.ret v, vars, σ)
      | .none => .none
    | .brk => some (.brk, vars, σ)
    | .pass => some (.next, vars, σ)
    | .bad => .none
noncomputable def exs (Γ : G) (cf : Cf) (fe : Nat) : Nat → List S → Vars → H → Option (Fl × Vars × H)
  | 0, _, _, _ => .none
  | _ + 1, [], vars, σ => some (.next, vars, σ)
  | n + 1, s :: r, vars, σ => match ex Γ cf fe n s vars σ with
    | some (fl, vars, σ) => match fl with
      | .next => exs Γ cf fe n r vars σ
      | .brk => some (.brk, vars, σ)
      | .ret v => some (.ret v, vars, σ)
    | .none => .none
end

noncomputable def runBody (Γ : G) (cf : Cf) (fe fs : Nat) (F : Fn) (as : List V) (ks : List (Nat × V)) (σ : H) : Option (V × H) :=
  match bindFn Γ F as ks with
  | some vars => match exs Γ cf fe fs F.body vars σ with
    | some (fl, _, σ) => match fl with
      | .ret v => some (v, σ)
      | .next => some (.none, σ)
      | .brk => .none
    | .none => .none
  | .none => .none
/-! the translator -/
structure Tx where
  ids : List Str
  glob : Str → Option V
  clsAttr : Addr → Str → Option V
noncomputable def idxOf (x : Str) : List Str → Option Nat
  | [] => .none
  | y :: r => if y == x then some 0 else (idxOf x r).map Nat.succ
noncomputable def Tx.id (t : Tx) (x : Str) : Option Nat := idxOf x t.ids

noncomputable def trBop : Operator → Option Bop
  | .Add => some .add | .Sub => some .sub | .Mult => some .mul | .FloorDiv => some .fdiv | .Mod => some .mod | .BitXor => some .bxor | _ => none
noncomputable def trCop : CmpOp → Option Cop
  | .Eq => some .eq | .NotEq => some .ne | .Lt => some .lt | .LtE => some .le | .Gt => some .gt | .GtE => some .ge
  | .In => some .isIn | .NotIn => some .notIn | .Is => some .is_ | .IsNot => some .isNot

noncomputable def isVar (sc : Scope) (x : Str) : Option Bool := match sc.names.lookup x with
  | some .local | some .cell | some .free => some true
  | some .globalImplicit => some false
  | _ => none
/-- the names that are to be laid free at the start of a comprehension -/
noncomputable def ownNames (t : Tx) : List (Str × NameKind) → Option (List Nat)
  | [] => some []
  | y :: r => if (y.2 == .local || y.2 == .cell) && !(y.1 == (".0" : Str)) then (t.id y.1).bind fun i => (ownNames t r).map (i :: ·) else ownNames t r
/-! kinds of expressions, told by the constructor's place: one number costs less than a match of its own -/
noncomputable def isSlice (e : Expr) : Bool := Nat.beq e.ctorIdx 26
noncomputable def isAttr (e : Expr) : Bool := Nat.beq e.ctorIdx 20
noncomputable def vEq (w v : V) : Bool := match w with
  | .none => match v with
    | .none => true
    | _ => false
  | .int a => match v with
    | .int b => decide (a = b)
    | _ => false
  | .str a => match v with
    | .str b => decide (a = b)
    | _ => false
  | .cst a => match v with
    | .cst b => decide (a = b)
    | _ => false
  | _ => false
noncomputable def vIs (o : Option V) (v : V) : Bool := match o with
  | some w => vEq w v
  | .none => false
noncomputable def builtinIs (t : Tx) (sc : Scope) (x : Str) (v : Value) : Bool := decide (isVar sc x = some false) && vIs (t.glob x) (.cst v) && !(x == ("__debug__" : Str))
noncomputable def ownB (sc : Scope) (x : Str) : Bool := match sc.names.lookup x with
  | some .local | some .cell => true
  | _ => false
noncomputable def compOk (sc sc' : Scope) : Bool := sc'.names.all fun x => sc'.names.lookup x.1 == some x.2 && (x.2 != .free || (sc.names.lookup x.1 == some .cell || sc.names.lookup x.1 == some .free))
/-! one way to look at an expression, and one for a statement -/
noncomputable def exC {α : Type} (d : α) (bl : List Expr → BoolOp → Pos → α) (bn : Expr → Expr → Operator → Pos → α) (uy : Expr → UnaryOp → Pos → α) (ie : Expr → Expr → Expr → Pos → α) (lc : Expr → List Comprehension → Scope → Pos → α) (cm : Expr → List CmpOp → List Expr → Pos → α)
    (ca : Expr → List Expr → List Keyword → Pos → α) (cs : Const → Nat → Pos → α) (at' : Expr → Str → Pos → α) (sb : Expr → Expr → Pos → α) (nm : Str → Pos → α) (ls : List Expr → Pos → α) (tp : List Expr → Nat → Pos → α) (sl : Option Expr → Option Expr → Option Expr → Pos → α) (e : Expr) : α :=
  Expr.casesOn e (fun o es p => bl es o p) (fun _ _ _ => d) (fun a o b p => bn a b o p) (fun o a p => uy a o p) (fun _ _ _ _ => d) ie (fun _ _ _ => d) (fun _ _ _ => d) lc (fun _ _ _ _ => d) (fun _ _ _ _ _ => d) (fun _ _ _ _ => d) (fun _ _ => d) (fun _ _ => d) (fun _ _ => d) cm ca (fun _ _ _ _ => d) (fun _ _ => d) cs at' sb (fun _ _ => d) nm ls tp sl
noncomputable def stC {α : Type} (d : α) (re : Option Expr → Pos → α) (as : List Expr → Expr → Pos → α) (fo : Expr → Expr → List Stmt → List Stmt → Pos → α) (wh : Expr → List Stmt → List Stmt → Pos → α) (iff : Expr → List Stmt → List Stmt → Pos → α) (ex : Expr → Pos → α) (pa br : Pos → α) (s : Stmt) : α :=
  Stmt.casesOn s (fun _ _ _ _ _ _ _ _ _ _ => d) (fun _ _ _ _ _ _ _ _ _ _ => d) (fun _ _ _ _ _ _ _ _ _ _ _ => d) re (fun _ _ => d) as (fun _ _ _ _ _ _ _ => d) (fun _ _ _ _ => d) (fun _ _ _ _ _ => d) fo (fun _ _ _ _ _ => d) wh iff (fun _ _ _ => d) (fun _ _ _ => d) (fun _ _ _ => d) (fun _ _ _ => d) (fun _ _ _ _ _ => d) (fun _ _ _ _ _ => d) (fun _ _ _ => d) (fun _ _ => d) (fun _ _ _ _ => d) (fun _ _ => d) (fun _ _ => d) ex pa br (fun _ => d)
noncomputable def exN {α : Type} (d : α) (nm : Str → Pos → α) (tp : List Expr → Nat → Pos → α) (sl : Option Expr → Option Expr → Option Expr → Pos → α) (at' : Expr → Str → Pos → α) (ca : Expr → List Expr → List Keyword → Pos → α) (sb : Expr → Expr → Pos → α) : Expr → α :=
  exC d (fun _ _ _ => d) (fun _ _ _ _ => d) (fun _ _ _ => d) (fun _ _ _ _ => d) (fun _ _ _ _ => d) (fun _ _ _ _ => d) ca (fun _ _ _ => d) at' sb nm (fun _ _ => d) tp sl
noncomputable def asName {α : Type} (d : α) (nm : Str → Pos → α) : Expr → α := exN d nm (fun _ _ _ => d) (fun _ _ _ _ => d) (fun _ _ _ => d) (fun _ _ _ _ => d) (fun _ _ _ => d)
noncomputable def asCall {α : Type} (d : α) (ca : Expr → List Expr → List Keyword → Pos → α) : Expr → α := exN d (fun _ _ => d) (fun _ _ _ => d) (fun _ _ _ _ => d) (fun _ _ _ => d) ca (fun _ _ _ => d)
noncomputable def asTup {α : Type} (d : α) (tp : List Expr → Nat → Pos → α) : Expr → α := exN d (fun _ _ => d) tp (fun _ _ _ _ => d) (fun _ _ _ => d) (fun _ _ _ _ => d) (fun _ _ _ => d)
noncomputable def asSlice {α : Type} (d : α) (sl : Option Expr → Option Expr → Option Expr → Pos → α) : Expr → α := exN d (fun _ _ => d) (fun _ _ _ => d) sl (fun _ _ _ => d) (fun _ _ _ _ => d) (fun _ _ _ => d)
noncomputable def asAttr {α : Type} (d : α) (at' : Expr → Str → Pos → α) : Expr → α := exN d (fun _ _ => d) (fun _ _ _ => d) (fun _ _ _ _ => d) at' (fun _ _ _ _ => d) (fun _ _ _ => d)
noncomputable def isNameCall : Expr → Bool := asCall false fun f as ks _ => asName false (fun _ _ => as.isEmpty && ks.isEmpty) f
/-! annotated expressions: what is written, and what is run -/
set_option genCtorIdx false in
inductive AT where
  | name (x : Str) (i : Nat) (p : Pos)
  | tup (ts : List AT) (k : Nat) (p : Pos)
noncomputable def AT.ctorIdx (x : AT) : Nat := AT.casesOn x (fun _ _ _ => 0) (fun _ _ _ => 1)
set_option genCtorIdx false in
mutual
inductive AE where
  | cst (k : Const) (v : V) (n : Nat) (p : Pos)
  | dbg (x : Str) (p : Pos)
  | glob (x : Str) (v : V) (p : Pos)
  | clsA (c : Str) (p : Pos) (x : Str) (q : Pos) (v : V)
  | var (x : Str) (i : Nat) (p : Pos)
  | bin (op : Operator) (o : Bop) (a b : AE) (p : Pos)
  | neg (a : AE) (p : Pos)
  | not (a : AE) (p : Pos)
  | and (a b : AE) (p : Pos)
  | or (a b : AE) (p : Pos)
  | ite (q a b : AE) (p : Pos)
  | list (es : List AE) (p : Pos)
  | tup (es : List AE) (k : Nat) (p : Pos)
  | cmp (op : CmpOp) (o : Cop) (a b : AE) (p : Pos)
  | slice (a : AE) (l u s : Option AE) (q p : Pos)
  | sub (a i : AE) (p : Pos)
  | attr (a : AE) (x : Str) (i : Nat) (p : Pos)
  | callM (o : AE) (x : Str) (i : Nat) (q : Pos) (as : List AE) (ks : List AK) (p : Pos)
  | call (f : AE) (as : List AE) (p : Pos)
  | listZip (f : Str) (fp : Pos) (z : Str) (zp : Pos) (zs : List AE) (q p : Pos)
  | comp (elt : AE) (tg : AT) (it : AI) (ifs : List AE) (sc : Scope) (own : List Nat) (p : Pos)
inductive AK where
  | mk (x : Str) (i : Nat) (e : AE) (p : Pos)
inductive AI where
  | plain (e : AE)
  | enum (z : Str) (zp : Pos) (e : AE) (q : Pos)
end
noncomputable def AE.ctorIdx (x : AE) : Nat := AE.casesOn x (fun _ _ _ _ => 0) (fun _ _ => 1) (fun _ _ _ => 2) (fun _ _ _ _ _ => 3) (fun _ _ _ => 4) (fun _ _ _ _ _ => 5) (fun _ _ => 6) (fun _ _ => 7) (fun _ _ _ => 8) (fun _ _ _ => 9) (fun _ _ _ _ => 10) (fun _ _ => 11) (fun _ _ _ => 12) (fun _ _ _ _ _ => 13) (fun _ _ _ _ _ _ => 14) (fun _ _ _ => 15) (fun _ _ _ _ => 16) (fun _ _ _ _ _ _ _ => 17) (fun _ _ _ => 18) (fun _ _ _ _ _ _ _ => 19) (fun _ _ _ _ _ _ _ => 20)
noncomputable def AI.ctorIdx (x : AI) : Nat := AI.casesOn x (fun _ => 0) (fun _ _ _ _ => 1)
mutual
noncomputable def AT.un : AT → Expr
  | .name x _ p => .Name x p
  | .tup ts k p => .Tuple (unTs ts) k p
noncomputable def unTs : List AT → List Expr
  | [] => []
  | t :: r => t.un :: unTs r
end
mutual
noncomputable def AT.er : AT → T
  | .name _ i _ => .name i
  | .tup ts _ _ => .tup (erTs ts)
noncomputable def erTs : List AT → List T
  | [] => []
  | t :: r => t.er :: erTs r
end
mutual
noncomputable def AT.ok (t : Tx) (sc : Scope) : AT → Bool
  | .name x i _ => ownB sc x && decide (t.id x = some i)
  | .tup ts _ _ => okTs t sc ts
noncomputable def okTs (t : Tx) (sc : Scope) : List AT → Bool
  | [] => true
  | a :: r => a.ok t sc && okTs t sc r
end
mutual
noncomputable def AE.un : AE → Expr
  | .cst k _ n p => .Constant k n p
  | .dbg x p => .Name x p
  | .glob x _ p => .Name x p
  | .clsA c p x q _ => .Attribute (.Name c p) x q
  | .var x _ p => .Name x p
  | .bin op _ a b p => .BinOp a.un op b.un p
  | .neg a p => .UnaryOp .USub a.un p
  | .not a p => .UnaryOp .Not a.un p
  | .and a b p => .BoolOp .And [a.un, b.un] p
  | .or a b p => .BoolOp .Or [a.un, b.un] p
  | .ite q a b p => .IfExp q.un a.un b.un p
  | .list es p => .List (unL es) p
  | .tup es k p => .Tuple (unL es) k p
  | .cmp op _ a b p => .Compare a.un [op] [b.un] p
  | .slice a l u s q p => .Subscript a.un (.Slice (unO l) (unO u) (unO s) q) p
  | .sub a i p => .Subscript a.un i.un p
  | .attr a x _ p => .Attribute a.un x p
  | .callM o x _ q as ks p => .Call (.Attribute o.un x q) (unL as) (unK ks) p
  | .call f as p => .Call f.un (unL as) [] p
  | .listZip f fp z zp zs q p => .Call (.Name f fp) [.Call (.Name z zp) (unL zs) [] q] [] p
  | .comp elt tg it ifs sc _ p => .ListComp elt.un [⟨tg.un, it.un, unL ifs, 0⟩] sc p
noncomputable def AK.un : AK → Keyword
  | .mk x _ e p => ⟨some x, e.un, p⟩
noncomputable def AI.un : AI → Expr
  | .plain e => e.un
  | .enum z zp e q => .Call (.Name z zp) [e.un] [] q
noncomputable def unL : List AE → List Expr
  | [] => []
  | a :: r => a.un :: unL r
noncomputable def unO : Option AE → Option Expr
  | .none => .none
  | some a => some a.un
noncomputable def unK : List AK → List Keyword
  | [] => []
  | k :: r => k.un :: unK r
end
mutual
noncomputable def AE.er : AE → E
  | .cst _ v _ _ => .lit v
  | .dbg _ _ => .lit (.bool true)
  | .glob _ v _ => .lit v
  | .clsA _ _ _ _ v => .lit v
  | .var _ i _ => .var i
  | .bin _ o a b _ => .bin o a.er b.er
  | .neg a _ => .neg a.er
  | .not a _ => .not a.er
  | .and a b _ => .and a.er b.er
  | .or a b _ => .or a.er b.er
  | .ite q a b _ => .ite q.er a.er b.er
  | .list es _ => .list (erL es)
  | .tup es _ _ => .tup (erL es)
  | .cmp _ o a b _ => .cmp o a.er b.er
  | .slice a l u s _ _ => .slice a.er (erO l) (erO u) (erO s)
  | .sub a i _ => .sub a.er i.er
  | .attr a _ i _ => .attr a.er i
  | .callM o _ i _ as ks _ => .callM o.er i (erL as) (erK ks)
  | .call f as _ => .call f.er (erL as)
  | .listZip _ _ _ _ zs _ _ => .listZip (erL zs)
  | .comp elt tg it ifs _ own _ => .comp elt.er [.mk tg.er it.er (erL ifs)] own
noncomputable def AK.er : AK → Nat × E
  | .mk _ i e _ => (i, e.er)
noncomputable def AI.er : AI → It
  | .plain e => .plain e.er
  | .enum _ _ e _ => .enum e.er
noncomputable def erL : List AE → List E
  | [] => []
  | a :: r => a.er :: erL r
noncomputable def erO : Option AE → Option E
  | .none => .none
  | some a => some a.er
noncomputable def erK : List AK → List (Nat × E)
  | [] => []
  | k :: r => k.er :: erK r
end
noncomputable def cstV : Const → Option V
  | .none => some .none
  | .bool b => some (.bool b)
  | .int i => some (.int i)
  | .str s => some (.str s.cps.toList)
  | _ => .none
noncomputable def cstOk (k : Const) (v : V) : Bool := match k with
  | .none => match v with
    | .none => true
    | _ => false
  | .bool b => match v with
    | .bool c => b == c
    | _ => false
  | .int i => match v with
    | .int j => decide (i = j)
    | _ => false
  | .str s => match v with
    | .str x => decide (s.cps.toList = x)
    | _ => false
  | _ => false
mutual
noncomputable def AE.ok (t : Tx) : Scope → AE → Bool
  | _, .cst k v _ _ => cstOk k v
  | _, .dbg x _ => x == ("__debug__" : Str)
  | sc, .glob x v _ => !(x == ("__debug__" : Str)) && (decide (isVar sc x = some false) && vIs (t.glob x) v)
  | sc, .clsA c _ x _ v => decide (isVar sc c = some false) && (!(c == ("__debug__" : Str)) && (match t.glob c with
    | some (.cst (.ref ad)) => vIs (t.clsAttr ad x) v
    | _ => false))
  | sc, .var x i _ => !(x == ("__debug__" : Str)) && (!(x == ("__classdict__" : Str)) && (decide (isVar sc x = some true) && decide (t.id x = some i)))
  | sc, .bin op o a b _ => decide (trBop op = some o) && (a.ok t sc && b.ok t sc)
  | sc, .neg a _ => a.ok t sc
  | sc, .not a _ => a.ok t sc
  | sc, .and a b _ => a.ok t sc && b.ok t sc
  | sc, .or a b _ => a.ok t sc && b.ok t sc
  | sc, .ite q a b _ => q.ok t sc && (a.ok t sc && b.ok t sc)
  | sc, .list es _ => okL t sc es
  | sc, .tup es _ _ => okL t sc es
  | sc, .cmp op o a b _ => decide (trCop op = some o) && (a.ok t sc && b.ok t sc)
  | sc, .slice a l u s _ _ => a.ok t sc && (okO t sc l && (okO t sc u && okO t sc s))
  | sc, .sub a i _ => !isSlice i.un && (a.ok t sc && i.ok t sc)
  | sc, .attr a x i _ => !isNameCall a.un && (a.ok t sc && decide (t.id x = some i))
  | sc, .callM o x i q as ks p => decide (q.endLine = p.line) && (!isNameCall o.un && (Nat.ble (as.length + ks.length) 20 && (o.ok t sc && (decide (t.id x = some i) && (okL t sc as && okK t sc ks)))))
  | sc, .call f as _ => !isAttr f.un && (f.ok t sc && okL t sc as)
  | sc, .listZip f _ z _ zs _ _ => builtinIs t sc f (.type "list") && (builtinIs t sc z (.type "zip") && okL t sc zs)
  | sc, .comp elt tg it ifs sc' own _ => decide (sc'.kind = .function) && (compOk sc sc' && (elt.ok t sc' && (tg.ok t sc' && (it.ok t sc && (okL t sc' ifs && decide (ownNames t sc'.names = some own))))))
noncomputable def AK.ok (t : Tx) : Scope → AK → Bool
  | sc, .mk x i e _ => decide (t.id x = some i) && e.ok t sc
noncomputable def AI.ok (t : Tx) : Scope → AI → Bool
  | sc, .plain e => e.ok t sc
  | sc, .enum z _ e _ => builtinIs t sc z (.type "enumerate") && e.ok t sc
noncomputable def okL (t : Tx) : Scope → List AE → Bool
  | _, [] => true
  | sc, a :: r => a.ok t sc && okL t sc r
noncomputable def okO (t : Tx) : Scope → Option AE → Bool
  | _, .none => true
  | sc, some a => a.ok t sc
noncomputable def okK (t : Tx) : Scope → List AK → Bool
  | _, [] => true
  | sc, k :: r => k.ok t sc && okK t sc r
end
/-! the annotations, found -/
noncomputable def mapT {α β : Type} (f : α → Option β) : List α → Option (List β)
  | [] => some []
  | x :: r => match f x with
    | some y => match mapT f r with
      | some ys => some (y :: ys)
      | none => none
    | none => none
noncomputable def one {α β : Type} (d : β) (f : α → β) : List α → β
  | [a] => f a
  | _ => d
noncomputable def toT (t : Tx) (n : Nat) : Expr → Option AT := Nat.rec (fun _ => none) (fun _ ih => exN none (fun x p => (t.id x).map fun i => .name x i p) (fun es k p => (mapT ih es).map fun ts => .tup ts k p) (fun _ _ _ _ => none) (fun _ _ _ => none) (fun _ _ _ _ => none) (fun _ _ _ => none)) n
noncomputable def toO {α β : Type} (f : α → Option β) (o : Option α) : Option (Option β) := Option.casesOn o (some none) fun x => (f x).map some
noncomputable def toEn {α : Type} (t : Tx) (sc : Scope) (f : Expr → Option AE) (it : Expr) (k : Option AI → α) : α :=
  k (asCall ((f it).map AI.plain) (fun g as _ q => asName ((f it).map AI.plain) (fun z zp => one ((f it).map AI.plain) (fun a => cond (builtinIs t sc z (.type "enumerate")) ((f a).map fun a' => AI.enum z zp a' q) ((f it).map AI.plain)) as) g) it)
noncomputable def toLz (t : Tx) (sc : Scope) (g : Expr → Option AE) (d : Option AE) (f : Expr) (as : List Expr) (p : Pos) : Option AE :=
  asName d (fun fn fp => one d (asCall d fun h zs _ q => asName d (fun z zp => cond (builtinIs t sc fn (.type "list") && builtinIs t sc z (.type "zip")) ((mapT g zs).map fun zs' => .listZip fn fp z zp zs' q p) d) h) as) f
noncomputable def toK (t : Tx) (g : Expr → Option AE) (k : Keyword) : Option AK := k.arg.bind fun a => (t.id a).bind fun i => (g k.value).map fun e' => AK.mk a i e' k.pos
noncomputable def refO (v : V) : Option Addr := match v with
  | .cst c => (match c with
    | .ref ad => some ad
    | _ => none)
  | _ => none
noncomputable def toCa (t : Tx) (x : Str) (o : Expr) (q : Pos) (sc : Scope) (d : Option AE) : Option AE :=
  asName d (fun c p => cond (isVar sc c == some false) ((t.glob c).bind fun v => (refO v).bind fun ad => (t.clsAttr ad x).map fun v => .clsA c p x q v) d) o
noncomputable def toA (t : Tx) (n : Nat) : Scope → Expr → Option AE := Nat.rec (fun _ _ => none) (fun _ ih sc =>
  exC none (fun es op p => (es.head?).bind fun a => (es.drop 1).head?.bind fun b => (ih sc a).bind fun a' => (ih sc b).map fun b' => BoolOp.casesOn op (.and a' b' p) (.or a' b' p))
    (fun a b op p => (trBop op).bind fun o => (ih sc a).bind fun a' => (ih sc b).map fun b' => .bin op o a' b' p)
    (fun a op p => (ih sc a).map fun a' => cond (op == .Not) (.not a' p) (.neg a' p))
    (fun q a b p => (ih sc q).bind fun q' => (ih sc a).bind fun a' => (ih sc b).map fun b' => .ite q' a' b' p)
    (fun elt gs sc' p => one none (fun g => (ih sc' elt).bind fun e' => (toT t 9 g.target).bind fun tg' => (mapT (ih sc') g.ifs).bind fun ifs' => (ownNames t sc'.names).bind fun own => toEn t sc (ih sc) g.iter fun o => o.map fun it' => .comp e' tg' it' ifs' sc' own p) gs)
    (fun a ops bs p => one none (fun op => one none (fun b => (trCop op).bind fun o => (ih sc a).bind fun a' => (ih sc b).map fun b' => .cmp op o a' b' p) bs) ops)
    (fun f as ks p => asAttr (toLz t sc (ih sc) ((ih sc f).bind fun f' => (mapT (ih sc) as).map fun as' => .call f' as' p) f as p) (fun o x q => (ih sc o).bind fun o' => (t.id x).bind fun i => (mapT (ih sc) as).bind fun as' => (mapT (toK t (ih sc)) ks).map fun ks' => .callM o' x i q as' ks' p) f)
    (fun k m p => (cstV k).map fun v => .cst k v m p)
    (fun a x q => toCa t x a q sc ((ih sc a).bind fun a' => (t.id x).map fun i => .attr a' x i q))
    (fun a i p => (ih sc a).bind fun a' => asSlice ((ih sc i).map fun i' => .sub a' i' p) (fun l u s q => (toO (ih sc) l).bind fun l' => (toO (ih sc) u).bind fun u' => (toO (ih sc) s).map fun s' => .slice a' l' u' s' q p) i)
    (fun x p => cond (x == ("__debug__" : Str)) (some (.dbg x p)) ((isVar sc x).bind fun b => cond b ((t.id x).map fun i => .var x i p) ((t.glob x).map fun v => .glob x v p)))
    (fun es p => (mapT (ih sc) es).map fun es' => .list es' p)
    (fun es k p => (mapT (ih sc) es).map fun es' => .tup es' k p)
    (fun _ _ _ _ => none)) n

noncomputable def T.id? : T → Option Nat
  | .name i => some i
  | .tup _ => none
noncomputable def isComp (e : Expr) : Bool := Nat.beq e.ctorIdx 8
/-- no tuple of constant expressions that are not plain constants -/
noncomputable def swapOk : Expr → Bool := asTup true fun vs _ _ => !(vs.all (constantsAlone 8)) || vs.all (foldedForSure 8)
set_option genCtorIdx false in
inductive AN where
  | mk (x : Str) (i : Nat) (p : Pos)
set_option genCtorIdx false in
inductive AS where
  | names (xs : List AN) (e : AE) (p : Pos)
  | unpack (ts : List AT) (k : Nat) (q : Pos) (e : AE) (p : Pos)
  | setAttr (o : AE) (x : Str) (i : Nat) (q : Pos) (e : AE) (p : Pos)
  | setSub (o i : AE) (q : Pos) (e : AE) (p : Pos)
  | expr (e : AE) (p : Pos)
  | ite (q : AE) (a b : List AS) (p : Pos)
  | whil (q : AE) (b : List AS) (p : Pos)
  | for_ (tg : AT) (it : AI) (b : List AS) (p : Pos)
  | ret (e : Option AE) (p : Pos)
  | brk (p : Pos)
  | pass (p : Pos)
  | bad (s : Stmt)
noncomputable def AS.ctorIdx (x : AS) : Nat := AS.casesOn x (fun _ _ _ => 0) (fun _ _ _ _ _ => 1) (fun _ _ _ _ _ _ => 2) (fun _ _ _ _ _ => 3) (fun _ _ => 4) (fun _ _ _ _ => 5) (fun _ _ _ => 6) (fun _ _ _ _ => 7) (fun _ _ => 8) (fun _ => 9) (fun _ => 10) (fun _ => 11)
noncomputable def AN.un : AN → Expr
  | .mk x _ p => .Name x p
noncomputable def AN.er : AN → Nat
  | .mk _ i _ => i
noncomputable def AN.ok (t : Tx) (sc : Scope) : AN → Bool
  | .mk x i _ => ownB sc x && decide (t.id x = some i)
mutual
noncomputable def AS.un : AS → Stmt
  | .names xs e p => .Assign (xs.map AN.un) e.un p
  | .unpack ts k q e p => .Assign [.Tuple (unTs ts) k q] e.un p
  | .setAttr o x _ q e p => .Assign [.Attribute o.un x q] e.un p
  | .setSub o i q e p => .Assign [.Subscript o.un i.un q] e.un p
  | .expr e p => .Expr e.un p
  | .ite q a b p => .If q.un (unSs a) (unSs b) p
  | .whil q b p => .While q.un (unSs b) [] p
  | .for_ tg it b p => .For tg.un it.un (unSs b) [] p
  | .ret e p => .Return (unO e) p
  | .brk p => .Break p
  | .pass p => .Pass p
  | .bad s => s
noncomputable def unSs : List AS → List Stmt
  | [] => []
  | a :: r => a.un :: unSs r
end
mutual
noncomputable def AS.er : AS → S
  | .names xs e _ => .names (xs.map AN.er) e.er
  | .unpack ts _ _ e _ => .unpack (erTs ts) e.er
  | .setAttr o _ i _ e _ => .setAttr o.er i e.er
  | .setSub o i _ e _ => .setSub o.er i.er e.er
  | .expr e _ => .expr e.er
  | .ite q a b _ => .ite q.er (erSs a) (erSs b)
  | .whil q b _ => .whil q.er (erSs b)
  | .for_ tg it b _ => .for_ tg.er it.er (erSs b)
  | .ret e _ => .ret (erO e)
  | .brk _ => .brk
  | .pass _ => .pass
  | .bad _ => .bad
noncomputable def erSs : List AS → List S
  | [] => []
  | a :: r => a.er :: erSs r
end
mutual
noncomputable def AS.ok (t : Tx) (sc : Scope) : AS → Bool
  | .names xs e _ => !xs.isEmpty && (xs.all (AN.ok t sc) && e.ok t sc)
  | .unpack ts _ _ e _ => swapOk e.un && (decide ((erTs ts).filterMap T.id?).Nodup && (okTs t sc ts && e.ok t sc))
  | .setAttr o x i _ e _ => !isComp e.un && (o.ok t sc && (decide (t.id x = some i) && e.ok t sc))
  | .setSub o i _ e _ => !isSlice i.un && (o.ok t sc && (i.ok t sc && e.ok t sc))
  | .expr e _ => !isComp e.un && e.ok t sc
  | .ite q a b _ => q.ok t sc && (okSs t sc a && okSs t sc b)
  | .whil q b _ => q.ok t sc && okSs t sc b
  | .for_ tg it b _ => tg.ok t sc && (it.ok t sc && okSs t sc b)
  | .ret e _ => okO t sc e
  | .brk _ => true
  | .pass _ => true
  | .bad _ => true
noncomputable def okSs (t : Tx) (sc : Scope) : List AS → Bool
  | [] => true
  | a :: r => a.ok t sc && okSs t sc r
end
noncomputable def toN (t : Tx) : Expr → Option AN := asName none fun x p => (t.id x).map fun i => .mk x i p
noncomputable def toS (t : Tx) (sc : Scope) (n : Nat) : Stmt → Option AS := Nat.rec (fun _ => none) (fun _ ih s =>
  stC (some (.bad s)) (fun e p => (toO (toA t 60 sc) e).map fun e' => .ret e' p)
    (fun ts v p => (toA t 60 sc v).bind fun v' => ts.head?.bind fun a => exN (some (.bad s)) (fun _ _ => (mapT (toN t) ts).map fun xs => .names xs v' p) (fun ts k q => (mapT (toT t 9) ts).map fun ts' => .unpack ts' k q v' p) (fun _ _ _ _ => none) (fun o x q => (toA t 60 sc o).bind fun o' => (t.id x).map fun i => .setAttr o' x i q v' p) (fun _ _ _ _ => none) (fun o i q => cond (isSlice i) (some (.bad s)) ((toA t 60 sc o).bind fun o' => (toA t 60 sc i).map fun i' => .setSub o' i' q v' p)) a)
    (fun tg it b _ p => (toT t 9 tg).bind fun tg' => toEn t sc (toA t 60 sc) it fun o => o.bind fun it' => (mapT ih b).map fun b' => .for_ tg' it' b' p)
    (fun q b _ p => (toA t 60 sc q).bind fun q' => (mapT ih b).map fun b' => .whil q' b' p)
    (fun q a b p => (toA t 60 sc q).bind fun q' => (mapT ih a).bind fun a' => (mapT ih b).map fun b' => .ite q' a' b' p)
    (fun v p => (toA t 60 sc v).map fun v' => .expr v' p)
    (fun p => some (.pass p)) (fun p => some (.brk p)) s) n
noncomputable def toSs (t : Tx) (sc : Scope) (ss : List Stmt) : List AS := (mapT (toS t sc 60) ss).getD []
noncomputable def tabKv (l : List (Txt × Int × Tok × Tok)) : List (Txt × V) := l.map fun p => (p.1, .int p.2.1)
/-- calls of the text, some of them told ahead -/
noncomputable def callX (Γ : G) (over : Cf) (fe fs : Nat) : Nat → Cf
  | 0, f, as, ks, σ => over f as ks σ
  | n + 1, f, as, ks, σ => match over f as ks σ with
    | some r => some r
    | .none => match Γ.fns.lookup f with
      | some F => runBody Γ (callX Γ over fe fs n) fe fs F as ks σ
      | .none => .none
noncomputable def callN (Γ : G) (fe fs n : Nat) : Cf := callX Γ (fun _ _ _ _ => .none) fe fs n
end MI
end TMI2
section TMS1
open PySem PySem.Spec PySem.Calls PyProof.Rows PySem.W
set_option linter.unusedVariables false
namespace MI

structure Rh where
  ob : List (Addr × Addr)
  pv : List Addr
noncomputable def Rh.own (r : Rh) (b : Addr) : Prop := ∃ p ∈ r.ob, b = p.1 ∨ b = p.2
noncomputable def Rh.mut (r : Rh) (b : Addr) : Prop := r.own b ∨ b ∈ r.pv
noncomputable def lstO (items : List Value) (n : Nat) : Obj := { cls := .type "list", data := .seq items.toArray n }
noncomputable def tupO (items : List Value) (n : Nat) : Obj := { cls := .type "tuple", data := .seq items.toArray n }
noncomputable def dctO (es : List DictEntry) (n : Nat) : Obj := { cls := .type "dict", data := .dict es.toArray n }
noncomputable def rngO (a b : Int) (t u v : Tok) : Obj := { cls := .type "range", dict := none, data := .fields #[.int a t, .int b u, .int 1 v], slots := #[] }
noncomputable def stO (s : Txt) : Str := ⟨s.toArray⟩
mutual
inductive VR (P : Params) (r : Rh) (h : Heap) : V → Value → Prop
  | none : VR P r h .none .none
  | bool (b : Bool) : VR P r h (.bool b) (.bool b)
  | int (i : Int) (t : Tok) : VR P r h (.int i) (.int i t)
  | str (s : Txt) (t : Tok) : VR P r h (.str s) (.str (stO s) t)
  | ref (i : Nat) (p : Addr × Addr) : r.ob[i]? = some p → VR P r h (.ref i) (.ref p.1)
  | cst (c : Value) : VR P r h (.cst c) c
  | tup (vs : List V) (items : List Value) (n : Nat) (a : Addr) : h.get? a = some (tupO items n) → ¬ r.mut a → VRs P r h vs items → items.length ≤ 4000000 → VR P r h (.tup vs) (.ref a)
  | flist (vs : List V) (items : List Value) (a : Addr) : h.IsList a items.toArray → ¬ r.mut a → VRs P r h vs items → items.length ≤ 4000000 → VR P r h (.flist vs) (.ref a)
  | rng (a b : Int) (t u v : Tok) (x : Addr) : h.get? x = some (rngO a b t u v) → ¬ r.mut x → VR P r h (.rng a b) (.ref x)
inductive VRs (P : Params) (r : Rh) (h : Heap) : List V → List Value → Prop
  | nil : VRs P r h [] []
  | cons {v u vs us} : VR P r h v u → VRs P r h vs us → VRs P r h (v :: vs) (u :: us)
end

structure Step (r : Rh) (h : Heap) (r' : Rh) (h' : Heap) : Prop where
  ext : ∃ τ, r'.ob = r.ob ++ τ ∧ ∀ p ∈ τ, h.get? p.1 = none ∧ h.get? p.2 = none
  pv : r'.pv = r.pv
  keep : ∀ b o, h.get? b = some o → ¬ r.own b → h'.get? b = some o
  live : ∀ b o, h.get? b = some o → ∃ o', h'.get? b = some o'

theorem Step.refl (r : Rh) (h : Heap) : Step r h r h := ⟨⟨[], by simp, fun _ hp => nomatch hp⟩, rfl, fun _ _ e _ => e, fun _ o e => ⟨o, e⟩⟩
theorem Step.own_old {r r' : Rh} {h h' : Heap} (S : Step r h r' h') {b : Addr} {o : Obj} (e : h.get? b = some o) (hb : r'.own b) : r.own b := by
  refine k12 (S.ext) fun τ hτ hf => ?_
  refine k12 hb fun p hp hb => ?_
  rw [hτ] at hp
  rcases List.mem_append.mp hp with hp | hp
  · exact ⟨p, hp, hb⟩
  · refine k02 (hf p hp) fun h1 h2 => ?_
    rcases hb with rfl | rfl
    · rw [h1] at e; exact ns e
    · rw [h2] at e; exact ns e
theorem Step.own_new {r r' : Rh} {h h' : Heap} (S : Step r h r' h') {b : Addr} (hb : r.own b) : r'.own b := by
  refine k12 (S.ext) fun τ hτ hf => ?_
  refine k12 hb fun p hp hb => ?_
  exact ⟨p, by rw [hτ]; exact List.mem_append_left _ hp, hb⟩
theorem Step.mut_old {r r' : Rh} {h h' : Heap} (S : Step r h r' h') {b : Addr} {o : Obj} (e : h.get? b = some o) (hb : r'.mut b) : r.mut b := by
  rcases hb with hb | hb
  · exact .inl (S.own_old e hb)
  · exact .inr (S.pv ▸ hb)
theorem Step.trans {r r' r'' : Rh} {h h' h'' : Heap} (S : Step r h r' h') (S' : Step r' h' r'' h'') : Step r h r'' h'' := by
  refine ⟨?_, S'.pv.trans S.pv, fun b o e hb => S'.keep b o (S.keep b o e hb) fun hb' => hb (S.own_old e hb'), fun b o e => ?_⟩
  · refine k12 (S.ext) fun τ hτ hf => ?_
    refine k12 (S'.ext) fun τ' hτ' hf' => ?_
    refine ⟨τ ++ τ', by rw [hτ', hτ, List.append_assoc], fun p hp => ?_⟩
    rcases List.mem_append.mp hp with hp | hp
    · exact hf p hp
    · have no : ∀ a, h'.get? a = none → h.get? a = none := fun a ha => by
        cases q : h.get? a with
        | none => rfl
        | some o => obtain ⟨o', e'⟩ := S.live a o q; rw [ha] at e'; exact ns e'
      exact ⟨no _ (hf' p hp).1, no _ (hf' p hp).2⟩
  · refine k11 (S.live b o e) fun o' e' => ?_
    exact S'.live b o' e'
/-- nothing of ours changed: the heap only grew -/
theorem Step.grow {r : Rh} {h h' : Heap} (k : ∀ b o, h.get? b = some o → h'.get? b = some o) : Step r h r h' :=
  ⟨⟨[], by simp, fun _ hp => nomatch hp⟩, rfl, fun b o e _ => k b o e, fun b o e => ⟨o, k b o e⟩⟩
theorem Step.at_ob {r r' : Rh} {h h' : Heap} (S : Step r h r' h') {i : Nat} {p : Addr × Addr} (e : r.ob[i]? = some p) : r'.ob[i]? = some p := by
  refine k12 (S.ext) fun τ hτ _ => ?_
  have hl := lt_of_get e
  rw [hτ, List.getElem?_append_left hl]; exact e

theorem Rh.own_mut {r : Rh} {b : Addr} (h : r.own b) : r.mut b := .inl h

/-- what a value needs of a move: frozen objects stay, names of objects stay -/
structure Mv (r : Rh) (h : Heap) (r' : Rh) (h' : Heap) : Prop where
  ob : ∀ (i : Nat) (p : Addr × Addr), r.ob[i]? = some p → r'.ob[i]? = some p
  fz : ∀ a o, h.get? a = some o → ¬ r.mut a → h'.get? a = some o ∧ ¬ r'.mut a

theorem VRs.ind {P : Params} {r : Rh} {h : Heap} {M : List V → List Value → Prop} (n : M [] []) (c : ∀ {v u vs us}, VR P r h v u → VRs P r h vs us → M vs us → M (v :: vs) (u :: us)) {vs : List V} {us : List Value} (x : VRs P r h vs us) : M vs us :=
  VRs.rec (motive_1 := fun _ _ _ => True) (motive_2 := fun vs us _ => M vs us) trivial (fun _ => trivial) (fun _ _ => trivial) (fun _ _ => trivial) (fun _ _ _ => trivial) (fun _ => trivial) (fun _ _ _ _ _ _ _ _ _ => trivial) (fun _ _ _ _ _ _ _ _ => trivial) (fun _ _ _ _ _ _ _ _ => trivial) n (fun a b _ i => c a b i) x
/-- what a value is, read off its left side -/
noncomputable def VRi (P : Params) (r : Rh) (h : Heap) (v : V) (u : Value) : Prop := match v with
  | .none => u = .none
  | .bool b => u = .bool b
  | .int i => ∃ t, u = .int i t
  | .str s => ∃ t, u = .str (stO s) t
  | .ref i => ∃ p, u = .ref p.1 ∧ r.ob[i]? = some p
  | .cst c => u = c
  | .tup vs => ∃ items n a, u = .ref a ∧ h.get? a = some (tupO items n) ∧ ¬ r.mut a ∧ VRs P r h vs items ∧ items.length ≤ 4000000
  | .flist vs => ∃ items a, u = .ref a ∧ h.IsList a items.toArray ∧ ¬ r.mut a ∧ VRs P r h vs items ∧ items.length ≤ 4000000
  | .rng a b => ∃ t u' w y, u = .ref y ∧ h.get? y = some (rngO a b t u' w) ∧ ¬ r.mut y
theorem VR.inv {P : Params} {r : Rh} {h : Heap} {v : V} {u : Value} (x : VR P r h v u) : VRi P r h v u :=
  VR.rec (motive_1 := fun v u _ => VRi P r h v u) (motive_2 := fun _ _ _ => True) rfl (fun _ => rfl) (fun _ t => ⟨t, rfl⟩) (fun _ t => ⟨t, rfl⟩) (fun _ p e => ⟨p, rfl, e⟩) (fun _ => rfl)
    (fun _ items n a e f x l _ => ⟨items, n, a, rfl, e, f, x, l⟩) (fun _ items a e f x l _ => ⟨items, a, rfl, e, f, x, l⟩) (fun _ _ t u' w y e f => ⟨t, u', w, y, rfl, e, f⟩) trivial (fun _ _ _ _ => trivial) x
noncomputable def VRsi (P : Params) (r : Rh) (h : Heap) (vs : List V) (us : List Value) : Prop := match vs with
  | [] => us = []
  | v :: vs => ∃ u r', us = u :: r' ∧ VR P r h v u ∧ VRs P r h vs r'
theorem VRs.inv {P : Params} {r : Rh} {h : Heap} {vs : List V} {us : List Value} (x : VRs P r h vs us) : VRsi P r h vs us := x.ind (M := VRsi P r h) rfl fun a b _ => ⟨_, _, rfl, a, b⟩
theorem VR.mv {P : Params} {r r' : Rh} {h h' : Heap} (M : Mv r h r' h') {v : V} {u : Value} (x : VR P r h v u) : VR P r' h' v u :=
  VR.rec (motive_1 := fun v u _ => VR P r' h' v u) (motive_2 := fun vs us _ => VRs P r' h' vs us) .none .bool .int .str (fun i p e => .ref i p (M.ob i p e)) .cst
    (fun vs items n a e f _ l x => .tup vs items n a (M.fz a _ e f).1 (M.fz a _ e f).2 x l)
    (fun vs items a e f _ l x => .flist vs items a (e.elim fun o q => ⟨o, (M.fz a o q.1 f).1, q.2⟩) (e.elim fun o q => (M.fz a o q.1 f).2) x l)
    (fun a b t u v x e f => .rng a b t u v x (M.fz x _ e f).1 (M.fz x _ e f).2) .nil (fun _ _ a b => .cons a b) x
theorem VRs.mv {P : Params} {r r' : Rh} {h h' : Heap} (M : Mv r h r' h') {vs : List V} {us : List Value} (x : VRs P r h vs us) : VRs P r' h' vs us := x.ind .nil fun a _ i => .cons (a.mv M) i
theorem Step.mv {r r' : Rh} {h h' : Heap} (S : Step r h r' h') : Mv r h r' h' :=
  ⟨fun _ _ e => S.at_ob e, fun a o e f => ⟨S.keep a o e fun q => f (.inl q), fun q => f (S.mut_old e q)⟩⟩
theorem VR.step {P : Params} {r r' : Rh} {h h' : Heap} {v : V} {u : Value} (x : VR P r h v u) (S : Step r h r' h') : VR P r' h' v u := x.mv S.mv
theorem VRs.step {P : Params} {r r' : Rh} {h h' : Heap} {v : List V} {u : List Value} (x : VRs P r h v u) (S : Step r h r' h') : VRs P r' h' v u := x.mv S.mv

theorem VRs.length {P : Params} {r : Rh} {h : Heap} {vs : List V} {us : List Value} (x : VRs P r h vs us) : us.length = vs.length := x.ind (M := fun vs us => us.length = vs.length) rfl fun _ _ i => congrArg Nat.succ i
theorem VRs.append {P : Params} {r : Rh} {h : Heap} {vs : List V} {us : List Value} {vs' : List V} {us' : List Value} (x : VRs P r h vs us) (y : VRs P r h vs' us') : VRs P r h (vs ++ vs') (us ++ us') :=
  x.ind (M := fun vs us => VRs P r h (vs ++ vs') (us ++ us')) y fun a _ i => .cons a i
theorem VRs.get {P : Params} {r : Rh} {h : Heap} {vs : List V} {us : List Value} {i : Nat} {v : V} (x : VRs P r h vs us) (e : vs[i]? = some v) : ∃ u, us[i]? = some u ∧ VR P r h v u :=
  x.ind (M := fun vs us => ∀ i : Nat, vs[i]? = some v → ∃ u, us[i]? = some u ∧ VR P r h v u) (fun _ e => ns e) (fun a _ f i e => by
    cases i with
    | zero => cases e; exact ⟨_, rfl, a⟩
    | succ i => exact f i e) i e
theorem VRs.none {P : Params} {r : Rh} {h : Heap} {vs : List V} {us : List Value} {i : Nat} (x : VRs P r h vs us) (e : vs[i]? = .none) : us[i]? = .none := by
  rw [List.getElem?_eq_none_iff] at e ⊢
  rw [x.length]; exact e
theorem VRs.set {P : Params} {r : Rh} {h : Heap} {vs : List V} {us : List Value} {i : Nat} {v : V} {u : Value} (x : VRs P r h vs us) (y : VR P r h v u) : VRs P r h (vs.set i v) (us.set i u) :=
  x.ind (M := fun vs us => ∀ i : Nat, VRs P r h (vs.set i v) (us.set i u)) (fun _ => .nil) (fun a b f i => by
    cases i with
    | zero => exact .cons y b
    | succ i => exact .cons a (f i)) i
theorem VRs.take {P : Params} {r : Rh} {h : Heap} (n : Nat) {vs : List V} {us : List Value} (x : VRs P r h vs us) : VRs P r h (vs.take n) (us.take n) :=
  x.ind (M := fun vs us => ∀ n : Nat, VRs P r h (vs.take n) (us.take n)) (fun n => by rw [List.take_nil, List.take_nil]; exact .nil) (fun a _ f n => by
    cases n with
    | zero => exact .nil
    | succ n => exact .cons a (f n)) n
theorem VRs.drop {P : Params} {r : Rh} {h : Heap} (n : Nat) {vs : List V} {us : List Value} (x : VRs P r h vs us) : VRs P r h (vs.drop n) (us.drop n) :=
  x.ind (M := fun vs us => ∀ n : Nat, VRs P r h (vs.drop n) (us.drop n)) (fun n => by rw [List.drop_nil, List.drop_nil]; exact .nil) (fun a b f n => by
    cases n with
    | zero => exact .cons a b
    | succ n => exact f n) n
theorem VRs.reverse {P : Params} {r : Rh} {h : Heap} {vs : List V} {us : List Value} (x : VRs P r h vs us) : VRs P r h vs.reverse us.reverse :=
  x.ind (M := fun vs us => VRs P r h vs.reverse us.reverse) .nil fun a _ i => by rw [List.reverse_cons, List.reverse_cons]; exact i.append (.cons a .nil)

/-! the objects of ours -/
inductive OR (P : Params) (ids : List Str) (r : Rh) (h : Heap) : O → Addr × Addr → Prop
  | list (vs : List V) (items : List Value) (n : Nat) (a : Addr) : h.get? a = some (lstO items n) → VRs P r h vs items → items.length ≤ 4000000 → OR P ids r h (.list vs) (a, a)
  | inst (C : Addr) (fs : List (Nat × V)) (a d : Addr) (es : List DictEntry) (n : Nat) : a ≠ d → h.get? a = some (instObj C d) → h.get? d = some (dctO es n) → es.length ≤ fs.length → (es.any (·.refKey)) = false →
      (∀ i x v, ids[i]? = some x → look i fs = some v → ∃ u, getL x es = some (some u) ∧ VR P r h v u) → (∀ i x, ids[i]? = some x → look i fs = .none → getL x es = some .none) →
      OR P ids r h (.inst C fs) (a, d)

structure Rel (P : Params) (ids : List Str) (h₀ : Heap) (r : Rh) (σ : H) (h : Heap) : Prop where
  base : ∀ b o, h₀.get? b = some o → h.get? b = some o
  len : r.ob.length = σ.length
  obj : ∀ (i : Nat) o p, σ[i]? = some o → r.ob[i]? = some p → OR P ids r h o p
  fresh : ∀ b, r.mut b → h₀.get? b = .none
  apart : r.ob.Pairwise fun p q => p.1 ≠ q.1 ∧ p.1 ≠ q.2 ∧ p.2 ≠ q.1 ∧ p.2 ≠ q.2
  pvo : ∀ b ∈ r.pv, ¬ r.own b
  pvl : ∀ b ∈ r.pv, ∃ o, h.get? b = some o

theorem OR.mv {P : Params} {ids : List Str} {r r' : Rh} {h h' : Heap} (M : Mv r h r' h') {o : O} {p : Addr × Addr} (k : ∀ ob, h.get? p.1 = some ob → h'.get? p.1 = some ob) (k2 : ∀ ob, h.get? p.2 = some ob → h'.get? p.2 = some ob) (x : OR P ids r h o p) : OR P ids r' h' o p :=
  OR.rec (motive := fun o p _ => (∀ ob, h.get? p.1 = some ob → h'.get? p.1 = some ob) → (∀ ob, h.get? p.2 = some ob → h'.get? p.2 = some ob) → OR P ids r' h' o p)
    (fun vs items n a e x l k _ => .list vs items n a (k _ e) (x.mv M) l)
    (fun C fs a d es n ne e1 e2 le nr hv hn k k2 => .inst C fs a d es n ne (k _ e1) (k2 _ e2) le nr (fun i x v e e' => (hv i x v e e').elim fun u q => ⟨u, q.1, q.2.mv M⟩) hn) x k k2
noncomputable def ORi (P : Params) (ids : List Str) (r : Rh) (h : Heap) (o : O) (p : Addr × Addr) : Prop := match o with
  | .list vs => ∃ items n, p.2 = p.1 ∧ h.get? p.1 = some (lstO items n) ∧ VRs P r h vs items ∧ items.length ≤ 4000000
  | .inst C fs => ∃ es n, p.1 ≠ p.2 ∧ h.get? p.1 = some (instObj C p.2) ∧ h.get? p.2 = some (dctO es n) ∧ es.length ≤ fs.length ∧ (es.any (·.refKey)) = false ∧
      (∀ i x v, ids[i]? = some x → look i fs = some v → ∃ u, getL x es = some (some u) ∧ VR P r h v u) ∧ (∀ i x, ids[i]? = some x → look i fs = .none → getL x es = some .none)
theorem OR.inv {P : Params} {ids : List Str} {r : Rh} {h : Heap} {o : O} {p : Addr × Addr} (x : OR P ids r h o p) : ORi P ids r h o p :=
  OR.rec (motive := fun o p _ => ORi P ids r h o p) (fun _ items n _ e x l => ⟨items, n, rfl, e, x, l⟩) (fun _ _ _ _ es n h1 h2 h3 h4 h5 h6 h7 => ⟨es, n, h1, h2, h3, h4, h5, h6, h7⟩) x
theorem OR.live {P : Params} {ids : List Str} {r : Rh} {h : Heap} {o : O} {p : Addr × Addr} (x : OR P ids r h o p) : (∃ ob, h.get? p.1 = some ob) ∧ ∃ ob, h.get? p.2 = some ob :=
  OR.rec (motive := fun o p _ => (∃ ob, h.get? p.1 = some ob) ∧ ∃ ob, h.get? p.2 = some ob) (fun _ _ _ _ e _ _ => ⟨⟨_, e⟩, ⟨_, e⟩⟩) (fun _ _ _ _ _ _ _ e1 e2 _ _ _ _ => ⟨⟨_, e1⟩, ⟨_, e2⟩⟩) x

section
variable {P : Params} {ids : List Str} {h₀ : Heap} {r : Rh} {σ : H} {h h' : Heap}

theorem Rel.there (R : Rel P ids h₀ r σ h) {i : Nat} {o : O} (e : σ[i]? = some o) : ∃ p, r.ob[i]? = some p ∧ OR P ids r h o p := by
  have hl := lt_of_get e
  have hl' : i < r.ob.length := R.len ▸ hl
  exact ⟨r.ob[i], List.getElem?_eq_getElem hl', R.obj i o _ e (List.getElem?_eq_getElem hl')⟩
theorem Rel.ownLive (R : Rel P ids h₀ r σ h) {b : Addr} (hb : r.own b) : ∃ o, h.get? b = some o := by
  refine k12 hb fun p hp hb => ?_
  refine k11 (List.getElem?_of_mem hp) fun i hi => ?_
  have hl := lt_of_get hi
  have hl' : i < σ.length := R.len ▸ hl
  have := (R.obj i _ p (List.getElem?_eq_getElem hl') hi).live
  rcases hb with rfl | rfl
  · exact this.1
  · exact this.2
theorem Rel.mutLive (R : Rel P ids h₀ r σ h) {b : Addr} (hb : r.mut b) : ∃ o, h.get? b = some o := hb.elim R.ownLive (R.pvl b)
/-- the heap grew, nothing changed -/
theorem Rel.grow (R : Rel P ids h₀ r σ h) (k : ∀ b o, h.get? b = some o → h'.get? b = some o) : Rel P ids h₀ r σ h' where
  base := fun b o e => k b o (R.base b o e)
  len := R.len
  obj := fun i o p e e' => (R.obj i o p e e').mv ⟨fun _ _ e => e, fun a o e f => ⟨k a o e, f⟩⟩ (fun _ e => k _ _ e) fun _ e => k _ _ e
  fresh := R.fresh
  apart := R.apart
  pvo := R.pvo
  pvl := fun b hb => by obtain ⟨o, e⟩ := R.pvl b hb; exact ⟨o, k b o e⟩
/-- a new object of ours -/
theorem Rel.push (R : Rel P ids h₀ r σ h) {o : O} {p : Addr × Addr} (k : ∀ b ob, h.get? b = some ob → h'.get? b = some ob) (n1 : h.get? p.1 = .none) (n2 : h.get? p.2 = .none)
    (ho : OR P ids { r with ob := r.ob ++ [p] } h' o p) : Rel P ids h₀ { r with ob := r.ob ++ [p] } (σ ++ [o]) h' ∧ Step r h { r with ob := r.ob ++ [p] } h' := by
  have S : Step r h { r with ob := r.ob ++ [p] } h' := ⟨⟨[p], rfl, fun q hq => by rw [List.mem_singleton.mp hq]; exact ⟨n1, n2⟩⟩, rfl, fun b ob e _ => k b ob e, fun b ob e => ⟨ob, k b ob e⟩⟩
  refine ⟨⟨fun b ob e => k b ob (R.base b ob e), by simp [R.len], fun i o' q e e' => ?_, fun b hb => ?_, ?_, fun b hb hown => ?_, fun b hb => by obtain ⟨ob, e⟩ := R.pvl b hb; exact ⟨ob, k b ob e⟩⟩, S⟩
  · by_cases hi : i < σ.length
    · rw [List.getElem?_append_left hi] at e
      rw [List.getElem?_append_left (R.len ▸ hi)] at e'
      exact (R.obj i o' q e e').mv S.mv (fun _ e => k _ _ e) fun _ e => k _ _ e
    · have hl : i < σ.length + 1 := (List.length_append (as := σ) (bs := [o])) ▸ (List.getElem?_eq_some_iff.mp e).1
      cases Nat.le_antisymm (Nat.le_of_lt_succ hl) (Nat.le_of_not_lt hi)
      rw [List.getElem?_append_right (Nat.le_refl _), Nat.sub_self] at e
      rw [← R.len, List.getElem?_append_right (Nat.le_refl _), Nat.sub_self] at e'
      (refine si e fun q9 => ?_; subst q9; clear e); cases e'
      exact ho
  · cases q : h₀.get? b with
    | none => rfl
    | some ob =>
      have := S.mut_old (R.base b ob q) hb
      rw [R.fresh b this] at q; exact ns q
  · refine List.pairwise_append.mpr ⟨R.apart, List.pairwise_singleton _ _, fun q hq q' hq' => ?_⟩
    rw [List.mem_singleton.mp hq']
    refine k11 (R.ownLive ⟨q, hq, .inl rfl⟩) fun o1 e1 => ?_
    refine k11 (R.ownLive ⟨q, hq, .inr rfl⟩) fun o2 e2 => ?_
    have no : ∀ {a b : Addr} {ob}, h.get? b = .none → h.get? a = some ob → a ≠ b := fun n e z => ns (n.symm.trans (z ▸ e))
    exact ⟨no n1 e1, no n2 e1, no n1 e2, no n2 e2⟩
  · refine k12 hown fun q hq hb' => ?_; clear hown
    rcases List.mem_append.mp hq with hq | hq
    · exact R.pvo b hb ⟨q, hq, hb'⟩
    · rw [List.mem_singleton.mp hq] at hb'
      refine k11 (R.pvl b hb) fun ob e => ?_
      rcases hb' with rfl | rfl
      · rw [n1] at e; exact ns e
      · rw [n2] at e; exact ns e
/-- an object of ours changed -/
theorem Rel.upd (R : Rel P ids h₀ r σ h) {i : Nat} {o : O} {p : Addr × Addr} (hp : r.ob[i]? = some p) (k : ∀ b ob, h.get? b = some ob → b ≠ p.1 → b ≠ p.2 → h'.get? b = some ob)
    (lv : ∀ b ob, h.get? b = some ob → ∃ ob', h'.get? b = some ob') (ho : ∀ (M : Mv r h r h'), OR P ids r h' o p) : Rel P ids h₀ r (σ.set i o) h' ∧ Step r h r h' := by
  have hm : p ∈ r.ob := List.mem_of_getElem? hp
  have o1 : r.own p.1 := ⟨p, hm, .inl rfl⟩
  have o2 : r.own p.2 := ⟨p, hm, .inr rfl⟩
  have S : Step r h r h' := ⟨⟨[], by simp, fun _ hq => nomatch hq⟩, rfl, fun b ob e f => k b ob e (fun z => f (z ▸ o1)) fun z => f (z ▸ o2), lv⟩
  refine ⟨⟨fun b ob e => ?_, by simp [R.len], fun j o' q e e' => ?_, R.fresh, R.apart, R.pvo, fun b hb => ?_⟩, S⟩
  · have e' := R.base b ob e
    refine k b ob e' (fun z => ?_) fun z => ?_
    · have := R.fresh p.1 (.inl o1); rw [← z, e] at this; exact sn this
    · have := R.fresh p.2 (.inl o2); rw [← z, e] at this; exact sn this
  · by_cases hj : j = i
    · subst hj
      rw [hp] at e'; (refine si e' fun q21 => ?_; subst q21; clear e')
      rw [List.getElem?_set_self (by have hl := lt_of_get e; simpa using hl)] at e
      cases e
      exact ho S.mv
    · rw [List.getElem?_set_ne (Ne.symm hj)] at e
      have A := List.pairwise_iff_getElem.mp R.apart
      obtain ⟨li, ei⟩ := List.getElem?_eq_some_iff.mp hp
      obtain ⟨lj, ej⟩ := List.getElem?_eq_some_iff.mp e'
      have ne : q.1 ≠ p.1 ∧ q.1 ≠ p.2 ∧ q.2 ≠ p.1 ∧ q.2 ≠ p.2 := by
        rcases Nat.lt_or_gt_of_ne hj with lt | lt
        · have := A j i lj li lt
          rw [ei, ej] at this; exact this
        · have := A i j li lj lt
          rw [ei, ej] at this
          exact ⟨Ne.symm this.1, Ne.symm this.2.2.1, Ne.symm this.2.1, Ne.symm this.2.2.2⟩
      exact (R.obj j o' q e e').mv S.mv (fun ob e => k _ ob e ne.1 ne.2.1) fun ob e => k _ ob e ne.2.2.1 ne.2.2.2
  · refine k11 (R.pvl b hb) fun ob e => ?_
    exact ⟨ob, k b ob e (fun z => R.pvo b hb (z ▸ o1)) fun z => R.pvo b hb (z ▸ o2)⟩
end
end MI
end TMS1
section TMS2
open PySem PySem.Spec PySem.Calls PyProof.Rows PySem.W
set_option linter.unusedVariables false
namespace MI
theorem if_some {α : Type} {b : Bool} {x y : α} (e : (if b = true then some x else .none) = some y) : b = true ∧ y = x := by
  cases b with
  | true => (refine si e fun q1 => ?_; subst q1; clear e); exact ⟨rfl, rfl⟩
  | false => exact ns e
theorem if_i {α : Type} {b : Bool} {x : Option α} {y : α} (e : (if b = true then x else .none) = some y) : b = true ∧ x = some y := by
  cases b with
  | true => exact ⟨rfl, e⟩
  | false => exact ns e
theorem and_i {a b : Bool} (h : (a && b) = true) : a = true ∧ b = true := by
  cases a with
  | true => exact ⟨rfl, h⟩
  | false => exact ft h
theorem bb_i {β : Type} {f : Bool → H → Option β} {o : Option (Bool × H)} {y : β} (e : (match o with
    | some (v, σ') => f v σ'
    | .none => .none) = some y) : ∃ v σ', o = some (v, σ') ∧ f v σ' = some y := by
  cases o with
  | none => exact ns e
  | some x => exact ⟨x.1, x.2, rfl, e⟩
theorem vh_i {β : Type} {f : V → H → Option β} {o : Option (V × H)} {y : β} (e : (match o with
    | some (v, σ') => f v σ'
    | .none => .none) = some y) : ∃ v σ', o = some (v, σ') ∧ f v σ' = some y := by
  cases o with
  | none => exact ns e
  | some x => exact ⟨x.1, x.2, rfl, e⟩
theorem vs_i {β : Type} {f : List V → H → Option β} {o : Option (List V × H)} {y : β} (e : (match o with
    | some (v, σ') => f v σ'
    | .none => .none) = some y) : ∃ v σ', o = some (v, σ') ∧ f v σ' = some y := by
  cases o with
  | none => exact ns e
  | some x => exact ⟨x.1, x.2, rfl, e⟩
theorem kv_i {β : Type} {f : List (Nat × V) → H → Option β} {o : Option (List (Nat × V) × H)} {y : β} (e : (match o with
    | some (v, σ') => f v σ'
    | .none => .none) = some y) : ∃ v σ', o = some (v, σ') ∧ f v σ' = some y := by
  cases o with
  | none => exact ns e
  | some x => exact ⟨x.1, x.2, rfl, e⟩
theorem any_i {α : Type} {o : Option α} {f : α → Bool} (h : o.any f = true) : ∃ x, o = some x ∧ f x = true := by
  cases o with
  | none => exact ft h
  | some x => exact ⟨x, rfl, h⟩
theorem not_i {a : Bool} (h : (!a) = true) : a = false := by
  cases a with
  | true => exact ft h
  | false => rfl
theorem lstOf_i {σ : H} {v : V} {xs : List V} (e : lstOf σ v = some xs) : ∃ i, v = .ref i ∧ σ[i]? = some (.list xs) := by
  cases v with
  | ref i =>
    replace e : (match σ[i]? with
      | some (.list xs) => some xs
      | _ => .none) = some xs := e
    cases h : σ[i]? with
    | none => rw [h] at e; exact ns e
    | some o =>
      rw [h] at e
      cases o with
      | list ys => (refine si e fun q13 => ?_; subst q13; clear e); exact ⟨i, rfl, h⟩
      | inst _ _ => exact ns e
  | _ => exact ns e

structure Cx where
  prog : Program
  w : World
  K : Frag
  h₀ : Heap
  mg : Str → Option Value
  mb : Str → Option Value
  p : Program
  loose : List Str
  X : K.In h₀
  T : TopRead p loose mg mb h₀
  Γ : G
  t : Tx

noncomputable abbrev Cx.R (c : Cx) (r : Rh) (σ : H) (h : Heap) : Prop := Rel c.w.params c.t.ids c.h₀ r σ h
noncomputable abbrev Cx.V (c : Cx) (r : Rh) (h : Heap) (v : V) (u : Value) : Prop := VR c.w.params r h v u
noncomputable abbrev Cx.M (c : Cx) : Model := model c.prog c.w

/-- what is wanted of an expression's end -/
noncomputable def Out (c : Cx) (r : Rh) (s : Shared) (σ' : H) (v : V) (Q : Value → Shared → Prop) : Prop :=
  ∀ u r' h' tk, c.R r' σ' h' → Step r s.heap r' h' → c.V r' h' v u → Q u { s with heap := h', toks := tk }

theorem Out.same {c : Cx} {r : Rh} {s : Shared} {σ : H} {v : V} {Q : Value → Shared → Prop} (O : Out c r s σ v Q) (R : c.R r σ s.heap) {u : Value} (x : c.V r s.heap v u) (tk : Nat) : Q u { s with toks := tk } := O u r s.heap tk R (Step.refl _ _) x
theorem Out.here {c : Cx} {r : Rh} {s : Shared} {σ : H} {v : V} {Q : Value → Shared → Prop} (O : Out c r s σ v Q) (R : c.R r σ s.heap) {u : Value} (x : c.V r s.heap v u) : Q u s := O u r s.heap s.toks R (Step.refl _ _) x

theorem szOk_le {n : Nat} (h : szOk n = true) : n ≤ 1000000 := Nat.le_of_ble_eq_true h
theorem mkL_eq {vs : List V} {σ σ' : H} {v : V} (e : mkL vs σ = some (v, σ')) : vs.length ≤ 1000000 ∧ v = .ref σ.length ∧ σ' = σ ++ [.list vs] := by
  unfold mkL at e
  split at e
  · rename_i h; (refine sp e fun q19 q20 => ?_; subst q19; subst q20; clear e); exact ⟨szOk_le h, rfl, rfl⟩
  · exact ns e
theorem mkS_eq {x : Txt} {σ σ' : H} {v : V} (e : mkS x σ = some (v, σ')) : x.length ≤ 1000000 ∧ v = .str x ∧ σ' = σ := by
  unfold mkS at e
  split at e
  · rename_i h; (refine sp e fun q23 q24 => ?_; subst q23; subst q24; clear e); exact ⟨szOk_le h, rfl, rfl⟩
  · exact ns e
theorem mkI_eq {i : Int} {v : V} (e : mkI i = some v) : fit i = true ∧ v = .int i := by
  unfold mkI at e
  split at e
  · rename_i h; (refine si e fun q27 => ?_; subst q27; clear e); exact ⟨h, rfl⟩
  · exact ns e
theorem fit_iff {i : Int} : fit i = true ↔ -4611686018427387904 < i ∧ i < 4611686018427387904 := by
  unfold fit; simp [Bool.and_eq_true]
theorem mkI_map {i : Int} {σ σ' : H} {v : V} (e : (mkI i).map (·, σ) = some (v, σ')) : fit i = true ∧ v = .int i ∧ σ' = σ := by
  cases h : mkI i with
  | none => rw [h] at e; exact ns e
  | some v' =>
    rw [h] at e
    refine k02 (mkI_eq h) fun f q1 => ?_; subst q1
    (refine sp e fun q34 q35 => ?_; subst q34; subst q35; clear e)
    exact ⟨f, rfl, rfl⟩

/-- a new list laid -/
theorem Out.list {c : Cx} {r : Rh} {s : Shared} {σ σ' : H} {v : V} {Q : Value → Shared → Prop} {vs : List V} {items : List Value} (O : Out c r s σ' v Q) (e : mkL vs σ = some (v, σ')) (R : c.R r σ s.heap)
    (x : VRs c.w.params r s.heap vs items) (tk : Nat) : Q (.ref s.heap.objs.size) { s with heap := s.heap.push (lstO items 0), toks := tk } := by
  refine k03 (mkL_eq e) fun hl q2 q3 => ?_; subst q2; subst q3
  have none_ : s.heap.get? s.heap.objs.size = .none := by
    cases q : s.heap.get? s.heap.objs.size with
    | none => rfl
    | some o => exact absurd (Heap.lt_size q) (Nat.lt_irrefl _)
  have k : ∀ b ob, s.heap.get? b = some ob → (s.heap.push (lstO items 0)).get? b = some ob := fun b ob e => Heap.get?_push_of_some _ e
  have mv : Mv r s.heap { r with ob := r.ob ++ [(s.heap.objs.size, s.heap.objs.size)] } (s.heap.push (lstO items 0)) := Step.mv ⟨⟨_, rfl, fun q hq => by rw [List.mem_singleton.mp hq]; exact ⟨none_, none_⟩⟩, rfl, fun b ob e _ => k b ob e, fun b ob e => ⟨ob, k b ob e⟩⟩
  refine k02 (R.push (p := (s.heap.objs.size, s.heap.objs.size)) k none_ none_ (.list vs items 0 _ (Heap.get?_push_size _ rfl) (x.mv mv) (by rw [x.length]; omega))) fun R' S' => ?_
  refine O _ _ _ tk R' S' ?_
  refine .ref _ (s.heap.objs.size, s.heap.objs.size) ?_
  show (r.ob ++ [_])[σ.length]? = _
  rw [← R.len, List.getElem?_append_right (Nat.le_refl _), Nat.sub_self]; rfl

/-- a list read -/
theorem Rel.listAt {P : Params} {ids : List Str} {h₀ : Heap} {r : Rh} {σ : H} {h : Heap} (R : Rel P ids h₀ r σ h) {i : Nat} {vs : List V} (e : σ[i]? = some (.list vs)) {u : Value} (x : VR P r h (.ref i) u) :
    ∃ a items n, u = .ref a ∧ r.ob[i]? = some (a, a) ∧ h.get? a = some (lstO items n) ∧ VRs P r h vs items ∧ items.length ≤ 4000000 := by
  refine k12 x.inv fun p q hp => ?_; subst q
  refine k24 (R.obj i _ p e hp).inv fun items n q h1 h2 h3 => ?_
  cases p with
  | mk a b => cases q; exact ⟨a, items, n, rfl, hp, h1, h2, h3⟩
theorem isList_of {h : Heap} {a : Addr} {items : List Value} {n : Nat} (e : h.get? a = some (lstO items n)) : h.IsList a items.toArray := ⟨_, e, rfl, n, rfl⟩

section
variable {c : Cx} {A : Around} {E : Value → Shared → Prop} {s : Shared} {r : Rh} {σ σ' : H} {v : V} {Q : Value → Shared → Prop}

theorem stO_length (x : Txt) : (stO x).length = x.length := by simp [stO, PySem.Str.length]
theorem stO_append (x y : Txt) : stO x ++ stO y = stO (x ++ y) := by
  show PySem.Str.append _ _ = _
  simp [stO, PySem.Str.append]
theorem sizeLine_ge : 4000000 ≤ sizeLine := by rw [sizeLine_eq]; omega

theorem sound_add_str {x y : Txt} {t u : Tok} (R : c.R r σ s.heap) (e : mkS (x ++ y) σ = some (v, σ')) (O : Out c r s σ' v Q) : wpAny c.M A (binaryOp .Add (.str (stO x) t) (.str (stO y) u)) Q E s := by
  refine k03 (mkS_eq e) fun hl q4 q5 => ?_; subst q4; subst q5
  refine PySem.P.add_str ?_
  rw [stO_length, stO_length]
  split
  · rename_i h0
    have : x = [] := List.length_eq_zero_iff.mp (by simpa using h0)
    subst this
    exact O.here R (.str y u)
  · split
    · rename_i h1
      have : y = [] := List.length_eq_zero_iff.mp (by simpa using h1)
      subst this
      rw [List.append_nil] at O
      exact O.here R (.str x t)
    · rw [stO_append]
      refine ⟨?_, O.same R (.str _ _) _⟩
      rw [stO_length]
      have := sizeLine_ge; omega

theorem bitAnd_nat (a b : Nat) : Builtin.bitAnd (Int.ofNat a) (Int.ofNat b) = Int.ofNat (Nat.land a b) := by
  unfold Builtin.bitAnd
  rw [decide_eq_true (show (0 : Int) ≤ Int.ofNat a from Int.natCast_nonneg a), decide_eq_true (show (0 : Int) ≤ Int.ofNat b from Int.natCast_nonneg b)]
  rfl
theorem land_le (a b : Nat) : Nat.land a b ≤ a ∧ Nat.land a b ≤ b := ⟨Nat.and_le_left, Nat.and_le_right⟩
theorem bitXor_nat (a b : Nat) : Builtin.bitXor (Int.ofNat a) (Int.ofNat b) = Int.ofNat (a + b - 2 * Nat.land a b) := by
  unfold Builtin.bitXor
  rw [bitOr_and, bitAnd_nat]
  have := land_le a b
  simp only [Int.ofNat_eq_natCast]
  omega
noncomputable def unBop : Bop → Operator
  | .add => .Add | .sub => .Sub | .mul => .Mult | .fdiv => .FloorDiv | .mod => .Mod | .bxor => .BitXor
theorem trBop_i {o : Operator} {op : Bop} (h : trBop o = some op) : o = unBop op := by
  cases o <;> first | exact Option.some.inj h ▸ rfl | exact ns h
theorem sound_binop_int {op : Bop} {o : Operator} (ho : trBop o = some op) {a b : Int} {t u : Tok} (hA : A.handled = none) (R : c.R r σ s.heap) (e : binop op (.int a) (.int b) σ = some (v, σ')) (O : Out c r s σ' v Q) :
    wpAny c.M A (binaryOp o (.int a t) (.int b u)) Q E s := by
  cases trBop_i ho
  cases op with
  | add =>
    refine k03 (mkI_map e) fun _ q6 q7 => ?_; subst q6; subst q7
    exact PySem.P.add_int (O.same R (.int _ _) _)
  | sub =>
    refine k03 (mkI_map e) fun _ q8 q9 => ?_; subst q8; subst q9
    exact PySem.P.sub_int (O.same R (.int _ _) _)
  | mul =>
    refine k02 (if_i (b := fit a) (x := (mkI (a * b)).map (·, σ)) e) fun hf e => ?_
    refine k03 (mkI_map e) fun _ q10 q11 => ?_; subst q10; subst q11
    rw [fit_iff] at hf
    exact PySem.P.mul_int (O.same R (.int _ _) _) (IntMulOk.of_left (intBits_le_64 (by omega) (by omega)))
  | fdiv =>
    replace e : (if (decide (0 < b) && decide (b < 1000000000)) = true then (mkI (Int.fdiv a b)).map (·, σ) else .none) = some (v, σ') := e
    refine k02 (if_i e) fun hf e => ?_
    refine k02 (and_i hf) fun h1 h2 => ?_
    refine k03 (mkI_map e) fun _ q12 q13 => ?_; subst q12; subst q13
    replace h1 := of_decide_eq_true h1
    replace h2 := of_decide_eq_true h2
    clear hf
    show wpAny c.M A (binaryOp .FloorDiv (.int a t) (.int b u)) Q E s
    exact floordiv_int_or hA (fun h0 => absurd h0 (by omega)) (fun _ => O.same R (.int _ _) _) (fun _ => .inl (PyProof.noPylong_small (by omega)))
  | mod =>
    refine k02 (if_i (b := decide (0 < b)) (x := (mkI (Int.fmod a b)).map (·, σ)) e) fun hf e => ?_
    refine k03 (mkI_map e) fun _ q14 q15 => ?_; subst q14; subst q15
    replace hf := of_decide_eq_true hf
    show wpAny c.M A (binaryOp .Mod (.int a t) (.int b u)) Q E s
    exact mod_int' (by omega) (O.same R (.int _ _) _)
  | bxor =>
    cases a with
    | negSucc a => exact ns e
    | ofNat a => cases b with
      | negSucc b => exact ns e
      | ofNat b =>
        unfold binop at e
        dsimp only at e
        unfold binI at e
        dsimp only at e
        refine k03 (mkI_map e) fun _ q16 q17 => ?_; subst q16; subst q17
        show wpAny c.M A (binaryOp .BitXor (.int (Int.ofNat a) t) (.int (Int.ofNat b) u)) Q E s
        refine xor_int ?_
        rw [bitXor_nat]
        exact O.same R (.int _ _) _

/-! lists -/
theorem sound_add_list {xs ys : List V} {i j : Nat} {ux uy : Value} (R : c.R r σ s.heap) (hi : σ[i]? = some (.list xs)) (hj : σ[j]? = some (.list ys)) (x : c.V r s.heap (.ref i) ux) (y : c.V r s.heap (.ref j) uy)
    (e : mkL (xs ++ ys) σ = some (v, σ')) (O : Out c r s σ' v Q) : wpAny c.M A (binaryOp .Add ux uy) Q E s := by
  refine k35 (R.listAt hi x) fun a its n q18 _ ha hx lx => ?_; subst q18
  refine k35 (R.listAt hj y) fun b its' n' q19 _ hb hy ly => ?_; subst q19
  have hz := sizeLine_ge
  refine k03 (mkL_eq e) fun hl _ _ => ?_
  refine concat_meets ⟨_, ha, rfl⟩ ⟨_, hb, rfl⟩ noFill_list_add seq_list_add PySem.F.slot_list_add PySem.F.entry_list_add (PySem.F.args_list_add_2 _ _)
    (list_addW a b its.toArray its'.toArray n n' none none #[] #[] (by rw [List.length_append, ← hx.length, ← hy.length] at hl; simp only [List.size_toArray]; omega)) ⟨ha, hb, ?_⟩
  rw [show its.toArray ++ its'.toArray = (its ++ its').toArray by simp]
  exact O.list e R (hx.append hy) s.toks
theorem flat_fold (n : Nat) (its : List Value) : List.foldl (fun x1 x2 => x1 ++ x2) #[] (List.replicate n its.toArray) = (List.replicate n its).flatten.toArray := by
  have g : ∀ (n : Nat) (acc : Array Value), List.foldl (fun x1 x2 => x1 ++ x2) acc (List.replicate n its.toArray) = acc ++ (List.replicate n its).flatten.toArray := by
    intro n
    induction n with
    | zero => intro acc; simp
    | succ n ih => intro acc; rw [List.replicate_succ, List.foldl_cons, ih, List.replicate_succ, List.flatten_cons]; simp [Array.append_assoc]
  rw [g]; simp
theorem VRs.rep {P : Params} {r : Rh} {h : Heap} {vs : List V} {us : List Value} (x : VRs P r h vs us) : ∀ n : Nat, VRs P r h (List.replicate n vs).flatten (List.replicate n us).flatten
  | 0 => .nil
  | n + 1 => by rw [List.replicate_succ, List.flatten_cons, List.replicate_succ, List.flatten_cons]; exact x.append (x.rep n)
theorem sound_mul_list {xs : List V} {i : Nat} {k : Int} {t : Tok} {ux : Value} (R : c.R r σ s.heap) (hi : σ[i]? = some (.list xs)) (x : c.V r s.heap (.ref i) ux) (hk : k ≤ 1000) (hf : fit k = true) (hlen : xs.length ≤ 1000)
    (e : mkL (List.replicate k.toNat xs).flatten σ = some (v, σ')) (O : Out c r s σ' v Q) : wpAny c.M A (binaryOp .Mult ux (.int k t)) Q E s := by
  refine k35 (R.listAt hi x) fun a its n q20 _ ha hx lx => ?_; subst q20
  rw [fit_iff] at hf
  refine k03 (mkL_eq e) fun hl _ _ => ?_
  have hsz : its.length * k.toNat ≤ 1000 * 1000 := Nat.mul_le_mul (by rw [hx.length]; exact hlen) (by omega)
  refine wpAny_binaryOp_repeat_ref (T := "list") (U := "int") (by decide) ⟨_, ha, rfl⟩ (fun s' => typeIs_int s' k t) noFill_list_mul PySem.F.fills_int_mul PySem.F.slot_int_rmul repeat_list PySem.F.slot_int_index.lookup
    (call_meets PySem.F.slot_int_rmul (typeIs_int s k t) PySem.F.entry_int_rmul (PySem.F.args_int_rmul_2 _ _) (int___rmul___int_list k t a its.toArray n)
      ⟨ha, rfl, ⟨_, ha, rfl⟩, call_meets PySem.F.slot_list_mul ⟨_, ha, rfl⟩ PySem.F.entry_list_mul (PySem.F.args_list_mul_2 _ _)
        (AutoListH.list___mul___list_int_3 a its.toArray n k t (by simp [Builtin.List.listFitsIndex]; omega) (by simp only [List.size_toArray]; omega) (by simp [Builtin.List.listTooLong, sizeLine]; omega))
        ⟨ha, ?_⟩⟩)
  have : List.foldl (fun x1 x2 => x1 ++ x2) #[] (List.replicate (if its.toArray.isEmpty = true then 0 else k.toNat) its.toArray) = (List.replicate k.toNat its).flatten.toArray := by
    rw [flat_fold]
    split
    · rename_i h0
      have : its = [] := by simpa using h0
      subst this
      simp
    · rfl
  rw [this]
  exact O.list e R (hx.rep _) s.toks
end
end MI
end TMS2
section TMS3
open PySem PySem.Spec PySem.Calls PyProof.Rows PySem.W
set_option linter.unusedVariables false
namespace MI

mutual
noncomputable def toP : V → PyData
  | .none => .none
  | .bool b => .bool b
  | .int i => .int i
  | .str s => .str (stO s)
  | .tup vs => .tuple (toPs vs)
  | .flist vs => .list (toPs vs)
  | .ref _ => .none
  | .cst _ => .none
  | .rng _ _ => .none
noncomputable def toPs : List V → List PyData
  | [] => []
  | v :: vs => toP v :: toPs vs
end
inductive IsD : V → Prop
  | none : IsD .none
  | bool b : IsD (.bool b)
  | int i : IsD (.int i)
  | str s : okS s = true → IsD (.str s)
  | tup vs : (∀ v ∈ vs, IsD v) → IsD (.tup vs)
  | flist vs : (∀ v ∈ vs, IsD v) → IsD (.flist vs)

theorem txtEq_iff {a b : Txt} : txtEq a b = true ↔ a = b := by
  induction a generalizing b with
  | nil => cases b with
    | nil => exact ⟨fun _ => rfl, fun _ => rfl⟩
    | cons => exact ⟨fun h => ft h, fun h => nomatch h⟩
  | cons x r ih => cases b with
    | nil => exact ⟨fun h => ft h, fun h => nomatch h⟩
    | cons y q =>
      show (Nat.beq x y && txtEq r q) = true ↔ _
      rw [Bool.and_eq_true, ih, List.cons.injEq]
      exact ⟨fun h => ⟨Nat.eq_of_beq_eq_true h.1, h.2⟩, fun h => ⟨h.1 ▸ Nat.beq_refl _, h.2⟩⟩
theorem stO_inj {a b : Txt} : stO a = stO b ↔ a = b := by
  unfold stO
  constructor
  · intro h; injection h with h; simpa using h
  · rintro rfl; rfl
theorem txtEq_st (a b : Txt) : txtEq a b = (stO a == stO b) := by
  rw [Bool.eq_iff_iff, txtEq_iff, beq_iff_eq, stO_inj]
theorem txtEq_list (a b : Txt) : txtEq a b = (a == b) := by rw [Bool.eq_iff_iff, txtEq_iff, beq_iff_eq]

theorem eqDs_of {xs : List V} (h : ∀ v ∈ xs, ∀ {b : V}, IsD b → eqD v b = PyData.eqv (toP v) (toP b)) {ys : List V} (hy : ∀ v ∈ ys, IsD v) : eqDs xs ys = PyData.eqvAll (toPs xs) (toPs ys) := by
  induction xs generalizing ys with
  | nil => cases ys <;> rfl
  | cons x xs ih => cases ys with
    | nil => rfl
    | cons y ys => exact congr (congrArg and (h x (.head _) (hy y (.head _)))) (ih (fun v hv => h v (.tail _ hv)) (fun v hv => hy v (.tail _ hv)))
theorem eqD_eqv {a b : V} (ha : IsD a) (hb : IsD b) : eqD a b = PyData.eqv (toP a) (toP b) := by
  induction ha generalizing b with
  | none => cases hb <;> rfl
  | bool x => cases hb <;> rfl
  | int i => cases hb <;> rfl
  | str s _ => cases hb with
    | str t _ => exact txtEq_st s t
    | _ => rfl
  | tup vs _ ih => cases hb with
    | tup ws hb => exact eqDs_of ih hb
    | _ => rfl
  | flist vs _ ih => cases hb with
    | flist ws hb => exact eqDs_of ih hb
    | _ => rfl

theorem moL_i {β : Type} {f : List V → β} {o : Option (List V)} {d : β} (e : (match o with
    | some ds => some (f ds)
    | .none => .none) = some d) : ∃ ds, o = some ds ∧ d = f ds := by
  cases o with
  | none => exact ns e
  | some x => (refine si e fun q3 => ?_; subst q3; clear e); exact ⟨x, rfl, rfl⟩
theorem moV_i {β : Type} {f : V → Option β} {o : Option V} {d : β} (e : (match o with
    | some x => f x
    | .none => .none) = some d) : ∃ x, o = some x ∧ f x = some d := by
  cases o with
  | none => exact ns e
  | some x => exact ⟨x, rfl, e⟩
theorem lst_i {α : Type} {o : Option O} {f : List V → Option α} {y : α} (e : (match o with
    | some (.list vs) => f vs
    | _ => .none) = some y) : ∃ vs, o = some (.list vs) ∧ f vs = some y := by
  cases o with
  | none => exact ns e
  | some x => cases x with
    | list vs => exact ⟨vs, rfl, e⟩
    | inst C fs => exact ns e
theorem inst_i {α : Type} {o : Option O} {f : Addr → List (Nat × V) → Option α} {y : α} (e : (match o with
    | some (.inst C fs) => f C fs
    | _ => .none) = some y) : ∃ C fs, o = some (.inst C fs) ∧ f C fs = some y := by
  cases o with
  | none => exact ns e
  | some x => cases x with
    | list vs => exact ns e
    | inst C fs => exact ⟨C, fs, rfl, e⟩
theorem mapO_cons {f : V → Option V} {x : V} {r ys : List V} (e : mapO f (x :: r) = some ys) : ∃ y q, ys = y :: q ∧ f x = some y ∧ mapO f r = some q := by
  refine k12 (moV_i (o := f x) (f := fun y => match mapO f r with | some ys => some (y :: ys) | .none => .none) e) fun y h e => ?_
  refine k12 (moL_i (o := mapO f r) (f := fun ys => y :: ys) e) fun q hq q1 => ?_; subst q1
  exact ⟨y, q, rfl, h, hq⟩
theorem flat_isD {σ : H} : ∀ (n : Nat) {v d : V}, flat σ n v = some d → IsD d
  | 0, _, _, e => by exact ns e
  | n + 1, v, d, e => by
    have all : ∀ {vs ds : List V}, mapO (flat σ n) vs = some ds → ∀ x ∈ ds, IsD x := by
      intro vs
      induction vs with
      | nil => intro ds e; (refine si e fun q14 => ?_; subst q14; clear e); simp
      | cons a r ih =>
        intro ds e
        refine k23 (mapO_cons e) fun y q q2 hy hq => ?_; subst q2
        intro x hx
        rcases List.mem_cons.mp hx with rfl | hx
        · exact flat_isD n hy
        · exact ih hq x hx
    cases v with
    | none => (refine si e fun q17 => ?_; subst q17; clear e); exact .none
    | bool b => (refine si e fun q19 => ?_; subst q19; clear e); exact .bool _
    | int i => (refine si e fun q21 => ?_; subst q21; clear e); exact .int _
    | str x =>
      refine k02 (if_some (b := okS x) (x := V.str x) e) fun h q3 => ?_; subst q3
      exact .str _ h
    | tup vs =>
      refine k12 (moL_i (o := mapO (flat σ n) vs) (f := V.tup) e) fun ds hds q4 => ?_; subst q4
      exact .tup _ (all hds)
    | ref i =>
      refine k12 (lst_i (o := σ[i]?) (f := fun vs => match mapO (flat σ n) vs with | some ds => some (V.flist ds) | .none => .none) e) fun vs hvs e => ?_
      refine k12 (moL_i (o := mapO (flat σ n) vs) (f := V.flist) e) fun ds hds q5 => ?_; subst q5
      exact .flist _ (all hds)
    | cst _ => exact ns e
    | flist _ => exact ns e
    | rng _ _ => exact ns e

theorem strOk_of {s : Txt} (h : okS s = true) : PyData.strOk (stO s) = true := by
  unfold PyData.strOk stO
  unfold okS at h
  rw [← Array.all_toList]
  rw [List.all_eq_true] at h ⊢
  intro x hx
  have := h x hx
  exact decide_eq_true (Nat.le_of_ble_eq_true this)

section
variable {P : Params} {ids : List Str} {h₀ : Heap} {r : Rh} {σ : H} {h : Heap}
theorem depth_cons {a b n : Nat} (h1 : a ≤ n) (h2 : b ≤ n) : max a b ≤ n := Nat.max_le.mpr ⟨h1, h2⟩
noncomputable def FlatOk (h : Heap) (d : V) (u : Value) (n : Nat) : Prop := ∃ as, Reads h u (toP d) as ∧ (toP d).canLay0 = true ∧ (toP d).depth ≤ n
noncomputable def FlatsOk (h : Heap) (ds : List V) (us : List Value) (n : Nat) : Prop := ∃ as, ReadsAll h us (toPs ds) as ∧ PyData.canLayAll0 (toPs ds) = true ∧ PyData.depthAll (toPs ds) ≤ n
theorem FlatOk.tup {ds : List V} {us : List Value} {n k : Nat} {a : Addr} (H : FlatsOk h ds us n) (ha : h.get? a = some (tupO us k)) : FlatOk h (.tup ds) (.ref a) (n + 1) :=
  H.elim fun _ q => ⟨_, .tuple ha rfl rfl q.1, q.2.1, Nat.succ_le_succ q.2.2⟩
theorem FlatOk.lst {ds : List V} {us : List Value} {n k : Nat} {a : Addr} (H : FlatsOk h ds us n) (ha : h.get? a = some (lstO us k)) : FlatOk h (.flist ds) (.ref a) (n + 1) :=
  H.elim fun _ q => ⟨_, .list ha rfl rfl q.1, q.2.1, Nat.succ_le_succ q.2.2⟩
theorem flats_ok {f : V → Option V} {n : Nat} (F : ∀ {v d : V} {u : Value}, f v = some d → VR P r h v u → FlatOk h d u n) : ∀ {vs ds : List V} {us : List Value}, mapO f vs = some ds → VRs P r h vs us → FlatsOk h ds us n := by
  intro vs
  induction vs with
  | nil => intro ds us e x; cases x.inv; cases Option.some.inj e; exact ⟨[], .nil, rfl, Nat.zero_le _⟩
  | cons a r ih =>
    intro ds us e x
    refine k23 (mapO_cons e) fun y q q6 hy hq => ?_; subst q6
    refine k23 x.inv fun u us' z x1 x2 => ?_; subst z
    refine k13 (F hy x1) fun as r1 c1 d1 => ?_
    refine k13 (ih hq x2) fun bs r2 c2 d2 => ?_
    exact ⟨_, .cons r1 r2, (congr (congrArg and c1) c2 : _ = (true && true)), depth_cons d1 d2⟩
theorem flat_step (R : Rel P ids h₀ r σ h) {n : Nat} (F : ∀ {v d : V} {u : Value}, flat σ n v = some d → VR P r h v u → FlatOk h d u n) {v d : V} {u : Value} (e : flat σ (n + 1) v = some d) (x : VR P r h v u) : FlatOk h d u (n + 1) := by
  cases v with
  | none => cases Option.some.inj e; cases x.inv; exact ⟨_, .none, rfl, Nat.zero_le _⟩
  | bool b => cases Option.some.inj e; cases x.inv; exact ⟨_, .bool _, rfl, Nat.zero_le _⟩
  | int i => cases Option.some.inj e; refine k11 x.inv fun t q => ?_; subst q; exact ⟨_, .int _ _, rfl, Nat.zero_le _⟩
  | str t =>
    refine k02 (if_some (b := okS t) (x := V.str t) e) fun hs q7 => ?_; subst q7
    refine k11 x.inv fun t q => ?_; subst q; exact ⟨_, .str _ _, strOk_of hs, Nat.zero_le _⟩
  | tup vs =>
    refine k12 (moL_i (o := mapO (flat σ n) vs) (f := V.tup) e) fun ds hds q8 => ?_; subst q8
    refine k35 x.inv fun items k a q ha hf hx hl => ?_; subst q
    exact .tup (flats_ok F hds hx) ha
  | ref i =>
    refine k12 (lst_i (o := σ[i]?) (f := fun vs => match mapO (flat σ n) vs with | some ds => some (V.flist ds) | .none => .none) e) fun vs hvs e => ?_
    refine k12 (moL_i (o := mapO (flat σ n) vs) (f := V.flist) e) fun ds hds q9 => ?_; subst q9
    refine k35 (R.listAt hvs x) fun a items k q10 _ ha hx hl => ?_; subst q10
    exact .lst (flats_ok F hds hx) ha
  | _ => exact ns e
theorem flat_reads (R : Rel P ids h₀ r σ h) (n : Nat) : ∀ {v d : V} {u : Value}, flat σ n v = some d → VR P r h v u → FlatOk h d u n := by
  induction n with
  | zero => exact fun e _ => ns e
  | succ n ih => exact flat_step R ih
end

section
variable {c : Cx} {A : Around} {E : Value → Shared → Prop} {s : Shared} {r : Rh} {σ σ' : H} {Q : Value → Shared → Prop} {a b : V} {ua ub : Value} {y : Bool}
theorem eqV_i (e : eqV σ a b = some y) : ∃ d d', flat σ 12 a = some d ∧ flat σ 12 b = some d' ∧ y = eqD d d' := by
  refine k12 (moV_i (o := flat σ 12 a) (f := fun x => match flat σ 12 b with | some y => some (eqD x y) | .none => .none) e) fun d h e => ?_
  refine k12 (moV_i (o := flat σ 12 b) (f := fun y => some (eqD d y)) e) fun d' h' e => ?_
  (refine si e fun q55 => ?_; subst q55; clear e)
  exact ⟨d, d', h, h', rfl⟩
theorem sound_eq (R : c.R r σ s.heap) (hu : A.units + 100 < cLine) (x : c.V r s.heap a ua) (x' : c.V r s.heap b ub) (e : eqV σ a b = some y) (h : Q (.bool y) s) : wpAny c.M A (compareOp .Eq ua ub) Q E s := by
  refine k23 (eqV_i e) fun d d' hd hd' q11 => ?_; subst q11
  refine k13 (flat_reads R 12 hd x) fun as r1 c1 l1 => ?_
  refine k13 (flat_reads R 12 hd' x') fun bs r2 c2 l2 => ?_
  exact SeqAt.compareEq_reads r1 r2 c1 c2 (by omega) (eqD_eqv (flat_isD _ hd) (flat_isD _ hd') ▸ h)
theorem sound_ne (R : c.R r σ s.heap) (hu : A.units + 100 < cLine) (x : c.V r s.heap a ua) (x' : c.V r s.heap b ub) (e : eqV σ a b = some y) (h : Q (.bool (!y)) s) : wpAny c.M A (compareOp .NotEq ua ub) Q E s := by
  refine k23 (eqV_i e) fun d d' hd hd' q12 => ?_; subst q12
  refine k13 (flat_reads R 12 hd x) fun as r1 c1 l1 => ?_
  refine k13 (flat_reads R 12 hd' x') fun bs r2 c2 l2 => ?_
  exact SeqAt.compareNe_reads r1 r2 c1 c2 (by omega) (eqD_eqv (flat_isD _ hd) (flat_isD _ hd') ▸ h)

theorem mapO_isD {n : Nat} : ∀ {vs ds : List V}, mapO (flat σ n) vs = some ds → ∀ x ∈ ds, IsD x
  | [], _, e => by (refine si e fun q59 => ?_; subst q59; clear e); simp
  | a :: r, _, e => by
    refine k23 (mapO_cons e) fun y q q13 hy hq => ?_; subst q13
    intro x hx
    rcases List.mem_cons.mp hx with rfl | hx
    · exact flat_isD n hy
    · exact mapO_isD hq x hx
theorem any_eqv {d : V} (hd : IsD d) : ∀ {ds : List V}, (∀ x ∈ ds, IsD x) → (ds.any fun e => eqD e d) = (toPs ds).any fun y => PyData.eqv y (toP d)
  | [], _ => by simp [toPs]
  | e :: ds, h => by
    simp only [toPs, List.any_cons]
    rw [eqD_eqv (h e (.head _)) hd, any_eqv hd fun x hx => h x (.tail _ hx)]
theorem list_reads (R : c.R r σ s.heap) {n i : Nat} {xs ds : List V} {u : Value} (hi : σ[i]? = some (.list xs)) (x : c.V r s.heap (.ref i) u) (e : mapO (flat σ n) xs = some ds) :
    ∃ as, Reads s.heap u (.list (toPs ds)) as ∧ PyData.canLayAll0 (toPs ds) = true ∧ PyData.depthAll (toPs ds) ≤ n := by
  have : flat σ (n + 1) (.ref i) = some (.flist ds) := by
    show (match σ[i]? with
      | some (O.list vs) => (match mapO (flat σ n) vs with
        | some ds => some (V.flist ds)
        | .none => .none)
      | _ => .none) = _
    rw [hi]
    simp only [e]
  refine k13 (flat_reads R (n + 1) this x) fun as r1 c1 d1 => ?_
  rw [show toP (.flist ds) = .list (toPs ds) from rfl] at r1 c1 d1
  simp only [PyData.canLay0, PyData.depth] at c1 d1
  exact ⟨as, r1, c1, by omega⟩
theorem sound_memL (R : c.R r σ s.heap) (hu : A.units + 100 < cLine) {i : Nat} {xs : List V} (hi : σ[i]? = some (.list xs)) (x : c.V r s.heap a ua) (x' : c.V r s.heap (.ref i) ub) (e : memV σ a xs = some y) (neg : Bool)
    (h : Q (.bool (neg ^^ y)) s) : wpAny c.M A (compareOp (if neg then .NotIn else .In) ua ub) Q E s := by
  refine k12 (moV_i (o := flat σ 12 a) (f := fun d => match mapO (flat σ 12) xs with | some es => some (es.any fun e => eqD e d) | .none => .none) e) fun d hd e => ?_
  · refine k12 (moL_i (o := mapO (flat σ 12) xs) (f := fun es => es.any fun e => eqD e d) e) fun es hes q14 => ?_; subst q14
    refine k13 (flat_reads R 12 hd x) fun as r1 c1 l1 => ?_
    refine k13 (list_reads R hi x' hes) fun bs r2 c2 l2 => ?_
    rw [any_eqv (flat_isD _ hd) (mapO_isD hes)] at h
    have hm := Nat.min_le_right (PyData.depthAll (toPs es)) (toP d).depth
    cases neg with
    | true => exact SeqAt.notIn_list_reads r2 r1 c2 c1 (by omega) (by rw [Bool.true_xor] at h; exact h)
    | false => exact SeqAt.in_list_reads r2 r1 c2 c1 (by omega) (by rw [Bool.false_xor] at h; exact h)
end
end MI
end TMS3
section TMS4
open PySem PySem.Spec PySem.Calls PyProof.Rows PySem.W
set_option linter.unusedVariables false
namespace MI

/-- a table of the top: its keys are strs, its values told -/
inductive TabRel (P : Params) (r : Rh) (h : Heap) : List (Txt × V) → List DictEntry → Prop
  | nil : TabRel P r h [] []
  | cons {k : Txt} {v : V} {e : DictEntry} {kvs es} {t : Tok} : e.key = .str (stO k) t → e.hash = PyData.keyHash P (stO k) → VR P r h v e.val → TabRel P r h kvs es → TabRel P r h ((k, v) :: kvs) (e :: es)

theorem isStrOf_st (k x : Txt) (t : Tok) : Value.isStrOf (stO x) (.str (stO k) t) = txtEq k x := by
  rw [txtEq_st]
  show (stO k == stO x) = _
  rfl
section
variable {P : Params} {r : Rh} {h : Heap}
theorem TabRel.keys {prog : Program} {w : World} {kvs : List (Txt × V)} {es : List DictEntry} (T : TabRel w.params r h kvs es) : ∀ e ∈ es, ∃ x, (strKind prog w).is x e.key = true ∧ e.hash = (strKind prog w).hash x := by
  induction T with
  | nil => exact fun _ he => nomatch he
  | cons hk hh hv T ih => exact fun e he => (List.mem_cons.mp he).elim (fun q => by cases q; exact ⟨_, by rw [hk]; exact strKind_is prog w _ _, hh⟩) (ih e)
noncomputable def ORel (P : Params) (r : Rh) (h : Heap) (o : Option V) (q : Option Value) : Prop := match o with
  | some v => ∃ u, q = some u ∧ VR P r h v u
  | .none => q = .none
theorem TabRel.find {x : Txt} {kvs : List (Txt × V)} {es : List DictEntry} (T : TabRel P r h kvs es) : ORel P r h (tlook x kvs) ((es.find? fun d => Value.isStrOf (stO x) d.key).map (·.val)) := by
  induction T with
  | nil => exact rfl
  | @cons k v e kvs es t hk hh hv T ih =>
    have hq : Value.isStrOf (stO x) e.key = txtEq k x := by rw [hk, isStrOf_st]
    show ORel P r h (if txtEq k x = true then some v else tlook x kvs) _
    by_cases q : txtEq k x = true
    · rw [if_pos q, List.find?_cons_of_pos (p := fun d : DictEntry => Value.isStrOf (stO x) d.key) (hq.trans q)]
      exact ⟨e.val, rfl, hv⟩
    · rw [if_neg q, List.find?_cons_of_neg (p := fun d : DictEntry => Value.isStrOf (stO x) d.key) (fun z => q (hq.symm.trans z))]
      exact ih
end
section
variable {prog : Program} {w : World} {r : Rh} {h : Heap} {kvs : List (Txt × V)} {es : List DictEntry} {n : Nat} {a : Addr}
theorem TabRel.mapOf (T : TabRel w.params r h kvs es) (e : h.get? a = some (dctO es n)) : h.MapOf (strKind prog w) a (fun x => findBy Value.isStrOf es.toArray x) :=
  ⟨_, es.toArray, n, e, ⟨rfl, rfl, rfl⟩, rfl, fun d hd => T.keys d (by simpa using hd), fun _ => rfl⟩
theorem TabRel.look (T : TabRel w.params r h kvs es) (x : Txt) : ORel w.params r h (tlook x kvs) (findBy Value.isStrOf es.toArray (stO x)) := by
  unfold findBy
  rw [List.find?_toArray]
  exact T.find
theorem ORel.isSome {P : Params} {o : Option V} {q : Option Value} (h' : ORel P r h o q) : q.isSome = o.isSome := by
  cases o with
  | none => exact (show q = .none from h') ▸ rfl
  | some v => exact h'.elim fun u z => z.1 ▸ rfl
end

/-- what the written tables of Γ are in K -/
noncomputable def Cx.TabOk (c : Cx) : Prop := ∀ a kvs, c.Γ.dicts.lookup a = some kvs → (a == sysModules) = false ∧ ∃ es n, c.K.lookup a = some (dctO es n) ∧ TabRel c.w.params ⟨[], []⟩ c.h₀ kvs es

section
variable {c : Cx} {A : Around} {E : Value → Shared → Prop} {s : Shared} {r : Rh} {σ σ' : H} {Q : Value → Shared → Prop} {a b : V} {ua ub : Value} {y : Bool}

theorem VR.base (R : c.R r σ s.heap) {v : V} {u : Value} (x : c.V ⟨[], []⟩ c.h₀ v u) : c.V r s.heap v u :=
  x.mv ⟨fun i p e => by simp at e, fun a o e _ => ⟨R.base a o e, fun hm => by have := R.fresh a hm; rw [this] at e; cases e⟩⟩
theorem TabRel.base (R : c.R r σ s.heap) {kvs : List (Txt × V)} {es : List DictEntry} (T : TabRel c.w.params ⟨[], []⟩ c.h₀ kvs es) : TabRel c.w.params r s.heap kvs es := by
  induction T with
  | nil => exact .nil
  | cons hk hh hv T ih => exact .cons hk hh (VR.base R hv) ih

theorem isSame_type (x y : String) : isSame (.type x) (.type y) = pure (x == y) := by
  show (pure (Value.type x == Value.type y) : Sem Bool) = _
  congr 1
  rw [Bool.eq_iff_iff]; simp
theorem is_type {x y : String} (h : Q (.bool (x == y)) s) : wpAny c.M A (compareOp .Is (.type x) (.type y)) Q E s := by
  show wpAny _ _ (isSame _ _ >>= fun b => pure (Value.bool b)) _ _ _
  rw [isSame_type]; exact wpAny_bind (wpAny_pure (wpAny_pure h))
theorem isNot_type {x y : String} (h : Q (.bool (!(x == y))) s) : wpAny c.M A (compareOp .IsNot (.type x) (.type y)) Q E s := by
  show wpAny _ _ (isSame _ _ >>= fun b => pure (Value.bool (!b))) _ _ _
  rw [isSame_type]; exact wpAny_bind (wpAny_pure (wpAny_pure h))
theorem VR.int_inv {P : Params} {r : Rh} {h : Heap} {i : Int} {u : Value} (x : VR P r h (.int i) u) : ∃ t, u = .int i t := x.inv
theorem VR.str_inv {P : Params} {r : Rh} {h : Heap} {i : Txt} {u : Value} (x : VR P r h (.str i) u) : ∃ t, u = .str (stO i) t := x.inv
theorem VR.cst_inv {P : Params} {r : Rh} {h : Heap} {i : Value} {u : Value} (x : VR P r h (.cst i) u) : u = i := x.inv
theorem VR.bool_inv {P : Params} {r : Rh} {h : Heap} {i : Bool} {u : Value} (x : VR P r h (.bool i) u) : u = .bool i := x.inv
theorem VR.none_inv {P : Params} {r : Rh} {h : Heap} {u : Value} (x : VR P r h .none u) : u = .none := x.inv
theorem isN_sound {P : Params} {r : Rh} {h : Heap} (x : VR P r h a ua) (e : cmpop.isN a = some y) : (ua == Value.none) = y := by
  cases a with
  | none => cases x.none_inv; exact Option.some.inj e
  | str t => refine k11 x.str_inv fun t q => ?_; subst q; exact Option.some.inj e
  | int t => refine k11 x.int_inv fun t q => ?_; subst q; exact Option.some.inj e
  | ref t => refine k12 x.inv fun p q _ => ?_; subst q; exact Option.some.inj e
  | _ => exact ns e
theorem isV_sound (x : c.V r s.heap a ua) (x' : c.V r s.heap b ub) (e : cmpop.isV a b = some y) (neg : Bool) (h : Q (.bool (neg ^^ y)) s) : wpAny c.M A (compareOp (if neg then .IsNot else .Is) ua ub) Q E s := by
  cases b with
  | none =>
    cases x'.none_inv
    cases isN_sound x e
    cases neg with
    | true => exact isNot_none (by rw [Bool.true_xor] at h; exact h)
    | false => exact is_none (by rw [Bool.false_xor] at h; exact h)
  | cst w => cases w with
    | type b => cases a with
      | cst w => cases w with
        | type a =>
          cases x.cst_inv
          cases x'.cst_inv
          cases Option.some.inj e
          cases neg with
          | true => exact isNot_type (by rw [Bool.true_xor] at h; exact h)
          | false => exact is_type (by rw [Bool.false_xor] at h; exact h)
        | _ => exact ns e
      | _ => exact ns e
    | _ => exact ns e
  | _ => exact ns e
theorem cmpI_k {P : Params} {r : Rh} {h : Heap} {f : Int → Int → Bool} (x : VR P r h a ua) (x' : VR P r h b ub) (e : cmpI f a b = some y) {K : Value → Value → Bool → Prop} (k : ∀ i j t t', K (.int i t) (.int j t') (f i j)) : K ua ub y := by
  cases a with
  | int i => cases b with
    | int j =>
      refine k11 x.int_inv fun t q => ?_; subst q
      refine k11 x'.int_inv fun t' q => ?_; subst q
      exact Option.some.inj e ▸ k i j t t'
    | _ => exact ns e
  | _ => exact ns e
theorem moK_i {β : Type} {f : List (Txt × V) → β} {o : Option (List (Txt × V))} {d : β} (e : (match o with
    | some ds => some (f ds)
    | .none => .none) = some d) : ∃ ds, o = some ds ∧ d = f ds := by
  cases o with
  | none => exact ns e
  | some x => (refine si e fun q31 => ?_; subst q31; clear e); exact ⟨x, rfl, rfl⟩
theorem sound_in (HT : c.TabOk) (R : c.R r σ s.heap) (hu : A.units + 100 < cLine) (neg : Bool) (x : c.V r s.heap a ua) (x' : c.V r s.heap b ub) (e : cmpop.inV c.Γ σ a b = some y)
    (h : ∀ tk, Q (.bool (neg ^^ y)) { s with toks := tk }) : wpAny c.M A (compareOp (if neg then .NotIn else .In) ua ub) Q E s := by
  cases b with
  | ref i =>
    refine k12 (lst_i (o := σ[i]?) (f := fun xs => memV σ a xs) e) fun xs hi e => ?_
    exact sound_memL R hu hi x x' e neg (h s.toks)
  | cst w =>
    cases w with
    | ref ad =>
      cases a with
      | str k =>
        refine k12 (moK_i (o := c.Γ.dicts.lookup ad) (f := fun kvs => (tlook k kvs).isSome) e) fun kvs hk q1 => ?_; subst q1
        obtain ⟨hs, es, n, hK, T⟩ := HT _ _ hk
        have := x'.cst_inv
        subst this
        refine k11 (x.str_inv) fun t q2 => ?_; subst q2
        have ho : s.heap.get? ad = some (dctO es n) := R.base _ _ (c.X _ _ hK)
        have T' := T.base R
        have L := T'.look k
        have hm := T'.mapOf (prog := c.prog) ho
        have hs' := L.isSome
        cases neg with
        | true => exact wpAny_notIn_of (strKind_is c.prog c.w _ t) hs hm (by rw [hs', ← Bool.true_xor]; exact h _)
        | false => exact wpAny_in_of (strKind_is c.prog c.w _ t) hs hm (by rw [hs', ← Bool.false_xor (tlook k kvs).isSome]; exact h _)
      | _ => exact ns e
    | _ => exact ns e
  | _ => exact ns e
noncomputable def unCop : Cop → CmpOp
  | .eq => .Eq | .ne => .NotEq | .lt => .Lt | .le => .LtE | .gt => .Gt | .ge => .GtE | .isIn => .In | .notIn => .NotIn | .is_ => .Is | .isNot => .IsNot
theorem trCop_i {o : CmpOp} {op : Cop} (h : trCop o = some op) : o = unCop op := by
  cases o <;> exact Option.some.inj h ▸ rfl
theorem sound_cmp (HT : c.TabOk) (R : c.R r σ s.heap) (hu : A.units + 100 < cLine) {op : Cop} {o : CmpOp} (ho : trCop o = some op) (x : c.V r s.heap a ua) (x' : c.V r s.heap b ub) (e : cmpop c.Γ op a b σ = some y)
    (h : ∀ tk, Q (.bool y) { s with toks := tk }) : wpAny c.M A (compareOp o ua ub) Q E s := by
  have h0 := h s.toks
  cases op with
  | eq => cases trCop_i ho; exact sound_eq R hu x x' e h0
  | ne =>
    cases trCop_i ho
    refine k12 (Option.map_eq_some_iff.mp e) fun z hz q3 => ?_; subst q3
    exact sound_ne R hu x x' hz h0
  | lt => cases trCop_i ho; exact cmpI_k x x' (y := y) e (K := fun ua ub y => Q (.bool y) s → wpAny c.M A (compareOp .Lt ua ub) Q E s) (fun i j t t' h => PySem.P.lt_int h) h0
  | le => cases trCop_i ho; exact cmpI_k x x' (y := y) e (K := fun ua ub y => Q (.bool y) s → wpAny c.M A (compareOp .LtE ua ub) Q E s) (fun i j t t' h => PySem.P.le_int h) h0
  | gt => cases trCop_i ho; exact cmpI_k x x' (y := y) e (K := fun ua ub y => Q (.bool y) s → wpAny c.M A (compareOp .Gt ua ub) Q E s) (fun i j t t' h => PySem.P.gt_int h) h0
  | ge => cases trCop_i ho; exact cmpI_k x x' (y := y) e (K := fun ua ub y => Q (.bool y) s → wpAny c.M A (compareOp .GtE ua ub) Q E s) (fun i j t t' h => PySem.P.ge_int h) h0
  | isIn => cases trCop_i ho; exact sound_in HT R hu false x x' e fun tk => by rw [Bool.false_xor]; exact h tk
  | notIn =>
    cases trCop_i ho
    refine k12 (Option.map_eq_some_iff.mp e) fun z hz q24 => ?_; subst q24
    exact sound_in HT R hu true x x' hz fun tk => by rw [Bool.true_xor]; exact h tk
  | is_ => cases trCop_i ho; exact isV_sound x x' e false (by rw [Bool.false_xor]; exact h0)
  | isNot =>
    cases trCop_i ho
    refine k12 (Option.map_eq_some_iff.mp e) fun z hz q25 => ?_; subst q25
    exact isV_sound x x' hz true (by rw [Bool.true_xor]; exact h0)
end
end MI
end TMS4
section TMS5
open PySem PySem.Spec PySem.Calls PyProof.Rows PySem.W
set_option linter.unusedVariables false
namespace MI

theorem vEq_i {w v : V} (h : vEq w v = true) : w = v := by
  cases w with
  | none => cases v with
    | none => rfl
    | _ => exact ft h
  | int a => cases v with
    | int b => exact congrArg V.int (of_decide_eq_true h)
    | _ => exact ft h
  | str a => cases v with
    | str b => exact congrArg V.str (of_decide_eq_true h)
    | _ => exact ft h
  | cst a => cases v with
    | cst b => exact congrArg V.cst (of_decide_eq_true h)
    | _ => exact ft h
  | _ => exact ft h
theorem vIs_i {o : Option V} {v : V} (h : vIs o v = true) : o = some v := by
  cases o with
  | none => exact ft h
  | some w => exact congrArg some (vEq_i h)
inductive CstR : Const → V → Prop
  | none : CstR .none .none
  | bool b : CstR (.bool b) (.bool b)
  | int i : CstR (.int i) (.int i)
  | str (s : Str) : CstR (.str s) (.str s.cps.toList)
theorem cstOk_i {k : Const} {v : V} (h : cstOk k v = true) : CstR k v := by
  cases k with
  | none => cases v with
    | none => exact .none
    | _ => exact ft h
  | bool b => cases v with
    | bool c => exact eq_of_beq (show (b == c) = true from h) ▸ .bool b
    | _ => exact ft h
  | int i => cases v with
    | int j => exact of_decide_eq_true (show decide (i = j) = true from h) ▸ .int i
    | _ => exact ft h
  | str t => cases v with
    | str x => exact of_decide_eq_true (show decide (t.cps.toList = x) = true from h) ▸ .str t
    | _ => exact ft h
  | _ => exact ft h

noncomputable def TrT (t : Tx) (sc : Scope) (e : Expr) (u : T) : Prop := ∃ a : AT, e = a.un ∧ u = a.er ∧ a.ok t sc = true
noncomputable def TrTs (t : Tx) (sc : Scope) (es : List Expr) (us : List T) : Prop := ∃ as, es = unTs as ∧ us = erTs as ∧ okTs t sc as = true
noncomputable def Tr (t : Tx) (sc : Scope) (e : Expr) (u : E) : Prop := ∃ a : AE, e = a.un ∧ u = a.er ∧ a.ok t sc = true
noncomputable def TrL (t : Tx) (sc : Scope) (es : List Expr) (us : List E) : Prop := ∃ as, es = unL as ∧ us = erL as ∧ okL t sc as = true
noncomputable def TrO (t : Tx) (sc : Scope) (e : Option Expr) (u : Option E) : Prop := ∃ a, e = unO a ∧ u = erO a ∧ okO t sc a = true
noncomputable def TrK (t : Tx) (sc : Scope) (ks : List Keyword) (us : List (Nat × E)) : Prop := ∃ as, ks = unK as ∧ us = erK as ∧ okK t sc as = true
noncomputable def TrI (t : Tx) (sc : Scope) (e : Expr) (u : It) : Prop := ∃ a : AI, e = a.un ∧ u = a.er ∧ a.ok t sc = true
section
variable {t : Tx} {sc : Scope}
theorem Tr.mk {a : AE} (h : a.ok t sc = true) : Tr t sc a.un a.er := ⟨a, rfl, rfl, h⟩
theorem TrT.mk {a : AT} (h : a.ok t sc = true) : TrT t sc a.un a.er := ⟨a, rfl, rfl, h⟩
theorem TrTs.mk {as : List AT} (h : okTs t sc as = true) : TrTs t sc (unTs as) (erTs as) := ⟨as, rfl, rfl, h⟩
theorem TrL.mk {as : List AE} (h : okL t sc as = true) : TrL t sc (unL as) (erL as) := ⟨as, rfl, rfl, h⟩
theorem TrO.mk {a : Option AE} (h : okO t sc a = true) : TrO t sc (unO a) (erO a) := ⟨a, rfl, rfl, h⟩
theorem TrK.mk {as : List AK} (h : okK t sc as = true) : TrK t sc (unK as) (erK as) := ⟨as, rfl, rfl, h⟩
theorem TrI.mk {a : AI} (h : a.ok t sc = true) : TrI t sc a.un a.er := ⟨a, rfl, rfl, h⟩
theorem TrL.nil : TrL t sc [] [] := ⟨[], rfl, rfl, rfl⟩
theorem TrK.nil : TrK t sc [] [] := ⟨[], rfl, rfl, rfl⟩
theorem unL_length : ∀ as : List AE, (unL as).length = as.length
  | [] => rfl
  | a :: r => congrArg Nat.succ (unL_length r)
theorem unK_length : ∀ as : List AK, (unK as).length = as.length
  | [] => rfl
  | a :: r => congrArg Nat.succ (unK_length r)
end
end MI
end TMS5
section TMS6
open PySem PySem.Spec PySem.Calls PyProof.Rows PySem.W
set_option linter.unusedVariables false
namespace MI

structure EnvOk (c : Cx) (sc : Scope) (env : Env) (pv : List Addr) : Prop where
  kind : env.scope.kind = .function
  glob : env.globals = mainGlobals
  bi : env.builtins = builtinsNs
  lpv : env.locals ∈ pv
  cpv : ∀ n a, env.cells.lookup n = some a → a ∈ pv
  loc : ∀ x, sc.names.lookup x = some .local → env.kindOf x = some .local
  cel : ∀ x, sc.names.lookup x = some .cell → env.kindOf x = some .cell ∧ (env.cells.lookup x).isSome = true
  fre : ∀ x, sc.names.lookup x = some .free → (env.kindOf x = some .cell ∨ env.kindOf x = some .free) ∧ (env.cells.lookup x).isSome = true
  glb : ∀ x, isVar sc x = some false → env.kindOf x = some .globalImplicit
  inj : ∀ x y a, env.cells.lookup x = some a → env.cells.lookup y = some a → x = y
  apl : ∀ x a, env.cells.lookup x = some a → a ≠ env.locals
theorem isVar_true {sc : Scope} {x : Str} (h : isVar sc x = some true) : sc.names.lookup x = some .local ∨ sc.names.lookup x = some .cell ∨ sc.names.lookup x = some .free := by
  unfold isVar at h
  generalize sc.names.lookup x = o at h ⊢
  cases o with
  | none => exact ns h
  | some k => cases k with
    | «local» => exact .inl rfl
    | cell => exact .inr (.inl rfl)
    | free => exact .inr (.inr rfl)
    | globalImplicit => exact ft (Option.some.inj h)
    | _ => exact ns h

theorem isVar_false {sc : Scope} {x : Str} (h : isVar sc x = some false) : sc.names.lookup x = some .globalImplicit := by
  unfold isVar at h
  generalize sc.names.lookup x = o at h ⊢
  cases o with
  | none => exact ns h
  | some k => cases k with
    | globalImplicit => rfl
    | «local» => exact tf (Option.some.inj h)
    | cell => exact tf (Option.some.inj h)
    | free => exact tf (Option.some.inj h)
    | _ => exact ns h

noncomputable def Held (env : Env) (h : Heap) (x : Str) (u : Value) : Prop :=
  (env.kindOf x = some .local ∧ ∃ m, h.Ns env.locals m ∧ m x = some u) ∨ ((env.kindOf x = some .cell ∨ env.kindOf x = some .free) ∧ ∃ a, env.cells.lookup x = some a ∧ h.IsCell a (some u))
structure VarsOk (c : Cx) (sc : Scope) (env : Env) (r : Rh) (h : Heap) (vars : Vars) : Prop where
  ns : ∃ m, h.Ns env.locals m
  cells : ∀ x a, env.cells.lookup x = some a → ∃ v, h.IsCell a v
  held : ∀ x i v, c.t.id x = some i → isVar sc x = some true → Vars.get i vars = some v → ∃ u, Held env h x u ∧ c.V r h v u

/-- what the text's global names are -/
noncomputable def Cx.GlobOk (c : Cx) : Prop := ∀ x v, c.t.glob x = some v → ∃ u, c.V ⟨[], []⟩ c.h₀ v u ∧ (nsIn c.K mainGlobals x = some (some u) ∨ (nsIn c.K mainGlobals x = some .none ∧ bootBuiltins x = some u ∧ x ≠ "__name__"))

section
variable {c : Cx} {sc : Scope} {env : Env} {r r' : Rh} {h h' : Heap} {vars : Vars} {σ : H}
theorem Held.keep {x : Str} {u : Value} {pv : List Addr} (H : Held env h x u) (eo : EnvOk c sc env pv) (k : ∀ b ∈ pv, ∀ o, h.get? b = some o → h'.get? b = some o) : Held env h' x u := by
  rcases H with ⟨hk, m, hn, hm⟩ | ⟨hk, a, ha, hc⟩
  · exact .inl ⟨hk, m, hn.at' fun o e => k _ eo.lpv o e, hm⟩
  · refine k12 hc fun o ho hd => ?_; clear hc
    exact .inr ⟨hk, a, ha, o, k a (eo.cpv _ _ ha) o ho, hd⟩
theorem VarsOk.keep (vo : VarsOk c sc env r h vars) {pv : List Addr} (eo : EnvOk c sc env pv) (k : ∀ b ∈ pv, ∀ o, h.get? b = some o → h'.get? b = some o) (M : Mv r h r' h') : VarsOk c sc env r' h' vars := by
  refine ⟨?_, fun x a e => ?_, fun x i v e1 e2 e3 => ?_⟩
  · refine k11 (vo.ns) fun m hn => ?_
    exact ⟨m, hn.at' fun o e => k _ eo.lpv o e⟩
  · refine k22 (vo.cells x a e) fun v o ho hd => ?_
    exact ⟨v, o, k a (eo.cpv _ _ e) o ho, hd⟩
  · refine k12 (vo.held x i v e1 e2 e3) fun u hu hr => ?_
    exact ⟨u, hu.keep eo k, hr.mv M⟩
theorem VarsOk.step (vo : VarsOk c sc env r h vars) (eo : EnvOk c sc env r.pv) (R : c.R r σ h) (S : Step r h r' h') : VarsOk c sc env r' h' vars :=
  vo.keep eo (fun b hb o e => S.keep b o e (R.pvo b hb)) S.mv
theorem EnvOk.step (eo : EnvOk c sc env r.pv) (S : Step r h r' h') : EnvOk c sc env r'.pv := S.pv ▸ eo
end

theorem Out.after {c : Cx} {r r' : Rh} {s : Shared} {h' : Heap} {tk : Nat} {σ' : H} {v : V} {Q : Value → Shared → Prop} (O : Out c r s σ' v Q) (S : Step r s.heap r' h') : Out c r' { s with heap := h', toks := tk } σ' v Q :=
  fun u r'' h'' tk' R'' S'' x => O u r'' h'' tk' R'' (S.trans S'') x

/-- an evaluator tells what the model's eval does -/
noncomputable def EvOk (c : Cx) (A : Around) (ev : Ev) : Prop :=
  ∀ {sc : Scope} {e : Expr} {u : E} {env : Env} {r : Rh} {σ σ' : H} {s : Shared} {vars : Vars} {v : V}, Tr c.t sc e u → EnvOk c sc env r.pv → VarsOk c sc env r s.heap vars → c.R r σ s.heap → ev u vars σ = some (v, σ') →
    ∀ {Q : Value → Shared → Prop} {E' : Value → Shared → Prop}, Out c r s σ' v Q → wpAny c.M A (eval e env) Q E' s

structure Fits (A : Around) : Prop where
  hd : A.handled = .none
  un : A.units + 400 < cLine
  dp : A.depth + 5 < recursionLimit

section
variable {c : Cx} {A : Around} {E' : Value → Shared → Prop} {s : Shared} {sc : Scope} {env : Env} {r : Rh} {σ σ' σ₁ : H} {vars : Vars} {v : V} {Q : Value → Shared → Prop} {ev : Ev}

theorem eval_glob (HG : c.GlobOk) {x : Str} {p : Pos} (hd : (x == ("__debug__" : Str)) = false) (hv : isVar sc x = some false) (hg : c.t.glob x = some v) (eo : EnvOk c sc env r.pv) (R : c.R r σ s.heap) (O : Out c r s σ v Q) :
    wpAny c.M A (eval (.Name x p) env) Q E' s := by
  refine k12 (HG x v hg) fun u hu hc => ?_
  have go := O.here R (VR.base R hu)
  rcases hc with hc | ⟨h1, h2, h3⟩
  · exact Name_function_global eo.kind (eo.glb x hv) (loadGlobal_global (eo.glob ▸ c.T.g.keeps R.base) (mg_of c.X c.T.g hc) go) hd
  · exact Name_function_global eo.kind (eo.glb x hv) (loadGlobal_builtin (eo.glob ▸ c.T.g.keeps R.base) (mg_none_of c.X c.T.g h1) (eo.bi ▸ c.T.b.keeps R.base) ((c.T.builtins x h3).trans h2) go) hd
theorem eval_var {x : Str} {p : Pos} {i : Nat} (hd : (x == ("__debug__" : Str)) = false) (hcd : (x == ("__classdict__" : Str)) = false) (hv : isVar sc x = some true) (hi : c.t.id x = some i) (eo : EnvOk c sc env r.pv) (vo : VarsOk c sc env r s.heap vars) (R : c.R r σ s.heap)
    (e : (vars.get i).map (·, σ) = some (v, σ')) (O : Out c r s σ' v Q) : wpAny c.M A (eval (.Name x p) env) Q E' s := by
  refine k12 (Option.map_eq_some_iff.mp e) fun v' hv' e => ?_
  cases e
  refine k12 (vo.held x i v hi hv hv') fun u hu hr => ?_
  have go := O.here R hr
  rcases hu with ⟨hk, m, hn, hm⟩ | ⟨hk | hk, a, ha, hc⟩
  · exact wpAny_Name (wpAny_loadName_local eo.kind hk hn hm go) hd
  · exact wpAny_Name (wpAny_loadName_cell eo.kind hk ha hc go) hd
  · exact wpAny_Name (wpAny_loadName_free eo.kind hk ha hc go hcd) hd

/-- two in a row -/
theorem seq2 (ih : EvOk c A ev) {a b : Expr} {a' b' : E} (ta : Tr c.t sc a a') (tb : Tr c.t sc b b') (eo : EnvOk c sc env r.pv) (vo : VarsOk c sc env r s.heap vars) (R : c.R r σ s.heap) {x y : V} {σ₁ σ₂ : H}
    (e1 : ev a' vars σ = some (x, σ₁)) (e2 : ev b' vars σ₁ = some (y, σ₂)) {k : Value → Value → Sem Value} (f : ∀ ua ub r' h' tk, c.R r' σ₂ h' → Step r s.heap r' h' → c.V r' h' x ua → c.V r' h' y ub → wpAny c.M A (k ua ub) Q E' { s with heap := h', toks := tk }) :
    wpAny c.M A (eval a env) (fun ua s₁ => wpAny c.M A (eval b env) (fun ub s₂ => wpAny c.M A (k ua ub) Q E' s₂) E' s₁) E' s := by
  refine ih ta eo vo R e1 fun ua r₁ h₁ tk₁ R₁ S₁ xa => ?_
  refine ih tb (eo.step S₁) (vo.step eo R S₁) R₁ e2 fun ub r₂ h₂ tk₂ R₂ S₂ xb => ?_
  exact f ua ub r₂ h₂ tk₂ R₂ (S₁.trans S₂) (xa.step S₂) xb

theorem truthy_sound {x : V} {u : Value} {b : Bool} (xr : c.V r s.heap x u) (e : truthy x = some b) {Q : Bool → Shared → Prop} (h : Q b s) : wpAny c.M A (PySem.truthy u) Q E' s := by
  cases x with
  | none => (refine si e fun q3 => ?_; subst q3; clear e); have := xr.none_inv; subst this; exact fun _ _ _ => h
  | bool b => (refine si e fun q5 => ?_; subst q5; clear e); have := xr.bool_inv; subst this; exact wpAny_truthy_bool h
  | int i =>
    refine k11 (xr.int_inv) fun t q1 => ?_; subst q1
    (refine si e fun q8 => ?_; subst q8; clear e)
    exact PySem.P.truthy_int (by rw [bne]; exact h)
  | _ => exact ns e

noncomputable def OutB (c : Cx) (r : Rh) (s : Shared) (σ' : H) (b : Bool) (Q : Bool → Shared → Prop) : Prop := ∀ r' h' tk, c.R r' σ' h' → Step r s.heap r' h' → Q b { s with heap := h', toks := tk }

theorem binop_sound (hA : Fits A) {op : Bop} {o : Operator} (ho : trBop o = some op) {x y : V} {ua ub : Value} (R : c.R r σ s.heap) (xa : c.V r s.heap x ua) (xb : c.V r s.heap y ub) (e : binop op x y σ = some (v, σ')) (O : Out c r s σ' v Q) :
    wpAny c.M A (binaryOp o ua ub) Q E' s := by
  have rest : binR op x y σ = some (v, σ') → wpAny c.M A (binaryOp o ua ub) Q E' s := fun e => by
    cases trBop_i ho
    cases op with
    | add =>
      refine k12 (Option.bind_eq_some_iff.mp e) fun xs h1 e1 => ?_
      refine k12 (Option.bind_eq_some_iff.mp e1) fun ys h2 e2 => ?_
      refine k12 (lstOf_i h1) fun i q2 hi => ?_; subst q2
      refine k12 (lstOf_i h2) fun j q3 hj => ?_; subst q3
      exact sound_add_list R hi hj xa xb e2 O
    | mul =>
      cases y with
      | int k =>
        refine k12 (Option.bind_eq_some_iff.mp e) fun xs h1 e1 => ?_
        refine k12 (lstOf_i h1) fun i q4 hi => ?_; subst q4
        refine k02 (if_i e1) fun hc e2 => ?_
        refine k02 (and_i hc) fun c1 hc => ?_
        refine k02 (and_i hc) fun c2 c3 => ?_
        refine k11 (xb.int_inv) fun t' q5 => ?_; subst q5
        exact sound_mul_list R hi xa (of_decide_eq_true c1) c2 (Nat.le_of_ble_eq_true c3) e2 O
      | _ => exact ns e
    | _ => exact ns e
  cases x with
  | int a => cases y with
    | int b =>
      refine k11 (xa.int_inv) fun t q6 => ?_; subst q6
      refine k11 (xb.int_inv) fun t' q7 => ?_; subst q7
      exact sound_binop_int ho hA.hd R e O
    | _ => exact ns e
  | str a =>
    cases op with
    | add =>
      cases y with
      | str b =>
        cases trBop_i ho
        refine k11 (xa.str_inv) fun t q8 => ?_; subst q8
        refine k11 (xb.str_inv) fun t' q9 => ?_; subst q9
        exact sound_add_str R e O
      | _ => exact ns e
    | _ => exact ns e
  | _ => exact rest e
end
end MI
end TMS6
section TMS7
open PySem PySem.Spec PySem.Calls PyProof.Rows PySem.W
set_option linter.unusedVariables false
namespace MI

theorem subscripted_plain {i : Expr} (h : isSlice i = false) (o iv : Value) : subscripted i false o iv = operate [o, iv] (getItem o iv) := by
  cases i with
  | Slice => exact tf h
  | _ => rfl
section
variable {c : Cx} {A : Around} {E' : Value → Shared → Prop} {s : Shared} {sc : Scope} {env : Env} {r : Rh} {σ σ' σ₁ : H} {vars : Vars} {v : V} {Q : Value → Shared → Prop}

theorem idx_inv {n j : Nat} {k : Int} (e : idx n k = some j) : fit k = true ∧ seqIndex? k n = some j := if_i e
theorem seqIndex_inv {n j : Nat} {k : Int} (e : seqIndex? k n = some j) : (0 ≤ k ∧ k < n ∧ j = k.toNat) ∨ (k < 0 ∧ -(n : Int) ≤ k ∧ j = (k + n).toNat) := by
  have key : ∀ q : Int, (if (decide (0 ≤ q) && decide (q < n)) = true then some q.toNat else none) = some j → 0 ≤ q ∧ q < n ∧ j = q.toNat := fun q e => by
    refine k02 (if_some e) fun h q1 => ?_
    refine k02 (and_i h) fun h1 h2 => ?_
    exact ⟨of_decide_eq_true h1, of_decide_eq_true h2, q1⟩
  by_cases hk : k < 0
  · refine k03 (key (k + n) (by unfold seqIndex? at e; rw [if_pos hk] at e; exact e)) fun h1 h2 q => ?_
    exact .inr ⟨hk, Int.neg_le_of_neg_le (by omega), q⟩
  · exact .inl (key k (by unfold seqIndex? at e; rw [if_neg hk] at e; exact e))
theorem VR.tup_inv {P : Params} {r : Rh} {h : Heap} {vs : List V} {u : Value} (x : VR P r h (.tup vs) u) : ∃ items n a, u = .ref a ∧ h.get? a = some (tupO items n) ∧ ¬ r.mut a ∧ VRs P r h vs items ∧ items.length ≤ 4000000 := x.inv
theorem isTup_of {h : Heap} {a : Addr} {items : List Value} {n : Nat} (e : h.get? a = some (tupO items n)) : IsTup h a items.toArray := ⟨_, e, rfl, n, rfl⟩
theorem fit_bounds {k : Int} (h : fit k = true) : -(2 ^ 63) ≤ k ∧ k < 2 ^ 63 := by rw [fit_iff] at h; omega

theorem sub_sound {i : Expr} (hi : isSlice i = false) {value : Expr} {x y : V} {ua ub : Value} (R : c.R r σ s.heap) (xa : c.V r s.heap x ua) (xb : c.V r s.heap y ub) (e : getSub c.Γ x y σ = some v) (O : Out c r s σ v Q) :
    wpAny c.M A (subscriptTail value i ua ub) Q E' s := by
  cases y with
  | int k => cases x with
    | ref a =>
      refine k12 (lst_i (o := σ[a]?) (f := fun xs => (idx xs.length k).bind fun j => xs[j]?) e) fun xs hx e => ?_
      refine k12 (Option.bind_eq_some_iff.mp e) fun j hj e => ?_
      refine k02 (idx_inv hj) fun hf hj => ?_
      refine k11 (xb.int_inv) fun t q1 => ?_; subst q1
      refine k35 (R.listAt hx xa) fun ad items n q2 _ ha hxs hl => ?_; subst q2
      refine k12 (hxs.get e) fun u hu hv => ?_
      have hL := isList_of ha
      have hb := fit_bounds hf
      refine tail_any hL.typeIs slot_list_getitem.lookup ?_ (subscripted_plain hi _ _)
      rcases seqIndex_inv hj with ⟨h0, h1, rfl⟩ | ⟨h0, h1, rfl⟩
      · exact wpAny_getItem_list hL h0 hb.2 ((List.getElem?_toArray ..).trans hu) (O.here R hv)
      · exact wpAny_getItem_list_neg hL h0 (by rw [List.size_toArray, hxs.length]; exact h1) hb.1 (by rw [List.size_toArray, hxs.length]; exact (List.getElem?_toArray ..).trans hu) (O.here R hv)
    | tup xs =>
      refine k12 (Option.bind_eq_some_iff.mp e) fun j hj e => ?_
      refine k02 (idx_inv hj) fun hf hj => ?_
      refine k11 (xb.int_inv) fun t q3 => ?_; subst q3
      refine k35 (xa.tup_inv) fun items n ad q4 ha _ hxs hl => ?_; subst q4
      refine k12 (hxs.get e) fun u hu hv => ?_
      have hb := fit_bounds hf
      refine tail_any (isTup_of ha).typeIs slot_tuple_getitem.lookup ?_ (subscripted_plain hi _ _)
      exact getItem_tuple (isTup_of ha) hb.1 hb.2 (by rw [List.size_toArray, hxs.length]; exact hj) ((List.getElem?_toArray ..).trans hu) (O.here R hv)
    | str xs =>
      refine k12 (Option.bind_eq_some_iff.mp e) fun j hj e => ?_
      refine k12 (Option.map_eq_some_iff.mp e) fun ch hc q5 => ?_; subst q5
      refine k02 (idx_inv hj) fun hf hj => ?_
      refine k11 (xb.int_inv) fun t q6 => ?_; subst q6
      refine k11 (xa.str_inv) fun t' q7 => ?_; subst q7
      have hb := fit_bounds hf
      refine tail_any (typeIs_str s _ t') PySem.F.slot_str_getitem.lookup ?_ (subscripted_plain hi _ _)
      refine PySem.P.getItem_str (c := ch) ?_ ?_ (O.same R (.str [ch] _) _)
      · exact Bool.or_eq_false_iff.mpr ⟨decide_eq_false (Int.not_lt.mpr hb.1), decide_eq_false (Int.not_le.mpr hb.2)⟩
      · rw [stO_length, hj]
        exact (List.getElem?_toArray ..).trans hc
    | _ => exact ns e
  | _ => exact ns e

theorem part_inv {l : V} {lo : Option Int} (e : part l = some lo) {u : Value} (x : c.V r s.heap l u) : IsPart u lo := by
  cases l with
  | none => cases x.none_inv; exact Option.some.inj e ▸ .none
  | int i => refine k11 x.int_inv fun t q => ?_; subst q; exact Option.some.inj e ▸ .int _ _
  | _ => exact ns e
theorem VRs.pick {P : Params} {r : Rh} {h : Heap} {vs : List V} {us : List Value} (x : VRs P r h vs us) : ∀ l : List Nat, VRs P r h (l.filterMap fun i => vs[i]?) (l.filterMap fun i => us[i]?)
  | [] => .nil
  | i :: l => by
    rw [List.filterMap_cons, List.filterMap_cons]
    cases q : vs[i]? with
    | none => rw [x.none q]; exact x.pick l
    | some v =>
      refine k12 (x.get q) fun u hu hv => ?_
      rw [hu]; exact .cons hv (x.pick l)
theorem slicePick_list (items : List Value) (lo hi st : Option Int) : slicePick items.toArray lo hi st = ((sliceRange (sliceBounds lo hi st items.length).1 (sliceBounds lo hi st items.length).2.1 (sliceBounds lo hi st items.length).2.2).filterMap fun (i : Nat) => items[i]?).toArray := by
  unfold slicePick
  simp

theorem isPart_str {u : Value} {lo : Option Int} (p : IsPart u lo) : ∃ l : Option (Int × Tok), u = partValue l ∧ l.map (·.1) = lo := by
  cases p with
  | none => exact ⟨.none, rfl, rfl⟩
  | int i t => exact ⟨some (i, t), rfl, rfl⟩

theorem cps_get (xs : Txt) (l : List Nat) : (l.filterMap fun i => (stO xs).cps[i]?) = l.filterMap fun i => xs[i]? := congrArg (fun f => List.filterMap f l) (funext fun _ => List.getElem?_toArray ..)
theorem slice_str {xs : Txt} {t : Tok} {lo hi st : Option Int} {ul uu us : Value} {sl : Addr} (R : c.R r σ s.heap) (hs : s.heap.get? sl = some { cls := .type "slice", data := .fields #[ul, uu, us] })
    (pl : IsPart ul lo) (pu : IsPart uu hi) (ps : IsPart us st) (h0 : st ≠ some 0) (hb : Nat.ble (txtAt xs lo hi st).length 1000000 = true) (O : Out c r s σ (.str (txtAt xs lo hi st)) Q) : wpAny c.M A (getItem (.str (stO xs) t) (.ref sl)) Q E' s := by
  refine k12 (isPart_str pl) fun l q9 hl => ?_; subst q9
  refine k12 (isPart_str pu) fun u q10 hu => ?_; subst q10
  refine k12 (isPart_str ps) fun k q11 hk => ?_; subst q11
  have hk1 : ((k.map (·.1)).getD 1 == 0) = false := by
    rw [hk]
    cases st with
    | none => rfl
    | some z => exact beq_eq_false_iff_ne.mpr fun hz => h0 (congrArg some hz)
  refine wpAny_getItem_str_slice ⟨_, hs, rfl, rfl⟩ hk1 ?_
  unfold sliceMade slicePicked
  rw [hl, hu, hk, stO_length]
  rw [cps_get]
  generalize hL : Builtin.Str.strSliceIndices lo hi (st.getD 1) xs.length = L
  have ht : txtAt xs lo hi st = if (st.getD 1 == 1 && L.length == xs.length) = true then xs else L.filterMap fun i => xs[i]? := by rw [← hL]; rfl
  rw [ht] at O hb
  by_cases hc : (st.getD 1 == 1 && L.length == xs.length) = true
  · rw [if_pos hc] at O ⊢
    exact O.here R (.str _ _)
  · rw [if_neg hc] at O hb ⊢
    refine ⟨?_, O.same R (.str _ _) _⟩
    show (List.toArray _).size ≤ _
    rw [List.size_toArray]
    exact Nat.le_trans (Nat.le_of_ble_eq_true hb) (by have := sizeLine_ge; omega)
theorem slice_list {a : Addr} {items : List Value} {xs : List V} {lo hi st : Option Int} {ul uu us : Value} {sl : Addr} (R : c.R r σ s.heap) (hs : s.heap.get? sl = some { cls := .type "slice", data := .fields #[ul, uu, us] })
    (pl : IsPart ul lo) (pu : IsPart uu hi) (ps : IsPart us st) (h0 : st ≠ some 0) (ha : s.heap.IsList a items.toArray) (hxs : VRs c.w.params r s.heap xs items) (hl : items.length ≤ 4000000) (e : mkL (cutAt xs lo hi st) σ = some (v, σ')) (O : Out c r s σ' v Q) :
    (∃ T id, s.TypeIs (.ref a) T ∧ typeLookup (.type T) "__getitem__" = pure (some (.builtin id))) ∧ wpAny c.M A (getItem (.ref a) (.ref sl)) Q E' s := by
  refine ⟨⟨"list", _, ha.typeIs, slot_list_getitem.lookup⟩, ?_⟩
  refine wpAny_getItem_list_slice ha ⟨_, hs, rfl, rfl⟩ pl pu ps h0 ?_ (by simp only [List.size_toArray]; have := sizeLine_ge; omega)
  rw [slicePick_list]
  refine O.list e R ?_ s.toks
  unfold cutAt
  rw [← hxs.length]
  exact hxs.pick _
theorem slice_item {x : V} {ux : Value} {lo hi st : Option Int} {ul uu us : Value} {sl : Addr} (R : c.R r σ s.heap) (xa : c.V r s.heap x ux) (hs : s.heap.get? sl = some { cls := .type "slice", data := .fields #[ul, uu, us] })
    (pl : IsPart ul lo) (pu : IsPart uu hi) (ps : IsPart us st) (h0 : st ≠ some 0)
    (e : slice2 x lo hi st σ = some (v, σ')) (O : Out c r s σ' v Q) : (∃ T id, s.TypeIs ux T ∧ typeLookup (.type T) "__getitem__" = pure (some (.builtin id))) ∧ wpAny c.M A (getItem ux (.ref sl)) Q E' s := by
  cases x with
  | str xs =>
    refine k02 (if_i e) fun hb e => ?_
    refine k11 (xa.str_inv) fun t q8 => ?_; subst q8
    refine sp e fun q1 q2 => ?_; subst q1; subst q2
    exact ⟨⟨"str", _, typeIs_str s _ t, PySem.F.slot_str_getitem.lookup⟩, slice_str R hs pl pu ps h0 hb O⟩
  | flist xs =>
    refine k25 xa.inv fun items a q h1 h2 h3 h4 => ?_; subst q
    exact slice_list R hs pl pu ps h0 h1 h3 h4 e O
  | ref i =>
    refine k12 (lst_i (o := σ[i]?) (f := fun xs => mkL (cutAt xs lo hi st) σ) e) fun xs hx e => ?_
    refine k35 (R.listAt hx xa) fun ad items n q12 _ ha hxs hl => ?_; subst q12
    exact slice_list R hs pl pu ps h0 (isList_of ha) hxs hl e O
  | _ => exact ns e
end
end MI
end TMS7
section TMS8
open PySem PySem.Spec PySem.Calls PyProof.Rows PySem.W
set_option linter.unusedVariables false
namespace MI

/-- what a class of the text is in K -/
structure ClsFact (c : Cx) (C : Addr) (k : Cls) : Prop where
  pg : plainGet c.K C "" = true
  hd : hasDictIn c.K C = true
  fl : ∀ i, k.flds.contains i = true → ∃ x, c.t.ids[i]? = some x ∧ (∃ attr, findIn c.K (.ref C) x = some attr ∧ noGet c.K attr = true) ∧ takerIn c.K C x = some .none
  po : plainOver c.K C = true
  sa : findIn c.K (.ref C) "__setattr__" = some (some (.builtin "object.__setattr__"))
  mks : makesIn c.K C = true
  ini : findIn c.K (.ref C) "__init__" = some (some (.ref k.init)) ∧ typeIn c.K (.ref k.init) = some (.type "function")
  me : ∀ i f, k.meths.lookup i = some f → ∃ x, c.t.ids[i]? = some x ∧ findIn c.K (.ref C) x = some (some (.ref f)) ∧ typeIn c.K (.ref f) = some (.type "function") ∧ keepIn c.K (.ref f) = true
  kp : keepIn c.K (.ref C) = true
noncomputable def Cx.ClsOk (c : Cx) : Prop := ∀ C k, c.Γ.clss.lookup C = some k → ClsFact c C k

theorem idxOf_get {x : Str} {l : List Str} {i : Nat} (h : idxOf x l = some i) : l[i]? = some x := by
  induction l generalizing i with
  | nil => exact ns h
  | cons y r ih =>
    replace h : (if (y == x) = true then some 0 else (idxOf x r).map Nat.succ) = some i := h
    by_cases hy : (y == x) = true
    · rw [if_pos hy] at h
      exact Option.some.inj h ▸ congrArg some (eq_of_beq hy)
    · rw [if_neg hy] at h
      refine k12 (Option.map_eq_some_iff.mp h) fun j hj q => ?_; subst q
      exact ih hj
theorem Tx.id_get {t : Tx} {x : Str} {i : Nat} (h : t.id x = some i) : t.ids[i]? = some x := idxOf_get h

theorem lookIn_dct (x : Str) (es : List DictEntry) (n : Nat) : lookIn x (dctO es n) = getL x es := rfl

section
variable {c : Cx} {A : Around} {E' : Value → Shared → Prop} {s : Shared} {sc : Scope} {env : Env} {r : Rh} {σ σ' σ₁ : H} {vars : Vars} {v : V} {Q : Value → Shared → Prop}

theorem Rel.instAt {P : Params} {ids : List Str} {h₀ : Heap} {r : Rh} {σ : H} {h : Heap} (R : Rel P ids h₀ r σ h) {i : Nat} {C : Addr} {fs : List (Nat × V)} (e : σ[i]? = some (.inst C fs)) {u : Value} (x : VR P r h (.ref i) u) :
    ∃ a d es n, u = .ref a ∧ r.ob[i]? = some (a, d) ∧ a ≠ d ∧ h.get? a = some (instObj C d) ∧ h.get? d = some (dctO es n) ∧ es.length ≤ fs.length ∧ (es.any (·.refKey)) = false ∧
      (∀ i x v, ids[i]? = some x → look i fs = some v → ∃ u, getL x es = some (some u) ∧ VR P r h v u) ∧ (∀ i x, ids[i]? = some x → look i fs = .none → getL x es = some .none) := by
  refine k12 x.inv fun p q hp => ?_; subst q
  refine k21 (R.obj i _ p e hp).inv fun es n H => ?_
  exact ⟨p.1, p.2, es, n, rfl, hp, H⟩
theorem instAt_of {h : Heap} {a d C : Addr} {es : List DictEntry} {n : Nat} (h1 : h.get? a = some (instObj C d)) (h2 : h.get? d = some (dctO es n)) : InstAt h a (instObj C d) C (some (dctO es n)) := ⟨h1, rfl, rfl, h2⟩

theorem handed_VR {P : Params} {r : Rh} {h : Heap} {v : V} {u : Value} (x : VR P r h v u) (hc : ∀ b, v ≠ .cst b) : handedIn u = true := by
  cases v with
  | none => cases x.inv; rfl
  | bool b => cases x.inv; rfl
  | int i => refine k11 x.inv fun t q => ?_; subst q; rfl
  | str i => refine k11 x.inv fun t q => ?_; subst q; rfl
  | ref i => refine k12 x.inv fun p q _ => ?_; subst q; rfl
  | cst b => exact (hc b rfl).elim
  | tup vs => refine k31 x.inv fun items n a H => ?_; cases H.1; rfl
  | flist vs => refine k21 x.inv fun items a H => ?_; cases H.1; rfl
  | rng a b => refine k43 x.inv fun _ _ _ _ q _ _ => ?_; subst q; rfl

theorem notCst_inv {o : Option V} {v : V} (e : notCst o = some v) : o = some v ∧ ∀ b, v ≠ .cst b := by
  cases o with
  | none => exact ns e
  | some w => cases w with
    | cst b => exact ns e
    | _ => exact Option.some.inj e ▸ ⟨rfl, fun b hb => nomatch hb⟩
theorem attr_sound (HC : c.ClsOk) {i : Nat} {x : Nat} {name : Str} {ua : Value} {expr : Bool} (R : c.R r σ s.heap) (xa : c.V r s.heap (.ref i) ua) (hx : c.t.ids[x]? = some name) (e : fields c.Γ σ i x = some v) (O : Out c r s σ v Q) :
    wpAny c.M A (getAttr ua name expr) Q E' s := by
  refine k22 (inst_i (o := σ[i]?) (f := fun C fs => if hasFld c.Γ C x = true then notCst (look x fs) else .none) e) fun C fs hi e => ?_
  refine k02 (if_i e) fun hf e => ?_
  refine k12 (any_i hf) fun k hk hf => ?_
  refine k13 ((HC C k hk).fl x hf) fun y hy hn _ => ?_
  cases hx.symm.trans hy
  refine k12 hn fun attr ha hn => ?_
  obtain ⟨a, d, es, n, rfl, _, _, h1, h2, _, _, hv, _⟩ := R.instAt hi xa
  refine k02 (notCst_inv e) fun e hc => ?_
  refine k12 (hv x name v hx e) fun u hu hr => ?_
  exact get_value (c.X.keeps R.base) (instAt_of h1 h2) (plainGet_of (HC C k hk).pg).1 (findObj_own (HC C k hk).hd ha hn hu) (handed_VR hr hc) (O.same R hr _)

theorem getL_cons (y : Str) (e : DictEntry) (l : List DictEntry) (h : e.refKey = false) : getL y (e :: l) = if e.key.isStr y then some (some e.val) else getL y l := by
  unfold getL
  rw [List.find?_cons]
  cases q : e.key.isStr y with
  | true => simp
  | false => simp [h]
theorem getL_put (name : Str) (hsh : Int) (t : Tok) (v : Value) (y : Str) : ∀ es : List DictEntry, (es.any (·.refKey)) = false → getL y (putL name hsh (.str name t) v es) = if y = name then some (some v) else getL y es
  | [], _ => by
    unfold putL
    rw [getL_cons _ _ _ rfl]
    by_cases h : y = name
    · subst h; simp [Value.isStr]
    · have : ¬ name = y := fun e => h e.symm
      simp [Value.isStr, this, h]
  | e :: r, hr => by
    have hr1 : e.refKey = false := by simp at hr; exact hr.1
    have hr2 : (r.any (·.refKey)) = false := by simp at hr ⊢; exact hr.2
    have ih := getL_put name hsh t v y r hr2
    unfold putL
    rw [getL_cons y e r hr1]
    by_cases he : e.key.isStr name = true
    · rw [if_pos he, getL_cons _ _ _ (show DictEntry.refKey ⟨e.hash, e.key, v⟩ = false from hr1)]
      by_cases h : y = name
      · subst h
        simp [he]
      · have hn : ¬ e.key.isStr y = true := fun q => h (Value.isStr_inj _ _ _ q he)
        simp [h, hn]
    · rw [if_neg he, getL_cons _ _ _ hr1, ih]
      by_cases hy : e.key.isStr y = true
      · have h : ¬ y = name := fun q => he (q ▸ hy)
        simp [hy, h]
      · simp [hy]
theorem putL_cons (name : Str) (hsh : Int) (k v : Value) (e : DictEntry) (r : List DictEntry) : putL name hsh k v (e :: r) = if e.key.isStr name = true then ⟨e.hash, e.key, v⟩ :: r else e :: putL name hsh k v r := rfl
theorem putL_len (name : Str) (hsh : Int) (k v : Value) (es : List DictEntry) : (putL name hsh k v es).length ≤ es.length + 1 := by
  induction es with
  | nil => exact Nat.le_refl _
  | cons e r ih =>
    rw [putL_cons]
    by_cases q : e.key.isStr name = true
    · rw [if_pos q]; exact Nat.le_succ _
    · rw [if_neg q]; exact Nat.succ_le_succ ih
theorem putL_len_in (name : Str) (hsh : Int) (k v : Value) (es : List DictEntry) (h : (es.any (·.key.isStr name)) = true) : (putL name hsh k v es).length = es.length := by
  induction es with
  | nil => exact ft h
  | cons e r ih =>
    rw [putL_cons]
    by_cases q : e.key.isStr name = true
    · rw [if_pos q]; rfl
    · rw [if_neg q]; exact congrArg Nat.succ (ih ((Bool.or_eq_true _ _ ▸ (List.any_cons ▸ h)).resolve_left q))
theorem putL_noRef (name : Str) (hsh : Int) (t : Tok) (v : Value) (es : List DictEntry) (h : (es.any (·.refKey)) = false) : ((putL name hsh (.str name t) v es).any (·.refKey)) = false := by
  induction es with
  | nil => rfl
  | cons e r ih =>
    refine k02 (Bool.or_eq_false_iff.mp (List.any_cons ▸ h)) fun h1 h2 => ?_
    rw [putL_cons]
    by_cases q : e.key.isStr name = true
    · rw [if_pos q, List.any_cons]; exact Bool.or_eq_false_iff.mpr ⟨h1, h2⟩
    · rw [if_neg q, List.any_cons]; exact Bool.or_eq_false_iff.mpr ⟨h1, ih h2⟩
theorem getL_i {es : List DictEntry} {x : Str} (h : (getL x es).isSome = true) : (es.any (·.key.isStr x)) = true ∨ ((es.any (·.refKey)) = false ∧ getL x es = some .none) := by
  cases q : es.find? (·.key.isStr x) with
  | some e => exact .inl (List.any_eq_true.mpr ⟨e, List.mem_of_find?_eq_some q, List.find?_some (p := fun d : DictEntry => d.key.isStr x) q⟩)
  | none =>
    unfold getL at h ⊢
    rw [q] at h ⊢
    dsimp only at h ⊢
    cases z : es.any (·.refKey) with
    | true => rw [z] at h; exact ft h
    | false => exact .inr ⟨rfl, rfl⟩
theorem any_of_getL {es : List DictEntry} {x : Str} {u : Value} (h : getL x es = some (some u)) : (es.any (·.key.isStr x)) = true :=
  (getL_i (h ▸ rfl)).resolve_right fun q => ns (Option.some.inj (q.2.symm.trans h))
theorem put_cons (x : Nat) (v : V) (z : Nat) (w : V) (r : List (Nat × V)) : put x v ((z, w) :: r) = if (z == x) = true then (z, v) :: r else (z, w) :: put x v r := rfl
theorem look_cons (x : Nat) (z : Nat) (w : V) (r : List (Nat × V)) : look x ((z, w) :: r) = if (z == x) = true then some w else look x r := rfl
theorem look_put {x : Nat} {v : V} {y : Nat} (fs : List (Nat × V)) : look y (put x v fs) = if y = x then some v else look y fs := by
  have one : ∀ w r, look y ((x, w) :: r) = if y = x then some w else look y r := fun w r => by
    rw [look_cons]
    by_cases h : y = x
    · rw [if_pos h, if_pos (beq_iff_eq.mpr h.symm)]
    · rw [if_neg h, if_neg fun q => h (eq_of_beq q).symm]
  induction fs with
  | nil => exact one v []
  | cons p r ih =>
    cases p with
    | mk z w =>
      rw [put_cons]
      by_cases hz : (z == x) = true
      · cases eq_of_beq hz
        rw [if_pos hz, one, one]
        by_cases h : y = x
        · rw [if_pos h, if_pos h]
        · rw [if_neg h, if_neg h, if_neg h]
      · rw [if_neg hz, look_cons, look_cons, ih]
        by_cases hy : (z == y) = true
        · rw [if_pos hy, if_pos hy, if_neg fun h => hz (beq_iff_eq.mpr ((eq_of_beq hy).trans h))]
        · rw [if_neg hy, if_neg hy]
theorem put_len {x : Nat} {v : V} (fs : List (Nat × V)) (h : look x fs = .none) : (put x v fs).length = fs.length + 1 := by
  induction fs with
  | nil => rfl
  | cons p r ih =>
    cases p with
    | mk z w =>
      rw [look_cons] at h
      rw [put_cons]
      by_cases hz : (z == x) = true
      · rw [if_pos hz] at h; exact sn h
      · rw [if_neg hz] at h ⊢; exact congrArg Nat.succ (ih h)
theorem put_len_ge {x : Nat} {v : V} (fs : List (Nat × V)) : fs.length ≤ (put x v fs).length := by
  induction fs with
  | nil => exact Nat.zero_le _
  | cons p r ih =>
    cases p with
    | mk z w =>
      rw [put_cons]
      by_cases hz : (z == x) = true
      · rw [if_pos hz]; exact Nat.le_refl _
      · rw [if_neg hz]; exact Nat.succ_le_succ ih

theorem osa_own {R : Result → Shared → Prop} {K : Frag} {C x dx : Addr} {es : List DictEntry} {n : Nat} {name : Str} {tk : Tok} {v : Value} (X : K.In s.heap) (hx : s.heap.get? x = some (instObj C dx)) (hd : s.heap.get? dx = some (dctO es n))
    (hp : plainOver K C = true) (ht : takerIn K C name = some .none) (hh : (clsIn K C).any (·.hasDict) = true) (hl : (getL name es).isSome = true) (hz : es.length ≤ 900)
    (h : R (.ok (.ret .none)) { s with heap := s.heap.update dx (Obj.putName name (PyData.keyHash c.w.params name) (.str name s.toks) v), toks := s.toks + 1 }) :
    codeAny c.M A (.call (.builtin "object.__setattr__") ⟨[.ref x, .str name tk, v], []⟩) R s := by
  refine osa_open X (instAt_of hx hd) hp ht fun b => ?_
  refine k12 (any_some hh) fun cd hc hd' => ?_
  have e : Obj.putName name (PyData.keyHash c.w.params name) (.str name s.toks) v (dctO es n) = dctO (putL name (PyData.keyHash c.w.params name) (.str name s.toks) v es) (putN name es n) := putName_dict ..
  have D' : (s.heap.update dx (Obj.putName name (PyData.keyHash c.w.params name) (.str name s.toks) v)).get? dx = some (dctO (putL name (PyData.keyHash c.w.params name) (.str name s.toks) v es) (putN name es n)) := by
    rw [Heap.get?_update_self _ hd (by rw [e]; rfl), e]
  refine wpAny_bind (wpAny_pure (wpAny_bind (wpAny_bind (wpAny_loadPart hx (wpAny_bind ((looks_clsIn X hc).here ?_))))))
  rw [hd']
  refine wpAny_pure (a := some dx) (wpAny_bind (wpAny_pure (wpAny_bind ?_)))
  unfold nsSet
  refine wpAny_bind (wpAny_bind (wpAny_askSetting (wpAny_pure (wpAny_bind (wpAny_mkText (wpAny_bind (wpAny_loadPart hd ?_)))))))
  have cnd : (!es.toArray.any (·.key.isStr name) && es.toArray.any (·.refKey)) = false := by
    rw [← Array.any_toList, ← Array.any_toList]
    rcases getL_i hl with z | ⟨z, _⟩
    · rw [z]; rfl
    · rw [z, Bool.and_false]
  dsimp only [dctO]
  rw [aRefKeyMayBeTheName_at, cnd]
  refine wpAny_updatePart hd ?_
  refine wpAny_bind (wpAny_lookBehind D' (pastItsLine_dict (by rw [List.size_toArray, sizeLine_eq]; have := putL_len name (PyData.keyHash c.w.params name) (.str name s.toks) v es; omega)) ?_)
  exact wpAny_pure h

theorem setAttr_sound (HC : c.ClsOk) {i x : Nat} {C : Addr} {fs : List (Nat × V)} {name : Str} {ua uv : Value} (R : c.R r σ s.heap) (hi : σ[i]? = some (.inst C fs)) (xa : c.V r s.heap (.ref i) ua) (xv : c.V r s.heap v uv) (hx : c.t.ids[x]? = some name)
    (huniq : ∀ i, c.t.ids[i]? = some name → i = x) (hf : hasFld c.Γ C x = true) (hl : fs.length ≤ 100) {Q : Unit → Shared → Prop}
    (h : ∀ h' tk, c.R r (σ.set i (.inst C (put x v fs))) h' → Step r s.heap r h' → Q () { s with heap := h', toks := tk }) : wpAny c.M A (setAttr ua name uv) Q E' s := by
  refine k12 (any_i hf) fun k hk hf => ?_
  have F := HC C k hk
  refine k13 (F.fl x hf) fun y hy _ htk => ?_
  rw [hx] at hy; (refine si hy fun q25 => ?_; subst q25; clear hy)
  obtain ⟨a, d, es, n, rfl, hp, hne, h1, h2, hle, hnr, hv, hn⟩ := R.instAt hi xa
  have X := c.X.keeps R.base
  have hsome : (getL name es).isSome = true := by
    cases q : look x fs with
    | none => rw [hn x name hx q]; rfl
    | some w => obtain ⟨u, hu, _⟩ := hv x name w hx q; rw [hu]; rfl
  refine set_plain X (instAt_of h1 h2) F.sa (osa_own (s := { s with toks := s.toks + 1 }) X h1 h2 F.po htk F.hd hsome (by omega) ?_)
  dsimp only
  have e : ∀ tk, Obj.putName name (PyData.keyHash c.w.params name) (.str name tk) uv (dctO es n) = dctO (putL name (PyData.keyHash c.w.params name) (.str name tk) uv es) (putN name es n) := fun tk => putName_dict ..
  obtain ⟨R', S'⟩ := R.upd (h' := s.heap.update d (Obj.putName name (PyData.keyHash c.w.params name) (.str name (s.toks + 1)) uv)) (o := .inst C (put x v fs)) hp (fun b ob eb n1 n2 => by
    rw [Heap.get?_update_other _ _ (Ne.symm n2)]; exact eb) (fun b ob eb => by
    by_cases q : b = d
    · subst q; rw [eb] at h2; (refine si h2 fun q27 => ?_; subst q27; clear h2); exact ⟨_, by rw [Heap.get?_update_self _ eb (by rw [e]; rfl)]⟩
    · exact ⟨ob, by rw [Heap.get?_update_other _ _ (Ne.symm q)]; exact eb⟩) fun M => by
    refine .inst C _ a d (putL name (PyData.keyHash c.w.params name) (.str name (s.toks + 1)) uv es) (putN name es n) hne (by rw [Heap.get?_update_other _ _ (Ne.symm hne)]; exact h1) (by rw [Heap.get?_update_self _ h2 (by rw [e]; rfl), e]) ?_ (putL_noRef _ _ _ _ _ hnr) ?_ ?_
    · cases q : look x fs with
      | none => rw [put_len fs q]; have := putL_len name (PyData.keyHash c.w.params name) (.str name (s.toks + 1)) uv es; omega
      | some w =>
        refine k12 (hv x name w hx q) fun u hu _ => ?_
        rw [putL_len_in _ _ _ _ _ (any_of_getL hu)]
        have := put_len_ge (x := x) (v := v) fs; omega
    · intro j y w ej ew
      rw [getL_put _ _ _ _ _ _ hnr]
      rw [look_put] at ew
      by_cases hj : j = x
      · subst hj
        rw [hx] at ej; (refine si ej fun q29 => ?_; subst q29; clear ej)
        rw [if_pos rfl] at ew ⊢; (refine si ew fun q31 => ?_; subst q31; clear ew)
        exact ⟨uv, rfl, xv.mv M⟩
      · have hy : ¬ y = name := fun q => hj (huniq j (q ▸ ej))
        rw [if_neg hj] at ew
        rw [if_neg hy]
        refine k12 (hv j y w ej ew) fun u hu hr => ?_
        exact ⟨u, hu, hr.mv M⟩
    · intro j y ej ew
      rw [getL_put _ _ _ _ _ _ hnr]
      rw [look_put] at ew
      by_cases hj : j = x
      · subst hj; rw [if_pos rfl] at ew; exact sn ew
      · have hy : ¬ y = name := fun q => hj (huniq j (q ▸ ej))
        rw [if_neg hj] at ew
        rw [if_neg hy]
        exact hn j y ej ew
  exact h _ _ R' S'
end
end MI
end TMS8
section TMS9
open PySem PySem.Spec PySem.Calls PyProof.Rows PySem.W
set_option linter.unusedVariables false
namespace MI

noncomputable def isStar (e : Expr) : Bool := Nat.beq e.ctorIdx 22
theorem un_star (a : AE) : isStar a.un = false := by cases a <;> rfl
theorem starEach_un (a : AE) (rest : List Expr) (env : Env) : starEach (a.un :: rest) env = (false, eval a.un env) :: starEach rest env := by
  have h := un_star a
  revert h
  generalize a.un = e
  intro h
  cases e <;> first | rfl | exact tf h
theorem star_un {env : Env} : ∀ as : List AE, (starEach (unL as) env).all (fun p => !p.1) = true
  | [] => rfl
  | a :: r => by
    show (starEach (a.un :: unL r) env).all _ = true
    rw [starEach_un]; exact star_un r
theorem TrL.star {t : Tx} {sc : Scope} {env : Env} {es : List Expr} {us : List E} (h : TrL t sc es us) : (starEach es env).all (fun p => !p.1) = true := by
  refine k13 h fun as q1 _ _ => ?_; clear h; subst q1
  exact star_un as
theorem backTo_all {p : Pos} {l : List (Bool × Sem Value)} : (backTo p l).all (fun q => !q.1) = l.all fun q => !q.1 := by
  unfold backTo; rw [List.all_map]; rfl

section
variable {c : Cx} {A : Around} {E' : Value → Shared → Prop} {s : Shared} {sc : Scope} {env : Env} {r : Rh} {σ σ' σ₁ : H} {vars : Vars} {v : V} {ev : Ev}

theorem all_i {e₁ : E} {r : List E} {vs : List V} {σ σ' : H} (e : evAll ev (e₁ :: r) vars σ = some (vs, σ')) : ∃ v σ₁ ws, ev e₁ vars σ = some (v, σ₁) ∧ evAll ev r vars σ₁ = some (ws, σ') ∧ vs = v :: ws := by
  replace e : (match ev e₁ vars σ with
    | some (v, σ') => match evAll ev r vars σ' with
      | some (vs, σ'') => some (v :: vs, σ'')
      | .none => .none
    | .none => .none) = some (vs, σ') := e
  refine k22 (vh_i e) fun v σ₁ e1 e => ?_
  refine k22 (vs_i e) fun ws σ₂ e2 e => ?_
  refine sp e fun q1 q2 => ?_; subst q2
  exact ⟨v, σ₁, ws, e1, e2, q1.symm⟩
theorem evAll_un (ih : EvOk c A ev) {p : Pos} : ∀ (as : List AE), okL c.t sc as = true → ∀ {r : Rh} {σ σ' : H} {s : Shared} {vs : List V} {Q : List Value → Shared → Prop}, EnvOk c sc env r.pv → VarsOk c sc env r s.heap vars → c.R r σ s.heap →
    evAll ev (erL as) vars σ = some (vs, σ') → (∀ items r' h' tk, c.R r' σ' h' → Step r s.heap r' h' → VRs c.w.params r' h' vs items → Q items { s with heap := h', toks := tk }) → wpAny c.M A (spliced (backTo p (starEach (unL as) env))) Q E' s := by
  intro as
  induction as with
  | nil => exact fun _ {r σ σ' s vs Q} eo vo R e O => by (refine sp e fun q10 q11 => ?_; subst q10; subst q11; clear e); exact wpAny_items_nil (O [] r s.heap s.toks R (Step.refl _ _) .nil)
  | cons a rest ih' =>
    intro h r σ σ' s vs Q eo vo R e O
    refine k02 (and_i h) fun h hr => ?_
    refine k33 (all_i e) fun v σ₁ ws e1 e2 q2 => ?_; subst q2
    refine wpAny_items_cons ?_ (starEach_un a _ env)
    refine ih (.mk h) eo vo R e1 fun u r₁ h₁ tk₁ R₁ S₁ x₁ => ?_
    refine ih' hr (eo.step S₁) (vo.step eo R S₁) R₁ e2 fun items r₂ h₂ tk₂ R₂ S₂ x₂ => ?_
    exact O (u :: items) r₂ h₂ tk₂ R₂ (S₁.trans S₂) (.cons (x₁.step S₂) x₂)
theorem evAll_sound (ih : EvOk c A ev) {p : Pos} {es : List Expr} {us : List E} (tr : TrL c.t sc es us) {r : Rh} {σ σ' : H} {s : Shared} {vs : List V} {Q : List Value → Shared → Prop} (eo : EnvOk c sc env r.pv) (vo : VarsOk c sc env r s.heap vars) (R : c.R r σ s.heap)
    (e : evAll ev us vars σ = some (vs, σ')) (O : ∀ items r' h' tk, c.R r' σ' h' → Step r s.heap r' h' → VRs c.w.params r' h' vs items → Q items { s with heap := h', toks := tk }) : wpAny c.M A (spliced (backTo p (starEach es env))) Q E' s := by
  refine k13 tr fun as q3 q4 h => ?_; clear tr; subst q3; subst q4
  exact evAll_un ih as h eo vo R e O

inductive KwR (c : Cx) (r : Rh) (h : Heap) : List (Nat × V) → List (Str × Value) → Prop
  | nil : KwR c r h [] []
  | cons {i x v u ks us} : c.t.ids[i]? = some x → c.V r h v u → KwR c r h ks us → KwR c r h ((i, v) :: ks) ((x, u) :: us)
theorem KwR.step {r r' : Rh} {h h' : Heap} (S : Step r h r' h') {ks : List (Nat × V)} {us : List (Str × Value)} (k : KwR c r h ks us) : KwR c r' h' ks us := by
  induction k with
  | nil => exact .nil
  | cons a b _ ih => exact .cons a (b.step S) ih

theorem kw_all {p : Pos} {l : List (Option Str × Sem Value)} : (backToKw p l).all (·.1.isSome) = l.all (·.1.isSome) := by unfold backToKw; rw [List.all_map]; rfl
theorem kw_any {p : Pos} {l : List (Option Str × Sem Value)} : (backToKw p l).any (·.1.isNone) = l.any (·.1.isNone) := by unfold backToKw; rw [List.any_map]; rfl
theorem names_un {env : Env} : ∀ ks : List AK, (keywordEach (unK ks) env).all (·.1.isSome) = true ∧ (keywordEach (unK ks) env).any (·.1.isNone) = false
  | [] => ⟨rfl, rfl⟩
  | .mk _ _ _ _ :: r => names_un r
theorem TrK.names {t : Tx} {sc : Scope} {env : Env} {p : Pos} {ks : List Keyword} {us : List (Nat × E)} (h : TrK t sc ks us) : (backToKw p (keywordEach ks env)).all (·.1.isSome) = true ∧ (backToKw p (keywordEach ks env)).any (·.1.isNone) = false := by
  refine k13 h fun as q5 _ _ => ?_; clear h; subst q5
  exact ⟨kw_all.trans (names_un as).1, kw_any.trans (names_un as).2⟩
theorem kw_i {i : Nat} {e₁ : E} {r : List (Nat × E)} {vs : List (Nat × V)} {σ σ' : H} (e : evKw ev ((i, e₁) :: r) vars σ = some (vs, σ')) : ∃ v σ₁ ws, ev e₁ vars σ = some (v, σ₁) ∧ evKw ev r vars σ₁ = some (ws, σ') ∧ vs = (i, v) :: ws := by
  replace e : (match ev e₁ vars σ with
    | some (v, σ') => match evKw ev r vars σ' with
      | some (vs, σ'') => some ((i, v) :: vs, σ'')
      | .none => .none
    | .none => .none) = some (vs, σ') := e
  refine k22 (vh_i e) fun v σ₁ e1 e => ?_
  refine k22 (kv_i e) fun ws σ₂ e2 e => ?_
  refine sp e fun q1 q2 => ?_; subst q2
  exact ⟨v, σ₁, ws, e1, e2, q1.symm⟩
theorem evKw_un (ih : EvOk c A ev) {p : Pos} : ∀ (ks : List AK), okK c.t sc ks = true → ∀ {r : Rh} {σ σ' : H} {s : Shared} {vs : List (Nat × V)} {Q : List Value → Shared → Prop}, EnvOk c sc env r.pv → VarsOk c sc env r s.heap vars → c.R r σ s.heap →
    evKw ev (erK ks) vars σ = some (vs, σ') → (∀ items r' h' tk, c.R r' σ' h' → Step r s.heap r' h' → KwR c r' h' vs (((backToKw p (keywordEach (unK ks) env)).filterMap (·.1)).zip items) → Q items { s with heap := h', toks := tk }) →
    wpAny c.M A (evalAll ((backToKw p (keywordEach (unK ks) env)).map (·.2))) Q E' s := by
  intro ks
  induction ks with
  | nil => exact fun _ {r σ σ' s vs Q} eo vo R e O => by (refine sp e fun q22 q23 => ?_; subst q22; subst q23; clear e); exact wpAny_pure (O [] r s.heap s.toks R (Step.refl _ _) .nil)
  | cons k rest ih' =>
   intro h r σ σ' s vs Q eo vo R e O
   cases k with
   | mk x i a q =>
    refine k02 (and_i h) fun h hr => ?_
    refine k02 (and_i h) fun hi h => ?_
    refine k33 (kw_i e) fun v σ₁ ws e1 e2 q6 => ?_; subst q6
    show wpAny _ _ (evalAll ((do let v ← eval a.un env; standAt p; pure v) :: (backToKw p (keywordEach (unK rest) env)).map (·.2))) _ _ _
    unfold evalAll
    refine wpAny_bind (wpAny_bind (ih (.mk h) eo vo R e1 fun u r₁ h₁ tk₁ R₁ S₁ x₁ => wpAny_bind (wpAny_standAt (wpAny_pure ?_))))
    refine wpAny_bind (wpAny_holding ?_)
    refine ih' hr (eo.step S₁) (vo.step eo R S₁) R₁ e2 fun items r₂ h₂ tk₂ R₂ S₂ x₂ => wpAny_pure ?_
    exact O (u :: items) r₂ h₂ tk₂ R₂ (S₁.trans S₂) (.cons (Tx.id_get (of_decide_eq_true hi)) (x₁.step S₂) x₂)
theorem evKw_sound (ih : EvOk c A ev) {p : Pos} {ks : List Keyword} {us : List (Nat × E)} (tr : TrK c.t sc ks us) {r : Rh} {σ σ' : H} {s : Shared} {vs : List (Nat × V)} {Q : List Value → Shared → Prop} (eo : EnvOk c sc env r.pv) (vo : VarsOk c sc env r s.heap vars) (R : c.R r σ s.heap)
    (e : evKw ev us vars σ = some (vs, σ')) (O : ∀ items r' h' tk, c.R r' σ' h' → Step r s.heap r' h' → KwR c r' h' vs (((backToKw p (keywordEach ks env)).filterMap (·.1)).zip items) → Q items { s with heap := h', toks := tk }) :
    wpAny c.M A (evalAll ((backToKw p (keywordEach ks env)).map (·.2))) Q E' s := by
  refine k13 tr fun as q7 q8 h => ?_; clear tr; subst q7; subst q8
  exact evKw_un ih as h eo vo R e O

/-- the arguments -/
theorem args_sound (ih : EvOk c A ev) {p : Pos} {f : Value} {es : List Expr} {us : List E} {ks : List Keyword} {kus : List (Nat × E)} (ha : TrL c.t sc es us) (hk : TrK c.t sc ks kus) {r : Rh} {σ σ₁ σ' : H} {s : Shared} {vs : List V} {kvs : List (Nat × V)}
    {Q : Args → Shared → Prop} (eo : EnvOk c sc env r.pv) (vo : VarsOk c sc env r s.heap vars) (R : c.R r σ s.heap) (e1 : evAll ev us vars σ = some (vs, σ₁)) (e2 : evKw ev kus vars σ₁ = some (kvs, σ'))
    (O : ∀ items kitems r' h' tk, c.R r' σ' h' → Step r s.heap r' h' → VRs c.w.params r' h' vs items → KwR c r' h' kvs kitems → Q ⟨items, kitems⟩ { s with heap := h', toks := tk }) :
    wpAny c.M A (evalArgs f true (backTo p (starEach es env)) (backToKw p (keywordEach ks env))) Q E' s := by
  have hall := (hk.names (env := env) (p := p)).1
  refine k13 ha fun as q9 q10 ho => ?_; clear ha; subst q9; subst q10
  cases as with
  | nil =>
    (refine sp e1 fun q29 q30 => ?_; subst q29; subst q30; clear e1)
    refine evalArgs_kw2_nil hall ?_
    exact evKw_sound ih hk eo vo R e2 fun kit r₂ h₂ tk₂ R₂ S₂ x₂ => O [] _ r₂ h₂ tk₂ R₂ S₂ .nil x₂
  | cons a rest =>
    refine evalArgs_kw2 hall ?_ (starEach_un a _ env)
    refine evAll_sound ih (.mk ho) eo vo R e1 fun items r₁ h₁ tk₁ R₁ S₁ x₁ => ?_
    exact evKw_sound ih hk (eo.step S₁) (vo.step eo R S₁) R₁ e2 fun kit r₂ h₂ tk₂ R₂ S₂ x₂ => O items _ r₂ h₂ tk₂ R₂ (S₁.trans S₂) (x₁.step S₂) x₂
end
end MI
end TMS9
section TMS10
open PySem PySem.Spec PySem.Calls PyProof.Rows PySem.W
set_option linter.unusedVariables false
namespace MI
theorem attributeBase_whole {o : Expr} {x : Str} {env : Env} {m : Sem Value} (hn : isNameCall o = false) : attributeBase o x env m = m := by
  cases o with
  | Call f as ks p => cases f with
    | Name => cases as with
      | nil => cases ks with
        | nil => exact tf hn
        | cons => rfl
      | cons => rfl
    | _ => rfl
  | _ => rfl

noncomputable def KeepF (c : Cx) (f : Value) : Prop := ∀ h : Heap, (∀ b o, c.h₀.get? b = some o → h.get? b = some o) → ∃ k, (k = Keeper.frame ∨ k = Keeper.machine ∨ k = Keeper.boundFrame) ∧ Looks c.M h (keeperOf f) k
theorem KeepF.fn {c : Cx} {f : Value} (h : keepIn c.K f = true) : KeepF c f := fun _ b => keeps_K h _ (c.X.keeps b)
theorem KeepF.builtin {c : Cx} {id : String} : KeepF c (.builtin id) := fun _ _ => ⟨.machine, .inr (.inl rfl), Looks.of_pure rfl⟩
theorem KeepF.type {c : Cx} {T : String} : KeepF c (.type T) := fun _ _ => ⟨.machine, .inr (.inl rfl), Looks.of_pure rfl⟩

section
variable {c : Cx} {A : Around} {E' : Value → Shared → Prop} {s : Shared} {sc : Scope} {env : Env} {r : Rh} {σ σ' σ₁ : H} {vars : Vars} {v : V} {ev : Ev}

theorem callWith_sound (ih : EvOk c A ev) {p : Pos} {f : Value} {first : List Value} (kf : KeepF c f) {es : List Expr} {us : List E} {ks : List Keyword} {kus : List (Nat × E)} (ha : TrL c.t sc es us) (hk : TrK c.t sc ks kus) {r : Rh} {σ σ₁ σ' : H} {s : Shared} {vs : List V} {kvs : List (Nat × V)}
    {Q : Value → Shared → Prop} (eo : EnvOk c sc env r.pv) (vo : VarsOk c sc env r s.heap vars) (R : c.R r σ s.heap) (e1 : evAll ev us vars σ = some (vs, σ₁)) (e2 : evKw ev kus vars σ₁ = some (kvs, σ'))
    (O : ∀ items kitems r' h' tk, c.R r' σ' h' → Step r s.heap r' h' → VRs c.w.params r' h' vs items → KwR c r' h' kvs kitems → wpAny c.M A (call f (first ++ items) kitems) Q E' { s with heap := h', toks := tk }) :
    wpAny c.M A (callWith p f first (backTo p (starEach es env)) (backToKw p (keywordEach ks env))) Q E' s := by
  have hst := ha.star (env := env)
  rw [← backTo_all (p := p)] at hst
  have h1 : ((backTo p (starEach es env)).any fun x => x.1) = false := by
    rw [List.any_eq_false]; intro x hx
    have := List.all_eq_true.mp hst x hx
    simpa using this
  refine callWith_of (P := fun h => ∀ b o, c.h₀.get? b = some o → h.get? b = some o) (by rw [h1, (hk.names (env := env) (p := p)).2]; rfl) kf ?_
  refine args_sound ih ha hk eo vo R e1 e2 fun items kit r' h' tk R' S' x y => ⟨R'.base, O items kit r' h' tk R' S' x y⟩

theorem getMethod_call {o : Expr} {x : Str} {q p : Pos} {es : List Expr} {ks : List Keyword} {us : List E} {kus : List (Nat × E)} {Q : Value → Shared → Prop} (hq : q.endLine = p.line) (hn : isNameCall o = false) (hl : es.length + ks.length ≤ 20) (ha : TrL c.t sc es us) (hk : TrK c.t sc ks kus)
    (h : wpAny c.M A (eval o env) (fun ov s₁ => wpAny c.M A (getMethod ov x (do return (← importBound o env).getD true)) (fun fx s₂ => wpAny c.M A (callWith p fx.1 fx.2 (backTo p (starEach es env)) (backToKw p (keywordEach ks env))) Q E' s₂) E' s₁) E' s) :
    wpAny c.M A (eval (.Call (.Attribute o x q) es ks p) env) Q E' s := by
  have hb : attributeBase o x env (eval o env) = eval o env := attributeBase_whole hn
  show wpAny _ _ (do
    let ov ← attributeBase o x env (eval o env)
    standAt q.atName
    methodCall o x q p env ov (es.length + ks.length) (backTo p (starEach es env)) (backToKw p (keywordEach ks env))) _ _ _
  rw [hb]
  refine wpAny_bind (wpAny_mono h (fun ov s₁ h₁ => wpAny_bind (wpAny_standAt ?_)) fun _ _ x => x)
  have hst := ha.star (env := env)
  rw [← backTo_all (p := p)] at hst
  have few : methodCallForm (es.length + ks.length) (backTo p (starEach es env)) (backToKw p (keywordEach ks env)) = true := by
    unfold methodCallForm
    rw [hst, (hk.names (env := env) (p := p)).1]
    simp only [Bool.true_and, decide_eq_true_eq]
    split <;> omega
  have hpos : methodCallPos true o env q p = pure p := by unfold methodCallPos; simp [hq]
  unfold methodCall calleeOf
  rw [few, hpos]
  refine wpAny_bind (wpAny_holding (wpAny_mono h₁ (fun fx s₂ h₂ => ?_) fun _ _ x => x))
  exact wpAny_bind (wpAny_pure h₂)
end
end MI
end TMS10
section TMS11
open PySem PySem.Spec PySem.Calls PyProof.Rows PySem.W
set_option linter.unusedVariables false
namespace MI

section
variable {c : Cx} {A : Around} {E' : Value → Shared → Prop} {s : Shared} {sc : Scope} {env : Env} {r : Rh} {σ σ' σ₁ : H} {vars : Vars} {v : V} {ev : Ev}

theorem OutB.after {r r' : Rh} {s : Shared} {h' : Heap} {tk : Nat} {σ' : H} {b : Bool} {Q : Bool → Shared → Prop} (O : OutB c r s σ' b Q) (S : Step r s.heap r' h') : OutB c r' { s with heap := h', toks := tk } σ' b Q :=
  fun r'' h'' tk' R'' S'' => O r'' h'' tk' R'' (S.trans S'')

theorem un_marks (a : AE) (op : CmpOp) : behindInMarks op a.un = false := by cases a <;> rfl
/-- no truth value of its own -/
noncomputable def plainA : AE → Bool
  | .not .. => false
  | .and .. => false
  | .or .. => false
  | .ite .. => false
  | .cmp .. => false
  | _ => true
theorem isTrue_un {a : AE} {env : Env} {whole : Sem Value} (h : plainA a = true) : isTrue a.un env whole = (do let v ← whole; standAt a.un.pos; holding [v] (PySem.truthy v)) := by
  cases a <;> first | rfl | (cases h; done) | skip
theorem evB_plain {ev : Ev} {a : AE} (h : plainA a = true) : evB ev a.er vars σ = (match ev a.er vars σ with | some (v, σ') => (truthy v).map (·, σ') | .none => .none) := by
  cases a <;> first | rfl | exact ft h
theorem tr_i {v : V} {b : Bool} (e : (truthy v).map (·, σ) = some (b, σ')) : truthy v = some b ∧ σ' = σ := by
  refine k12 (Option.map_eq_some_iff.mp e) fun x h e => ?_
  cases e
  exact ⟨h, rfl⟩

theorem compare_sound (ih : EvOk c A ev) (HT : c.TabOk) (hu : A.units + 100 < cLine) {a b : Expr} {a' b' : E} {op : CmpOp} {o : Cop} (ho : trCop op = some o) (ta : Tr c.t sc a a') (tb : Tr c.t sc b b') (eo : EnvOk c sc env r.pv) (vo : VarsOk c sc env r s.heap vars) (R : c.R r σ s.heap)
    {x y : V} {σ₂ : H} (e1 : ev a' vars σ = some (x, σ₁)) (e2 : ev b' vars σ₁ = some (y, σ₂)) {z : Bool} (e3 : cmpop c.Γ o x y σ₂ = some z) {Q : Value → Shared → Prop}
    (O : ∀ r' h' tk, c.R r' σ₂ h' → Step r s.heap r' h' → Q (.bool z) { s with heap := h', toks := tk }) :
    wpAny c.M A (eval a env) (fun ua s₁ => wpAny c.M A (eval b env) (fun ub s₂ => wpAny c.M A (compareOp op ua ub) Q E' s₂) E' s₁) E' s :=
  seq2 ih ta tb eo vo R e1 e2 fun ua ub r' h' tk R' S' xa xb => sound_cmp (s := { s with heap := h', toks := tk }) HT R' hu ho xa xb e3 fun tk' => O r' h' tk' R' S'

theorem cmp_inv {op : Cop} {a b : E} {Γ : G} {cf : Cf} {n : Nat} {vars : Vars} {σ σ' : H} {v : V} (e : MI.ev Γ cf (n + 1) (.cmp op a b) vars σ = some (v, σ')) : ∃ x y z σ₁, MI.ev Γ cf n a vars σ = some (x, σ₁) ∧ MI.ev Γ cf n b vars σ₁ = some (y, σ') ∧ cmpop Γ op x y σ' = some z ∧ v = .bool z := by
  refine k22 (vh_i (o := MI.ev Γ cf n a vars σ) (f := fun x σ => match MI.ev Γ cf n b vars σ with | some (y, σ) => (cmpop Γ op x y σ).map fun b => (V.bool b, σ) | .none => .none) e) fun x σ₁ e1 e => ?_
  refine k22 (vh_i (o := MI.ev Γ cf n b vars σ₁) (f := fun y σ => (cmpop Γ op x y σ).map fun b => (V.bool b, σ)) e) fun y σ₂ e2 e => ?_
  refine k12 (Option.map_eq_some_iff.mp e) fun z hz e => ?_
  cases e
  exact ⟨x, y, z, σ₁, e1, e2, hz, rfl⟩

/-- the truth of an expression -/
noncomputable def BOk (c : Cx) (A : Around) (sc : Scope) (env : Env) (ev : Ev) (e : Expr) (u : E) : Prop := ∀ ⦃vars : Vars⦄ ⦃r : Rh⦄ ⦃σ σ' : H⦄ ⦃s : Shared⦄ ⦃b : Bool⦄ ⦃Q : Bool → Shared → Prop⦄ ⦃E' : Value → Shared → Prop⦄, EnvOk c sc env r.pv → VarsOk c sc env r s.heap vars → c.R r σ s.heap →
    evB ev u vars σ = some (b, σ') → OutB c r s σ' b Q → wpAny c.M A (isTrue e env (eval e env)) Q E' s
theorem evB_one (ih : EvOk c A ev) {a : AE} (h : a.ok c.t sc = true) (hp : plainA a = true) : BOk c A sc env ev a.un a.er := by
  intro vars r σ σ' s b Q E' eo vo R eq O
  refine k22 (vh_i (o := ev a.er vars σ) (f := fun v σ' => (truthy v).map (·, σ')) ((evB_plain hp).symm.trans eq)) fun v σ₁ e1 e => ?_
  refine k02 (tr_i e) fun hb q1 => ?_; subst q1
  exact wpAny_isTrue_value (ih (.mk h) eo vo R e1 fun u r' h' tk R' S' x => truthy_sound x hb (O r' h' tk R' S')) (isTrue_un hp)
theorem evB_un {n : Nat} {cf : Cf} (HT : c.TabOk) (hu : A.units + 100 < cLine) (ih0 : ∀ m, m < n → EvOk c A (MI.ev c.Γ cf m)) (ih : EvOk c A (MI.ev c.Γ cf n)) : ∀ (a : AE), a.ok c.t sc = true → BOk c A sc env (MI.ev c.Γ cf n) a.un a.er
  | .not a p, h => by
    intro vars r σ σ' s b Q E' eo vo R eq O
    refine k22 (bb_i (o := evB (MI.ev c.Γ cf n) a.er vars σ) (f := fun b σ' => some (!b, σ')) eq) fun b' σ₁ e1 e => ?_
    (refine sp e fun q12 q13 => ?_; subst q12; subst q13; clear e)
    exact wpAny_isTrue_Not (evB_un HT hu ih0 ih a h eo vo R e1 O)
  | .and a d p, h => by
    intro vars r σ σ' s b Q E' eo vo R eq O
    refine k02 (and_i h) fun h1 h2 => ?_
    refine k22 (bb_i (o := evB (MI.ev c.Γ cf n) a.er vars σ) (f := fun x σ' => match x with | true => evB (MI.ev c.Γ cf n) d.er vars σ' | false => some (false, σ')) eq) fun x σ₁ e1 e => ?_
    refine wpAny_isTrue_BoolOp (wpAny_allTrue_And_cons ?_)
    refine evB_un HT hu ih0 ih a h1 eo vo R e1 fun r' h' tk R' S' => ?_
    cases x with
    | true =>
      refine (if_pos rfl).mpr ?_
      refine wpAny_allTrue_And_cons ?_
      refine evB_un HT hu ih0 ih d h2 (eo.step S') (vo.step eo R S') R' e fun r'' h'' tk'' R'' S'' => ?_
      have q := O r'' h'' tk'' R'' (S'.trans S'')
      cases b with
      | true => exact wpAny_allTrue_And_nil q
      | false => exact q
    | false =>
      (refine sp e fun q14 q15 => ?_; subst q14; subst q15; clear e)
      exact O r' h' tk R' S'
  | .or a d p, h => by
    intro vars r σ σ' s b Q E' eo vo R eq O
    refine k02 (and_i h) fun h1 h2 => ?_
    refine k22 (bb_i (o := evB (MI.ev c.Γ cf n) a.er vars σ) (f := fun x σ' => match x with | true => some (true, σ') | false => evB (MI.ev c.Γ cf n) d.er vars σ') eq) fun x σ₁ e1 e => ?_
    refine wpAny_isTrue_BoolOp (wpAny_allTrue_Or_cons ?_)
    refine evB_un HT hu ih0 ih a h1 eo vo R e1 fun r' h' tk R' S' => ?_
    cases x with
    | true =>
      (refine sp e fun q16 q17 => ?_; subst q16; subst q17; clear e)
      exact O r' h' tk R' S'
    | false =>
      refine wpAny_allTrue_Or_cons ?_
      refine evB_un HT hu ih0 ih d h2 (eo.step S') (vo.step eo R S') R' e fun r'' h'' tk'' R'' S'' => ?_
      have q := O r'' h'' tk'' R'' (S'.trans S'')
      cases b with
      | true => exact q
      | false => exact wpAny_allTrue_Or_nil q
  | .ite t a d p, h => by
    intro vars r σ σ' s b Q E' eo vo R eq O
    refine k02 (and_i h) fun h0 h => ?_
    refine k02 (and_i h) fun h1 h2 => ?_
    refine k22 (bb_i (o := evB (MI.ev c.Γ cf n) t.er vars σ) (f := fun x σ' => match x with | true => evB (MI.ev c.Γ cf n) a.er vars σ' | false => evB (MI.ev c.Γ cf n) d.er vars σ') eq) fun x σ₁ e1 e => ?_
    refine isTrue_IfExp ?_
    refine evB_un HT hu ih0 ih t h0 eo vo R e1 fun r' h' tk R' S' => ?_
    cases x with
    | true => exact evB_un HT hu ih0 ih a h1 (eo.step S') (vo.step eo R S') R' e (O.after S')
    | false => exact evB_un HT hu ih0 ih d h2 (eo.step S') (vo.step eo R S') R' e (O.after S')
  | .cmp op o a d p, h => by
    intro vars r σ σ' s b Q E' eo vo R eq O
    refine k02 (and_i h) fun ho h => ?_
    refine k02 (and_i h) fun h1 h2 => ?_
    refine k22 (vh_i (o := MI.ev c.Γ cf n (.cmp o a.er d.er) vars σ) (f := fun v σ' => (truthy v).map (·, σ')) eq) fun v σ₁ e1 e => ?_
    refine k02 (tr_i e) fun hb q2 => ?_; subst q2
    cases n with
    | zero => exact ns e1
    | succ n =>
      refine k44 (cmp_inv e1) fun x y z σ₂ f1 f2 f3 q3 => ?_; subst q3
      (refine si hb fun q22 => ?_; subst q22; clear hb)
      refine wpAny_isTrue_Compare1 (compare_sound (ih0 n (Nat.lt_succ_self n)) HT hu (of_decide_eq_true ho) (.mk h1) (.mk h2) eo vo R f1 f2 f3 fun r' h' tk R' S' => ?_) (un_marks d _)
      exact wpAny_truthy_bool (O r' h' tk R' S')
  | .cst .., h => evB_one ih h rfl
  | .dbg .., h => evB_one ih h rfl
  | .glob .., h => evB_one ih h rfl
  | .clsA .., h => evB_one ih h rfl
  | .var .., h => evB_one ih h rfl
  | .bin .., h => evB_one ih h rfl
  | .neg .., h => evB_one ih h rfl
  | .list .., h => evB_one ih h rfl
  | .tup .., h => evB_one ih h rfl
  | .slice .., h => evB_one ih h rfl
  | .sub .., h => evB_one ih h rfl
  | .attr .., h => evB_one ih h rfl
  | .callM .., h => evB_one ih h rfl
  | .call .., h => evB_one ih h rfl
  | .listZip .., h => evB_one ih h rfl
  | .comp .., h => evB_one ih h rfl
theorem evB_sound {n : Nat} {cf : Cf} (HT : c.TabOk) (hu : A.units + 100 < cLine) (ih0 : ∀ m, m < n → EvOk c A (MI.ev c.Γ cf m)) (ih : EvOk c A (MI.ev c.Γ cf n)) (u : E) {e : Expr} (tr : Tr c.t sc e u) {r : Rh} {σ σ' : H} {s : Shared} {b : Bool} {Q : Bool → Shared → Prop} (eo : EnvOk c sc env r.pv) (vo : VarsOk c sc env r s.heap vars) (R : c.R r σ s.heap)
    (eq : evB (MI.ev c.Γ cf n) u vars σ = some (b, σ')) (O : OutB c r s σ' b Q) : wpAny c.M A (isTrue e env (eval e env)) Q E' s := by
  refine k13 tr fun a q4 q5 h => ?_; clear tr; subst q4; subst q5
  exact evB_un HT hu ih0 ih a h eo vo R eq O
end
end MI
end TMS11
section TMS12
open PySem PySem.Spec PySem.Calls PyProof.Rows PySem.W
set_option linter.unusedVariables false
namespace MI

/-- room for n calls on top -/
structure FitsN (A : Around) (n : Nat) : Prop where
  hd : A.handled = .none
  dp : A.depth + 2 * n + 9 < recursionLimit
  un : A.units + 8 * n + 500 < cLine
/-- room for a body that calls n deep -/
structure FitsB (A : Around) (n : Nat) : Prop where
  hd : A.handled = .none
  dp : A.depth + 1 + 2 * n + 9 < recursionLimit
  un : A.units + 4 + 8 * n + 500 < cLine
theorem FitsB.n {A : Around} {n : Nat} (F : FitsB A n) : FitsN A n := ⟨F.hd, by have := F.dp; omega, by have := F.un; omega⟩
theorem FitsB.fits {A : Around} {n : Nat} (F : FitsB A n) : Fits A := ⟨F.hd, by have := F.un; omega, by have := F.dp; omega⟩
theorem FitsB.under {A : Around} {n : Nat} (F : FitsB A n) (C : Addr) (vals : List Value) : FitsN (A.under (.builtin "type.__call__" ⟨.ref C :: vals, []⟩)) n :=
  ⟨F.hd, by rw [depth_under_make]; have := F.dp; omega, by rw [units_under_make]; have := F.un; omega⟩
theorem FitsN.deeper {A : Around} {n : Nat} (F : FitsN A (n + 1)) (env : Env) : FitsB (A.deeper env) n :=
  ⟨F.hd, by rw [depth_deeper]; have := F.dp; omega, by rw [Around.deeper_units]; have := F.un; omega⟩

/-- functions of the text are what cf tells -/
structure CfOk (c : Cx) (n : Nat) (cf : Cf) : Prop where
  keep : ∀ f as ks σ x, cf f as ks σ = some x → keepIn c.K (.ref f) = true
  run : ∀ {A : Around} {f : Addr} {as : List V} {ks : List (Nat × V)} {σ σ' : H} {v : V} {r : Rh} {s : Shared} {us : List Value} {kus : List (Str × Value)} {Rr : Result → Shared → Prop}, FitsN A n →
    cf f as ks σ = some (v, σ') → c.R r σ s.heap → VRs c.w.params r s.heap as us → KwR c r s.heap ks kus →
    Out c r s σ' v (fun u s' => Rr (.ok (.ret u)) s') → codeAny c.M A (.call (.ref f) ⟨us, kus⟩) Rr s

/-- the builtins' calls -/
noncomputable def BiOk (c : Cx) (A : Around) : Prop := ∀ f as σ v σ', builtin f as σ = some (v, σ') → KeepF c f ∧ ∀ r s us, c.R r σ s.heap → VRs c.w.params r s.heap as us → ∀ Q E', Out c r s σ' v Q → wpAny c.M A (call f us []) Q E' s
/-- the builtins' methods -/
noncomputable def MeOk (c : Cx) (A : Around) (cf : Cf) : Prop := ∀ ov x name m u r σ s, methOf c.Γ ov x σ = some m → (∀ f self, m ≠ .fn f self) → c.t.ids[x]? = some name → c.R r σ s.heap → c.V r s.heap ov u →
  ∃ f first, KeepF c f ∧ (∀ Q E' pl, (∀ tk, Q (f, first) { s with toks := tk }) → wpAny c.M A (getMethod u name pl) Q E' s) ∧
    ∀ as ks r' σ₁ σ' s' v items kit, applyMeth c.Γ cf m as ks σ₁ = some (v, σ') → Step r s.heap r' s'.heap → c.R r' σ₁ s'.heap → VRs c.w.params r' s'.heap as items → KwR c r' s'.heap ks kit → ∀ Q E', Out c r' s' σ' v Q → wpAny c.M A (call f (first ++ items) kit) Q E' s'

/-- what a class' own attributes are -/
noncomputable def Cx.CatOk (c : Cx) : Prop := ∀ ad x v, c.t.clsAttr ad x = some v → ∃ mc u, readsIn c.K ad mc = true ∧ findCls c.K (.ref ad) mc x = some (.val u) ∧ handedIn u = true ∧ c.V ⟨[], []⟩ c.h₀ v u

section
variable {c : Cx} {A : Around} {E' : Value → Shared → Prop} {s : Shared} {sc : Scope} {env : Env} {r : Rh} {σ σ' σ₁ : H} {vars : Vars} {v : V} {ev : Ev} {n : Nat} {cf : Cf}

theorem make_sound (HC : c.ClsOk) (HF : CfOk c n cf) (hA : FitsB A n) {C : Addr} {k : Cls} (hk : c.Γ.clss.lookup C = some k) {as : List V} {us : List Value} (R : c.R r σ s.heap) (x : VRs c.w.params r s.heap as us) {σ' : H}
    (e : cf k.init (.ref σ.length :: as) [] (σ ++ [.inst C []]) = some (.none, σ')) {Q : Value → Shared → Prop} (O : Out c r s σ' (.ref σ.length) Q) : wpAny c.M A (call (.ref C) us []) Q E' s := by
  obtain ⟨h, g, d, t, os⟩ := s
  have F := HC C k hk
  have X := c.X.keeps R.base
  refine wpAny_call ?_
  refine make_core (makes_of X F.mks) (looks_findIn X F.ini.1) (fun self => bind_fn X self F.ini.2) (.inl rfl) ?_
  have no : ∀ i, h.objs.size ≤ i → h.get? i = .none := fun i hi => by
    cases q : h.get? i with
    | none => rfl
    | some o => exact absurd (Heap.lt_size q) (Nat.not_lt.mpr hi)
  have k1 : ∀ b o, h.get? b = some o → ((h.push emptyDict).push (instObj C h.objs.size)).get? b = some o := fun b o e => Heap.get?_push_of_some _ (Heap.get?_push_of_some _ e)
  have hx : ((h.push emptyDict).push (instObj C h.objs.size)).get? (h.objs.size + 1) = some (instObj C h.objs.size) := by heap_get
  have hd : ((h.push emptyDict).push (instObj C h.objs.size)).get? h.objs.size = some (dctO [] 0) := Heap.get?_push_of_some _ (Heap.get?_push_size _ rfl)
  obtain ⟨R', S'⟩ := R.push (p := (h.objs.size + 1, h.objs.size)) (o := .inst C []) k1 (no _ (Nat.le_succ _)) (no _ (Nat.le_refl _)) (.inst C [] _ _ [] 0 (Nat.succ_ne_self _) hx hd (Nat.le_refl _) rfl (fun i x v _ q => by cases q) (fun i x _ _ => rfl))
  have hob : (r.ob ++ [(h.objs.size + 1, h.objs.size)])[σ.length]? = some (h.objs.size + 1, h.objs.size) := by rw [← R.len, List.getElem?_append_right (Nat.le_refl _), Nat.sub_self]; rfl
  refine HF.run (s := ⟨(h.push emptyDict).push (instObj C h.objs.size), g, d, t, os⟩) (hA.under C us) e R' (.cons (.ref _ (h.objs.size + 1, h.objs.size) hob) (x.step S')) .nil fun u r₂ h₂ tk₂ R₂ S₂ x₂ => ?_
  have := x₂.none_inv
  subst this
  refine ⟨rfl, ?_⟩
  exact O _ r₂ h₂ tk₂ R₂ (S'.trans S₂) (.ref _ (h.objs.size + 1, h.objs.size) (S₂.at_ob hob))
end
end MI
end TMS12
section TMS13
open PySem PySem.Spec PySem.Calls PyProof.Rows PySem.W
set_option linter.unusedVariables false
namespace MI

section
variable {c : Cx} {A : Around} {E' : Value → Shared → Prop} {s : Shared} {sc : Scope} {env : Env} {r : Rh} {σ σ' σ₁ : H} {vars : Vars} {v : V} {ev : Ev} {n : Nat} {cf : Cf}

/-- a new tuple -/
theorem Out.tup {r : Rh} {s : Shared} {σ : H} {Q : Value → Shared → Prop} {vs : List V} {items : List Value} (O : Out c r s σ (.tup vs) Q) (R : c.R r σ s.heap) (x : VRs c.w.params r s.heap vs items) (hl : vs.length ≤ 1000000) (tk : Nat) :
    Q (.ref s.heap.objs.size) { s with heap := s.heap.push (tupO items 0), toks := tk } := by
  have none_ : s.heap.get? s.heap.objs.size = .none := by
    cases q : s.heap.get? s.heap.objs.size with
    | none => rfl
    | some o => exact absurd (Heap.lt_size q) (Nat.lt_irrefl _)
  have k : ∀ b ob, s.heap.get? b = some ob → (s.heap.push (tupO items 0)).get? b = some ob := fun b ob e => Heap.get?_push_of_some _ e
  have S := Step.grow (r := r) k
  refine O _ r _ tk (R.grow k) S (.tup vs items 0 _ (Heap.get?_push_size _ rfl) (fun hm => ?_) (x.step S) (by rw [x.length]; omega))
  refine k11 (R.mutLive hm) fun o ho => ?_
  rw [none_] at ho; exact ns ho

theorem opt_sound (ih : EvOk c A ev) {e : Option Expr} {u : Option E} (tr : TrO c.t sc e u) (eo : EnvOk c sc env r.pv) (vo : VarsOk c sc env r s.heap vars) (R : c.R r σ s.heap) (eq : evOpt ev u vars σ = some (v, σ')) {Q : Value → Shared → Prop} (O : Out c r s σ' v Q) :
    wpAny c.M A (evalPart e env) Q E' s := by
  refine k13 tr fun a q1 q2 h => ?_; clear tr; subst q1; subst q2
  cases a with
  | none => (refine sp eq fun q5 q6 => ?_; subst q5; subst q6; clear eq); exact wpAny_pure (O.here R .none)
  | some a => exact ih (.mk h) eo vo R eq O

theorem part_i {β : Type} {f : Option Int → Option β} {o : Option (Option Int)} {y : β} (e : (match o with
    | .none => .none
    | some x => f x) = some y) : ∃ x, o = some x ∧ f x = some y := by
  cases o with
  | none => exact ns e
  | some x => exact ⟨x, rfl, e⟩
theorem getSlice_i {x l u t : V} {σ σ' : H} {v : V} (e : getSlice x l u t σ = some (v, σ')) : ∃ lo hi st, part l = some lo ∧ part u = some hi ∧ part t = some st ∧ (st == some 0) = false ∧ slice2 x lo hi st σ = some (v, σ') := by
  unfold getSlice at e
  refine k12 (part_i e) fun lo h1 e => ?_
  refine k12 (part_i e) fun hi h2 e => ?_
  refine k12 (part_i e) fun st h3 e => ?_
  by_cases h : (st == some 0) = true
  · rw [if_pos h] at e; exact ns e
  · rw [if_neg h] at e
    exact ⟨lo, hi, st, h1, h2, h3, Bool.eq_false_iff.mpr h, e⟩
theorem slice_sound (ih : EvOk c A ev) {a : Expr} {l u st : Option Expr} {q p : Pos} {a' : E} {l' u' s' : Option E} (ta : Tr c.t sc a a') (tl : TrO c.t sc l l') (tu : TrO c.t sc u u') (ts : TrO c.t sc st s') (eo : EnvOk c sc env r.pv) (vo : VarsOk c sc env r s.heap vars) (R : c.R r σ s.heap)
    {x lv uv sv : V} {σ₂ σ₃ σ₄ : H} (e1 : ev a' vars σ = some (x, σ₁)) (e2 : evOpt ev l' vars σ₁ = some (lv, σ₂)) (e3 : evOpt ev u' vars σ₂ = some (uv, σ₃)) (e4 : evOpt ev s' vars σ₃ = some (sv, σ₄)) (e5 : getSlice x lv uv sv σ₄ = some (v, σ'))
    {Q : Value → Shared → Prop} (O : Out c r s σ' v Q) : wpAny c.M A (eval (.Subscript a (.Slice l u st q) p) env) Q E' s := by
  refine Subscript_ (ih ta eo vo R e1 fun ua r₁ h₁ tk₁ R₁ S₁ xa => wpAny_Slice ?_)
  refine opt_sound ih tl (eo.step S₁) (vo.step eo R S₁) R₁ e2 fun ul r₂ h₂ tk₂ R₂ S₂ xl => ?_
  have S12 := S₁.trans S₂
  refine opt_sound ih tu (eo.step S12) (vo.step eo R S12) R₂ e3 fun uu r₃ h₃ tk₃ R₃ S₃ xu => ?_
  have S13 := S12.trans S₃
  refine opt_sound ih ts (eo.step S13) (vo.step eo R S13) R₃ e4 fun us r₄ h₄ tk₄ R₄ S₄ xs => ?_
  have S14 := S13.trans S₄
  have k : ∀ b ob, h₄.get? b = some ob → (h₄.push { cls := .type "slice", data := .fields #[ul, uu, us] }).get? b = some ob := fun b ob e => Heap.get?_push_of_some _ e
  have S5 := Step.grow (r := r₄) k
  have R5 := R₄.grow k
  refine k35 (getSlice_i e5) fun lo hi stp hlo hhi hstp h0 e5 => ?_
  let s5 : Shared := { s with heap := h₄.push { cls := .type "slice", data := .fields #[ul, uu, us] }, toks := tk₄ }
  have pl := part_inv (s := s5) hlo (xl.step ((S₃.trans S₄).trans S5))
  have pu := part_inv (s := s5) hhi (xu.step (S₄.trans S5))
  have ps := part_inv (s := s5) hstp (xs.step S5)
  have I := slice_item (A := A) (E' := E') (s := s5) R5 (xa.step (((S₂.trans S₃).trans S₄).trans S5)) (Heap.get?_push_size _ rfl) pl pu ps (fun q => by rw [q] at h0; cases h0) e5 (O.after (S14.trans S5))
  obtain ⟨⟨T, id, hT, hlk⟩, hw⟩ := I
  unfold subscriptTail
  refine wpAny_bind ?_
  rw [getitemInPython_of_ne hT.not_modules]
  refine wpAny_bind (wpAny_specialOf hT hlk ?_)
  refine wpAny_pure (wpAny_bind ?_)
  have fin : ∀ vs, wpAny c.M A (operate vs (getItem ua (.ref h₄.objs.size))) (fun r s₃ => wpAny c.M A (letTemporaryGo a ua r >>= fun _ => pure r) Q E' s₃) E' { s with heap := h₄.push { cls := .type "slice", data := .fields #[ul, uu, us] }, toks := tk₄ } := fun vs =>
    wpAny_operating (wpAny_mono hw (fun r s₃ h₃ => wpAny_bind (wpAny_letTemporaryGo (wpAny_pure h₃))) fun _ _ x => x)
  cases st with
  | none => exact fin _
  | some e => exact fin _
end
end MI
end TMS13
section TPS1
open PySem
set_option linter.unusedVariables false
namespace MI
/-! the evaluator's equations -/
section
variable (Γ : G) (cf : Cf) (n : Nat) (vars : Vars) (σ : H)
theorem ev_lit (v : V) : ev Γ cf (n + 1) (.lit v) vars σ = some (v, σ) := rfl
theorem ev_var (x : Nat) : ev Γ cf (n + 1) (.var x) vars σ = (vars.get x).map (·, σ) := rfl
theorem ev_bin (op : Bop) (a b : E) : ev Γ cf (n + 1) (.bin op a b) vars σ = (match ev Γ cf n a vars σ with
      | some (x, σ) => match ev Γ cf n b vars σ with
        | some (y, σ) => binop op x y σ
        | .none => .none
      | .none => .none) := rfl
theorem ev_list (es : List E) : ev Γ cf (n + 1) (.list es) vars σ = (match evAll (ev Γ cf n) es vars σ with
      | some (vs, σ) => mkL vs σ
      | .none => .none) := rfl
theorem ev_tup (es : List E) : ev Γ cf (n + 1) (.tup es) vars σ = (match evAll (ev Γ cf n) es vars σ with
      | some (vs, σ) => if szOk vs.length then some (.tup vs, σ) else .none
      | .none => .none) := rfl
theorem ev_cmp (op : Cop) (a b : E) : ev Γ cf (n + 1) (.cmp op a b) vars σ = (match ev Γ cf n a vars σ with
      | some (x, σ) => match ev Γ cf n b vars σ with
        | some (y, σ) => (cmpop Γ op x y σ).map fun b => (.bool b, σ)
        | .none => .none
      | .none => .none) := rfl
theorem ev_sub (a i : E) : ev Γ cf (n + 1) (.sub a i) vars σ = (match ev Γ cf n a vars σ with
      | some (x, σ) => match ev Γ cf n i vars σ with
        | some (y, σ) => (getSub Γ x y σ).map (·, σ)
        | .none => .none
      | .none => .none) := rfl
theorem ev_attr (a : E) (x : Nat) : ev Γ cf (n + 1) (.attr a x) vars σ = (match ev Γ cf n a vars σ with
      | some (.ref i, σ) => (fields Γ σ i x).map (·, σ)
      | _ => .none) := rfl
theorem ev_call (f : E) (as : List E) : ev Γ cf (n + 1) (.call f as) vars σ = (match ev Γ cf n f vars σ with
      | some (fv, σ) => match evAll (ev Γ cf n) as vars σ with
        | some (vs, σ) => callV Γ cf fv vs σ
        | .none => .none
      | .none => .none) := rfl
theorem ev_callM (o : E) (x : Nat) (as : List E) (ks : List (Nat × E)) : ev Γ cf (n + 1) (.callM o x as ks) vars σ = (match ev Γ cf n o vars σ with
      | some (ov, σ) => match methOf Γ ov x σ with
        | some m => match evAll (ev Γ cf n) as vars σ with
          | some (vs, σ) => match evKw (ev Γ cf n) ks vars σ with
            | some (kv, σ) => applyMeth Γ cf m vs kv σ
            | .none => .none
          | .none => .none
        | .none => .none
      | .none => .none) := rfl
theorem ev_ite (t a b : E) : ev Γ cf (n + 1) (.ite t a b) vars σ = (match evB (ev Γ cf n) t vars σ with
      | some (x, σ) => match x with
        | true => ev Γ cf n a vars σ
        | false => ev Γ cf n b vars σ
      | .none => .none) := rfl
theorem ev_slice (a : E) (l u s : Option E) : ev Γ cf (n + 1) (.slice a l u s) vars σ = (match ev Γ cf n a vars σ with
      | some (x, σ) => match evOpt (ev Γ cf n) l vars σ with
        | some (lv, σ) => match evOpt (ev Γ cf n) u vars σ with
          | some (uv, σ) => match evOpt (ev Γ cf n) s vars σ with
            | some (sv, σ) => getSlice x lv uv sv σ
            | .none => .none
          | .none => .none
        | .none => .none
      | .none => .none) := rfl
end
section
variable (e1 : Ev) (vars : Vars) (σ : H)
theorem evAll_nil : evAll e1 [] vars σ = some ([], σ) := rfl
theorem evAll_cons (e : E) (r : List E) : evAll e1 (e :: r) vars σ = (match e1 e vars σ with
    | some (v, σ') => match evAll e1 r vars σ' with
      | some (vs, σ'') => some (v :: vs, σ'')
      | .none => .none
    | .none => .none) := rfl
theorem evKw_nil : evKw e1 [] vars σ = some ([], σ) := rfl
theorem evKw_cons (x : Nat) (e : E) (r : List (Nat × E)) : evKw e1 ((x, e) :: r) vars σ = (match e1 e vars σ with
    | some (v, σ') => match evKw e1 r vars σ' with
      | some (vs, σ'') => some ((x, v) :: vs, σ'')
      | .none => .none
    | .none => .none) := rfl
end
section
variable (Γ : G) (cf : Cf) (fe n : Nat) (vars : Vars) (σ : H)
theorem exs_nil : exs Γ cf fe (n + 1) [] vars σ = some (.next, vars, σ) := rfl
theorem exs_cons (s : S) (r : List S) : exs Γ cf fe (n + 1) (s :: r) vars σ = (match ex Γ cf fe n s vars σ with
    | some (fl, vars, σ) => match fl with
      | .next => exs Γ cf fe n r vars σ
      | .brk => some (.brk, vars, σ)
      | .ret v => some (.ret v, vars, σ)
    | .none => .none) := rfl
theorem ex_names (xs : List Nat) (e : E) : ex Γ cf fe (n + 1) (.names xs e) vars σ = (match ev Γ cf fe e vars σ with
      | some (v, σ) => some (.next, xs.foldl (fun vs x => vs.set x v) vars, σ)
      | .none => .none) := rfl
theorem ex_unpack (ts : List T) (e : E) : ex Γ cf fe (n + 1) (.unpack ts e) vars σ = (match ev Γ cf fe e vars σ with
      | some (v, σ) => match bindT (.tup ts) v σ vars with
        | some vars => some (.next, vars, σ)
        | .none => .none
      | .none => .none) := rfl
theorem ex_expr (e : E) : ex Γ cf fe (n + 1) (.expr e) vars σ = (match ev Γ cf fe e vars σ with
      | some (_, σ) => some (.next, vars, σ)
      | .none => .none) := rfl
theorem ex_ite (t : E) (a b : List S) : ex Γ cf fe (n + 1) (.ite t a b) vars σ = (match evB (ev Γ cf fe) t vars σ with
      | some (x, σ) => match x with
        | true => exs Γ cf fe n a vars σ
        | false => exs Γ cf fe n b vars σ
      | .none => .none) := rfl
theorem ex_retN : ex Γ cf fe (n + 1) (.ret .none) vars σ = some (.ret .none, vars, σ) := rfl
theorem ex_ret (e : E) : ex Γ cf fe (n + 1) (.ret (some e)) vars σ = (match ev Γ cf fe e vars σ with
      | some (v, σ) => some (.ret v, vars, σ)
      | .none => .none) := rfl
theorem ex_brk : ex Γ cf fe (n + 1) .brk vars σ = some (.brk, vars, σ) := rfl
theorem ex_setAttr (o : E) (x : Nat) (e : E) : ex Γ cf fe (n + 1) (.setAttr o x e) vars σ = (match ev Γ cf fe e vars σ with
      | some (v, σ) => match ev Γ cf fe o vars σ with
        | some (.ref i, σ) => match σ[i]? with
          | some (.inst C fs) => if hasFld Γ C x && Nat.ble fs.length 100 then some (.next, vars, σ.set i (.inst C (put x v fs))) else .none
          | _ => .none
        | _ => .none
      | .none => .none) := rfl
end
section
variable (e1 : Ev) (vars : Vars) (σ : H)
theorem evB_and (a b : E) : evB e1 (.and a b) vars σ = (match evB e1 a vars σ with
    | some (x, σ') => match x with
      | true => evB e1 b vars σ'
      | false => some (false, σ')
    | .none => .none) := rfl
theorem evB_or (a b : E) : evB e1 (.or a b) vars σ = (match evB e1 a vars σ with
    | some (x, σ') => match x with
      | true => some (true, σ')
      | false => evB e1 b vars σ'
    | .none => .none) := rfl
theorem evB_not (a : E) : evB e1 (.not a) vars σ = (match evB e1 a vars σ with
    | some (b, σ') => some (!b, σ')
    | .none => .none) := rfl
theorem evB_cmp (op : Cop) (a b : E) : evB e1 (.cmp op a b) vars σ = (match e1 (.cmp op a b) vars σ with
    | some (v, σ') => (truthy v).map (·, σ')
    | .none => .none) := rfl
theorem evB_attr (a : E) (x : Nat) : evB e1 (.attr a x) vars σ = (match e1 (.attr a x) vars σ with
    | some (v, σ') => (truthy v).map (·, σ')
    | .none => .none) := rfl
theorem evB_callM (o : E) (x : Nat) (as : List E) (ks : List (Nat × E)) : evB e1 (.callM o x as ks) vars σ = (match e1 (.callM o x as ks) vars σ with
    | some (v, σ') => (truthy v).map (·, σ')
    | .none => .none) := rfl
theorem truthy_bool (b : Bool) : truthy (.bool b) = some b := rfl
end
end MI
end TPS1
section TMS14
open PySem PySem.Spec PySem.Calls PyProof.Rows PySem.W
set_option linter.unusedVariables false
namespace MI

/-- all that is known of the top -/
structure Cx.Ok (c : Cx) : Prop where
  tab : c.TabOk
  glob : c.GlobOk
  cls : c.ClsOk
  cat : c.CatOk
  ids : c.Γ.ids = c.t.ids.map fun x => x.cps.toList
  uniq : ∀ (i j : Nat) (x : Str), c.t.ids[i]? = some x → c.t.ids[j]? = some x → i = j
  dot : c.t.id (".0" : Str) = .none

section
variable {c : Cx} {A : Around} {n : Nat} {cf : Cf}

noncomputable def NodeOk (c : Cx) (A : Around) (n : Nat) (cf : Cf) (P : E → Bool) : Prop := ∀ {sc : Scope} {e : Expr} {u : E} {env : Env} {r : Rh} {σ σ' : H} {s : Shared} {vars : Vars} {v : V}, P u = true → Tr c.t sc e u → EnvOk c sc env r.pv → VarsOk c sc env r s.heap vars → c.R r σ s.heap → ev c.Γ cf n u vars σ = some (v, σ') →
    ∀ {Q : Value → Shared → Prop} {E' : Value → Shared → Prop}, Out c r s σ' v Q → wpAny c.M A (eval e env) Q E' s

noncomputable def farNode (e : E) : Bool := Nat.beq e.ctorIdx (E.ctorIdx (.listZip [])) || Nat.beq e.ctorIdx (E.ctorIdx (.comp (.lit .none) [] []))

theorem sizeLine_ge1 : 1000000 ≤ sizeLine := by have := sizeLine_ge; omega
theorem me_i {β : Type} {f : Meth → Option β} {o : Option Meth} {y : β} (e : (match o with
    | some m => f m
    | .none => .none) = some y) : ∃ m, o = some m ∧ f m = some y := by
  cases o with
  | none => exact ns e
  | some x => exact ⟨x, rfl, e⟩
theorem vref_i {β : Type} {f : Nat → H → Option β} {o : Option (V × H)} {y : β} (e : (match o with
    | some (.ref i, σ') => f i σ'
    | _ => .none) = some y) : ∃ i σ', o = some (.ref i, σ') ∧ f i σ' = some y := by
  cases o with
  | none => exact ns e
  | some x =>
    obtain ⟨v, σ'⟩ := x
    cases v with
    | ref i => exact ⟨i, σ', rfl, e⟩
    | _ => exact ns e
theorem eval_call_un {a : AE} {es : List Expr} {p : Pos} {env : Env} (hn : isAttr a.un = false) : eval (.Call a.un es [] p) env = (do callWith p (← eval a.un env) [] (backTo p (starEach es env)) (backToKw p (keywordEach [] env))) := by
  cases a <;> first | rfl | exact tf hn

section
variable {E' : Value → Shared → Prop} {s : Shared} {sc : Scope} {env : Env} {r : Rh} {σ σ' σ₁ : H} {vars : Vars} {v : V} {ev : Ev}

theorem callV_sound (hOk : c.Ok) (hA : FitsB A n) (HF : CfOk c n cf) (HB : BiOk c A) (ih : EvOk c A ev) {es : List Expr} {us : List E} {p : Pos} (tas : TrL c.t sc es us) (eo : EnvOk c sc env r.pv) (vo : VarsOk c sc env r s.heap vars) (R : c.R r σ s.heap) {fv : V} {uf : Value} (xf : c.V r s.heap fv uf) {vs : List V}
    (e2 : evAll ev us vars σ = some (vs, σ₁)) (eq : callV c.Γ cf fv vs σ₁ = some (v, σ')) {Q : Value → Shared → Prop} (O : Out c r s σ' v Q) : wpAny c.M A (callWith p uf [] (backTo p (starEach es env)) (backToKw p (keywordEach [] env))) Q E' s := by
  cases fv with
  | cst w =>
    have := xf.cst_inv
    subst this
    have go : builtin uf vs σ₁ = some (v, σ') → wpAny c.M A (callWith p uf [] (backTo p (starEach es env)) (backToKw p (keywordEach [] env))) Q E' s := fun eq => by
      refine k02 (HB _ _ _ _ _ eq) fun kf go => ?_
      refine callWith_sound ih kf tas (.nil (t := c.t) (sc := sc)) eo vo R e2 (kvs := []) rfl fun items kit r' h' tk R' S' x y => ?_
      cases y
      exact go r' { s with heap := h', toks := tk } items R' x _ _ (O.after S')
    cases uf with
    | ref a =>
      replace eq : callR c.Γ cf a vs σ₁ = some (v, σ') := eq
      unfold callR at eq
      cases hk : c.Γ.clss.lookup a with
      | none =>
        rw [hk] at eq
        refine callWith_sound ih (.fn (HF.keep _ _ _ _ _ eq)) tas (.nil (t := c.t) (sc := sc)) eo vo R e2 (kvs := []) rfl fun items kit r' h' tk R' S' x y => ?_
        exact wpAny_call (HF.run (s := { s with heap := h', toks := tk }) hA.n eq R' x y (O.after S'))
      | some k =>
        rw [hk] at eq
        replace eq : newI a σ₁ (cf k.init (.ref σ₁.length :: vs) [] (σ₁ ++ [.inst a []])) = some (v, σ') := eq
        unfold newI at eq
        refine k22 (vh_i eq) fun w σ₂ e3 eq => ?_
        cases w with
        | none =>
          (refine sp eq fun q17 q18 => ?_; subst q17; subst q18; clear eq)
          refine callWith_sound ih (.fn (hOk.cls _ _ hk).kp) tas (.nil (t := c.t) (sc := sc)) eo vo R e2 (kvs := []) rfl fun items kit r' h' tk R' S' x y => ?_
          cases y
          exact make_sound (s := { s with heap := h', toks := tk }) hOk.cls HF hA hk R' x e3 (O.after S')
        | _ => exact ns eq
    | _ => exact go eq
  | _ => exact ns eq

theorem meth_fn_i {Γ : G} {ov : V} {x : Nat} {σ : H} {f : Addr} {self : V} (hm : methOf Γ ov x σ = some (.fn f self)) : ∃ i C fs k, ov = .ref i ∧ self = .ref i ∧ σ[i]? = some (.inst C fs) ∧ look x fs = .none ∧ Γ.clss.lookup C = some k ∧ k.meths.lookup x = some f := by
  have no : ∀ {m : Option Txt} {g : Txt → Option Meth}, (∀ t, g t ≠ some (.fn f self)) → (match m with | some m => g m | .none => .none) ≠ some (.fn f self) := fun {m g} h e => by
    cases m with
    | none => exact ns e
    | some m => exact h m e
  have ife : ∀ {b : Bool} {y : Meth} {z : Option Meth}, y ≠ .fn f self → z ≠ some (.fn f self) → (if b = true then some y else z) ≠ some (.fn f self) := fun {b y z} h h' e => by
    cases b with
    | true => exact h (Option.some.inj e)
    | false => exact h' e
  cases ov with
  | ref i =>
    unfold methOf at hm
    dsimp only at hm
    cases hi : σ[i]? with
    | none => rw [hi] at hm; exact ns hm
    | some o =>
      rw [hi] at hm
      cases o with
      | list xs => exact absurd hm (no fun t => ife (by intro h; cases h) (by intro h; cases h))
      | inst C fs =>
        dsimp only at hm
        cases hl : look x fs with
        | some w => rw [hl] at hm; exact ns hm
        | none =>
          rw [hl] at hm
          refine k12 (Option.map_eq_some_iff.mp hm) fun f' hf' hm => ?_
          cases hm
          unfold clsMeth at hf'
          cases hk : Γ.clss.lookup C with
          | none => rw [hk] at hf'; exact ns hf'
          | some k => rw [hk] at hf'; exact ⟨i, C, fs, k, rfl, rfl, hi, hl, hk, hf'⟩
  | str s => exact absurd hm (no (m := Γ.ids[x]?) (g := fun m => if strMeths.any (txtEq m) then some (.str s m) else .none) fun t => ife (by intro h; cases h) (by intro h; cases h))
  | cst w =>
    cases w with
    | ref a => exact absurd hm (no (m := Γ.ids[x]?) fun t => ife (by intro h; cases h) (ife (by intro h; cases h) (by intro h; cases h)))
    | _ => exact ns hm
  | _ => exact ns hm
theorem meth_sound (hOk : c.Ok) (hA : FitsB A n) (HF : CfOk c n cf) (HM : MeOk c A cf) (ih : EvOk c A ev) {es : List Expr} {us : List E} {ks : List Keyword} {kus : List (Nat × E)} {p : Pos} {pl : Sem Bool} {x : Nat} {name : Str} {m : Meth} {ov : V} {uo : Value} (hm : methOf c.Γ ov x σ = some m) (hx : c.t.ids[x]? = some name)
    (tas : TrL c.t sc es us) (tks : TrK c.t sc ks kus) (eo : EnvOk c sc env r.pv) (vo : VarsOk c sc env r s.heap vars) (R : c.R r σ s.heap) (xo : c.V r s.heap ov uo) {vs : List V} {kv : List (Nat × V)} {σ₂ : H}
    (e2 : evAll ev us vars σ = some (vs, σ₁)) (e3 : evKw ev kus vars σ₁ = some (kv, σ₂)) (eq : applyMeth c.Γ cf m vs kv σ₂ = some (v, σ')) {Q : Value → Shared → Prop} (O : Out c r s σ' v Q) :
    wpAny c.M A (getMethod uo name pl) (fun fx s₂ => wpAny c.M A (callWith p fx.1 fx.2 (backTo p (starEach es env)) (backToKw p (keywordEach ks env))) Q E' s₂) E' s := by
  by_cases hf : ∃ f self, m = .fn f self
  · refine k21 hf fun f self q1 => ?_; clear hf; subst q1
    obtain ⟨i, C, fs, k, rfl, rfl, hi, hl, hk, hf'⟩ := meth_fn_i hm
    have F := hOk.cls _ _ hk
    refine k14 (F.me _ _ hf') fun y hy g1 g2 g3 => ?_
    rw [hx] at hy; (refine si hy fun q40 => ?_; subst q40; clear hy)
    obtain ⟨a, d, es', n', rfl, hp, hne, h1, h2, hle, hnr, hv, hn⟩ := R.instAt hi xo
    have X := c.X.keeps R.base
    have hs : shadowIn (some (dctO es' n')) name = some false := by
      show (lookIn name (dctO es' n')).map (·.isSome) = some false
      rw [lookIn_dct, hn x name hx hl]; rfl
    refine method_fn X (instAt_of h1 h2) (plainGet_of F.pg).1 (plainGet_of F.pg).2 g1 g2 hs ?_
    refine callWith_sound ih (.fn g3) tas tks eo vo R e2 e3 fun items kit r' h' tk R' S' x' y' => ?_
    exact wpAny_call (HF.run (s := { s with heap := h', toks := tk }) hA.n (as := .ref i :: vs) eq R' (.cons (xo.step S') x') y' (O.after S'))
  · refine k23 (HM ov x name m uo r σ s hm (fun f self e => hf ⟨f, self, e⟩) hx R xo) fun f first kf g1 g2 => ?_
    refine g1 _ _ _ fun tk => ?_
    refine callWith_sound (s := { s with toks := tk }) ih kf tas tks eo vo R e2 e3 fun items kit r' h' tk' R' S' x' y' => ?_
    exact g2 vs kv r' σ₂ σ' { s with heap := h', toks := tk' } v items kit eq S' R' x' y' _ _ (O.after S')
end

theorem ev_step (hOk : c.Ok) (hA : FitsB A n) (HF : CfOk c n cf) (HB : BiOk c A) (HM : MeOk c A cf) {m : Nat} (ih0 : ∀ k, k ≤ m → EvOk c A (ev c.Γ cf k)) (far : NodeOk c A (m + 1) cf farNode) : EvOk c A (ev c.Γ cf (m + 1)) := by
  have ih : EvOk c A (ev c.Γ cf m) := @ih0 m (Nat.le_refl _)
  have hA' := hA.fits
  have hu : A.units + 100 < cLine := by have := hA.un; omega
  intro sc e u env r σ σ' s vars v tr eo vo R eq Q E' O
  refine k13 tr fun a q2 q3 h => ?_; clear tr; subst q2; subst q3
  cases a with
  | cst k w n p =>
    (refine sp eq fun q44 q45 => ?_; subst q44; subst q45; clear eq)
    have R' : c.R r σ s.heap := R
    cases cstOk_i h with
    | none => exact wpAny_pure (O.here R .none)
    | bool b => exact wpAny_pure (O.here R (.bool b))
    | int i => exact wpAny_Constant_int (O.same R (.int i _) _)
    | str x => exact wpAny_Constant_str (O.same R (.str _ _) _)
  | dbg x p =>
    (refine sp eq fun q46 q47 => ?_; subst q46; subst q47; clear eq)
    show wpAny _ _ (eval (.Name x p) env) _ _ _
    rw [arm_eval_Name, if_pos (show (x == Str.ofString "__debug__") = true from h)]
    exact wpAny_bind (wpAny_standAt (by unfold debugConstant; exact wpAny_bind (wpAny_rule (wpAny_pure (O.here R (.bool true))))))
  | var x i p =>
    refine k02 (and_i h) fun h1 h => ?_
    refine k02 (and_i h) fun h2 h => ?_
    refine k02 (and_i h) fun h3 h4 => ?_
    exact eval_var (not_i h1) (not_i h2) (of_decide_eq_true h3) (of_decide_eq_true h4) eo vo R eq O
  | glob x w p =>
    refine k02 (and_i h) fun h1 h => ?_
    refine k02 (and_i h) fun h2 h3 => ?_
    (refine sp eq fun q48 q49 => ?_; subst q48; subst q49; clear eq)
    exact eval_glob hOk.glob (not_i h1) (of_decide_eq_true h2) (vIs_i h3) eo R O
  | bin op o a b p =>
    refine k02 (and_i h) fun ho h => ?_
    refine k02 (and_i h) fun h1 h2 => ?_
    refine k22 (vh_i ((ev_bin c.Γ cf m vars σ o a.er b.er).symm.trans eq)) fun x σ₁ e1 e => ?_
    refine k22 (vh_i e) fun y σ₂ e2 e => ?_
    exact wpAny_BinOp (seq2 ih (.mk h1) (.mk h2) eo vo R e1 e2 fun ua ub r' h' tk R' S' xa xb => binop_sound (s := { s with heap := h', toks := tk }) hA' (of_decide_eq_true ho) R' xa xb e (O.after S'))
  | neg a p =>
    refine k22 (vh_i (o := MI.ev c.Γ cf m a.er vars σ) (f := fun x σ => negV x σ) eq) fun x σ₁ e1 e => ?_
    cases x with
    | int i =>
      refine k03 (mkI_map e) fun hf q4 q5 => ?_; subst q4; subst q5
      refine wpAny_UnaryOp (ih (Tr.mk (a := a) h) eo vo R e1 fun u r' h' tk R' S' x => ?_)
      refine k11 (x.int_inv) fun t q6 => ?_; subst q6
      exact neg_int ((O.after S').same R' (.int _ _) _)
    | _ => exact ns e
  | not a p => exact ns eq
  | and a b p => exact ns eq
  | or a b p => exact ns eq
  | ite q a b p =>
    refine k02 (and_i h) fun h0 h => ?_
    refine k02 (and_i h) fun h1 h2 => ?_
    refine k22 (bb_i ((ev_ite c.Γ cf m vars σ q.er a.er b.er).symm.trans eq)) fun x σ₁ e1 e => ?_
    refine wpAny_IfExp (evB_sound hOk.tab hu (fun k hk => @ih0 k (Nat.le_of_lt hk)) ih _ (.mk h0) eo vo R e1 fun r' h' tk R' S' => ?_)
    cases x with
    | true => exact ih (.mk h1) (eo.step S') (vo.step eo R S') R' e (O.after S')
    | false => exact ih (.mk h2) (eo.step S') (vo.step eo R S') R' e (O.after S')
  | list es p =>
    refine k22 (vs_i ((ev_list c.Γ cf m vars σ (erL es)).symm.trans eq)) fun vs σ₁ e1 e => ?_
    show wpAny _ _ (do standAt _; newList (← spliced (backTo _ (starEach _ env)))) _ _ _
    refine wpAny_bind (wpAny_standAt (wpAny_bind (evAll_sound ih (.mk h) eo vo R e1 fun items r' h' tk R' S' x => ?_)))
    have hl := (mkL_eq e).1
    exact wpAny_newList ((O.after S').list (s := { s with heap := h', toks := tk }) e R' x tk) (by rw [x.length]; exact Nat.le_trans hl sizeLine_ge1)
  | tup es k p =>
    refine k22 (vs_i ((ev_tup c.Γ cf m vars σ (erL es)).symm.trans eq)) fun vs σ₁ e1 e => ?_
    refine k02 (if_some e) fun hz e => ?_
    cases e
    have hl := szOk_le hz
    show wpAny _ _ (do standAt _; newTuple (← spliced (backTo _ (starEach _ env)))) _ _ _
    refine wpAny_bind (wpAny_standAt (wpAny_bind (evAll_sound ih (.mk h) eo vo R e1 fun items r' h' tk R' S' x => ?_)))
    exact wpAny_newTuple ((O.after S').tup (s := { s with heap := h', toks := tk }) R' x hl tk) (by rw [x.length]; exact Nat.le_trans hl sizeLine_ge1)
  | cmp op o a b p =>
    refine k02 (and_i h) fun ho h => ?_
    refine k02 (and_i h) fun h1 h2 => ?_
    refine k44 (cmp_inv eq) fun x y z σ₂ f1 f2 f3 q7 => ?_; subst q7
    exact wpAny_Compare1 (compare_sound ih hOk.tab hu (of_decide_eq_true ho) (.mk h1) (.mk h2) eo vo R f1 f2 f3 fun r' h' tk R' S' => O _ r' h' tk R' S' (.bool z)) (un_marks b _)
  | slice a l u t q p =>
    refine k02 (and_i h) fun h1 h => ?_
    refine k02 (and_i h) fun h2 h => ?_
    refine k02 (and_i h) fun h3 h4 => ?_
    refine k22 (vh_i ((ev_slice c.Γ cf m vars σ a.er (erO l) (erO u) (erO t)).symm.trans eq)) fun x σ₁ e1 e => ?_
    refine k22 (vh_i e) fun lv σ₂ e2 e => ?_
    refine k22 (vh_i e) fun uv σ₃ e3 e => ?_
    refine k22 (vh_i e) fun sv σ₄ e4 e => ?_
    exact slice_sound ih (.mk h1) (.mk h2) (.mk h3) (.mk h4) eo vo R e1 e2 e3 e4 e O
  | sub a i p =>
    refine k02 (and_i h) fun hs h => ?_
    refine k02 (and_i h) fun h1 h2 => ?_
    refine k22 (vh_i ((ev_sub c.Γ cf m vars σ a.er i.er).symm.trans eq)) fun x σ₁ e1 e => ?_
    refine k22 (vh_i e) fun y σ₂ e2 e => ?_
    refine k12 (Option.map_eq_some_iff.mp e) fun v' hv e => ?_
    cases e
    exact Subscript_ (seq2 ih (.mk h1) (.mk h2) eo vo R e1 e2 fun ua ub r' h' tk R' S' xa xb => sub_sound (s := { s with heap := h', toks := tk }) (not_i hs) R' xa xb hv (O.after S'))
  | clsA k p x q w =>
    refine k02 (and_i h) fun h1 h => ?_
    refine k02 (and_i h) fun h2 h3 => ?_
    (refine sp eq fun q66 q67 => ?_; subst q66; subst q67; clear eq)
    cases hg : c.t.glob k with
    | none => rw [hg] at h3; exact ft h3
    | some gw =>
      rw [hg] at h3
      cases gw with
      | cst cw =>
        cases cw with
        | ref ad =>
          refine k24 (hOk.cat _ _ _ (vIs_i h3)) fun mc u a1 a2 a3 a4 => ?_
          refine Attribute_any_ (eval_glob hOk.glob (not_i h2) (of_decide_eq_true h1) hg eo R fun u' r' h' tk R' S' x => ?_)
          cases x.cst_inv
          exact cls_value (s := { s with heap := h', toks := tk }) (c.X.keeps R'.base) a1 a2 a3 ((O.after S').same R' (VR.base (s := { s with heap := h', toks := tk }) R' a4) _)
        | _ => exact ft h3
      | _ => exact ft h3
  | attr a x i p =>
    refine k02 (and_i h) fun hn h => ?_
    refine k02 (and_i h) fun h1 hi => ?_
    refine k22 (vref_i ((ev_attr c.Γ cf m vars σ a.er i).symm.trans eq)) fun j σ₁ e1 e => ?_
    refine k12 (Option.map_eq_some_iff.mp e) fun v' hv e => ?_
    cases e
    refine Attribute_any_ (ih (.mk h1) eo vo R e1 fun ua r' h' tk R' S' xa => attr_sound (s := { s with heap := h', toks := tk }) hOk.cls R' xa (Tx.id_get (of_decide_eq_true hi)) hv (O.after S')) ?_
    show eval (.Attribute a.un x p) env = _
    rw [arm_eval_Attribute]
    rw [attributeBase_whole (not_i hn)]
  | callM o x i q as ks p =>
    refine k02 (and_i h) fun h1 h => ?_
    refine k02 (and_i h) fun h2 h => ?_
    refine k02 (and_i h) fun h3 h => ?_
    refine k02 (and_i h) fun h4 h => ?_
    refine k02 (and_i h) fun h5 h => ?_
    refine k02 (and_i h) fun h6 h7 => ?_
    refine k22 (vh_i ((ev_callM c.Γ cf m vars σ o.er i (erL as) (erK ks)).symm.trans eq)) fun ov σ₁ e1 e => ?_
    refine k12 (me_i e) fun me hm e => ?_
    refine k22 (vs_i e) fun vs σ₂ e2 e => ?_
    refine k22 (kv_i e) fun kv σ₃ e3 e => ?_
    refine getMethod_call (of_decide_eq_true h1) (not_i h2) (by rw [unL_length, unK_length]; exact Nat.le_of_ble_eq_true h3) (.mk h6) (.mk h7) (ih (.mk h4) eo vo R e1 fun uo r₁ h₁ tk₁ R₁ S₁ xo => ?_)
    exact meth_sound hOk hA HF HM ih hm (Tx.id_get (of_decide_eq_true h5)) (.mk h6) (.mk h7) (eo.step S₁) (vo.step eo R S₁) R₁ xo e2 e3 e (O.after S₁)
  | call f as p =>
    refine k02 (and_i h) fun h1 h => ?_
    refine k02 (and_i h) fun h2 h3 => ?_
    refine k22 (vh_i ((ev_call c.Γ cf m vars σ f.er (erL as)).symm.trans eq)) fun fv σ₁ e1 e => ?_
    refine k22 (vs_i e) fun vs σ₂ e2 e => ?_
    show wpAny _ _ (eval (.Call f.un (unL as) [] p) env) _ _ _
    rw [eval_call_un (not_i h1)]
    refine wpAny_bind (ih (.mk h2) eo vo R e1 fun uf r₁ h₁ tk₁ R₁ S₁ xf => ?_)
    exact callV_sound hOk hA HF HB ih (.mk h3) (eo.step S₁) (vo.step eo R S₁) R₁ xf e2 e (O.after S₁)
  | listZip f fp z zp zs q p => exact far rfl (.mk h) eo vo R eq O
  | comp elt tg it ifs sc' own p => exact far rfl (.mk h) eo vo R eq O
end
end MI
end TMS14
section TMS15
open PySem PySem.Spec PySem.Calls PyProof.Rows PySem.W
set_option linter.unusedVariables false
namespace MI

/-- a step that may also change what X names -/
structure StepX (X : Addr → Prop) (r : Rh) (h : Heap) (r' : Rh) (h' : Heap) : Prop where
  ext : ∃ τ, r'.ob = r.ob ++ τ ∧ ∀ p ∈ τ, h.get? p.1 = none ∧ h.get? p.2 = none
  pv : r'.pv = r.pv
  keep : ∀ b o, h.get? b = some o → ¬ r.own b → ¬ X b → h'.get? b = some o
  live : ∀ b o, h.get? b = some o → ∃ o', h'.get? b = some o'

section
variable {X Y : Addr → Prop} {r r' r'' : Rh} {h h' h'' : Heap}
theorem Step.x (S : Step r h r' h') : StepX X r h r' h' := ⟨S.ext, S.pv, fun b o e n _ => S.keep b o e n, S.live⟩
theorem StepX.mono (S : StepX X r h r' h') (hX : ∀ b, X b → Y b) : StepX Y r h r' h' := ⟨S.ext, S.pv, fun b o e n m => S.keep b o e n fun q => m (hX b q), S.live⟩
theorem StepX.all (S : StepX X r h r' h') : Step { r with ob := r.ob } h r' h' → Step r h r' h' := fun x => x
theorem StepX.own_old (S : StepX X r h r' h') {b : Addr} {o : Obj} (e : h.get? b = some o) (hb : r'.own b) : r.own b := by
  refine k12 (S.ext) fun τ hτ hf => ?_
  refine k12 hb fun p hp hb => ?_
  rw [hτ] at hp
  rcases List.mem_append.mp hp with hp | hp
  · exact ⟨p, hp, hb⟩
  · refine k02 (hf p hp) fun h1 h2 => ?_
    rcases hb with rfl | rfl
    · rw [h1] at e; exact ns e
    · rw [h2] at e; exact ns e
theorem StepX.mut_old (S : StepX X r h r' h') {b : Addr} {o : Obj} (e : h.get? b = some o) (hb : r'.mut b) : r.mut b := by
  rcases hb with hb | hb
  · exact .inl (S.own_old e hb)
  · exact .inr (S.pv ▸ hb)
theorem StepX.trans (S : StepX X r h r' h') (S' : StepX X r' h' r'' h'') : StepX X r h r'' h'' := by
  refine ⟨?_, S'.pv.trans S.pv, fun b o e hb hx => S'.keep b o (S.keep b o e hb hx) (fun hb' => hb (S.own_old e hb')) hx, fun b o e => ?_⟩
  · refine k12 (S.ext) fun τ hτ hf => ?_
    refine k12 (S'.ext) fun τ' hτ' hf' => ?_
    refine ⟨τ ++ τ', by rw [hτ', hτ, List.append_assoc], fun p hp => ?_⟩
    rcases List.mem_append.mp hp with hp | hp
    · exact hf p hp
    · have no : ∀ a, h'.get? a = none → h.get? a = none := fun a ha => by
        cases q : h.get? a with
        | none => rfl
        | some o => obtain ⟨o', e'⟩ := S.live a o q; rw [ha] at e'; exact ns e'
      exact ⟨no _ (hf' p hp).1, no _ (hf' p hp).2⟩
  · refine k11 (S.live b o e) fun o' e' => ?_
    exact S'.live b o' e'
theorem StepX.at_ob (S : StepX X r h r' h') {i : Nat} {p : Addr × Addr} (e : r.ob[i]? = some p) : r'.ob[i]? = some p := by
  refine k12 (S.ext) fun τ hτ _ => ?_
  have hl := lt_of_get e
  rw [hτ, List.getElem?_append_left hl]; exact e
theorem StepX.mv (S : StepX X r h r' h') (hX : ∀ b, X b → b ∈ r.pv) : Mv r h r' h' :=
  ⟨fun _ _ e => S.at_ob e, fun a o e f => ⟨S.keep a o e (fun q => f (.inl q)) fun q => f (.inr (hX a q)), fun q => f (S.mut_old e q)⟩⟩
theorem StepX.refl : StepX X r h r h := (Step.refl r h).x
/-- nothing but X changed -/
theorem Rel.chg {P : Params} {ids : List Str} {h₀ : Heap} {σ : MI.H} (R : Rel P ids h₀ r σ h) (hX : ∀ b, X b → b ∈ r.pv) (k : ∀ b o, h.get? b = some o → ¬ X b → h'.get? b = some o) (lv : ∀ b o, h.get? b = some o → ∃ o', h'.get? b = some o') :
    Rel P ids h₀ r σ h' ∧ StepX X r h r h' := by
  have S : StepX X r h r h' := ⟨⟨[], by simp, fun _ hq => nomatch hq⟩, rfl, fun b o e _ n => k b o e n, lv⟩
  have ow : ∀ b, r.own b → ¬ X b := fun b hb hx => R.pvo b (hX b hx) hb
  refine ⟨⟨fun b o e => k b o (R.base b o e) fun hx => ?_, R.len, fun i o p e e' => ?_, R.fresh, R.apart, R.pvo, fun b hb => ?_⟩, S⟩
  · have := R.fresh b (.inr (hX b hx)); rw [e] at this; cases this
  · have hm : p ∈ r.ob := List.mem_of_getElem? e'
    exact (R.obj i o p e e').mv (S.mv hX) (fun ob q => k _ ob q (ow _ ⟨p, hm, .inl rfl⟩)) fun ob q => k _ ob q (ow _ ⟨p, hm, .inr rfl⟩)
  · obtain ⟨o, e⟩ := R.pvl b hb; exact lv b o e
/-- a frame of our own is entered -/
theorem Rel.enter {P : Params} {ids : List Str} {h₀ : Heap} {σ : MI.H} (R : Rel P ids h₀ r σ h) {L : List Addr} (k : ∀ b o, h.get? b = some o → h'.get? b = some o) (n : ∀ b ∈ L, h.get? b = .none) (l : ∀ b ∈ L, ∃ o, h'.get? b = some o) :
    Rel P ids h₀ { r with pv := r.pv ++ L } σ h' ∧ Mv r h { r with pv := r.pv ++ L } h' := by
  have M : Mv r h { r with pv := r.pv ++ L } h' := ⟨fun _ _ e => e, fun a o e f => ⟨k a o e, fun q => by
    rcases q with q | q
    · exact f (.inl q)
    · rcases List.mem_append.mp q with q | q
      · exact f (.inr q)
      · rw [n a q] at e; cases e⟩⟩
  refine ⟨⟨fun b o e => k b o (R.base b o e), R.len, fun i o p e e' => (R.obj i o p e e').mv M (fun _ q => k _ _ q) fun _ q => k _ _ q, fun b hb => ?_, R.apart, fun b hb ho => ?_, fun b hb => ?_⟩, M⟩
  · rcases hb with hb | hb
    · exact R.fresh b (.inl hb)
    · rcases List.mem_append.mp hb with hb | hb
      · exact R.fresh b (.inr hb)
      · cases q : h₀.get? b with
        | none => rfl
        | some o => have := R.base b o q; rw [n b hb] at this; exact ns this
  · rcases List.mem_append.mp hb with hb | hb
    · exact R.pvo b hb ho
    · obtain ⟨o, e⟩ := R.ownLive ho
      rw [n b hb] at e; cases e
  · rcases List.mem_append.mp hb with hb | hb
    · obtain ⟨o, e⟩ := R.pvl b hb; exact ⟨o, k b o e⟩
    · exact l b hb
/-- ... and left -/
theorem Rel.exit {P : Params} {ids : List Str} {h₀ : Heap} {σ : MI.H} (R : Rel P ids h₀ r' σ h) {pv : List Addr} {L : List Addr} (e : r'.pv = pv ++ L) : Rel P ids h₀ { r' with pv := pv } σ h ∧ Mv r' h { r' with pv := pv } h := by
  have sub : ∀ b, ({ r' with pv := pv } : Rh).mut b → r'.mut b := fun b hb => hb.elim .inl fun q => .inr (by rw [e]; exact List.mem_append_left _ q)
  have M : Mv r' h { r' with pv := pv } h := ⟨fun _ _ e => e, fun a o e f => ⟨e, fun q => f (sub a q)⟩⟩
  exact ⟨⟨R.base, R.len, fun i o p e e' => (R.obj i o p e e').mv M (fun _ q => q) fun _ q => q, fun b hb => R.fresh b (sub b hb), R.apart, fun b hb => R.pvo b (by rw [e]; exact List.mem_append_left _ hb), fun b hb => R.pvl b (by rw [e]; exact List.mem_append_left _ hb)⟩, M⟩
theorem StepX.exit {L : List Addr} {h₁ : Heap} (k : ∀ b o, h.get? b = some o → h₁.get? b = some o) (n : ∀ b ∈ L, h.get? b = .none) (S : StepX X { r with pv := r.pv ++ L } h₁ r' h') (hX : ∀ b, X b → b ∈ L) : Step r h { r' with pv := r.pv } h' := by
  refine ⟨?_, rfl, fun b o e hb => S.keep b o (k b o e) hb fun q => ?_, fun b o e => S.live b o (k b o e)⟩
  · refine k12 (S.ext) fun τ hτ hf => ?_
    have no : ∀ a, h₁.get? a = none → h.get? a = none := fun a ha => by
      cases q : h.get? a with
      | none => rfl
      | some o => have := k a o q; rw [ha] at this; exact ns this
    exact ⟨τ, hτ, fun p hp => ⟨no _ (hf p hp).1, no _ (hf p hp).2⟩⟩
  · have := n b (hX b q); rw [e] at this; exact sn this
end
end MI
end TMS15
section TMS16
open PySem PySem.Spec PySem.Calls PyProof.Rows PySem.W
set_option linter.unusedVariables false
namespace MI

theorem nsUniq {h : Heap} {a : Addr} {m m' : Str → Option Value} (x : h.Ns a m) (y : h.Ns a m') : m = m' := by
  refine k34 x fun o es ep e d k f => ?_; clear x
  refine k34 y fun o' es' ep' e' d' k' f' => ?_; clear y
  rw [e] at e'; (refine si e' fun q1 => ?_; subst q1; clear e')
  rw [d] at d'; cases d'
  funext z; rw [← f z, ← f' z]

/-- the addresses that a text's stores may change -/
noncomputable def FrX (sc : Scope) (env : Env) (b : Addr) : Prop := b = env.locals ∨ ∃ x, sc.names.lookup x = some .cell ∧ env.cells.lookup x = some b

theorem Vars.set_cons (x : Nat) (v : V) (z : Nat) (u : Option V) (r : Vars) : Vars.set x v ((z, u) :: r) = if (z == x) = true then (z, some v) :: r else (z, u) :: Vars.set x v r := rfl
theorem Vars.get_cons (x : Nat) (z : Nat) (u : Option V) (r : Vars) : Vars.get x ((z, u) :: r) = if (z == x) = true then u else Vars.get x r := rfl
theorem Vars.get_set {x y : Nat} {v : V} {vars : Vars} : Vars.get y (Vars.set x v vars) = if y = x then some v else Vars.get y vars := by
  have one : ∀ w r, Vars.get y ((x, w) :: r) = if y = x then w else Vars.get y r := fun w r => by
    rw [Vars.get_cons]
    by_cases h : y = x
    · rw [if_pos h, if_pos (beq_iff_eq.mpr h.symm)]
    · rw [if_neg h, if_neg fun q => h (eq_of_beq q).symm]
  induction vars with
  | nil => exact one _ []
  | cons p r ih =>
    cases p with
    | mk z w =>
      rw [Vars.set_cons]
      by_cases hz : (z == x) = true
      · cases eq_of_beq hz
        rw [if_pos hz, one, one]
        by_cases h : y = x
        · rw [if_pos h, if_pos h]
        · rw [if_neg h, if_neg h, if_neg h]
      · rw [if_neg hz, Vars.get_cons, Vars.get_cons, ih]
        by_cases hy : (z == y) = true
        · rw [if_pos hy, if_pos hy, if_neg fun h => hz (beq_iff_eq.mpr ((eq_of_beq hy).trans h))]
        · rw [if_neg hy, if_neg hy]

section
variable {c : Cx} {A : Around} {E' : Value → Shared → Prop} {s : Shared} {sc : Scope} {env : Env} {r : Rh} {σ : H} {vars vars' : Vars} {v : V} {u : Value}

theorem FrX.pv (eo : EnvOk c sc env r.pv) : ∀ b, FrX sc env b → b ∈ r.pv := fun b hb => by
  rcases hb with rfl | ⟨x, _, hx⟩
  · exact eo.lpv
  · exact eo.cpv _ _ hx

/-- what a store leaves -/
noncomputable def OutS (c : Cx) (sc : Scope) (env : Env) (r : Rh) (s : Shared) (σ' : H) (vars' : Vars) (Q : Shared → Prop) : Prop :=
  ∀ r' h' tk, c.R r' σ' h' → StepX (FrX sc env) r s.heap r' h' → VarsOk c sc env r' h' vars' → Q { s with heap := h', toks := tk }

theorem OutS.after {r' : Rh} {h' : Heap} {tk : Nat} {σ' : H} {Q : Shared → Prop} (O : OutS c sc env r s σ' vars' Q) (S : StepX (FrX sc env) r s.heap r' h') : OutS c sc env r' { s with heap := h', toks := tk } σ' vars' Q :=
  fun r'' h'' tk' R'' S'' vo => O r'' h'' tk' R'' (S.trans S'') vo

theorem ownB_i {x : Str} (h : ownB sc x = true) : sc.names.lookup x = some .local ∨ sc.names.lookup x = some .cell := by
  unfold ownB at h
  generalize sc.names.lookup x = o at h ⊢
  cases o with
  | none => exact ft h
  | some k => cases k with
    | «local» => exact .inl rfl
    | cell => exact .inr rfl
    | _ => exact ft h
theorem store_sound {x : Str} {i : Nat} (ho : ownB sc x = true) (hi : c.t.id x = some i) (eo : EnvOk c sc env r.pv) (vo : VarsOk c sc env r s.heap vars) (R : c.R r σ s.heap) (xv : c.V r s.heap v u) {Q : Unit → Shared → Prop}
    (O : OutS c sc env r s σ (vars.set i v) (Q ())) : wpAny c.M A (storeName env x u) Q E' s := by
  refine k11 (vo.ns) fun m hm => ?_
  have idInj : ∀ y, c.t.id y = some i → y = x := fun y hy => by
    have h1 := Tx.id_get hy
    rw [Tx.id_get hi] at h1; (refine si h1 fun q5 => ?_; subst q5; clear h1); rfl
  rcases ownB_i ho with hl | hl
  · have hk := eo.loc x hl
    refine wpAny_storeName_local hk hm (fun h' hn' hs' => ?_) (by rw [eo.kind]; rfl)
    obtain ⟨R', S'⟩ := R.chg (h' := h') (FrX.pv eo) (fun b o e n => (hs'.2 b fun q => n (.inl q)).trans e) (fun b o e => by
      by_cases q : b = env.locals
      · subst q; obtain ⟨o', es, ep, e', _⟩ := hn'; exact ⟨o', e'⟩
      · exact ⟨o, (hs'.2 b q).trans e⟩)
    refine O r h' _ R' S' ⟨⟨_, hn'⟩, fun y a e => ?_, fun y j w e1 e2 e3 => ?_⟩
    · refine k22 (vo.cells y a e) fun v o ho hd => ?_
      exact ⟨v, o, (hs'.2 a (eo.apl y a e)).trans ho, hd⟩
    · rw [Vars.get_set] at e3
      by_cases hj : j = i
      · subst hj
        rw [if_pos rfl] at e3; (refine si e3 fun q7 => ?_; subst q7; clear e3)
        have := idInj y e1; subst this
        exact ⟨u, .inl ⟨hk, _, hn', by simp⟩, xv.mv (S'.mv (FrX.pv eo))⟩
      · rw [if_neg hj] at e3
        have hne : y ≠ x := fun q => by subst q; rw [hi] at e1; (refine si e1 fun q9 => ?_; subst q9; clear e1); exact hj rfl
        refine k12 (vo.held y j w e1 e2 e3) fun w' hw hr => ?_
        refine ⟨w', ?_, hr.mv (S'.mv (FrX.pv eo))⟩
        rcases hw with ⟨k1, m1, n1, q1⟩ | ⟨k1, a, a1, o, b1, b2⟩
        · refine .inl ⟨k1, _, hn', ?_⟩
          simp only [hne, if_false]
          rw [← q1]; exact congrFun (nsUniq hm n1) y
        · exact .inr ⟨k1, a, a1, o, (hs'.2 a (eo.apl y a a1)).trans b1, b2⟩
  · refine k02 (eo.cel x hl) fun hk hs => ?_
    refine k11 (Option.isSome_iff_exists.mp hs) fun a ha => ?_
    refine k11 (vo.cells x a ha) fun v0 hc => ?_
    refine wpAny_storeName_cell eo.kind hk ha hc fun h' hn' hs' => ?_
    obtain ⟨R', S'⟩ := R.chg (h' := h') (FrX.pv eo) (fun b o e n => (hs'.2 b fun q => n (.inr ⟨x, hl, q ▸ ha⟩)).trans e) (fun b o e => by
      by_cases q : b = a
      · subst q; obtain ⟨o', e', _⟩ := hn'; exact ⟨o', e'⟩
      · exact ⟨o, (hs'.2 b q).trans e⟩)
    have hLa : env.locals ≠ a := Ne.symm (eo.apl x a ha)
    have hm' : h'.Ns env.locals m := hm.at' fun o e => (hs'.2 _ hLa).trans e
    refine O r h' s.toks R' S' ⟨⟨_, hm'⟩, fun y b e => ?_, fun y j w e1 e2 e3 => ?_⟩
    · by_cases q : b = a
      · subst q; exact ⟨_, hn'⟩
      · refine k22 (vo.cells y b e) fun v o ho hd => ?_
        exact ⟨v, o, (hs'.2 b q).trans ho, hd⟩
    · rw [Vars.get_set] at e3
      by_cases hj : j = i
      · subst hj
        rw [if_pos rfl] at e3; (refine si e3 fun q11 => ?_; subst q11; clear e3)
        have := idInj y e1; subst this
        exact ⟨u, .inr ⟨.inl hk, a, ha, hn'⟩, xv.mv (S'.mv (FrX.pv eo))⟩
      · rw [if_neg hj] at e3
        have hne : y ≠ x := fun q => by subst q; rw [hi] at e1; (refine si e1 fun q13 => ?_; subst q13; clear e1); exact hj rfl
        refine k12 (vo.held y j w e1 e2 e3) fun w' hw hr => ?_
        refine ⟨w', ?_, hr.mv (S'.mv (FrX.pv eo))⟩
        rcases hw with ⟨k1, m1, n1, q1⟩ | ⟨k1, b, a1, o, b1, b2⟩
        · exact .inl ⟨k1, m1, n1.at' fun o e => (hs'.2 _ hLa).trans e, q1⟩
        · have : b ≠ a := fun q => hne (eo.inj y x b a1 (q ▸ ha))
          exact .inr ⟨k1, b, a1, o, (hs'.2 b this).trans b1, b2⟩

theorem un_assignEach (a : AT) (rest : List Expr) : assignEach (a.un :: rest) env = (false, assign a.un env) :: assignEach rest env := by cases a <;> rfl
theorem assignEach_un : ∀ as : List AT, (assignEach (unTs as) env).findIdx? (·.1) = none ∧ (assignEach (unTs as) env).length = (erTs as).length
  | [] => ⟨rfl, rfl⟩
  | a :: r => by
    refine k02 (assignEach_un r) fun h1 h2 => ?_
    show (assignEach (a.un :: unTs r) env).findIdx? (·.1) = none ∧ (assignEach (a.un :: unTs r) env).length = (erTs r).length + 1
    rw [un_assignEach]
    constructor
    · rw [List.findIdx?_cons, if_neg Bool.false_ne_true, h1]; rfl
    · rw [List.length_cons, h2]
theorem vars_i {β : Type} {f : Vars → Option β} {o : Option Vars} {y : β} (e : (match o with
    | some x => f x
    | .none => .none) = some y) : ∃ x, o = some x ∧ f x = some y := by
  cases o with
  | none => exact ns e
  | some x => exact ⟨x, rfl, e⟩
theorem bindTs_i {t : T} {ts : List T} {vs : List V} {σ : H} {vars vars' : Vars} (e : bindTs (t :: ts) vs σ vars = some vars') : ∃ v ws vars₁, vs = v :: ws ∧ bindT t v σ vars = some vars₁ ∧ bindTs ts ws σ vars₁ = some vars' := by
  cases vs with
  | nil => exact ns e
  | cons v ws =>
    refine k12 (vars_i (o := bindT t v σ vars) (f := fun vars' => bindTs ts ws σ vars') e) fun vars₁ e1 e2 => ?_
    exact ⟨v, ws, vars₁, rfl, e1, e2⟩
theorem bindTs_len {ts : List T} {vs : List V} {σ : H} {vars vars' : Vars} (e : bindTs ts vs σ vars = some vars') : ts.length = vs.length := by
  induction ts generalizing vs vars with
  | nil => cases vs with
    | nil => rfl
    | cons _ _ => exact ns e
  | cons t ts ih =>
    refine k33 (bindTs_i e) fun v ws _ q _ e2 => ?_; subst q
    exact congrArg Nat.succ (ih e2)

theorem EnvOk.stepX {X : Addr → Prop} {r' : Rh} {h h' : Heap} (eo : EnvOk c sc env r.pv) (S : StepX X r h r' h') : EnvOk c sc env r'.pv := S.pv ▸ eo

mutual
theorem assign_un (hh : A.handled = none) : ∀ (a : AT), a.ok c.t sc = true → ∀ {r : Rh} {s : Shared} {v : V} {u : Value} {vars vars' : Vars}, EnvOk c sc env r.pv → VarsOk c sc env r s.heap vars → c.R r σ s.heap → c.V r s.heap v u →
    bindT a.er v σ vars = some vars' → ∀ {Q : Unit → Shared → Prop}, OutS c sc env r s σ vars' (Q ()) → wpAny c.M A (assign a.un env u) Q E' s
  | .name x i p, h, r, s, v, u, vars, vars', eo, vo, R, xv, eq, Q, O => by
    refine k02 (and_i h) fun h1 h2 => ?_
    (refine si eq fun q21 => ?_; subst q21; clear eq)
    exact wpAny_assign_Name (store_sound h1 (of_decide_eq_true h2) eo vo R xv O)
  | .tup ts k p, h, r, s, v, u, vars, vars', eo, vo, R, xv, eq, Q, O => by
    cases v with
    | tup vs =>
      refine k35 (xv.tup_inv) fun items n a q1 ha hm hx hz => ?_; subst q1
      refine k02 (assignEach_un (env := env) ts) fun h1 h2 => ?_
      refine assign_Tuple_tuple hh (isTup_of ha) (by rw [h2, bindTs_len eq, List.size_toArray, hx.length]) h1 fun h' he => ?_
      have kp : ∀ b o, s.heap.get? b = some o → h'.get? b = some o := fun b o e => he b o (Nat.ne_of_lt (Heap.lt_size e)) e
      have S := Step.grow (r := r) kp
      exact assigns_un hh ts h eo (vo.step eo R S) (R.grow kp) (hx.step S) eq (O.after (tk := s.toks) S.x)
    | _ => exact ns eq
theorem assigns_un (hh : A.handled = none) : ∀ (as : List AT), okTs c.t sc as = true → ∀ {r : Rh} {s : Shared} {vs : List V} {us : List Value} {vars vars' : Vars}, EnvOk c sc env r.pv → VarsOk c sc env r s.heap vars → c.R r σ s.heap → VRs c.w.params r s.heap vs us →
    bindTs (erTs as) vs σ vars = some vars' → ∀ {Q : Unit → Shared → Prop}, OutS c sc env r s σ vars' (Q ()) → wpAny c.M A (assignInOrder ((assignEach (unTs as) env).map (·.2)) us) Q E' s
  | [], h, r, s, vs, us, vars, vars', eo, vo, R, xv, eq, Q, O => by
    cases vs with
    | nil => cases xv.inv; cases Option.some.inj eq; exact wpAny_pure (O r s.heap s.toks R .refl vo)
    | cons _ _ => exact ns eq
  | a :: as, h, r, s, vs, us, vars, vars', eo, vo, R, xv, eq, Q, O => by
    refine k02 (and_i h) fun h1 h2 => ?_
    refine k33 (bindTs_i eq) fun v ws vars₁ q2 e1 e2 => ?_; subst q2
    refine k23 xv.inv fun u us' q x y => ?_; subst q
    show wpAny _ _ (assignInOrder ((assignEach (a.un :: unTs as) env).map (·.2)) _) _ _ _
    rw [un_assignEach]
    show wpAny _ _ (holding us' (assign a.un env u) >>= fun _ => assignInOrder ((assignEach (unTs as) env).map (·.2)) us') _ _ _
    refine wpAny_bind (wpAny_holding (assign_un hh a h1 eo vo R x e1 fun r₁ h₁ tk₁ R₁ S₁ vo₁ => ?_))
    exact assigns_un hh as h2 (eo.stepX S₁) vo₁ R₁ (y.mv (S₁.mv (FrX.pv eo))) e2 (O.after S₁)
end
theorem assign_sound (hh : A.handled = none) (T' : T) {e : Expr} (tr : TrT c.t sc e T') {r : Rh} {s : Shared} {v : V} {u : Value} {vars vars' : Vars} (eo : EnvOk c sc env r.pv) (vo : VarsOk c sc env r s.heap vars) (R : c.R r σ s.heap) (xv : c.V r s.heap v u)
    (eq : bindT T' v σ vars = some vars') {Q : Unit → Shared → Prop} (O : OutS c sc env r s σ vars' (Q ())) : wpAny c.M A (assign e env u) Q E' s := by
  refine k13 tr fun a q3 q4 h => ?_; clear tr; subst q3; subst q4
  exact assign_un hh a h eo vo R xv eq O
end
end MI
end TMS16
section TMS17
open PySem PySem.Spec PySem.Calls PyProof.Rows PySem.W
set_option linter.unusedVariables false
namespace MI

/-- the model's iterator for ours: I it is, L its own objects -/
inductive ItR (c : Cx) (A : Around) (r : Rh) (h : Heap) : Itr → Addr → List Addr → Prop
  | ls (i k : Nat) (I a : Addr) : r.ob[i]? = some (a, a) → h.IsListIter I a k → ItR c A r h (.one (.ls i k)) I [I]
  | vs (l : List V) (I : Addr) (fp wr : List Addr) (n k : Nat) (P : Nat → Value → Prop) (St : Nat → Heap → Prop) : Walks c.prog c.w A I fp wr n P St → (∀ b ∈ wr, b = I) → (∀ b ∈ fp, b = I ∨ (¬ r.mut b ∧ ∃ o, h.get? b = some o)) → St k h → k + l.length = n →
      (∀ i h, St i h → ∃ o, h.get? I = some o) → (∀ j w, l[j]? = some w → ∀ v, P (k + j) v → VR c.w.params r h w v) → ItR c A r h (.one (.vs l)) I [I]
  | enum (i k : Nat) (I it a : Addr) (old : Value) : r.ob[i]? = some (a, a) → IsEnum h I it (k : Int) old → h.IsListIter it a k → I ≠ it → ItR c A r h (.enum i k) I [I, it]

section
variable {c : Cx} {A : Around} {E' : Value → Shared → Prop} {s : Shared} {sc : Scope} {env : Env} {r r' : Rh} {h h' : Heap} {σ : H} {it it' : Itr} {I : Addr} {L : List Addr} {v : V}

theorem ItR.keep (M : Mv r h r' h') (k : ∀ b ∈ L, ∀ o, h.get? b = some o → h'.get? b = some o) (x : ItR c A r h it I L) : ItR c A r' h' it I L := by
  cases x with
  | ls i k' I a h1 h2 => exact .ls i k' I a (M.ob _ _ h1) (h2.at fun o e => k I (by simp) o e)
  | vs l I fp wr n k' P St W h1 h2 h3 h4 h5 h6 =>
    refine .vs l I fp wr n k' P St W h1 (fun b hb => ?_) (W.frame _ _ _ h3 fun b hb o e => ?_) h4 h5 fun j w e v p => (h6 j w e v p).mv M
    · rcases h2 b hb with q | ⟨q, o, e⟩
      · exact .inl q
      · exact .inr ⟨(M.fz b o e q).2, o, (M.fz b o e q).1⟩
    · rcases h2 b hb with q | ⟨q, _⟩
      · subst q; exact k b (by simp) o e
      · exact (M.fz b o e q).1
  | enum i k' I it a old h1 h2 h3 h4 => exact .enum i k' I it a old (M.ob _ _ h1) (k I (by simp) _ h2) (h3.at fun o e => k it (by simp) o e) h4

theorem own_not_in (R : c.R r σ h) (hL : ∀ b ∈ L, b ∈ r.pv) {b : Addr} (hb : b ∈ L) : ¬ r.own b := R.pvo b (hL b hb)
theorem name_go {tg : Expr} {t : Tx} {i : Nat} (ht : TrT t sc tg (.name i)) (it v : Value) : letOwnedTupleGo tg it v = pure () := by
  refine k13 ht fun a q1 e _ => ?_; clear ht; subst q1
  cases a with
  | name _ _ _ => rfl
  | tup _ _ _ => cases e

theorem ls_next {i k : Nat} (e : (Itr.one (.ls i k)).next σ = some (some (v, it'))) : ∃ xs, σ[i]? = some (.list xs) ∧ xs[k]? = some v ∧ it' = .one (.ls i (k + 1)) := by
  unfold Itr.next Zc.next at e
  dsimp only at e
  generalize σ[i]? = o at e
  cases o with
  | none => exact ns e
  | some o => cases o with
    | inst C fs => exact ns e
    | list xs =>
      dsimp only at e
      cases q' : xs[k]? with
      | none => rw [q'] at e; exact ns (Option.some.inj e)
      | some w => rw [q'] at e; refine sp (Option.some.inj e) fun q1 q2 => ?_; subst q1; exact ⟨xs, rfl, q', q2.symm⟩
theorem ls_end {i k : Nat} (e : (Itr.one (.ls i k)).next σ = some .none) : ∃ xs, σ[i]? = some (.list xs) ∧ xs[k]? = .none := by
  unfold Itr.next Zc.next at e
  dsimp only at e
  generalize σ[i]? = o at e
  cases o with
  | none => exact ns e
  | some o => cases o with
    | inst C fs => exact ns e
    | list xs =>
      dsimp only at e
      cases q' : xs[k]? with
      | some w => rw [q'] at e; exact sn (Option.some.inj e)
      | none => exact ⟨xs, rfl, q'⟩
theorem enum_next {i k : Nat} {o : Option (V × Itr)} (e : (Itr.enum i k).next σ = some o) : ∃ xs, σ[i]? = some (.list xs) ∧ o = (xs[k]?).map fun v => (.tup [.int (k : Int), v], .enum i (k + 1)) := by
  unfold Itr.next at e
  dsimp only at e
  generalize σ[i]? = x at e
  cases x with
  | none => exact ns e
  | some x => cases x with
    | inst C fs => exact ns e
    | list xs =>
      refine ⟨xs, rfl, ?_⟩
      dsimp only at e
      cases q' : xs[k]? with
      | none => rw [q'] at e; exact (Option.some.inj e).symm
      | some w => rw [q'] at e; exact (Option.some.inj e).symm
/-- a tuple target behind a list's iterator: nothing is to be done -/
theorem tup_go {es : List Expr} {k : Nat} {p : Pos} {a : Addr} {n : Nat} {u : Value} {Q : Unit → Shared → Prop} (hit : s.heap.IsListIter I a n) (h : Q () s) : wpAny c.M A (letOwnedTupleGo (.Tuple es k p) (.ref I) u) Q E' s := by
  cases u with
  | ref b =>
    refine k13 hit fun o ho hc hd => ?_
    refine wpAny_bind (wpAny_load ho ?_)
    rw [hc, hd]
    dsimp only
    rw [if_neg (by rw [Bool.and_eq_true]; exact fun q => absurd q.1 (by decide))]
    exact wpAny_pure h
  | _ => exact wpAny_pure h
theorem none_at (h : Heap) : h.get? h.objs.size = .none := by
  cases q : h.get? h.objs.size with
  | none => rfl
  | some o => exact absurd (Heap.lt_size q) (Nat.lt_irrefl _)
theorem one_mem {b I : Addr} : b ∈ [I] ↔ b = I := List.mem_singleton
/-- an item is drawn -/
theorem next_ls {i k a : Nat} (R : c.R r σ s.heap) (hL : ∀ b ∈ [I], b ∈ r.pv) (h1 : r.ob[i]? = some (a, a)) (h2 : s.heap.IsListIter I a k) (e : (Itr.one (.ls i k)).next σ = some (some (v, it'))) {tg : Expr} {t : T} (ht : TrT c.t sc tg t) {Q : Value → Shared → Prop}
    (O : ∀ u h' tk, c.R r σ h' → StepX (· ∈ [I]) r s.heap r h' → c.V r h' v u → ItR c A r h' it' I [I] → Q u { s with heap := h', toks := tk }) :
    wpAny c.M A (pyNext (.ref I)) (fun o s₁ => ∃ u, o = some u ∧ wpAny c.M A (letOwnedTupleGo tg (.ref I) u) (fun _ s₂ => Q u s₂) E' s₁) E' s := by
  refine k13 (ls_next e) fun xs hx hw q2 => ?_; subst q2
  refine k35 (R.listAt hx (.ref i (a, a) h1)) fun a' items n ha' hp hg hxs hl => ?_
  cases Option.some.inj (h1.symm.trans hp)
  refine k12 (hxs.get hw) fun u hu hv => ?_
  refine wpAny_pyNext_list_item h2 (isList_of hg) (x := u) ((List.getElem?_toArray ..).trans hu) fun h' hit' hs' => ⟨u, rfl, ?_⟩
  refine k02 (R.chg (X := (· ∈ [I])) (h' := h') hL (fun b o eb n => (hs'.2 b fun q => n (one_mem.mpr q)).trans eb) (fun b o eb => by
    by_cases q : b = I
    · subst q; exact hit'.elim fun o' z => ⟨o', z.1⟩
    · exact ⟨o, (hs'.2 b q).trans eb⟩)) fun R' S' => ?_
  have fin := O u h' s.toks R' S' (hv.mv (S'.mv hL)) (.ls i (k + 1) I a h1 hit')
  cases t with
  | name j => rw [name_go ht]; exact wpAny_pure fin
  | tup ts =>
    refine k13 ht fun b q3 eb _ => ?_; clear ht; subst q3
    cases b with
    | name _ _ _ => exact nomatch eb
    | tup es' k' p' => exact tup_go hit' fin
theorem next_vs {l : List V} {fp wr : List Addr} {n k : Nat} {P : Nat → Value → Prop} {St : Nat → Heap → Prop} (R : c.R r σ s.heap) (hL : ∀ b ∈ [I], b ∈ r.pv) (W : Walks c.prog c.w A I fp wr n P St) (h1 : ∀ b ∈ wr, b = I) (h2 : ∀ b ∈ fp, b = I ∨ (¬ r.mut b ∧ ∃ o, s.heap.get? b = some o)) (h3 : St k s.heap) (h4 : k + l.length = n)
    (h5 : ∀ i h, St i h → ∃ o, h.get? I = some o) (h6 : ∀ j w, l[j]? = some w → ∀ v, P (k + j) v → VR c.w.params r s.heap w v) (e : (Itr.one (.vs l)).next σ = some (some (v, it'))) {tg : Expr} {t : T} (ht : TrT c.t sc tg t) (ok : okT t (.one (.vs l)) = true) {Q : Value → Shared → Prop}
    (O : ∀ u h' tk, c.R r σ h' → StepX (· ∈ [I]) r s.heap r h' → c.V r h' v u → ItR c A r h' it' I [I] → Q u { s with heap := h', toks := tk }) :
    wpAny c.M A (pyNext (.ref I)) (fun o s₁ => ∃ u, o = some u ∧ wpAny c.M A (letOwnedTupleGo tg (.ref I) u) (fun _ s₂ => Q u s₂) E' s₁) E' s := by
  cases l with
  | nil => exact ns (Option.some.inj e)
  | cons w l =>
    refine sp (Option.some.inj e) fun q1 q2 => ?_; subst q1; subst q2
    cases t with
    | tup ts => exact ft ok
    | name j =>
      refine W.item k s _ E' (h4 ▸ Nat.lt_add_of_pos_right (Nat.succ_pos _)) h3 fun u h' tk hp st hk => ⟨u, rfl, ?_⟩
      rw [name_go ht]
      refine wpAny_pure ?_
      have kx : ∀ b o, s.heap.get? b = some o → ¬ b ∈ [I] → h'.get? b = some o := fun b o eb nb => hk b o (fun q => nb (one_mem.mpr (h1 b q))) eb
      refine k02 (R.chg (X := (· ∈ [I])) (h' := h') hL kx (fun b o eb => by
        by_cases q : b = I
        · subst q; exact h5 _ _ st
        · exact ⟨o, kx b o eb (mt one_mem.mp q)⟩)) fun R' S' => ?_
      have M := S'.mv hL
      refine O u h' tk R' S' ((h6 0 w rfl u hp).mv M) (.vs l I fp wr n (k + 1) P St W h1 (fun b hb => (h2 b hb).imp id fun q => q.2.elim fun o eo => ⟨(M.fz b o eo q.1).2, o, (M.fz b o eo q.1).1⟩) st ((Nat.succ_add_eq_add_succ k l.length).trans h4) h5 fun j w' ew v' pv' => ?_)
      exact (h6 (j + 1) w' ew v' (Nat.succ_add_eq_add_succ k j ▸ pv')).mv M
theorem next_enum {i k : Nat} {it a : Addr} {old : Value} (R : c.R r σ s.heap) (hL : ∀ b ∈ [I, it], b ∈ r.pv) (h1 : r.ob[i]? = some (a, a)) (h2 : IsEnum s.heap I it (k : Int) old) (h3 : s.heap.IsListIter it a k) (h4 : I ≠ it) (e : (Itr.enum i k).next σ = some (some (v, it'))) {tg : Expr} {t : T} (ht : TrT c.t sc tg t) (ok : okT t (.enum i k) = true) {Q : Value → Shared → Prop}
    (O : ∀ u h' tk, c.R r σ h' → StepX (· ∈ [I, it]) r s.heap r h' → c.V r h' v u → ItR c A r h' it' I [I, it] → Q u { s with heap := h', toks := tk }) :
    wpAny c.M A (pyNext (.ref I)) (fun o s₁ => ∃ u, o = some u ∧ wpAny c.M A (letOwnedTupleGo tg (.ref I) u) (fun _ s₂ => Q u s₂) E' s₁) E' s := by
  refine k12 (enum_next e) fun xs hx hw => ?_
  refine k12 (Option.map_eq_some_iff.mp hw.symm) fun w hw2 q => ?_
  cases q
  refine k35 (R.listAt hx (.ref i (a, a) h1)) fun a' items n ha' hp hg hxs hl => ?_
  cases Option.some.inj (h1.symm.trans hp)
  refine k12 (hxs.get hw2) fun u hu hv => ?_
  have none_ := none_at s.heap
  refine wpAny_pyNext_enum_item h2 h3 (isList_of hg) (x := u) ((List.getElem?_toArray ..).trans hu) h4 fun h₁ ho hit' hT hz hk => ⟨_, rfl, ?_⟩
  cases t with
  | name j => exact ft ok
  | tup ts =>
    refine k13 ht fun b q4 eb _ => ?_; clear ht; subst q4
    cases b with
    | name _ _ _ => exact nomatch eb
    | tup es' k' p' =>
      refine wpAny_letOwnedTupleGo_enum (s := { s with heap := h₁, toks := s.toks + 1 }) ho fun h' he' hs' => ?_
      have kx : ∀ b o, s.heap.get? b = some o → ¬ b ∈ [I, it] → h'.get? b = some o := fun b o eb n => (hs'.2 b fun q => n (q ▸ .head _)).trans (hk b o (fun q => n (q ▸ .head _)) (fun q => n (q ▸ .tail _ (.head _))) eb)
      have hit₂ : h'.IsListIter it a (k + 1) := hit'.at fun o eb => (hs'.2 it (Ne.symm h4)).trans eb
      refine k02 (R.chg (X := (· ∈ [I, it])) (h' := h') hL kx (fun b o eb => by
        by_cases q : b = I
        · subst q; exact ⟨_, he'⟩
        · by_cases q' : b = it
          · subst q'; exact hit₂.elim fun o' z => ⟨o', z.1⟩
          · exact ⟨o, kx b o eb fun z => (List.mem_cons.mp z).elim q fun z => q' (one_mem.mp z)⟩)) fun R' S' => ?_
      have hTI : s.heap.objs.size ≠ I := fun q => ns (none_.symm.trans (q ▸ h2))
      have hT' : h'.get? s.heap.objs.size = some (tupO [.int k s.toks, u] 0) := (hs'.2 _ hTI).trans hT
      exact O _ h' _ R' S' (.tup _ [.int k s.toks, u] 0 _ hT' (fun hm => (R.mutLive hm).elim fun o eo => ns (none_.symm.trans eo)) (.cons (.int _ _) (.cons (hv.mv (S'.mv hL)) .nil)) (by decide : 2 ≤ 4000000)) (.enum i (k + 1) I it a u h1 he' hit₂ h4)
theorem next_sound (R : c.R r σ s.heap) (hL : ∀ b ∈ L, b ∈ r.pv) (x : ItR c A r s.heap it I L) (e : it.next σ = some (some (v, it'))) {tg : Expr} {t : T} (ht : TrT c.t sc tg t) (ok : okT t it = true) {Q : Value → Shared → Prop}
    (O : ∀ u h' tk, c.R r σ h' → StepX (· ∈ L) r s.heap r h' → c.V r h' v u → ItR c A r h' it' I L → Q u { s with heap := h', toks := tk }) :
    wpAny c.M A (pyNext (.ref I)) (fun o s₁ => ∃ u, o = some u ∧ wpAny c.M A (letOwnedTupleGo tg (.ref I) u) (fun _ s₂ => Q u s₂) E' s₁) E' s := by
  cases x with
  | ls i k I a h1 h2 => exact next_ls R hL h1 h2 e ht O
  | vs l I fp wr n k P St W h1 h2 h3 h4 h5 h6 => exact next_vs R hL W h1 h2 h3 h4 h5 h6 e ht ok O
  | enum i k I it a old h1 h2 h3 h4 => exact next_enum R hL h1 h2 h3 h4 e ht ok O

/-- nothing is left -/
theorem next_end (hh : A.handled = none) (R : c.R r σ s.heap) (x : ItR c A r s.heap it I L) (e : it.next σ = some .none) {Q : Option Value → Shared → Prop}
    (O : ∀ h' tk, (∀ b o, b ∉ L → s.heap.get? b = some o → h'.get? b = some o) → Q none { s with heap := h', toks := tk }) : wpAny c.M A (pyNext (.ref I)) Q E' s := by
  cases x with
  | ls i k I a h1 h2 =>
    refine k12 (ls_end e) fun xs hx hn => ?_
    refine k35 (R.listAt hx (.ref i (a, a) h1)) fun a' items n ha' hp hg hxs hl => ?_
    cases Option.some.inj (h1.symm.trans hp)
    exact wpAny_pyNext_list_end hh h2 (isList_of hg) ((List.getElem?_toArray ..).trans (hxs.none hn)) fun h' hs' => O h' s.toks fun b o nb eb => hs' b o (fun q => nb (one_mem.mpr q)) eb
  | vs l I fp wr n k P St W h1 h2 h3 h4 h5 h6 =>
    cases l with
    | cons w l => exact sn (Option.some.inj e)
    | nil =>
      cases h4
      exact W.done s _ E' h3 fun h' tk hk => O h' tk fun b o nb eb => hk b o (fun q => nb (one_mem.mpr (h1 b q))) eb
  | enum i k I it a old h1 h2 h3 h4 =>
    refine k12 (enum_next e) fun xs hx hn => ?_
    refine k35 (R.listAt hx (.ref i (a, a) h1)) fun a' items n ha' hp hg hxs hl => ?_
    cases Option.some.inj (h1.symm.trans hp)
    exact wpAny_pyNext_enum_end hh h2 h3 (isList_of hg) ((List.getElem?_toArray ..).trans (hxs.none (Option.map_eq_none_iff.mp hn.symm))) fun h' hs' => O h' s.toks fun b o nb eb => hs' b o (fun q => nb (q ▸ .tail _ (.head _))) eb
end
end MI
end TMS17
section TMS18
open PySem PySem.Spec PySem.Calls PyProof.Rows PySem.W
set_option linter.unusedVariables false
namespace MI

theorem rngItems_get {n : Nat} {a : Int} {j : Nat} {w : V} (e : (rangeL a n)[j]? = some w) : w = .int (a + j) := by
  induction n generalizing a j with
  | zero => exact ns e
  | succ n ih => cases j with
    | zero => exact (Option.some.inj e).symm.trans (congrArg V.int (Int.add_zero a).symm)
    | succ j => exact (ih (show (rangeL (a + 1) n)[j]? = some w from e)).trans (congrArg V.int (by push_cast; omega))
theorem rangeL_len (n : Nat) (a : Int) : (rangeL a n).length = n := by
  induction n generalizing a with
  | zero => rfl
  | succ n ih => exact congrArg Nat.succ (ih (a + 1))

section
variable {c : Cx} {A : Around} {E' : Value → Shared → Prop} {s : Shared} {sc : Scope} {env : Env} {r r' : Rh} {h h' : Heap} {σ σ' : H} {I : Addr} {L : List Addr} {v : V} {vars : Vars} {ev : Ev}

/-- what is wanted of an iterator made -/
noncomputable def OutI (c : Cx) (A : Around) (r : Rh) (s : Shared) (σ' : H) (itr : Itr) (Q : Addr → Shared → Prop) : Prop :=
  ∀ r' h₁ h' tk I L, c.R r' σ' h₁ → Step r s.heap r' h₁ → (∀ b o, h₁.get? b = some o → h'.get? b = some o) → (∀ b ∈ L, h₁.get? b = none) → (∀ b ∈ L, ∃ o, h'.get? b = some o) → ItR c A { r' with pv := r'.pv ++ L } h' itr I L → Q I { s with heap := h', toks := tk }

theorem OutI.after {s : Shared} {h₁ : Heap} {tk : Nat} {itr : Itr} {Q : Addr → Shared → Prop} (O : OutI c A r s σ' itr Q) (S : Step r s.heap r' h₁) : OutI c A r' { s with heap := h₁, toks := tk } σ' itr Q :=
  fun r'' h₂ h' tk' I L R'' S'' => O r'' h₂ h' tk' I L R'' (S.trans S'')

theorem size_none (h : Heap) {i : Nat} (hi : h.objs.size ≤ i) : h.get? i = .none := by
  cases q : h.get? i with
  | none => rfl
  | some o => exact absurd (Heap.lt_size q) (Nat.not_lt.mpr hi)

theorem iter_fin (R : c.R r σ s.heap) {z : Zc} {Q : Addr → Shared → Prop} (O : OutI c A r s σ (.one z) Q) {o : Obj} (hf : o.isFreed = false) (hi : ItR c A { r with pv := r.pv ++ [s.heap.objs.size] } (s.heap.push o) (.one z) s.heap.objs.size [s.heap.objs.size]) : ∃ I, Value.ref s.heap.objs.size = .ref I ∧ Q I { s with heap := s.heap.push o } :=
  ⟨_, rfl, O r s.heap _ s.toks _ [s.heap.objs.size] R (Step.refl _ _) (fun b ob e => Heap.get?_push_of_some _ e) (fun b hb => one_mem.mp hb ▸ none_at s.heap) (fun b hb => one_mem.mp hb ▸ ⟨_, Heap.get?_push_size _ hf⟩) hi⟩
theorem iter_tup (hh : A.handled = none) (R : c.R r σ s.heap) {u : Value} {vs : List V} (x : c.V r s.heap (.tup vs) u) {Q : Addr → Shared → Prop} (O : OutI c A r s σ (.one (.vs vs)) Q) :
    wpAny c.M A (pyIter u) (fun o s' => ∃ I, o = .ref I ∧ Q I s') E' s := by
  have n0 := none_at s.heap
  refine k35 (x.tup_inv) fun items n a q2 hg hm hxs hl => ?_; subst q2
  have hne : a ≠ s.heap.objs.size := fun q => ns (n0.symm.trans (q ▸ hg))
  have hm' : ¬ ({ r with pv := r.pv ++ [s.heap.objs.size] } : Rh).mut a := fun q => q.elim (fun q => hm (.inl q)) fun q => (List.mem_append.mp q).elim (fun q => hm (.inr q)) fun q => hne (one_mem.mp q)
  have hg' : (s.heap.push { cls := .type "tuple_iterator", data := .fields #[.ref a, .int 0 0] }).get? a = _ := Heap.get?_push_of_some _ hg
  have hM := (R.enter (L := [s.heap.objs.size]) (h' := s.heap.push { cls := .type "tuple_iterator", data := .fields #[.ref a, .int 0 0] }) (fun b ob e => Heap.get?_push_of_some _ e) (fun b hb => one_mem.mp hb ▸ n0) (fun b hb => one_mem.mp hb ▸ ⟨_, Heap.get?_push_size _ rfl⟩)).2
  refine wpAny_pyIter_tuple (show s.heap.IsTuple a items.toArray from isTup_of hg) (iter_fin R O rfl (.vs vs _ [s.heap.objs.size, a] [s.heap.objs.size] items.toArray.size 0 _ _ (Walks.tuple hh _ a hne items.toArray) (fun b hb => one_mem.mp hb) (fun b hb => ?_) ⟨⟨_, Heap.get?_push_size _ rfl, rfl, rfl⟩, ⟨_, hg', rfl, n, rfl⟩⟩ ((Nat.zero_add _).trans (hxs.length.symm.trans List.size_toArray.symm)) (fun i h st => st.1.elim fun o ho => ⟨o, ho.1⟩) fun j w ew v pv => ?_))
  · refine (List.mem_cons.mp hb).imp id fun q => ?_
    cases one_mem.mp q
    exact ⟨hm', _, hg'⟩
  · refine k12 (hxs.get ew) fun u hu hr => ?_
    have pv' : items[0 + j]? = some v := (List.getElem?_toArray ..).symm.trans pv
    rw [Nat.zero_add] at pv'
    exact Option.some.inj (hu.symm.trans pv') ▸ hr.mv hM
theorem iter_str (hh : A.handled = none) (R : c.R r σ s.heap) {u : Value} {x' : Txt} (x : c.V r s.heap (.str x') u) {Q : Addr → Shared → Prop} (O : OutI c A r s σ (.one (.vs (x'.map fun c => .str [c]))) Q) :
    wpAny c.M A (pyIter u) (fun o s' => ∃ I, o = .ref I ∧ Q I s') E' s := by
  refine k11 (x.str_inv) fun t q3 => ?_; subst q3
  have items' : ∀ (o : Obj) (j : Nat) (w : V), (x'.map fun c => V.str [c])[j]? = some w → ∀ v, SignAt (stO x') (0 + j) v → VR c.w.params { r with pv := r.pv ++ [s.heap.objs.size] } (s.heap.push o) w v := fun o j w ew v pv => by
    refine k22 pv fun ch u hu q4 => ?_; subst q4
    refine k12 (Option.map_eq_some_iff.mp ((List.getElem?_map ..).symm.trans ew)) fun c' hc' q5 => ?_; subst q5
    have hu' : x'[0 + j]? = some ch := (List.getElem?_toArray ..).symm.trans hu
    rw [Nat.zero_add] at hu'
    exact Option.some.inj (hu'.symm.trans hc') ▸ .str [ch] u
  have hlen : 0 + (x'.map fun c => V.str [c]).length = (stO x').cps.size := (Nat.zero_add _).trans ((List.length_map ..).trans List.size_toArray.symm)
  cases hb : (stO x').cps.all (· < 128)
  · exact wpAny_pyIter_wide hb (iter_fin R O rfl (.vs _ _ [s.heap.objs.size] [s.heap.objs.size] (stO x').cps.size 0 _ _ (Walks.strWide hh _ (stO x') t) (fun b hb => one_mem.mp hb) (fun b hb => .inl (one_mem.mp hb)) ⟨_, Heap.get?_push_size _ rfl, rfl, rfl⟩ hlen (fun i h st => st.elim fun o ho => ⟨o, ho.1⟩) (items' _)))
  · exact wpAny_pyIter_ascii hb (iter_fin R O rfl (.vs _ _ [s.heap.objs.size] [s.heap.objs.size] (stO x').cps.size 0 _ _ (Walks.strAscii hh _ (stO x') t) (fun b hb => one_mem.mp hb) (fun b hb => .inl (one_mem.mp hb)) ⟨_, Heap.get?_push_size _ rfl, rfl, rfl⟩ hlen (fun i h st => st.elim fun o ho => ⟨o, ho.1⟩) (items' _)))
theorem iter_rng (hh : A.handled = none) (R : c.R r σ s.heap) {u : Value} {a b : Int} (x : c.V r s.heap (.rng a b) u) (hc : (decide (b - a < 1000) && fit a && fit b) = true) {Q : Addr → Shared → Prop} (O : OutI c A r s σ (.one (.vs (rngItems a b))) Q) :
    wpAny c.M A (pyIter u) (fun o s' => ∃ I, o = .ref I ∧ Q I s') E' s := by
  refine k02 (and_i hc) fun hc hfb => ?_
  refine k02 (and_i hc) fun hab hfa => ?_
  have hab := of_decide_eq_true hab
  refine k43 x.inv fun t u' v' y q hg hm => ?_; subst q
  refine wpAny_pyIter_range (a := a) (b := b) (c := 1) hg ?_ (iter_fin R O rfl (.vs (rngItems a b) _ [s.heap.objs.size] [s.heap.objs.size] (b - a).toNat 0 _ _ (Walks.range hh _ a 1 (b - a).toNat) (fun b hb => one_mem.mp hb) (fun b hb => .inl (one_mem.mp hb)) ?_ ((Nat.zero_add _).trans (rangeL_len _ _)) (fun i h st => ⟨_, st⟩) fun j w ew v pv => ?_))
  · have f1 := fit_iff.mp hfa
    have f2 := fit_iff.mp hfb
    exact small_one (by omega) (by omega) (by omega) (by omega)
  · show IsRangeIter _ _ _ _ _
    unfold IsRangeIter
    rw [Heap.get?_push_size _ rfl, rangeSize_nat]
    simp
  · refine k11 pv fun t q6 => ?_; subst q6
    cases rngItems_get ew
    rw [show a + ((0 + j : Nat) : Int) * 1 = a + j by rw [Nat.zero_add, Int.mul_one]]
    exact .int _ _
theorem iter_sound (hh : A.handled = none) (R : c.R r σ s.heap) {u : Value} (x : c.V r s.heap v u) {z : Zc} (e : zcOf v σ = some z) {Q : Addr → Shared → Prop} (O : OutI c A r s σ (.one z) Q) :
    wpAny c.M A (pyIter u) (fun o s' => ∃ I, o = .ref I ∧ Q I s') E' s := by
  cases v with
  | ref i =>
    refine k12 (lst_i (o := σ[i]?) (f := fun _ => some (Zc.ls i 0)) e) fun xs hx e => ?_
    cases Option.some.inj e
    refine k35 (R.listAt hx x) fun a items n q1 hp hg hxs hl => ?_; subst q1
    exact wpAny_pyIter_list (isList_of hg) (iter_fin R O rfl (.ls i 0 _ a hp ⟨_, Heap.get?_push_size _ rfl, rfl, rfl⟩))
  | tup vs => cases Option.some.inj e; exact iter_tup hh R x O
  | str x' => cases (if_some e).2; exact iter_str hh R x O
  | rng a b => refine k02 (if_some e) fun hc q => ?_; subst q; exact iter_rng hh R x hc O
  | _ => exact ns e

/-- the iterator itself is its iterator -/
theorem iter_self {itr : Itr} (x : ItR c A r s.heap itr I L) {Q : Value → Shared → Prop} (h : Q (.ref I) s) : wpAny c.M A (pyIter (.ref I)) Q E' s := by
  cases x with
  | ls i k I a h1 h2 => exact wpAny_pyIter_listiter h2 h
  | vs l I fp wr n k P St W h1 h2 h3 h4 h5 h6 => exact W.self _ _ _ _ h3 h
  | enum i k I it a old h1 h2 h3 h4 => exact wpAny_pyIter_enum h2 h

theorem builtinIs_inv {t : Tx} {z : Str} {u : Value} (h : builtinIs t sc z u = true) : isVar sc z = some false ∧ t.glob z = some (.cst u) ∧ (z == ("__debug__" : Str)) = false := by
  unfold builtinIs at h
  refine k02 (and_i h) fun h h3 => ?_
  refine k02 (and_i h) fun h1 h2 => ?_
  exact ⟨of_decide_eq_true h1, vIs_i h2, not_i h3⟩

theorem evIt_sound (hOk : c.Ok) (hh : A.handled = none) (ih : EvOk c A ev) {e : Expr} {u : It} (tr : TrI c.t sc e u) (eo : EnvOk c sc env r.pv) (vo : VarsOk c sc env r s.heap vars) (R : c.R r σ s.heap) {itr : Itr} (eq : evIt ev u vars σ = some (itr, σ')) {Q : Addr → Shared → Prop} (O : OutI c A r s σ' itr Q) :
    wpAny c.M A (eval e env) (fun u s₁ => wpAny c.M A (pyIter u) (fun o s₂ => ∃ I, o = .ref I ∧ Q I s₂) E' s₁) E' s := by
  refine k13 tr fun a q7 q8 h => ?_; clear tr; subst q7; subst q8
  cases a with
  | plain a =>
    refine k22 (vh_i (o := ev a.er vars σ) (f := fun v σ' => (zcOf v σ').map fun z => (Itr.one z, σ')) eq) fun v σ₁ e1 e => ?_
    refine k12 (Option.map_eq_some_iff.mp e) fun z hz e => ?_
    cases e
    exact ih (.mk h) eo vo R e1 fun u r₁ h₁ tk₁ R₁ S₁ x₁ => iter_sound (s := { s with heap := h₁, toks := tk₁ }) hh R₁ x₁ hz (O.after (tk := tk₁) S₁)
  | enum z zp a q =>
    refine k02 (and_i h) fun hz h => ?_
    refine k22 (vref_i (o := ev a.er vars σ) (f := fun i σ' => match σ'[i]? with | some (.list _) => some (Itr.enum i 0, σ') | _ => .none) eq) fun i σ₁ e1 e => ?_
    refine k12 (lst_i (o := σ₁[i]?) (f := fun _ => some (Itr.enum i 0, σ₁)) e) fun xs hx e => ?_
    (refine sp e fun q41 q42 => ?_; subst q41; subst q42; clear e)
    refine k03 (builtinIs_inv hz) fun hv hg hd => ?_
    show wpAny _ _ (eval (.Call (.Name z zp) [a.un] [] q) env) _ _ _
    rw [show eval (.Call (.Name z zp) [a.un] [] q) env = (do callWith q (← eval (.Name z zp) env) [] (backTo q (starEach [a.un] env)) (backToKw q (keywordEach [] env))) from rfl]
    refine wpAny_bind (eval_glob hOk.glob hd hv hg eo R fun uf r₁ h₁ tk₁ R₁ S₁ xf => ?_)
    cases xf.cst_inv
    refine callWith_sound (s := { s with heap := h₁, toks := tk₁ }) ih .type (TrL.mk (as := [a]) (by show (a.ok c.t sc && true) = true; rw [h]; rfl)) (.nil (t := c.t) (sc := sc)) (eo.step S₁) (vo.step eo R S₁) R₁ (vs := [.ref i]) (kvs := []) (by show (match ev a.er vars σ with | some (v, σ') => (match evAll ev [] vars σ' with | some (vs, σ'') => some (v :: vs, σ'') | .none => .none) | .none => .none) = _; rw [e1]; rfl) rfl fun items kit r₂ h₂ tk₂ R₂ S₂ x₂ y₂ => ?_
    cases y₂
    refine k23 x₂.inv fun u us' q x₄ x₃ => ?_; subst q
    cases x₃.inv
    refine k35 (R₂.listAt hx x₄) fun a items n q9 hp hg' hxs hl => ?_; subst q9
    refine call_enumerate_list (isList_of hg') fun h₃ he hi hz' hk => ?_
    have n0 := size_none h₂ (Nat.le_refl _)
    have n1 := size_none h₂ (Nat.le_succ _)
    refine wpAny_pyIter_enum he ⟨_, rfl, O r₂ h₂ h₃ tk₂ _ [h₂.objs.size + 1, h₂.objs.size] R₂ (S₁.trans S₂) hk (fun b hb => ?_) (fun b hb => ?_) (.enum i 0 _ _ a .none hp he hi (Nat.succ_ne_self _))⟩
    · rcases List.mem_cons.mp hb with q | q
      · rw [q]; exact n1
      · rw [List.mem_singleton.mp q]; exact n0
    · rcases List.mem_cons.mp hb with q | q
      · rw [q]; exact ⟨_, he⟩
      · rw [List.mem_singleton.mp q]; obtain ⟨o, ho, _⟩ := hi; exact ⟨o, ho⟩
end
end MI
end TMS18
section TMS19
open PySem PySem.Spec PySem.Calls PyProof.Rows PySem.W
set_option linter.unusedVariables false
namespace MI

theorem compTurn_any (elt target iter : Expr) (ifs : List Expr) (scope : Scope) (pos : Pos) (it acc : Value) (env : Env) :
    compTurn (.ListComp elt [⟨target, iter, ifs, 0⟩] scope pos) 0 it acc env = (do
      standAt iter.pos
      match ← pyNext it with
      | none => pure (.done .next)
      | some v =>
        letOwnedTupleGo target it v
        assign target env v
        let mut ok := true
        for c in ifs do
          if ok then ok ← isTrue c env (eval c env)
        if ok then
          (do let _ ← call (.builtin "list.append") [acc, ← eval elt env])
        again (.compLoop (.ListComp elt [⟨target, iter, ifs, 0⟩] scope pos) 0 it acc env)) := by rfl

noncomputable abbrev tests (ifs : List Expr) (env : Env) (b : Bool) : Sem Bool := forIn ifs b fun c r => if r = true then do let ok ← isTrue c env (eval c env); pure (ForInStep.yield ok) else pure (ForInStep.yield r)

theorem codeAny_compLoop_any {prog : Program} {w : World} {A : Around} {R : Result → Shared → Prop} {s : Shared} {elt target iter : Expr} {ifs : List Expr} {scope : Scope} {pos : Pos} {it acc : Value} {env : Env} (I : Nat → Shared → Prop)
    (turn : ∀ n s E', I n s → wpAny (model prog w) A (pyNext it) (fun r s₁ => match r with
      | none => R (.ok .next) s₁
      | some v => wpAny (model prog w) A (letOwnedTupleGo target it v) (fun _ s₁ => wpAny (model prog w) A (assign target env v) (fun _ s₂ =>
          wpAny (model prog w) A (tests ifs env true) (fun ok s₃ =>
            if ok = true then wpAny (model prog w) A (eval elt env) (fun x s₄ =>
              wpAny (model prog w) A (call (.builtin "list.append") [acc, x]) (fun _ s₅ => ∃ m, m < n ∧ I m s₅) E' s₄) E' s₃
            else ∃ m, m < n ∧ I m s₃) E' s₂) E' s₁) E' s₁) E' s)
    (n : Nat) (h : I n s) :
    codeAny (model prog w) A (.compLoop (.ListComp elt [⟨target, iter, ifs, 0⟩] scope pos) 0 it acc env) R s := by
  refine codeAny_loop rfl I (fun n s hI => ?_) n h
  show wpAny _ A ((compTurn (.ListComp elt [⟨target, iter, ifs, 0⟩] scope pos) 0 it acc env).onRaise (fun x => do noteFrame x env; theTreesLotGoes x)) _ _ s
  refine wpAny_noted ?_
  rw [compTurn_any]
  refine wpAny_bind (wpAny_standAt (wpAny_bind (wpAny_mono (turn n s _ hI) (fun r s₁ h₁ => ?_) fun _ _ h' => h')))
  cases r with
  | none => exact wpAny_pure h₁
  | some v =>
    refine wpAny_bind (wpAny_mono h₁ (fun _ s₁ h₁ => ?_) fun _ _ h' => h')
    refine wpAny_bind (wpAny_mono h₁ (fun _ s₂ h₂ => wpAny_bind (wpAny_mono h₂ (fun ok s₃ h₃ => ?_) fun _ _ h' => h')) fun _ _ h' => h')
    cases ok with
    | false => exact wpAny_pure ⟨rfl, h₃⟩
    | true =>
      exact wpAny_bind (wpAny_bind (wpAny_mono h₃ (fun x s₄ h₄ => wpAny_bind (wpAny_mono h₄ (fun _ s₅ h₅ => wpAny_pure (wpAny_pure ⟨rfl, h₅⟩)) fun _ _ h' => h')) fun _ _ h' => h'))

/-! the cells of a comprehension -/
theorem cellsFrom_app : ∀ (names : List (Str × NameKind)) (n : Nat) (acc : List (Str × Addr)), cellsFrom n names acc = cellsFrom n names [] ++ acc
  | [], _, _ => rfl
  | (x, k) :: r, n, acc => by
    unfold cellsFrom
    split
    · rw [cellsFrom_app r (n + 1) ((x, n) :: acc), cellsFrom_app r (n + 1) [(x, n)], List.append_assoc]; rfl
    · exact cellsFrom_app r n acc
theorem cellsFrom_mem : ∀ (names : List (Str × NameKind)) (n : Nat) {x : Str} {a : Addr}, (x, a) ∈ cellsFrom n names [] → (x, NameKind.cell) ∈ names
  | [], _, _, _, h => by cases h
  | (y, k) :: r, n, x, a, h => by
    unfold cellsFrom at h
    split at h
    · rename_i hk
      rw [cellsFrom_app] at h
      rcases List.mem_append.mp h with h | h
      · exact .tail _ (cellsFrom_mem r _ h)
      · have := List.mem_singleton.mp h; cases this
        have : k = .cell := by simpa using hk
        rw [this]; exact .head _
    · exact .tail _ (cellsFrom_mem r _ h)
theorem lookup_of_mem {α : Type} {l : List (Str × α)} {x : Str} {a : α} (h : (x, a) ∈ l) : (l.lookup x).isSome = true := by
  induction l with
  | nil => exact nomatch h
  | cons p r ih =>
    cases p with
    | mk y b =>
      rw [List.lookup_cons]
      cases q : x == y with
      | true => rfl
      | false => exact ih ((List.mem_cons.mp h).resolve_left fun z => by cases z; exact tf ((beq_self_eq_true x).symm.trans q))
theorem cellsFrom_some : ∀ (names : List (Str × NameKind)) (n : Nat) {x : Str}, (x, NameKind.cell) ∈ names → ∃ a, (x, a) ∈ cellsFrom n names []
  | (y, k) :: r, n, x, h => by
    unfold cellsFrom
    rcases List.mem_cons.mp h with h | h
    · cases h
      rw [if_pos (by rfl), cellsFrom_app]
      exact ⟨n, List.mem_append_right _ (.head _)⟩
    · split
      · refine k11 (cellsFrom_some r (n + 1) h) fun a ha => ?_
        rw [cellsFrom_app]
        exact ⟨a, List.mem_append_left _ ha⟩
      · exact cellsFrom_some r n h
theorem lookup_app {α : Type} {l l' : List (Str × α)} {x : Str} : (l ++ l').lookup x = (match l.lookup x with | some a => some a | none => l'.lookup x) := by
  induction l with
  | nil => rfl
  | cons p r ih =>
    cases p with
    | mk y b =>
      rw [List.cons_append, List.lookup_cons, List.lookup_cons]
      cases q : x == y with
      | true => rfl
      | false => exact ih

noncomputable def clOf (env : Env) : List (Str × NameKind) → List (Str × Addr) → List (Str × Addr)
  | [], acc => acc
  | (x, k) :: r, acc => if k == .free then clOf env r ((x, (env.cells.lookup x).getD 0) :: acc) else clOf env r acc
theorem closureFor_eq {scope : Scope} {env : Env} (h : ∀ x ∈ scope.names, x.2 = .free → (env.cells.lookup x.1).isSome = true) : closureFor scope env = pure (clOf env scope.names []) := by
  unfold closureFor
  have : ∀ (names : List (Str × NameKind)) (acc : List (Str × Addr)), (∀ x ∈ names, x.2 = .free → (env.cells.lookup x.1).isSome = true) →
      (forIn names acc (fun x r => match x with | (name, kind) => if (kind == .free) = true then do let a ← cellOf env name; pure (ForInStep.yield ((name, a) :: r)) else pure (ForInStep.yield r)) : Sem (List (Str × Addr))) = pure (clOf env names acc) := by
    intro names
    induction names with
    | nil => intro acc _; rfl
    | cons y r ih =>
      obtain ⟨y, k⟩ := y
      intro acc hh
      rw [List.forIn_cons]
      unfold clOf
      dsimp only
      split
      · rename_i hk
        have hk' : k = .free := by simpa using hk
        refine k11 (Option.isSome_iff_exists.mp (hh (y, k) (.head _) hk')) fun a ha => ?_
        have ha : env.cells.lookup y = some a := ha
        have hc : cellOf env y = pure a := by unfold cellOf; rw [ha]
        rw [hc, ha]
        simp only [pure_bind, Option.getD_some]
        exact ih _ fun x hx => hh x (.tail _ hx)
      · simp only [pure_bind]
        exact ih _ fun x hx => hh x (.tail _ hx)
  have := this scope.names [] h
  simp only [bind_pure]
  exact this
theorem clOf_lookup (env : Env) {x : Str} (names : List (Str × NameKind)) : ∀ (acc : List (Str × Addr)), (∀ a, acc.lookup x = some a → env.cells.lookup x = some a) → (∀ y ∈ names, y.2 = .free → (env.cells.lookup y.1).isSome = true) →
    (∀ a, (clOf env names acc).lookup x = some a → env.cells.lookup x = some a) ∧ ((acc.lookup x).isSome = true ∨ (x, NameKind.free) ∈ names → (clOf env names acc).lookup x = env.cells.lookup x) := by
  induction names with
  | nil => exact fun acc ha hn => ⟨ha, fun h => h.elim (fun h => (Option.isSome_iff_exists.mp h).elim fun a e => e.trans (ha a e).symm) fun h => nomatch h⟩
  | cons p r ih =>
    cases p with
    | mk y k =>
      intro acc ha hn
      show (∀ a, (if (k == .free) = true then clOf env r ((y, (env.cells.lookup y).getD 0) :: acc) else clOf env r acc).lookup x = some a → _) ∧ (_ → (if (k == .free) = true then clOf env r ((y, (env.cells.lookup y).getD 0) :: acc) else clOf env r acc).lookup x = _)
      have hn' : ∀ z ∈ r, z.2 = .free → (env.cells.lookup z.1).isSome = true := fun z hz => hn z (.tail _ hz)
      by_cases hk : (k == .free) = true
      · rw [if_pos hk]
        cases eq_of_beq hk
        refine k11 (Option.isSome_iff_exists.mp (hn (y, .free) (.head _) rfl)) fun a e => ?_
        have e : env.cells.lookup y = some a := e
        rw [e]
        have hl : ((y, a) :: acc).lookup x = if x = y then some a else acc.lookup x := by
          rw [List.lookup_cons]
          by_cases q : x = y
          · rw [if_pos q, beq_iff_eq.mpr q]
          · rw [if_neg q, beq_eq_false_iff_ne.mpr q]
        refine k02 (ih ((y, a) :: acc) (fun b hb => by
          rw [hl] at hb
          by_cases q : x = y
          · rw [if_pos q] at hb; rw [q]; exact e.trans hb
          · rw [if_neg q] at hb; exact ha b hb) hn') fun h1 h2 => ?_
        refine ⟨h1, fun h => h2 ?_⟩
        rw [hl]
        by_cases q : x = y
        · rw [if_pos q]; exact .inl rfl
        · rw [if_neg q]; exact h.imp id fun h => (List.mem_cons.mp h).resolve_left fun z => q (congrArg Prod.fst z)
      · rw [if_neg hk]
        refine k02 (ih acc ha hn') fun h1 h2 => ?_
        exact ⟨h1, fun h => h2 (h.imp id fun h => (List.mem_cons.mp h).resolve_left fun z => hk (beq_iff_eq.mpr (congrArg Prod.snd z).symm))⟩
theorem lookup_relabel {env : Env} : ∀ {names : List (Str × NameKind)} {x : Str}, (names.map fun (n, k) => if (k == NameKind.free && env.scope.kind == .function && env.kindOf n == some .cell) then (n, NameKind.cell) else (n, k)).lookup x =
    (names.lookup x).map fun k => if (k == NameKind.free && env.scope.kind == .function && env.kindOf x == some .cell) then NameKind.cell else k
  | [], _ => rfl
  | (n, k) :: r, x => by
    have ih := @lookup_relabel env r x
    rw [List.map_cons]
    dsimp only
    by_cases hc : (k == NameKind.free && env.scope.kind == .function && env.kindOf n == some .cell) = true
    · rw [if_pos hc, List.lookup_cons, List.lookup_cons, ih]
      cases q : x == n with
      | true =>
        have : x = n := by simpa using q
        subst this
        simp only [Option.map_some, if_pos hc]
      | false => rfl
    · rw [if_neg hc, List.lookup_cons, List.lookup_cons, ih]
      cases q : x == n with
      | true =>
        have : x = n := by simpa using q
        subst this
        simp only [Option.map_some, if_neg hc]
      | false => rfl
end MI
end TMS19
section TMS20
open PySem PySem.Spec PySem.Calls PyProof.Rows PySem.W
set_option linter.unusedVariables false
namespace MI

theorem newEnv_comp {M : Model} {A : Around} {E : Value → Shared → Prop} {s : Shared} {scope : Scope} {globals : Addr} {cl : List (Str × Addr)} {qual : Str} {env : Env} {Q : Env → Shared → Prop}
    (h : Q (newEnv scope s.heap.objs.size globals (cellsFrom (s.heap.objs.size + 1) scope.names cl) qual none .none (some env) builtinsNs) { s with heap := pushCells (s.heap.push { cls := .type "dict", data := .dict #[] }) scope.names }) :
    wpAny M A (newFunctionEnv scope globals cl [] qual none .none (some env)) Q E s := by
  simp only [newFunctionEnv, Option.isSome_some, if_true]
  refine wpAny_bind (wpAny_alloc ?_)
  refine wpAny_bind (wpAny_layCells _ (fun name kind cells => by cases hkc : kind == NameKind.cell <;> simp [hkc]) _ _ _ _ ?_)
  rw [show ({ s with heap := s.heap.push { cls := .type "dict", data := .dict #[] } } : Shared).heap.objs.size = s.heap.objs.size + 1 from Heap.size_push ..]
  exact wpAny_bind (wpAny_pure (wpAny_pure h))

/-- the environment of a comprehension -/
noncomputable abbrev cEnv (scope : Scope) (C : Addr) (env : Env) : Env := compEnvC scope (cellsFrom (C + 1) scope.names (clOf env scope.names [])) C env

section
variable {c : Cx} {A : Around} {E' : Value → Shared → Prop} {s : Shared} {sc sc' : Scope} {env : Env} {r r' : Rh} {h h' : Heap} {σ σ' : H} {v : V} {vars : Vars} {ev : Ev} {pv pv' : List Addr} {C : Addr}

theorem compOk_inv (hc : compOk sc sc' = true) {x : Str} {k : NameKind} (hm : (x, k) ∈ sc'.names) : sc'.names.lookup x = some k ∧ (k = .free → sc.names.lookup x = some .cell ∨ sc.names.lookup x = some .free) := by
  refine k02 (and_i (List.all_eq_true.mp hc (x, k) hm)) fun h1 h2 => ?_
  refine ⟨eq_of_beq h1, fun hk => ?_⟩
  subst hk
  exact ((Bool.or_eq_true _ _).mp (show (sc.names.lookup x == some NameKind.cell || sc.names.lookup x == some NameKind.free) = true from h2)).imp eq_of_beq eq_of_beq

theorem comp_freeSome (eo : EnvOk c sc env pv) (hc : compOk sc sc' = true) : ∀ x ∈ sc'.names, x.2 = .free → (env.cells.lookup x.1).isSome = true := fun x hm hk => by
  obtain ⟨x, k⟩ := x
  rcases (compOk_inv hc hm).2 hk with q | q
  · exact (eo.cel x q).2
  · exact (eo.fre x q).2

theorem cEnv_lookup (eo : EnvOk c sc env pv) (hc : compOk sc sc' = true) (x : Str) :
    (sc'.names.lookup x = some .free → (cEnv sc' C env).cells.lookup x = env.cells.lookup x) ∧
    (∀ a, (cEnv sc' C env).cells.lookup x = some a → ((x, a) ∈ cellsFrom (C + 1) sc'.names [] ∧ sc'.names.lookup x = some .cell) ∨ env.cells.lookup x = some a) := by
  have hcl := clOf_lookup env (x := x) sc'.names [] (fun a e => by cases e) (comp_freeSome eo hc)
  have e : (cEnv sc' C env).cells = cellsFrom (C + 1) sc'.names [] ++ clOf env sc'.names [] := cellsFrom_app _ _ _
  have nocell : ∀ a, (cellsFrom (C + 1) sc'.names []).lookup x = some a → sc'.names.lookup x = some .cell := fun a ha => (compOk_inv hc (cellsFrom_mem _ _ (mem_of_lookup ha))).1
  rw [e, lookup_app]
  cases q : (cellsFrom (C + 1) sc'.names []).lookup x with
  | none => exact ⟨fun hf => hcl.2 (.inr (mem_of_lookup hf)), fun a ha => .inr (hcl.1 a ha)⟩
  | some b =>
    have hb := nocell b q
    exact ⟨fun hf => (nomatch hf.symm.trans hb), fun a ha => .inl ⟨mem_of_lookup (q.trans ha), hb⟩⟩

theorem cEnv_kind (x : Str) : (cEnv sc' C env).kindOf x = (sc'.names.lookup x).map fun k => if (k == NameKind.free && (env.scope.kind == .function && env.kindOf x == some .cell)) = true then NameKind.cell else k := by
  simp only [← Bool.and_assoc]; exact lookup_relabel

theorem free_kind {b : Bool} : (some NameKind.free).map (fun k => if (k == NameKind.free && b) = true then NameKind.cell else k) = some .cell ∨ (some NameKind.free).map (fun k => if (k == NameKind.free && b) = true then NameKind.cell else k) = some .free := by
  cases b with
  | true => exact .inl rfl
  | false => exact .inr rfl
theorem comp_envOk (eo : EnvOk c sc env pv) (hk : sc'.kind = .function) (hc : compOk sc sc' = true) (live : ∀ b ∈ pv, b < C) (hsub : ∀ b ∈ pv, b ∈ pv') (hC : C ∈ pv') (hnew : ∀ x a, (x, a) ∈ cellsFrom (C + 1) sc'.names [] → a ∈ pv') (ok : CellsOk h (C + 1) (cellsFrom (C + 1) sc'.names [])) :
    EnvOk c sc' (cEnv sc' C env) pv' where
  kind := hk
  glob := eo.glob
  bi := eo.bi
  lpv := hC
  cpv := fun n a e => by
    rcases (cEnv_lookup eo hc n).2 a e with q | q
    · exact hnew n a q.1
    · exact hsub a (eo.cpv n a q)
  loc := fun x hx => by rw [cEnv_kind, hx]; rfl
  cel := fun x hx => by
    refine ⟨by rw [cEnv_kind, hx]; rfl, ?_⟩
    refine k11 (cellsFrom_some sc'.names (C + 1) (mem_of_lookup hx)) fun a ha => ?_
    have e : (cEnv sc' C env).cells = cellsFrom (C + 1) sc'.names [] ++ clOf env sc'.names [] := cellsFrom_app _ _ _
    rw [e]
    exact lookup_of_mem (List.mem_append_left _ ha)
  fre := fun x hx => by
    refine ⟨?_, ?_⟩
    · rw [cEnv_kind, hx]; exact free_kind
    · rw [(cEnv_lookup eo hc x).1 hx]
      exact comp_freeSome eo hc _ (mem_of_lookup hx) rfl
  glb := fun x hx => by
    rw [cEnv_kind, isVar_false hx]; rfl
  inj := fun x y a hx hy => by
    rcases (cEnv_lookup eo hc x).2 a hx with ⟨q, _⟩ | q <;> rcases (cEnv_lookup eo hc y).2 a hy with ⟨q', _⟩ | q'
    · exact name_of_addr ok.apart q q'
    · have h1 := (ok.empty _ _ q).2
      have h2 := live a (eo.cpv _ _ q')
      exact (Nat.lt_irrefl _ (Nat.lt_trans h2 h1)).elim
    · have h1 := (ok.empty _ _ q').2
      have h2 := live a (eo.cpv _ _ q)
      exact (Nat.lt_irrefl _ (Nat.lt_trans h2 h1)).elim
    · exact eo.inj x y a q q'
  apl := fun x a hx => by
    rcases (cEnv_lookup eo hc x).2 a hx with ⟨q, _⟩ | q
    · have h1 := (ok.empty _ _ q).2
      intro e
      have : a = C := e
      subst this
      exact Nat.lt_irrefl _ h1
    · have h2 := live a (eo.cpv _ _ q)
      intro e
      have : a = C := e
      subst this
      exact Nat.lt_irrefl _ h2

theorem own_get {i : Nat} {own : List Nat} {vars : Vars} : Vars.get i (own.map (·, Option.none) ++ vars) = (if i ∈ own then Option.none else Vars.get i vars) := by
  induction own with
  | nil => exact (if_neg List.not_mem_nil).symm
  | cons y own ih =>
    show (if (y == i) = true then Option.none else Vars.get i (own.map (·, Option.none) ++ vars)) = _
    by_cases q : y = i
    · subst q; rw [if_pos (beq_self_eq_true y), if_pos (List.mem_cons_self ..)]
    · rw [if_neg (mt eq_of_beq q), ih]
      by_cases m : i ∈ own
      · rw [if_pos m, if_pos (List.mem_cons_of_mem _ m)]
      · rw [if_neg m, if_neg fun z => (List.mem_cons.mp z).elim (fun z => q z.symm) m]
theorem ownNames_mem {t : Tx} {names : List (Str × NameKind)} {own : List Nat} {x : Str} {i : Nat} {k : NameKind} (e : ownNames t names = some own) (hm : (x, k) ∈ names) (hk : (k == .local || k == .cell) = true) (h0 : x ≠ (".0" : Str)) (hi : t.id x = some i) : i ∈ own := by
  induction names generalizing own with
  | nil => exact nomatch hm
  | cons y r ih =>
    replace e : (if ((y.2 == .local || y.2 == .cell) && !(y.1 == (".0" : Str))) = true then (t.id y.1).bind fun i => (ownNames t r).map (i :: ·) else ownNames t r) = some own := e
    by_cases q : ((y.2 == .local || y.2 == .cell) && !(y.1 == (".0" : Str))) = true
    · rw [if_pos q] at e
      refine k12 (Option.bind_eq_some_iff.mp e) fun j hj e => ?_
      refine k12 (Option.map_eq_some_iff.mp e) fun own' he q1 => ?_; subst q1
      rcases List.mem_cons.mp hm with z | z
      · subst z; exact Option.some.inj (hi.symm.trans hj) ▸ .head _
      · exact .tail _ (ih he z)
    · rw [if_neg q] at e
      rcases List.mem_cons.mp hm with z | z
      · subst z; exact absurd (Bool.and_eq_true_iff.mpr ⟨hk, (Bool.not_eq_true' _).mpr (beq_eq_false_iff_ne.mpr h0)⟩) q
      · exact ih e z

theorem comp_varsOk (eo : EnvOk c sc env r.pv) (vo : VarsOk c sc env r h vars) (hc : compOk sc sc' = true) {own : List Nat} (ho : ownNames c.t sc'.names = some own) (h0 : c.t.id (".0" : Str) = .none) (ok : CellsOk h' (C + 1) (cellsFrom (C + 1) sc'.names [])) (hns : ∃ m, h'.Ns C m)
    (k : ∀ b o, h.get? b = some o → h'.get? b = some o) (M : Mv r h r' h') : VarsOk c sc' (cEnv sc' C env) r' h' (own.map (·, Option.none) ++ vars) := by
  refine ⟨hns, fun x a e => ?_, fun x i v e1 e2 e3 => ?_⟩
  · rcases (cEnv_lookup eo hc x).2 a e with ⟨q, _⟩ | q
    · exact ⟨_, (ok.empty _ _ q).1⟩
    · refine k22 (vo.cells x a q) fun v o ho hd => ?_
      exact ⟨v, o, k _ _ ho, hd⟩
  · rw [own_get] at e3
    by_cases hn : i ∈ own
    · rw [if_pos hn] at e3; exact ns e3
    · rw [if_neg hn] at e3
      have hx0 : x ≠ (".0" : Str) := fun q => by rw [q, h0] at e1; exact ns e1
      rcases isVar_true e2 with q | q | q
      · exact (hn (ownNames_mem ho (mem_of_lookup q) rfl hx0 e1)).elim
      · exact (hn (ownNames_mem ho (mem_of_lookup q) rfl hx0 e1)).elim
      · have hv := (compOk_inv hc (mem_of_lookup q)).2 rfl
        have hv' : isVar sc x = some true := by
          unfold isVar; rcases hv with hv | hv <;> rw [hv]
        refine k12 (vo.held x i v e1 hv' e3) fun u hu hr => ?_
        refine ⟨u, ?_, hr.mv M⟩
        have hkind : env.kindOf x = some .cell ∨ env.kindOf x = some .free := by
          rcases hv with hv | hv
          · exact .inl (eo.cel x hv).1
          · exact (eo.fre x hv).1
        rcases hu with ⟨hk, _⟩ | ⟨hk, a, ha, o, ho', hd⟩
        · rcases hkind with q' | q' <;> (rw [hk] at q'; cases q')
        · refine .inr ⟨?_, a, by rw [(cEnv_lookup eo hc x).1 q, ha], o, k _ _ ho', hd⟩
          rw [cEnv_kind, q]; exact free_kind
end
end MI
end TMS20
section TMS21
open PySem PySem.Spec PySem.Calls PyProof.Rows PySem.W
set_option linter.unusedVariables false
namespace MI

section
variable {c : Cx} {A : Around} {E' : Value → Shared → Prop} {s : Shared} {sc sc' : Scope} {env : Env} {r r' : Rh} {h h' : Heap} {σ σ' : H} {v : V} {vars : Vars} {ev : Ev} {pv pv' : List Addr} {C D I : Addr} {n : Nat} {cf : Cf}

/-- left, with the list in hand -/
theorem Rel.finish {L : List Addr} (R : c.R r σ h) (hL : ∀ b ∈ L, b ∈ r.pv) (sub' : ∀ b ∈ pv, b ∈ r.pv) (hpL : ∀ b ∈ pv, b ∉ L) (hD : D ∈ r.pv) (hDp : D ∉ pv) (k : ∀ b o, h.get? b = some o → b ∉ L → h'.get? b = some o) {items : List Value} {m : Nat} {acc : List V} (hl : h'.get? D = some (lstO items m)) (x : VRs c.w.params r h acc items) (hz : items.length ≤ 4000000) :
    c.R { ob := r.ob ++ [(D, D)], pv := pv } (σ ++ [.list acc]) h' ∧ Mv r h { ob := r.ob ++ [(D, D)], pv := pv } h' := by
  have sub : ∀ b, ({ ob := r.ob ++ [(D, D)], pv := pv } : Rh).mut b → r.mut b := fun b hb => by
    rcases hb with ⟨p, hp, hb⟩ | hb
    · rcases List.mem_append.mp hp with hp | hp
      · exact .inl ⟨p, hp, hb⟩
      · rw [List.mem_singleton.mp hp] at hb
        rcases hb with rfl | rfl <;> exact .inr hD
    · exact .inr (sub' b hb)
  have ow : ∀ b, r.own b → b ∉ L := fun b hb hn => R.pvo b (hL b hn) hb
  have M : Mv r h { ob := r.ob ++ [(D, D)], pv := pv } h' := ⟨fun i p ep => by
      have hl := lt_of_get ep
      rw [List.getElem?_append_left hl]; exact ep,
    fun a o ea f => ⟨k a o ea fun q => f (.inr (hL a q)), fun q => f (sub a q)⟩⟩
  have ob : ∀ (i : Nat) o p, σ[i]? = some o → r.ob[i]? = some p → OR c.w.params c.t.ids { ob := r.ob ++ [(D, D)], pv := pv } h' o p := fun i o p e1 e2 => by
    have hp : p ∈ r.ob := List.mem_of_getElem? e2
    exact (R.obj i o p e1 e2).mv M (fun q eq => k _ _ eq (ow _ ⟨p, hp, .inl rfl⟩)) fun q eq => k _ _ eq (ow _ ⟨p, hp, .inr rfl⟩)
  refine ⟨⟨fun b o eb => k b o (R.base b o eb) fun q => ?_, by simp [R.len], fun i o p e1 e2 => ?_, fun b hb => R.fresh b (sub b hb), ?_, fun b hb ho => ?_, fun b hb => ?_⟩, M⟩
  · have := R.fresh b (.inr (hL b q)); rw [eb] at this; exact sn this
  · by_cases hi : i < σ.length
    · rw [List.getElem?_append_left hi] at e1
      rw [List.getElem?_append_left (R.len ▸ hi)] at e2
      exact ob i o p e1 e2
    · have hi' : i = σ.length := by
        have hl := lt_of_get e1
        simp at hl; omega
      subst hi'
      rw [List.getElem?_append_right (Nat.le_refl _), Nat.sub_self] at e1
      rw [← R.len, List.getElem?_append_right (Nat.le_refl _), Nat.sub_self] at e2
      (refine si e1 fun q3 => ?_; subst q3; clear e1); cases e2
      exact .list acc items m D hl (x.mv M) hz
  · refine List.pairwise_append.mpr ⟨R.apart, List.pairwise_singleton _ _, fun q hq q' hq' => ?_⟩
    rw [List.mem_singleton.mp hq']
    have h1 : q.1 ≠ D := fun z => R.pvo q.1 (z ▸ hD) ⟨q, hq, .inl rfl⟩
    have h2 : q.2 ≠ D := fun z => R.pvo q.2 (z ▸ hD) ⟨q, hq, .inr rfl⟩
    exact ⟨h1, h1, h2, h2⟩
  · refine k12 ho fun p hp hb' => ?_; clear ho
    rcases List.mem_append.mp hp with hp | hp
    · exact R.pvo b (sub' b hb) ⟨p, hp, hb'⟩
    · rw [List.mem_singleton.mp hp] at hb'
      rcases hb' with rfl | rfl <;> exact hDp hb
  · refine k11 (R.pvl b (sub' b hb)) fun o eo => ?_
    exact ⟨o, k b o eo (hpL b hb)⟩
/-- a frame left while its objects go -/
theorem Rel.leave {L : List Addr} (R : c.R r σ h) (e : r.pv = pv ++ L) (hpL : ∀ b ∈ pv, b ∉ L) (k : ∀ b o, h.get? b = some o → b ∉ L → h'.get? b = some o) : c.R { r with pv := pv } σ h' ∧ Mv r h { r with pv := pv } h' := by
  have hL : ∀ b ∈ L, b ∈ r.pv := fun b hb => by rw [e]; exact List.mem_append_right _ hb
  have sub : ∀ b, ({ r with pv := pv } : Rh).mut b → r.mut b := fun b hb => hb.elim .inl fun q => .inr (by rw [e]; exact List.mem_append_left _ q)
  have ow : ∀ b, r.own b → b ∉ L := fun b hb hn => R.pvo b (hL b hn) hb
  have M : Mv r h { r with pv := pv } h' := ⟨fun _ _ e => e, fun a o ea f => ⟨k a o ea fun q => f (.inr (hL a q)), fun q => f (sub a q)⟩⟩
  refine ⟨⟨fun b o eb => k b o (R.base b o eb) fun q => ?_, R.len, fun i o p e1 e2 => ?_, fun b hb => R.fresh b (sub b hb), R.apart, fun b hb => R.pvo b (by rw [e]; exact List.mem_append_left _ hb), fun b hb => ?_⟩, M⟩
  · have := R.fresh b (.inr (hL b q)); rw [eb] at this; exact sn this
  · have hp : p ∈ r.ob := List.mem_of_getElem? e2
    exact (R.obj i o p e1 e2).mv M (fun q eq => k _ _ eq (ow _ ⟨p, hp, .inl rfl⟩)) fun q eq => k _ _ eq (ow _ ⟨p, hp, .inr rfl⟩)
  · refine k11 (R.pvl b (by rw [e]; exact List.mem_append_left _ hb)) fun o eo => ?_
    exact ⟨o, k b o eo (hpL b hb)⟩

theorem tests_stop : ∀ (rest : List Expr) {s : Shared} {Q : Bool → Shared → Prop}, Q false s → wpAny c.M A (tests rest env false) Q E' s
  | [], s, Q, h => wpAny_pure h
  | x :: r, s, Q, h => by
    show wpAny _ _ (forIn (x :: r) false _) _ _ _
    rw [List.forIn_cons, if_neg Bool.false_ne_true]
    exact wpAny_bind (wpAny_pure (tests_stop r h))
theorem tests_un {m : Nat} (hOk : c.Ok) (hu : A.units + 100 < cLine) (ih0 : ∀ k, k < m → EvOk c A (MI.ev c.Γ cf k)) (ih : EvOk c A (MI.ev c.Γ cf m)) : ∀ (as : List AE), okL c.t sc as = true → ∀ {r : Rh} {σ σ' : H} {s : Shared} {b : Bool} {Q : Bool → Shared → Prop}, EnvOk c sc env r.pv → VarsOk c sc env r s.heap vars → c.R r σ s.heap →
    evIfs (MI.ev c.Γ cf m) (erL as) vars σ = some (b, σ') → OutB c r s σ' b Q → wpAny c.M A (tests (unL as) env true) Q E' s := by
  intro as
  induction as with
  | nil =>
    intro _ r σ σ' s b Q eo vo R eq O
    (refine sp eq fun q7 q8 => ?_; subst q7; subst q8; clear eq)
    exact wpAny_pure (O r s.heap s.toks R (Step.refl _ _))
  | cons a as ih1 =>
    intro h r σ σ' s b Q eo vo R eq O
    refine k02 (and_i h) fun h1 h2 => ?_
    refine k22 (bb_i (o := evB (MI.ev c.Γ cf m) a.er vars σ) (f := fun x σ' => match x with | true => evIfs (MI.ev c.Γ cf m) (erL as) vars σ' | false => some (false, σ')) eq) fun x σ₁ e1 e => ?_
    show wpAny _ _ (forIn (a.un :: unL as) true _) _ _ _
    rw [List.forIn_cons, if_pos rfl]
    refine wpAny_bind (wpAny_bind (evB_sound hOk.tab hu ih0 ih _ (.mk h1) eo vo R e1 fun r' h' tk R' S' => wpAny_pure ?_))
    cases x with
    | true => exact ih1 h2 (eo.step S') (vo.step eo R S') R' e (O.after S')
    | false =>
      (refine sp e fun q9 q10 => ?_; subst q9; subst q10; clear e)
      exact tests_stop (unL as) (O r' h' tk R' S')
theorem tests_sound {m : Nat} (hOk : c.Ok) (hu : A.units + 100 < cLine) (ih0 : ∀ k, k < m → EvOk c A (MI.ev c.Γ cf k)) (ih : EvOk c A (MI.ev c.Γ cf m)) {ifs : List Expr} {us : List E} (tr : TrL c.t sc ifs us) {r : Rh} {σ σ' : H} {s : Shared} {b : Bool} {Q : Bool → Shared → Prop} (eo : EnvOk c sc env r.pv) (vo : VarsOk c sc env r s.heap vars) (R : c.R r σ s.heap)
    (eq : evIfs (MI.ev c.Γ cf m) us vars σ = some (b, σ')) (O : OutB c r s σ' b Q) : wpAny c.M A (tests ifs env true) Q E' s := by
  refine k13 tr fun as q1 q2 h => ?_; clear tr; subst q1; subst q2
  exact tests_un hOk hu ih0 ih as h eo vo R eq O
end
end MI
end TMS21
section TMS22
open PySem PySem.Spec PySem.Calls PyProof.Rows PySem.W
set_option linter.unusedVariables false
namespace MI

section
variable {c : Cx} {A : Around} {E' : Value → Shared → Prop} {s : Shared} {sc sc' : Scope} {env : Env} {r r' : Rh} {h h' : Heap} {σ σ' : H} {v : V} {vars : Vars} {ev : Ev} {pv pv' : List Addr} {C D I : Addr} {n : Nat} {cf : Cf}

noncomputable def EnvAddr (env : Env) (b : Addr) : Prop := b = env.locals ∨ ∃ x, env.cells.lookup x = some b
theorem FrX.toEnv {b : Addr} (h : FrX sc env b) : EnvAddr env b := h.imp id fun ⟨x, _, e⟩ => ⟨x, e⟩
theorem VarsOk.keepE (vo : VarsOk c sc env r h vars) (k : ∀ b, EnvAddr env b → ∀ o, h.get? b = some o → h'.get? b = some o) (M : Mv r h r' h') : VarsOk c sc env r' h' vars := by
  refine ⟨?_, fun x a e => ?_, fun x i v e1 e2 e3 => ?_⟩
  · refine k11 (vo.ns) fun m hn => ?_
    exact ⟨m, hn.at' fun o e => k _ (.inl rfl) o e⟩
  · refine k22 (vo.cells x a e) fun v o ho hd => ?_
    exact ⟨v, o, k a (.inr ⟨x, e⟩) o ho, hd⟩
  · refine k12 (vo.held x i v e1 e2 e3) fun u hu hr => ?_
    refine ⟨u, ?_, hr.mv M⟩
    rcases hu with ⟨hk, m, hn, hm⟩ | ⟨hk, a, ha, o, ho, hd⟩
    · exact .inl ⟨hk, m, hn.at' fun o e => k _ (.inl rfl) o e, hm⟩
    · exact .inr ⟨hk, a, ha, o, k a (.inr ⟨x, ha⟩) o ho, hd⟩

theorem okT_next {t : T} {it it' : Itr} (e : it.next σ = some (some (v, it'))) (ok : okT t it = true) : okT t it' = true := by
  cases it with
  | one z => cases z with
    | ls i k => obtain ⟨xs, _, _, rfl⟩ := ls_next e; cases t <;> rfl
    | vs l => cases l with
      | nil => cases e
      | cons w l => cases e; cases t with
        | name => rfl
        | tup => exact ft ok
  | enum i k =>
    unfold Itr.next at e
    dsimp only at e
    split at e
    · split at e <;> cases e
      cases t with
      | name => exact ft ok
      | tup => rfl
    · exact ns e
  | zip zs =>
    unfold Itr.next at e
    dsimp only at e
    split at e <;> cases e
    cases t with
    | name => exact ft ok
    | tup => rfl

/-- what holds at a comprehension's turn -/
structure CompI (c : Cx) (A : Around) (sc' : Scope) (cenv : Env) (N L : List Addr) (D I : Addr) (r₀ : Rh) (h₀ : Heap) (t : T) (r : Rh) (itr : Itr) (vars : Vars) (acc : List V) (σ : H) (h : Heap) : Prop where
  R : c.R r σ h
  S : StepX (· ∈ N) r₀ h₀ r h
  vo : VarsOk c sc' cenv r h vars
  it : ItR c A r h itr I L
  ok : okT t itr = true
  acc : ∃ items m, h.get? D = some (lstO items m) ∧ VRs c.w.params r h acc items ∧ items.length ≤ 1000001

noncomputable def compBody (ev : Ev) (elt : E) (t : T) (ifs : List E) : V → Vars → List V → H → Option (Vars × List V × H) := fun v vars acc σ =>
  match bindT t v σ vars with
  | some vars => match evIfs ev ifs vars σ with
    | some (x, σ) => match x with
      | false => some (vars, acc, σ)
      | true => match ev elt vars σ with
        | some (v, σ) => if szOk acc.length then some (vars, acc ++ [v], σ) else .none
        | .none => .none
    | .none => .none
  | .none => .none
theorem compBody_i {ev : Ev} {elt : E} {t : T} {ifs : List E} {v : V} {vars vars' : Vars} {acc acc' : List V} {σ σ' : H} (e : compBody ev elt t ifs v vars acc σ = some (vars', acc', σ')) : ∃ vars₁ x σ₁, bindT t v σ vars = some vars₁ ∧ evIfs ev ifs vars₁ σ = some (x, σ₁) ∧
    ((x = false ∧ vars' = vars₁ ∧ acc' = acc ∧ σ' = σ₁) ∨ (x = true ∧ ∃ w, ev elt vars₁ σ₁ = some (w, σ') ∧ szOk acc.length = true ∧ vars' = vars₁ ∧ acc' = acc ++ [w])) := by
  unfold compBody at e
  refine k12 (vars_i e) fun vars₁ e1 e => ?_
  refine k22 (bb_i e) fun x σ₁ e2 e => ?_
  refine ⟨vars₁, x, σ₁, e1, e2, ?_⟩
  cases x with
  | false => cases e; exact .inl ⟨rfl, rfl, rfl, rfl⟩
  | true =>
    refine k22 (vh_i e) fun w σ₂ e3 e => ?_
    refine k02 (if_some e) fun hz e => ?_
    cases e
    exact .inr ⟨rfl, w, e3, hz, rfl, rfl⟩
theorem compGo_eq (ev : Ev) (elt : E) (t : T) (ifs : List E) : compGo ev elt t ifs = loopC (fun σ it => it.next σ) (compBody ev elt t ifs) loopFuel := rfl
noncomputable def CompP (c : Cx) (A : Around) (sc' : Scope) (cenv : Env) (N L : List Addr) (D I : Addr) (r₀ : Rh) (s₀ : Shared) (t : T) (body : V → Vars → List V → H → Option (Vars × List V × H)) (res : Vars × List V × H) (n : Nat) (s : Shared) : Prop :=
  ∃ r itr vars acc σ h tk, s = { s₀ with heap := h, toks := tk } ∧ CompI c A sc' cenv N L D I r₀ s₀.heap t r itr vars acc σ h ∧ loopC (fun σ it => it.next σ) body n itr vars acc σ = some res

theorem comp_loop {m : Nat} (hOk : c.Ok) (hh : A.handled = none) (hu : A.units + 100 < cLine) (ih0 : ∀ k, k < m → EvOk c A (MI.ev c.Γ cf k)) (ih : EvOk c A (MI.ev c.Γ cf m)) {cenv : Env} {r₀ : Rh} {s₀ : Shared} (eo : EnvOk c sc' cenv r₀.pv) {elt target iter : Expr} {ifs : List Expr} {elt' : E} {t : T} {ifs' : List E} {scope : Scope} {pos : Pos}
    (te : Tr c.t sc' elt elt') (tt : TrT c.t sc' target t) (ti : TrL c.t sc' ifs ifs') {N L : List Addr} (hN : ∀ b ∈ N, b ∈ r₀.pv) (hL : ∀ b ∈ L, b ∈ N) (hF : ∀ b, FrX sc' cenv b → b ∈ N) (hD : D ∈ N) (hLE : ∀ b ∈ L, ¬ EnvAddr cenv b) (hDE : ¬ EnvAddr cenv D) (hDL : D ∉ L)
    {res : Vars × List V × H} {Rr : Result → Shared → Prop}
    (O : ∀ r vars acc σ h h' tk itr, CompI c A sc' cenv N L D I r₀ s₀.heap t r itr vars acc σ h → res = (vars, acc, σ) → (∀ b o, b ∉ L → h.get? b = some o → h'.get? b = some o) → Rr (.ok .next) { s₀ with heap := h', toks := tk })
    (fuel : Nat) {r : Rh} {itr : Itr} {vars : Vars} {acc : List V} {σ : H} {h : Heap} {tk : Nat} (J : CompI c A sc' cenv N L D I r₀ s₀.heap t r itr vars acc σ h)
    (eq : loopC (fun σ it => it.next σ) (compBody (MI.ev c.Γ cf m) elt' t ifs') fuel itr vars acc σ = some res) :
    codeAny c.M A (.compLoop (.ListComp elt [⟨target, iter, ifs, 0⟩] scope pos) 0 (.ref I) (.ref D) cenv) Rr { s₀ with heap := h, toks := tk } := by
  refine codeAny_compLoop_any (CompP c A sc' cenv N L D I r₀ s₀ t (compBody (MI.ev c.Γ cf m) elt' t ifs') res) ?_ fuel ⟨r, itr, vars, acc, σ, h, tk, rfl, J, eq⟩
  clear J eq
  rintro n s E' ⟨r, itr, vars, acc, σ, h, tk, rfl, J, eq⟩
  cases n with
  | zero => exact ns eq
  | succ n =>
    unfold loopC at eq
    have hNr : ∀ b ∈ N, b ∈ r.pv := fun b hb => J.S.pv ▸ hN b hb
    have hLr : ∀ b ∈ L, b ∈ r.pv := fun b hb => hNr b (hL b hb)
    split at eq
    · exact ns eq
    · rename_i hn
      (refine si eq fun q25 => ?_; subst q25; clear eq)
      exact next_end (s := { s₀ with heap := h, toks := tk }) hh J.R J.it hn fun h' tk' k => O r vars acc σ h h' tk' itr J rfl k
    · rename_i v it' hn
      split at eq
      · rename_i vars' acc' σ' hb
        refine wpAny_mono (next_sound (s := { s₀ with heap := h, toks := tk }) J.R hLr J.it hn tt J.ok (E' := E') (Q := fun u s₂ => wpAny c.M A (assign target cenv u) (fun _ s₂ => wpAny c.M A (tests ifs cenv true) (fun ok s₃ =>
            if ok = true then wpAny c.M A (eval elt cenv) (fun x s₄ =>
              wpAny c.M A (call (.builtin "list.append") [.ref D, x]) (fun _ s₅ => ∃ m', m' < n + 1 ∧ CompP c A sc' cenv N L D I r₀ s₀ t (compBody (MI.ev c.Γ cf m) elt' t ifs') res m' s₅) E' s₄) E' s₃
            else ∃ m', m' < n + 1 ∧ CompP c A sc' cenv N L D I r₀ s₀ t (compBody (MI.ev c.Γ cf m) elt' t ifs') res m' s₃) E' s₂) E' s₂) fun u h₁ tk₁ R₁ S₁ x₁ it₁ => ?_) (fun o s₁ h₁ => ?_) fun _ _ x => x
        rotate_left
        · obtain ⟨u, rfl, h₁⟩ := h₁
          exact h₁
        · refine k23 (J.acc) fun items mm hd hx hz => ?_
          have M₁ := S₁.mv hLr
          have vo₁ : VarsOk c sc' cenv r h₁ vars := J.vo.keepE (fun b hb o e => S₁.keep b o e (fun q => J.R.pvo b (J.S.pv ▸ (by
            rcases hb with rfl | ⟨x, hx⟩
            · exact eo.lpv
            · exact eo.cpv _ _ hx)) q) fun q => hLE b q hb) M₁
          have Dk : ∀ {r : Rh} {h h' : Heap} {X : Addr → Prop} {o : Obj}, ¬ r.own D → ¬ X D → StepX X r h r h' → h.get? D = some o → h'.get? D = some o := fun ho hX S e => S.keep D _ e ho hX
          have hDo : ¬ r.own D := J.R.pvo D (hNr D hD)
          have hd₁ := Dk hDo hDL S₁ hd
          have eo₁ : EnvOk c sc' cenv r.pv := J.S.pv ▸ eo
          refine k33 (compBody_i hb) fun vars₁ xb σ₃ hbind hif hcase => ?_
          refine assign_sound (s := { s₀ with heap := h₁, toks := tk₁ }) (σ := σ) hh t tt eo₁ vo₁ R₁ x₁ hbind fun r₂ h₂ tk₂ R₂ S₂ vo₂ => ?_
          have hFr : ∀ b, FrX sc' cenv b → b ∈ r.pv := fun b hb => hNr b (hF b hb)
          have M₂ := S₂.mv hFr
          have hd₂ := S₂.keep D _ hd₁ hDo fun q => hDE q.toEnv
          have it₂ := it₁.keep M₂ fun b hb o e => S₂.keep b o e (R₁.pvo b (hLr b hb)) fun q => hLE b hb q.toEnv
          have hpv₂ : r₂.pv = r.pv := S₂.pv
          have eo₂ : EnvOk c sc' cenv r₂.pv := hpv₂ ▸ eo₁
          have S02 : StepX (· ∈ N) r₀ s₀.heap r₂ h₂ := (J.S.trans (S₁.mono fun b hb => hL b hb)).trans (S₂.mono hF)
          refine tests_sound (s := { s₀ with heap := h₂, toks := tk₂ }) hOk hu ih0 ih ti eo₂ vo₂ R₂ hif fun r₃ h₃ tk₃ R₃ S₃ => ?_
          have kp : ∀ b, b ∈ r.pv → ∀ o, h₂.get? b = some o → h₃.get? b = some o := fun b hb o e => S₃.keep b o e (R₂.pvo b (hpv₂ ▸ hb))
          rcases hcase with ⟨rfl, rfl, rfl, rfl⟩ | ⟨rfl, w, hev, hsz, rfl, rfl⟩
          · refine (if_neg Bool.false_ne_true).mpr ⟨n, Nat.lt_succ_self n, r₃, it', _, _, _, h₃, tk₃, rfl, ⟨R₃, S02.trans S₃.x, vo₂.step eo₂ R₂ S₃, it₂.keep S₃.mv fun b hb o e => kp b (hLr b hb) o e, okT_next hn J.ok, ?_⟩, eq⟩
            exact ⟨items, mm, kp D (hNr D hD) _ hd₂, ((hx.mv M₁).mv M₂).step S₃, hz⟩
          · refine (if_pos rfl).mpr ?_
            refine ih (s := { s₀ with heap := h₃, toks := tk₃ }) te (eo₂.step S₃) (vo₂.step eo₂ R₂ S₃) R₃ hev fun uw r₄ h₄ tk₄ R₄ S₄ xw => ?_
            have hpv₃ : r₃.pv = r.pv := S₃.pv.trans hpv₂
            have hpv₄ : r₄.pv = r.pv := S₄.pv.trans hpv₃
            have kp' : ∀ b, b ∈ r.pv → ∀ o, h₂.get? b = some o → h₄.get? b = some o := fun b hb o e => S₄.keep b o (kp b hb o e) (R₃.pvo b (hpv₃ ▸ hb))
            have hd₄ := kp' D (hNr D hD) _ hd₂
            have hx₄ := (((hx.mv M₁).mv M₂).step S₃).step S₄
            have hlen : items.length ≤ 1000000 := by rw [hx.length]; exact szOk_le hsz
            refine wpAny_list_append_plain (s := { s₀ with heap := h₄, toks := tk₄ }) (items := items.toArray) ⟨mm, hd₄⟩ (fun h₅ hp₅ hs₅ => ?_) (by rw [List.size_toArray]; exact Nat.le_trans hlen sizeLine_ge1)
            refine k11 hp₅ fun mm' hd₅ => ?_; clear hp₅
            obtain ⟨R₅, S₅⟩ := R₄.chg (X := (· ∈ N)) (h' := h₅) (fun b hb => hpv₄ ▸ hNr b hb) (fun b o e nb => (hs₅.2 b fun q => nb (q ▸ hD)).trans e) (fun b o e => by
              by_cases q : b = D
              · subst q; exact ⟨_, hd₅⟩
              · exact ⟨o, (hs₅.2 b q).trans e⟩)
            have M₅ := S₅.mv fun b hb => hpv₄ ▸ hNr b hb
            have S04 : StepX (· ∈ N) r₀ s₀.heap r₄ h₄ := (S02.trans S₃.x).trans S₄.x
            refine ⟨n, Nat.lt_succ_self n, r₄, it', _, _, _, h₅, tk₄, rfl, ⟨R₅, S04.trans S₅, ?_, ?_, okT_next hn J.ok, items ++ [uw], mm', ?_, (hx₄.append (.cons xw .nil)).mv M₅, by rw [List.length_append]; exact Nat.succ_le_succ hlen⟩, eq⟩
            · exact ((vo₂.step eo₂ R₂ S₃).step (eo₂.step S₃) R₃ S₄).keepE (fun b hb o e => (hs₅.2 b fun q => hDE (q ▸ hb)).trans e) M₅
            · exact (it₂.keep (S₃.trans S₄).mv fun b hb o e => kp' b (hLr b hb) o e).keep M₅ fun b hb o e => (hs₅.2 b fun q => hDL (q ▸ hb)).trans e
            · rw [hd₅]; simp [lstO]
      · exact ns eq
end
end MI
end TMS22
section TMS23
open PySem PySem.Spec PySem.Calls PyProof.Rows PySem.W
set_option linter.unusedVariables false
namespace MI

theorem folded_un (a : AE) (env : Env) (x : Value) : foldedSetIterable a.un env x = pure x := by cases a <;> rfl
theorem folded_of {t : Tx} {sc : Scope} {e : Expr} {u : It} {env : Env} (h : TrI t sc e u) (x : Value) : foldedSetIterable e env x = pure x := by
  refine k13 h fun a q1 _ _ => ?_; clear h; subst q1
  cases a with
  | plain a => exact folded_un a env x
  | enum _ _ _ _ => rfl

section
variable {c : Cx} {A : Around} {E' : Value → Shared → Prop} {s : Shared} {sc sc' : Scope} {env : Env} {r : Rh} {σ σ' : H} {v : V} {vars : Vars} {cf : Cf}

theorem EnvOk.wider {pv pv' : List Addr} (eo : EnvOk c sc env pv) (h : ∀ b ∈ pv, b ∈ pv') : EnvOk c sc env pv' :=
  ⟨eo.kind, eo.glob, eo.bi, h _ eo.lpv, fun n a e => h a (eo.cpv n a e), eo.loc, eo.cel, eo.fre, eo.glb, eo.inj, eo.apl⟩
theorem comp_core {m : Nat} (hOk : c.Ok) (hh : A.handled = none) (hu : A.units + 100 < cLine) (ih0 : ∀ k, k < m → EvOk c A (MI.ev c.Γ cf k)) (ih : EvOk c A (MI.ev c.Γ cf m)) (eo : EnvOk c sc env r.pv) (vo : VarsOk c sc env r s.heap vars) (R : c.R r σ s.heap) {elt target iter : Expr} {ifs : List Expr} {elt' : E} {t : T} {it' : It} {ifs' : List E} {p : Pos} {own : List Nat}
    (hk : sc'.kind = .function) (hc : compOk sc sc' = true) (te : Tr c.t sc' elt elt') (tt : TrT c.t sc' target t) (tit : TrI c.t sc iter it') (ti : TrL c.t sc' ifs ifs') (ho : ownNames c.t sc'.names = some own)
    {itr : Itr} {σ₁ σ₂ : H} {varsF : Vars} {acc : List V} (e1 : evIt (MI.ev c.Γ cf m) it' vars σ = some (itr, σ₁)) (ok : okT t itr = true) (e2 : compGo (MI.ev c.Γ cf m) elt' t ifs' itr (own.map (·, Option.none) ++ vars) [] σ₁ = some (varsF, acc, σ₂)) (e3 : mkL acc σ₂ = some (v, σ')) {Q : Value → Shared → Prop} {use : Option (Value → Sem Unit)}
    (O : ∀ (r₁ : Rh) (h₁ : Heap) (rm : Rh) (hm : Heap) (tk : Nat) (C D : Addr) (M : List Addr), Step r s.heap r₁ h₁ → c.R { rm with pv := r₁.pv ++ M } σ' hm → (∀ b ∈ M, h₁.get? b = .none) → (∀ b ∈ r₁.pv, b ∉ M) → Step r₁ h₁ { rm with pv := r₁.pv } hm → EnvOk c sc env (r₁.pv ++ M) → VarsOk c sc env { rm with pv := r₁.pv ++ M } hm vars → C ∈ M → c.V { rm with pv := r₁.pv ++ M } hm v (.ref D) → (∃ m, hm.Ns C m) →
      compPost c.M A E' use Q (.ref D) C (.ok .next) { s with heap := hm, toks := tk }) :
    wpAny c.M A (comprehension (.ListComp elt [⟨target, iter, ifs, 0⟩] sc' p) sc' env (firstIterPos [⟨target, iter, ifs, 0⟩] p) (newList []) (firstAsync [⟨target, iter, ifs, 0⟩]) (firstIter [⟨target, iter, ifs, 0⟩] env) use) Q E' s := by
  refine wpAny_comprehension_free (use := use) (e := .ListComp elt [⟨target, iter, ifs, 0⟩] sc' p) rfl (folded_of tit) (closureFor_eq (comp_freeSome eo hc)) hk (fun x hx hl => by
    obtain ⟨x, k⟩ := x
    have hl : k = .local := hl
    subst hl
    exact (compOk_inv hc hx).1) ?_
  refine wpAny_mono (evIt_sound (Q := fun I s₂ => wpAny c.M A (newList []) (fun acc s₃ => wpAny c.M A (newFunctionEnv sc' env.globals (clOf env sc'.names []) [] env.qual none .none (some env)) (fun cenv s₄ =>
        codeAny c.M A (.compStart (.ListComp elt [⟨target, iter, ifs, 0⟩] sc' p) 0 (.ref I) acc { cenv with scope := relabel sc' env }) (compPost c.M A E' use Q acc cenv.locals) s₄) E' s₃) E' s₂) hOk hh ih tit eo vo R e1 ?_) (fun x s₁ h₁ => wpAny_mono h₁ (fun o s₂ h₂ => by obtain ⟨I, rfl, h₂⟩ := h₂; exact h₂) fun _ _ x => x) fun _ _ x => x
  intro r₁ h₁ h₂ tk I L R₁ S₁ k n l it₁
  refine wpAny_newList ?_ (Nat.zero_le _)
  refine newEnv_comp ?_
  dsimp only
  have hsz : (h₂.push { cls := .type "list", data := .seq ([] : List Value).toArray }).objs.size = h₂.objs.size + 1 := Heap.size_push ..
  generalize hC : (h₂.push { cls := .type "list", data := .seq ([] : List Value).toArray }).objs.size = C at hsz ⊢
  generalize hD : h₂.objs.size = D at hsz ⊢
  have hh1 : ((h₂.push { cls := .type "list", data := .seq ([] : List Value).toArray }).push { cls := .type "dict", data := .dict #[] }).objs.size = C + 1 := by rw [Heap.size_push, hC]
  have ok' := cellsFrom_ok sc'.names ((h₂.push { cls := .type "list", data := .seq ([] : List Value).toArray }).push { cls := .type "dict", data := .dict #[] }) (C + 1) [] ⟨fun _ _ hm => (nomatch hm), List.Pairwise.nil⟩ (by rw [hh1]; exact Nat.le_refl _)
  rw [hh1] at ok'
  have kE : ∀ b o, h₂.get? b = some o → (pushCells ((h₂.push { cls := .type "list", data := .seq ([] : List Value).toArray }).push { cls := .type "dict", data := .dict #[] }) sc'.names).get? b = some o := fun b o e => pushCells_keeps _ _ b o (Heap.get?_push_of_some _ (Heap.get?_push_of_some _ e))
  have gD : (pushCells ((h₂.push { cls := .type "list", data := .seq ([] : List Value).toArray }).push { cls := .type "dict", data := .dict #[] }) sc'.names).get? D = some (lstO [] 0) := pushCells_keeps _ _ _ _ (Heap.get?_push_of_some _ (hD ▸ Heap.get?_push_size _ rfl))
  have nsC : (pushCells ((h₂.push { cls := .type "list", data := .seq ([] : List Value).toArray }).push { cls := .type "dict", data := .dict #[] }) sc'.names).Ns C (fun _ => none) := by
    have := Heap.Ns.new (h₂.push { cls := .type "list", data := .seq ([] : List Value).toArray }) (.type "dict")
    rw [hC] at this
    exact this.keeps (pushCells_keeps _ _)
  generalize pushCells ((h₂.push { cls := .type "list", data := .seq ([] : List Value).toArray }).push { cls := .type "dict", data := .dict #[] }) sc'.names = hE at kE gD nsC ok' ⊢
  have gnone : ∀ b : Nat, h₂.objs.size ≤ b → h₂.get? b = .none := fun b hb => size_none h₂ hb
  obtain ⟨RA, MA⟩ := R₁.enter k n l
  let N2 : List Addr := D :: C :: (cellsFrom (C + 1) sc'.names []).map (·.2)
  have memN2 : ∀ b ∈ N2, b = D ∨ b = C ∨ ∃ x, (x, b) ∈ cellsFrom (C + 1) sc'.names [] := fun b hb => by
    rcases List.mem_cons.mp hb with q | q
    · exact .inl q
    · rcases List.mem_cons.mp q with q | q
      · exact .inr (.inl q)
      · obtain ⟨⟨x, a⟩, hx, rfl⟩ := List.mem_map.mp q
        exact .inr (.inr ⟨x, hx⟩)
  have geN2 : ∀ b ∈ N2, D ≤ b := fun b hb => by
    rcases memN2 b hb with rfl | rfl | ⟨x, hx⟩
    · exact Nat.le_refl _
    · rw [hsz]; exact Nat.le_succ _
    · have := (ok'.empty x b hx).2
      have h1 : D ≤ C + 1 := by rw [hsz]; exact Nat.le_succ_of_le (Nat.le_succ _)
      exact Nat.le_trans h1 this
  have newN2 : ∀ b ∈ N2, h₂.get? b = .none := fun b hb => gnone b (by rw [hD]; exact geN2 b hb)
  have liveN2 : ∀ b ∈ N2, ∃ o, hE.get? b = some o := fun b hb => by
    rcases memN2 b hb with rfl | rfl | ⟨x, hx⟩
    · exact ⟨_, gD⟩
    · obtain ⟨o, es, ep, e, _⟩ := nsC; exact ⟨o, e⟩
    · obtain ⟨o, e, _⟩ := (ok'.empty x b hx).1; exact ⟨o, e⟩
  obtain ⟨RB, MB⟩ := RA.enter (L := N2) kE newN2 liveN2
  dsimp only at RB MB
  have eN : (r₁.pv ++ L) ++ N2 = r₁.pv ++ (L ++ N2) := List.append_assoc _ _ _
  have eo₁ : EnvOk c sc env r₁.pv := eo.step S₁
  have vo₁ := vo.step eo R S₁
  have ltC : ∀ b, (∃ o, h₂.get? b = some o) → b < D := fun b ⟨o, e⟩ => hD ▸ Heap.lt_size e
  have live1 : ∀ b ∈ r₁.pv, b < D := fun b hb => by obtain ⟨o, e⟩ := R₁.pvl b hb; exact ltC b ⟨o, k b o e⟩
  have DC : D < C := by rw [hsz]; exact Nat.lt_succ_self _
  have eoB : EnvOk c sc' (cEnv sc' C env) ((r₁.pv ++ L) ++ N2) := comp_envOk eo₁ hk hc (fun b hb => Nat.lt_trans (live1 b hb) DC) (fun b hb => List.mem_append_left _ (List.mem_append_left _ hb)) (List.mem_append_right _ (.tail _ (.head _))) (fun x a hx => List.mem_append_right _ (.tail _ (.tail _ (List.mem_map.mpr ⟨(x, a), hx, rfl⟩)))) ok'
  have voB : VarsOk c sc' (cEnv sc' C env) { r₁ with pv := (r₁.pv ++ L) ++ N2 } hE (own.map (·, Option.none) ++ vars) := comp_varsOk eo₁ vo₁ hc ho hOk.dot ok' ⟨_, nsC⟩ (fun b o e => kE b o (k b o e)) ⟨fun _ _ e => e, fun a o e f => by
    obtain ⟨q1, q2⟩ := MA.fz a o e f
    exact MB.fz a o q1 q2⟩
  have newL : ∀ b ∈ L, h₁.get? b = .none := n
  have newN : ∀ b ∈ L ++ N2, h₁.get? b = .none := fun b hb => by
    rcases List.mem_append.mp hb with q | q
    · exact n b q
    · cases e : h₁.get? b with
      | none => rfl
      | some o => have := newN2 b q; rw [k b o e] at this; cases this
  have envN2 : ∀ b, EnvAddr (cEnv sc' C env) b → b ∈ N2 ∧ b ≠ D ∨ b ∈ r₁.pv := fun b hb => by
    rcases hb with hb | ⟨x, hx⟩
    · rw [show b = C from hb]
      exact .inl ⟨.tail _ (.head _), fun q => by
        have q : C = D := q
        rw [q] at DC; exact Nat.lt_irrefl _ DC⟩
    · rcases (cEnv_lookup eo₁ hc x).2 b hx with ⟨q, _⟩ | q
      · refine .inl ⟨.tail _ (.tail _ (List.mem_map.mpr ⟨(x, b), q, rfl⟩)), fun z => ?_⟩
        have h1 := (ok'.empty x b q).2
        rw [z] at h1
        exact Nat.lt_irrefl _ (Nat.lt_trans DC h1)
      · exact .inr (eo₁.cpv _ _ q)
  have DL : D ∉ L := fun q => by
    obtain ⟨o, e⟩ := l D q
    have := Heap.lt_size e
    rw [hD] at this; exact Nat.lt_irrefl _ this
  have notEnvD : ¬ EnvAddr (cEnv sc' C env) D := fun q => by
    rcases envN2 D q with ⟨_, q⟩ | q
    · exact q rfl
    · exact Nat.lt_irrefl _ (live1 D q)
  have notEnvL : ∀ b ∈ L, ¬ EnvAddr (cEnv sc' C env) b := fun b hb q => by
    obtain ⟨o, e⟩ := l b hb
    rcases envN2 b q with ⟨q, _⟩ | q
    · have := newN2 b q; rw [e] at this; cases this
    · obtain ⟨o', e'⟩ := R₁.pvl b q
      rw [n b hb] at e'; cases e'
  have frN : ∀ b, FrX sc' (cEnv sc' C env) b → b ∈ L ++ N2 := fun b hb => by
    rcases hb with hb | ⟨x, hx, hb⟩
    · rw [show b = C from hb]
      exact List.mem_append_right _ (.tail _ (.head _))
    · rcases (cEnv_lookup eo₁ hc x).2 b hb with ⟨q, _⟩ | q
      · exact List.mem_append_right _ (.tail _ (.tail _ (List.mem_map.mpr ⟨(x, b), q, rfl⟩)))
      · obtain ⟨a, ha⟩ := cellsFrom_some sc'.names (C + 1) (mem_of_lookup hx)
        have e : (cEnv sc' C env).cells = cellsFrom (C + 1) sc'.names [] ++ clOf env sc'.names [] := cellsFrom_app _ _ _
        rw [e, lookup_app] at hb
        obtain ⟨a', ha'⟩ := Option.isSome_iff_exists.mp (lookup_of_mem ha)
        rw [ha'] at hb
        cases hb
        exact List.mem_append_right _ (.tail _ (.tail _ (List.mem_map.mpr ⟨(x, b), mem_of_lookup ha', rfl⟩)))
  rw [compGo_eq] at e2
  have itB : ItR c A { r₁ with pv := (r₁.pv ++ L) ++ N2 } hE itr I L := it₁.keep MB fun b hb o e => kE b o e
  have loop : codeAny c.M A (.compLoop (.ListComp elt [⟨target, iter, ifs, 0⟩] sc' p) 0 (.ref I) (.ref D) (cEnv sc' C env)) (compPost c.M A E' use Q (.ref D) C) { s with heap := hE, toks := tk } := by
    refine comp_loop (s₀ := { s with heap := hE, toks := tk }) (r₀ := { r₁ with pv := (r₁.pv ++ L) ++ N2 }) (N := L ++ N2) (L := L) (D := D) (I := I) (σ := σ₁) (itr := itr) (acc := []) (vars := own.map (·, Option.none) ++ vars) (tk := tk) hOk hh hu ih0 ih eoB te tt ti (fun b hb => by rw [eN]; exact List.mem_append_right _ hb) (fun b hb => List.mem_append_left _ hb) frN (List.mem_append_right _ (.head _)) notEnvL notEnvD DL ?_ loopFuel
      ⟨RB, StepX.refl, voB, itB, ok, ⟨[], 0, gD, .nil, Nat.zero_le _⟩⟩ e2
    rintro r₂ vars₂ acc₂ σ₃ h₃ h₄ tk₂ itr₂ J heq kk
    cases heq
    obtain ⟨hl3, rfl, rfl⟩ := mkL_eq e3
    have CL : C ∉ L := fun q => notEnvL C q (.inl rfl)
    obtain ⟨mC, hC3⟩ := J.vo.ns
    obtain ⟨items, mm, hd, hx, hz⟩ := J.acc
    have hpv : r₂.pv = (r₁.pv ++ L) ++ N2 := J.S.pv
    let M : List Addr := C :: (cellsFrom (C + 1) sc'.names []).map (·.2)
    have MN : ∀ b ∈ M, b ∈ N2 := fun b hb => .tail _ hb
    have geM : ∀ b ∈ M, C ≤ b := fun b hb => by
      rcases List.mem_cons.mp hb with rfl | q
      · exact Nat.le_refl _
      · obtain ⟨⟨x, a⟩, hx, rfl⟩ := List.mem_map.mp q
        exact Nat.le_of_succ_le (ok'.empty x a hx).2
    have ML : ∀ b ∈ M, b ∉ L := fun b hb q => by
      obtain ⟨o, e⟩ := l b q
      have := newN2 b (MN b hb)
      rw [e] at this; cases this
    have DM : D ∉ M := fun q => Nat.lt_irrefl _ (Nat.lt_of_lt_of_le DC (geM D q))
    have pL : ∀ b ∈ r₁.pv, b ∉ L ++ N2 := fun b hb q => by
      obtain ⟨o, e⟩ := R₁.pvl b hb
      rw [newN b q] at e; cases e
    have DpV : D ∉ r₁.pv := fun q => pL D q (List.mem_append_right _ (.head _))
    have k4 : ∀ b o, h₃.get? b = some o → b ∉ L → h₄.get? b = some o := fun b o e nb => kk b o nb e
    have hd4 : h₄.get? D = some (lstO items mm) := kk D _ DL hd
    obtain ⟨RF, MF⟩ := Rel.finish (pv := r₁.pv ++ M) (L := L) J.R (fun b hb => by rw [hpv]; exact List.mem_append_left _ (List.mem_append_right _ hb)) (fun b hb => by
      rw [hpv]
      rcases List.mem_append.mp hb with q | q
      · exact List.mem_append_left _ (List.mem_append_left _ q)
      · exact List.mem_append_right _ (MN b q)) (fun b hb => by
      rcases List.mem_append.mp hb with q | q
      · exact fun z => pL b q (List.mem_append_left _ z)
      · exact ML b q) (by rw [hpv]; exact List.mem_append_right _ (.head _)) (fun q => by
      rcases List.mem_append.mp q with q | q
      · exact DpV q
      · exact DM q) k4 hd4 hx (by omega)
    have kE1 : ∀ b o, h₁.get? b = some o → hE.get? b = some o := fun b o e => kE b o (k b o e)
    have no : ∀ a, hE.get? a = none → h₁.get? a = none := fun a ha => by
      cases q : h₁.get? a with
      | none => rfl
      | some o => have := kE1 a o q; rw [ha] at this; cases this
    obtain ⟨τ, hτ, hf⟩ := J.S.ext
    have SF : Step r₁ h₁ { ob := r₂.ob ++ [(D, D)], pv := r₁.pv } h₄ := by
      refine ⟨⟨τ ++ [(D, D)], by rw [← List.append_assoc]; exact congrArg (· ++ [(D, D)]) hτ, fun q hq => ?_⟩, rfl, fun b o e hb => k4 b o (J.S.keep b o (kE1 b o e) hb fun q => ?_) fun q => ?_, fun b o e => ?_⟩
      · rcases List.mem_append.mp hq with hq | hq
        · exact ⟨no _ (hf q hq).1, no _ (hf q hq).2⟩
        · rw [List.mem_singleton.mp hq]
          have := newN D (List.mem_append_right _ (.head _))
          exact ⟨this, this⟩
      · rw [newN b q] at e; cases e
      · rw [newL b q] at e; cases e
      · obtain ⟨o', e'⟩ := J.S.live b o (kE1 b o e)
        exact ⟨o', k4 b o' e' fun q => by rw [newL b q] at e; cases e⟩
    have MM : Mv r₁ h₁ { ob := r₂.ob ++ [(D, D)], pv := r₁.pv ++ M } h₄ := ⟨fun i p e => SF.at_ob e, fun a o e f => ⟨(SF.mv.fz a o e f).1, fun q => by
      rcases q with q | q
      · exact (SF.mv.fz a o e f).2 (.inl q)
      · rcases List.mem_append.mp q with q | q
        · exact f (.inr q)
        · rw [newN a (List.mem_append_right _ (MN a q))] at e; cases e⟩⟩
    have envKeep : ∀ b, EnvAddr env b → ∀ o, h₁.get? b = some o → h₄.get? b = some o := fun b hb o e => SF.keep b o e (R₁.pvo b (by
      rcases hb with rfl | ⟨x, hx⟩
      · exact eo₁.lpv
      · exact eo₁.cpv _ _ hx))
    refine O r₁ h₁ { ob := r₂.ob ++ [(D, D)], pv := r₁.pv } h₄ tk₂ C D M S₁ RF (fun b hb => newN b (List.mem_append_right _ (MN b hb))) (fun b hb q => pL b hb (List.mem_append_right _ (MN b q))) SF (eo₁.wider fun b hb => List.mem_append_left _ hb) (vo₁.keepE envKeep MM) (.head _) (.ref _ (D, D) ?_) ⟨mC, hC3.at' fun o e => kk _ o CL e⟩
    show (r₂.ob ++ [(D, D)])[σ₂.length]? = _
    rw [← J.R.len, List.getElem?_append_right (Nat.le_refl _), Nat.sub_self]; rfl
  exact codeAny_compStart_list loop (iter_self (s := { s with heap := hE, toks := tk }) itB loop)

theorem comp_sound {m : Nat} (hOk : c.Ok) (hh : A.handled = none) (hu : A.units + 100 < cLine) (ih0 : ∀ k, k < m → EvOk c A (MI.ev c.Γ cf k)) (ih : EvOk c A (MI.ev c.Γ cf m)) (eo : EnvOk c sc env r.pv) (vo : VarsOk c sc env r s.heap vars) (R : c.R r σ s.heap) {elt target iter : Expr} {ifs : List Expr} {elt' : E} {t : T} {it' : It} {ifs' : List E} {p : Pos} {own : List Nat}
    (hk : sc'.kind = .function) (hc : compOk sc sc' = true) (te : Tr c.t sc' elt elt') (tt : TrT c.t sc' target t) (tit : TrI c.t sc iter it') (ti : TrL c.t sc' ifs ifs') (ho : ownNames c.t sc'.names = some own)
    {itr : Itr} {σ₁ σ₂ : H} {varsF : Vars} {acc : List V} (e1 : evIt (MI.ev c.Γ cf m) it' vars σ = some (itr, σ₁)) (ok : okT t itr = true) (e2 : compGo (MI.ev c.Γ cf m) elt' t ifs' itr (own.map (·, Option.none) ++ vars) [] σ₁ = some (varsF, acc, σ₂)) (e3 : mkL acc σ₂ = some (v, σ')) {Q : Value → Shared → Prop} (O : Out c r s σ' v Q) :
    wpAny c.M A (eval (.ListComp elt [⟨target, iter, ifs, 0⟩] sc' p) env) Q E' s := by
  rw [eval_ListComp]
  refine comp_core hOk hh hu ih0 ih eo vo R hk hc te tt tit ti ho e1 ok e2 e3 fun r₁ h₁ rm hm tk C D M S₁ Rm nM pM Sm eom vom CM xv nsC => ?_
  refine k11 nsC fun m hn => ?_; clear nsC
  refine ⟨m, hn, fun h' hs' => ?_⟩
  have k : ∀ b o, hm.get? b = some o → b ∉ M → h'.get? b = some o := fun b o e nb => (hs'.2 b fun q => nb (q ▸ CM)).trans e
  refine k02 (Rel.leave Rm rfl pM k) fun RL ML => ?_
  refine O (.ref D) { rm with pv := r₁.pv } h' tk RL (S₁.trans ⟨Sm.ext, rfl, fun b o e hb => k b o (Sm.keep b o e hb) fun q => ?_, fun b o e => ?_⟩) (xv.mv ML)
  · rw [nM b q] at e; exact ns e
  · refine k11 (Sm.live b o e) fun o' e' => ?_
    exact ⟨o', k b o' e' fun q => by rw [nM b q] at e; cases e⟩

/-- the list is laid where it goes, ahead of the comprehension's own end -/
theorem comp_use {m : Nat} (hOk : c.Ok) (hh : A.handled = none) (hu : A.units + 100 < cLine) (ih0 : ∀ k, k < m → EvOk c A (MI.ev c.Γ cf k)) (ih : EvOk c A (MI.ev c.Γ cf m)) (eo : EnvOk c sc env r.pv) (vo : VarsOk c sc env r s.heap vars) (R : c.R r σ s.heap) {elt target iter : Expr} {ifs : List Expr} {elt' : E} {t : T} {it' : It} {ifs' : List E} {p : Pos} {own : List Nat}
    (hk : sc'.kind = .function) (hc : compOk sc sc' = true) (te : Tr c.t sc' elt elt') (tt : TrT c.t sc' target t) (tit : TrI c.t sc iter it') (ti : TrL c.t sc' ifs ifs') (ho : ownNames c.t sc'.names = some own)
    {itr : Itr} {σ₁ σ₂ : H} {varsF vars' : Vars} {acc : List V} (e1 : evIt (MI.ev c.Γ cf m) it' vars σ = some (itr, σ₁)) (ok : okT t itr = true) (e2 : compGo (MI.ev c.Γ cf m) elt' t ifs' itr (own.map (·, Option.none) ++ vars) [] σ₁ = some (varsF, acc, σ₂)) (e3 : mkL acc σ₂ = some (v, σ')) {u : Value → Sem Unit}
    (hu' : ∀ {r : Rh} {s : Shared} {x : Value} {Q : Unit → Shared → Prop}, EnvOk c sc env r.pv → VarsOk c sc env r s.heap vars → c.R r σ' s.heap → c.V r s.heap v x → OutS c sc env r s σ' vars' (Q ()) → wpAny c.M A (u x) Q E' s) {Q : Value → Shared → Prop} (O : OutS c sc env r s σ' vars' (Q .none)) :
    wpAny c.M A (comprehension (.ListComp elt [⟨target, iter, ifs, 0⟩] sc' p) sc' env (firstIterPos [⟨target, iter, ifs, 0⟩] p) (newList []) (firstAsync [⟨target, iter, ifs, 0⟩]) (firstIter [⟨target, iter, ifs, 0⟩] env) (some u)) Q E' s := by
  refine comp_core hOk hh hu ih0 ih eo vo R hk hc te tt tit ti ho e1 ok e2 e3 fun r₁ h₁ rm hm tk C D M S₁ Rm nM pM Sm eom vom CM xv nsC => ?_
  refine k11 nsC fun mC hn => ?_; clear nsC
  have eo₁ : EnvOk c sc env r₁.pv := eo.step S₁
  have CF : ¬ FrX sc env C := fun q => pM C (FrX.pv (r := r₁) eo₁ C q) CM
  refine hu' (s := { s with heap := hm, toks := tk }) eom vom Rm xv fun r₂ h₂ tk₂ R₂ S₂ vo₂ => ?_
  have Cown : ¬ ({ rm with pv := r₁.pv ++ M } : Rh).own C := Rm.pvo C (List.mem_append_right _ CM)
  refine ⟨mC, hn.at' fun o e => S₂.keep C o e Cown CF, fun h' hs' => ?_⟩
  have k : ∀ b o, h₂.get? b = some o → b ∉ M → h'.get? b = some o := fun b o e nb => (hs'.2 b fun q => nb (q ▸ CM)).trans e
  refine k02 (Rel.leave R₂ S₂.pv pM k) fun RL ML => ?_
  refine k12 (Sm.ext) fun τ hτ hf => ?_
  refine k12 (S₂.ext) fun τ' hτ' hf' => ?_
  have no : ∀ a, hm.get? a = none → h₁.get? a = none := fun a ha => by
    cases q : h₁.get? a with
    | none => rfl
    | some o => obtain ⟨o', e'⟩ := Sm.live a o q; rw [ha] at e'; exact ns e'
  have SF : StepX (FrX sc env) r₁ h₁ { r₂ with pv := r₁.pv } h' := by
    refine ⟨⟨τ ++ τ', by rw [← List.append_assoc]; exact hτ'.trans (congrArg (· ++ τ') hτ), fun q hq => ?_⟩, rfl, fun b o e hb hx => ?_, fun b o e => ?_⟩
    · rcases List.mem_append.mp hq with hq | hq
      · exact hf q hq
      · exact ⟨no _ (hf' q hq).1, no _ (hf' q hq).2⟩
    · refine k b o (S₂.keep b o (Sm.keep b o e hb) (fun q => hb (Sm.own_old e q)) hx) fun q => ?_
      rw [nM b q] at e; exact ns e
    · refine k11 (Sm.live b o e) fun o' e' => ?_
      refine k11 (S₂.live b o' e') fun o'' e'' => ?_
      exact ⟨o'', k b o'' e'' fun q => by rw [nM b q] at e; cases e⟩
  refine O { r₂ with pv := r₁.pv } h' tk₂ (S₁.pv ▸ RL) (S₁.x.trans SF) (vo₂.keepE (fun b hb o e => k b o e fun q => pM b (by
    rcases hb with rfl | ⟨x, hx⟩
    · exact eo₁.lpv
    · exact eo₁.cpv _ _ hx) q) ML)
end
end MI
end TMS23
section TMS24
open PySem PySem.Spec PySem.Calls PyProof.Rows PySem.W
set_option linter.unusedVariables false
namespace MI
noncomputable def TrS (t : Tx) (sc : Scope) (s : Stmt) (u : S) : Prop := ∃ a : AS, s = a.un ∧ u = a.er ∧ a.ok t sc = true
noncomputable def TrSs (t : Tx) (sc : Scope) (ss : List Stmt) (us : List S) : Prop := ∃ as, ss = unSs as ∧ us = erSs as ∧ okSs t sc as = true
theorem TrSs.mk {t : Tx} {sc : Scope} {as : List AS} (h : okSs t sc as = true) : TrSs t sc (unSs as) (erSs as) := ⟨as, rfl, rfl, h⟩
theorem swaps_un {a : AE} (h : isComp a.un = false) (t : Option Expr) (line : Nat) (env : Env) : swapsWith a.un t line env = pure false := by
  cases a <;> first | rfl | exact tf h
theorem swaps_sub (a : AE) (x y : Expr) (q : Pos) (line : Nat) (env : Env) : swapsWith a.un (some (.Subscript x y q)) line env = pure false := by cases a <;> rfl
theorem swaps_tup (a : AE) (es : List Expr) (k : Nat) (q : Pos) (line : Nat) (env : Env) : swapsWith a.un (some (.Tuple es k q)) line env = pure false := by cases a <;> rfl
end MI
end TMS24
section TMS25
open PySem PySem.Spec PySem.Calls PyProof.Rows PySem.W
set_option linter.unusedVariables false
namespace MI

noncomputable def FlR (c : Cx) (r : Rh) (h : Heap) : Fl → Flow → Prop
  | .next, f => f = .next
  | .brk, f => f = .brk
  | .ret v, f => ∃ u, f = .ret u ∧ c.V r h v u

/-- what is wanted of a statement's end -/
noncomputable def OutX (c : Cx) (sc : Scope) (env : Env) (r : Rh) (s : Shared) (σ' : H) (fl : Fl) (vars' : Vars) (Q : Flow → Shared → Prop) : Prop :=
  ∀ f r' h' tk, c.R r' σ' h' → StepX (FrX sc env) r s.heap r' h' → VarsOk c sc env r' h' vars' → FlR c r' h' fl f → Q f { s with heap := h', toks := tk }

section
variable {c : Cx} {A : Around} {E' : Value → Shared → Prop} {s : Shared} {sc sc' : Scope} {env : Env} {r r' : Rh} {σ σ' σ₁ : H} {v : V} {vars vars' : Vars} {ev : Ev} {cf : Cf} {h' : Heap} {tk : Nat} {fl : Fl}

theorem OutX.after {Q : Flow → Shared → Prop} (O : OutX c sc env r s σ' fl vars' Q) (S : StepX (FrX sc env) r s.heap r' h') : OutX c sc env r' { s with heap := h', toks := tk } σ' fl vars' Q :=
  fun f r'' h'' tk' R'' S'' vo => O f r'' h'' tk' R'' (S.trans S'') vo

/-- a list of names, each given the value -/
theorem assignAll_un : ∀ (as : List AN), as.all (AN.ok c.t sc) = true → ∀ {r : Rh} {s : Shared} {v : V} {u : Value} {vars : Vars} {Q : Unit → Shared → Prop}, EnvOk c sc env r.pv → VarsOk c sc env r s.heap vars → c.R r σ s.heap → c.V r s.heap v u →
    OutS c sc env r s σ ((as.map AN.er).foldl (fun vs x => vs.set x v) vars) (Q ()) → wpAny c.M A (assignAll u ((assignEach (as.map AN.un) env).map (·.2))) Q E' s := by
  intro as
  induction as with
  | nil => intro _ r s v u vars Q eo vo R xv O; exact wpAny_pure (O r s.heap s.toks R .refl vo)
  | cons a rest ih =>
    intro h r s v u vars Q eo vo R xv O
    obtain ⟨x, i, p⟩ := a
    refine k02 (and_i h) fun h hr => ?_
    refine k02 (and_i h) fun ho hi => ?_
    have st : ∀ {Q : Unit → Shared → Prop}, OutS c sc env r s σ (vars.set i v) (Q ()) → wpAny c.M A (assign (.Name x p) env u) Q E' s := fun O => wpAny_assign_Name (store_sound ho (of_decide_eq_true hi) eo vo R xv O)
    cases rest with
    | nil =>
      show wpAny _ _ (assign (.Name x p) env u) _ _ _
      exact st O
    | cons b rest =>
      obtain ⟨y, j, p'⟩ := b
      show wpAny _ _ (holding [u] (assign (.Name x p) env u) >>= fun _ => assignAll u ((assignEach ((AN.mk y j p' :: rest).map AN.un) env).map (·.2))) _ _ _
      refine wpAny_bind (wpAny_holding (st fun r₁ h₁ tk₁ R₁ S₁ vo₁ => ?_))
      exact ih hr (eo.stepX S₁) vo₁ R₁ (xv.mv (S₁.mv (FrX.pv eo))) (fun r₂ h₂ tk₂ R₂ S₂ vo₂ => O r₂ h₂ tk₂ R₂ (S₁.trans S₂) vo₂)

theorem itr_i {β : Type} {f : Itr → H → Option β} {o : Option (Itr × H)} {y : β} (e : (match o with
    | some (v, σ') => f v σ'
    | .none => .none) = some y) : ∃ v σ', o = some (v, σ') ∧ f v σ' = some y := by
  cases o with
  | none => exact ns e
  | some x => exact ⟨x.1, x.2, rfl, e⟩
theorem go_i {β : Type} {f : List V → H → Option β} {o : Option (Vars × List V × H)} {y : β} (e : (match o with
    | some (_, acc, σ') => f acc σ'
    | .none => .none) = some y) : ∃ vars acc σ', o = some (vars, acc, σ') ∧ f acc σ' = some y := by
  cases o with
  | none => exact ns e
  | some x => exact ⟨x.1, x.2.1, x.2.2, rfl, e⟩
theorem ev_compE (Γ : G) (cf : Cf) (n : Nat) (elt : E) (t : T) (iter : It) (ifs : List E) (own : List Nat) (vars : Vars) (σ : H) : MI.ev Γ cf (n + 1) (.comp elt [.mk t iter ifs] own) vars σ = (match evIt (MI.ev Γ cf n) iter vars σ with
        | some (itr, σ) => if okT t itr then match compGo (MI.ev Γ cf n) elt t ifs itr (own.map (·, .none) ++ vars) [] σ with
          | some (_, acc, σ) => mkL acc σ
          | .none => .none else .none
        | .none => .none) := rfl
theorem ev_comp_inv {n : Nat} {elt : E} {t : T} {it : It} {ifs : List E} {own : List Nat} (e : MI.ev c.Γ cf (n + 1) (.comp elt [.mk t it ifs] own) vars σ = some (v, σ')) : ∃ itr σ₁ varsF acc σ₂, evIt (MI.ev c.Γ cf n) it vars σ = some (itr, σ₁) ∧ okT t itr = true ∧
    compGo (MI.ev c.Γ cf n) elt t ifs itr (own.map (·, Option.none) ++ vars) [] σ₁ = some (varsF, acc, σ₂) ∧ mkL acc σ₂ = some (v, σ') := by
  refine k22 (itr_i ((ev_compE ..).symm.trans e)) fun itr σ₁ e1 e => ?_
  refine k02 (if_i e) fun ok e => ?_
  refine k32 (go_i e) fun varsF acc σ₂ e2 e => ?_
  exact ⟨itr, σ₁, varsF, acc, σ₂, e1, ok, e2, e⟩

theorem evalThenUse_comp {elt : Expr} {gens : List Comprehension} {s' : Scope} {q : Pos} {use : Value → Sem Unit} : evalThenUse (.ListComp elt gens s' q) env use = (comprehension (.ListComp elt gens s' q) s' env (firstIterPos gens q) (newList []) (firstAsync gens) (firstIter gens env) (some use) >>= fun _ => pure ()) := rfl
theorem names_comp {n : Nat} (hOk : c.Ok) (hh : A.handled = none) (hu : A.units + 100 < cLine) (ih : ∀ m, EvOk c A (MI.ev c.Γ cf m)) {x : Str} {i : Nat} {px q p : Pos} (tn : [AN.mk x i px].all (AN.ok c.t sc) = true) {elt target iter : Expr} {ifs : List Expr} {elt' : E} {t : T} {it : It} {ifs' : List E} {own : List Nat}
    (hb : swapsWith (.ListComp elt [⟨target, iter, ifs, 0⟩] sc' q) (some (.Name x px)) p.line env = pure true) (eo : EnvOk c sc env r.pv) (vo : VarsOk c sc env r s.heap vars) (R : c.R r σ s.heap)
    (hk : sc'.kind = .function) (hc : compOk sc sc' = true) (te : Tr c.t sc' elt elt') (tt : TrT c.t sc' target t) (tit : TrI c.t sc iter it) (ti : TrL c.t sc' ifs ifs') (hown : ownNames c.t sc'.names = some own)
    {itr : Itr} {σ₂ : H} {varsF : Vars} {acc : List V} (e1 : evIt (MI.ev c.Γ cf n) it vars σ = some (itr, σ₁)) (ok : okT t itr = true) (e2 : compGo (MI.ev c.Γ cf n) elt' t ifs' itr (own.map (·, Option.none) ++ vars) [] σ₁ = some (varsF, acc, σ₂)) (e3 : mkL acc σ₂ = some (v, σ'))
    {Q : Flow → Shared → Prop} (O : OutX c sc env r s σ' .next (vars.set i v) Q) : wpAny c.M A (exec (.Assign [.Name x px] (.ListComp elt [⟨target, iter, ifs, 0⟩] sc' q) p) env) Q E' s := by
  rw [arm_exec_Assign]
  refine wpAny_bind (wpAny_standAt ?_)
  rw [show swapsWithSole [Expr.Name x px] (.ListComp elt [⟨target, iter, ifs, 0⟩] sc' q) p.line env = pure true from hb]
  refine wpAny_bind (wpAny_pure ?_)
  rw [if_pos rfl]
  rw [evalThenUse_comp]
  refine wpAny_bind (wpAny_bind ?_)
  have O' : OutS c sc env r s σ' (vars.set i v) (fun s' => wpAny c.M A (pure ()) (fun a s' => wpAny c.M A (pure Flow.next) Q E' s') E' s') := fun r' h' tk' R' S' vo' => wpAny_pure (wpAny_pure (O .next r' h' tk' R' S' vo' rfl))
  have hus : ∀ {r : Rh} {s : Shared} {x' : Value} {Q : Unit → Shared → Prop}, EnvOk c sc env r.pv → VarsOk c sc env r s.heap vars → c.R r σ' s.heap → c.V r s.heap v x' → OutS c sc env r s σ' (vars.set i v) (Q ()) → wpAny c.M A (assignAll x' ((assignEach [.Name x px] env).map (·.2))) Q E' s := fun eo vo R xv O => assignAll_un [.mk x i px] tn eo vo R xv O
  have key := comp_use (p := q) (target := target) (iter := iter) (ifs := ifs) (elt := elt) (E' := E') (Q := fun _ s' => wpAny c.M A (pure ()) (fun a s' => wpAny c.M A (pure Flow.next) Q E' s') E' s') hOk hh hu (fun k _ => @ih k) (@ih n) eo vo R hk hc te tt tit ti hown e1 ok e2 e3 (u := fun v => assignAll v ((assignEach [.Name x px] env).map (·.2))) hus O'
  exact key
theorem names_sound {n : Nat} (hOk : c.Ok) (hh : A.handled = none) (hu : A.units + 100 < cLine) (ih : ∀ m, EvOk c A (MI.ev c.Γ cf m)) {xs : List AN} {a : AE} {p : Pos} (hne : xs.isEmpty = false) (tn : xs.all (AN.ok c.t sc) = true) (tv : a.ok c.t sc = true) (eo : EnvOk c sc env r.pv) (vo : VarsOk c sc env r s.heap vars) (R : c.R r σ s.heap)
    (e : MI.ev c.Γ cf n a.er vars σ = some (v, σ')) {Q : Flow → Shared → Prop} (O : OutX c sc env r s σ' .next ((xs.map AN.er).foldl (fun vs x => vs.set x v) vars) Q) : wpAny c.M A (exec (.Assign (xs.map AN.un) a.un p) env) Q E' s := by
  have normal : swapsWithSole (xs.map AN.un) a.un p.line env = pure false → swappedStores (xs.map AN.un) a.un env = pure none → wpAny c.M A (exec (.Assign (xs.map AN.un) a.un p) env) Q E' s := fun hs hw => by
    refine wpAny_Assign_stores ?_ hs hw
    refine ih n (.mk tv) eo vo R e fun u r₁ h₁ tk₁ R₁ S₁ x₁ => ?_
    exact assignAll_un xs tn (eo.step S₁) (vo.step eo R S₁) R₁ x₁ fun r₂ h₂ tk₂ R₂ S₂ vo₂ => O .next r₂ h₂ tk₂ R₂ (S₁.x.trans S₂) vo₂ rfl
  cases xs with
  | nil => exact tf hne
  | cons b rest =>
    obtain ⟨x, i, px⟩ := b
    cases rest with
    | cons b' rest' => obtain ⟨_, _, _⟩ := b'; exact normal rfl rfl
    | nil =>
      by_cases hc : isComp a.un = false
      · exact normal (show swapsWithSole [Expr.Name x px] a.un p.line env = pure false from swaps_un hc (some (.Name x px)) p.line env) rfl
      · cases a <;> first | exact (hc rfl).elim | skip
        rename_i elt tg it ifs sc' own q
        have hb : ∃ b, swapsWith (AE.comp elt tg it ifs sc' own q).un (some (.Name x px)) p.line env = pure b := ⟨_, rfl⟩
        refine k11 hb fun b hb => ?_
        cases b with
        | false => exact normal hb rfl
        | true =>
          refine k02 (and_i tv) fun hk h => ?_
          refine k02 (and_i h) fun hc h => ?_
          refine k02 (and_i h) fun h1 h => ?_
          refine k02 (and_i h) fun h2 h => ?_
          refine k02 (and_i h) fun h3 h => ?_
          refine k02 (and_i h) fun h4 h5 => ?_
          cases n with
          | zero => exact ns e
          | succ n =>
            refine k54 (ev_comp_inv (elt := elt.er) (t := tg.er) (it := it.er) (ifs := erL ifs) (own := own) e) fun itr σ₁ varsF acc σ₂ e1 ok e2 e3 => ?_
            exact names_comp hOk hh hu ih tn hb eo vo R (of_decide_eq_true hk) hc (.mk h1) (.mk h2) (.mk h3) (.mk h4) (of_decide_eq_true h5) e1 ok e2 e3 O
end
end MI
end TMS25
section TMS26
open PySem PySem.Spec PySem.Calls PyProof.Rows PySem.W
set_option linter.unusedVariables false
namespace MI

noncomputable def setAll (vars : Vars) (l : List (Nat × V)) : Vars := l.foldl (fun vs p => vs.set p.1 p.2) vars
theorem setAll_get {i : Nat} (l : List (Nat × V)) : ∀ vars : Vars, (i ∉ l.map (·.1) → Vars.get i (setAll vars l) = Vars.get i vars) ∧ ((l.map (·.1)).Nodup → ∀ v, (i, v) ∈ l → Vars.get i (setAll vars l) = some v) := by
  induction l with
  | nil => exact fun vars => ⟨fun _ => rfl, fun _ v h => nomatch h⟩
  | cons p r ih =>
    intro vars
    cases p with
    | mk j w =>
      refine k02 (ih (vars.set j w)) fun h1 h2 => ?_
      refine ⟨fun h => ?_, fun hn v hv => ?_⟩
      · refine k02 (not_or.mp (mt List.mem_cons.mpr h)) fun n1 n2 => ?_
        exact (h1 n2).trans ((Vars.get_set ..).trans (if_neg n1))
      · refine k02 (List.nodup_cons.mp hn) fun n1 n2 => ?_
        rcases List.mem_cons.mp hv with q | q
        · cases q
          exact (h1 n1).trans ((Vars.get_set ..).trans (if_pos rfl))
        · exact h2 n2 v q
theorem setAll_rev {i : Nat} (l : List (Nat × V)) (vars : Vars) (hn : (l.map (·.1)).Nodup) : Vars.get i (setAll vars l.reverse) = Vars.get i (setAll vars l) := by
  have hn' : (l.reverse.map (·.1)).Nodup := by rw [List.map_reverse]; exact List.pairwise_reverse.mpr (hn.imp fun h => Ne.symm h)
  by_cases h : i ∈ l.map (·.1)
  · obtain ⟨⟨j, v⟩, hm, rfl⟩ := List.mem_map.mp h
    rw [(setAll_get l vars).2 hn v hm, (setAll_get l.reverse vars).2 hn' v (List.mem_reverse.mpr hm)]
  · rw [(setAll_get l vars).1 h, (setAll_get l.reverse vars).1 (by rw [List.map_reverse]; simpa using h)]

theorem zip_rev {α β : Type} {a : List α} {b : List β} (h : a.length = b.length) : a.reverse.zip b.reverse = (a.zip b).reverse := (List.reverse_zipWith h).symm
theorem idq_map (is : List Nat) : (is.map T.name).filterMap T.id? = is := by
  induction is with
  | nil => rfl
  | cons i r ih => exact congrArg (i :: ·) ih
inductive IdsOf (t : Tx) (sc : Scope) : List Str → List Nat → Prop
  | nil : IdsOf t sc [] []
  | cons {x i r r'} : ownB sc x = true → t.id x = some i → IdsOf t sc r r' → IdsOf t sc (x :: r) (i :: r')
theorem IdsOf.append {t : Tx} {sc : Scope} {a : List Str} {b : List Nat} {a' : List Str} {b' : List Nat} (x : IdsOf t sc a b) (y : IdsOf t sc a' b') : IdsOf t sc (a ++ a') (b ++ b') := by
  induction x with
  | nil => exact y
  | cons h1 h2 _ ih => exact .cons h1 h2 ih
theorem IdsOf.reverse {t : Tx} {sc : Scope} {a : List Str} {b : List Nat} (x : IdsOf t sc a b) : IdsOf t sc a.reverse b.reverse := by
  induction x with
  | nil => exact .nil
  | cons h1 h2 _ ih => rw [List.reverse_cons, List.reverse_cons]; exact ih.append (.cons h1 h2 .nil)
theorem IdsOf.length {t : Tx} {sc : Scope} {a : List Str} {b : List Nat} (x : IdsOf t sc a b) : a.length = b.length := by
  induction x with
  | nil => rfl
  | cons h1 h2 _ ih => exact congrArg Nat.succ ih

theorem ids_shape {t : Tx} {sc : Scope} {f : Expr → Option Str} (hf : ∀ e x, f e = some x → ∃ p, e = .Name x p) (as : List AT) (h : okTs t sc as = true) (hn : ((unTs as).filterMap f).length = (unTs as).length) :
    ∃ is, erTs as = is.map T.name ∧ IdsOf t sc ((unTs as).filterMap f) is := by
  induction as with
  | nil => exact ⟨[], rfl, .nil⟩
  | cons a as ih =>
    refine k02 (and_i h) fun h1 h2 => ?_
    replace hn : ((a.un :: unTs as).filterMap f).length = (unTs as).length + 1 := hn
    show ∃ is, a.er :: erTs as = is.map T.name ∧ IdsOf t sc ((a.un :: unTs as).filterMap f) is
    cases q : f a.un with
    | none => rw [List.filterMap_cons_none q] at hn; exact absurd (hn ▸ List.length_filterMap_le f (unTs as)) (Nat.not_succ_le_self _)
    | some x =>
      rw [List.filterMap_cons_some q] at hn ⊢
      refine k11 (hf a.un x q) fun p hp => ?_
      refine k12 (ih h2 (Nat.succ.inj hn)) fun is h3 h4 => ?_
      cases a with
      | tup _ _ _ => exact nomatch hp
      | name y i p' =>
        refine k02 (and_i h1) fun ho hi => ?_
        injection hp with e1 e2
        subst e1
        exact ⟨i :: is, congrArg (T.name i :: ·) h3, .cons ho (of_decide_eq_true hi) h4⟩
theorem bindTs_names {σ : H} {is : List Nat} {vs : List V} {vars vars' : Vars} (e : bindTs (is.map T.name) vs σ vars = some vars') : vars' = setAll vars (is.zip vs) ∧ is.length = vs.length := by
  induction is generalizing vs vars with
  | nil => cases vs with
    | nil => exact ⟨(Option.some.inj e).symm, rfl⟩
    | cons => exact ns e
  | cons i is ih => cases vs with
    | nil => exact ns e
    | cons v vs => exact (ih (show bindTs (is.map T.name) vs σ (vars.set i v) = some vars' from e)).imp id (congrArg Nat.succ)

section
variable {c : Cx} {A : Around} {E' : Value → Shared → Prop} {s : Shared} {sc sc' : Scope} {env : Env} {r r' : Rh} {h h' : Heap} {σ σ' σ₁ : H} {v : V} {vars vars' : Vars} {ev : Ev} {cf : Cf} {fl : Fl}

theorem VarsOk.congr (vo : VarsOk c sc env r h vars) (e : ∀ i, Vars.get i vars' = Vars.get i vars) : VarsOk c sc env r h vars' :=
  ⟨vo.ns, vo.cells, fun x i v e1 e2 e3 => vo.held x i v e1 e2 ((e i) ▸ e3)⟩

theorem stores_sound {names : List Str} {is : List Nat} (H : IdsOf c.t sc names is) : ∀ {r : Rh} {s : Shared} {vs : List V} {us : List Value} {vars : Vars} {Q : Unit → Shared → Prop}, vs.length = is.length → EnvOk c sc env r.pv → VarsOk c sc env r s.heap vars → c.R r σ s.heap → VRs c.w.params r s.heap vs us →
    OutS c sc env r s σ (setAll vars (is.zip vs)) (Q ()) → wpAny c.M A (assignInOrder (names.map fun n => bindName env n) us) Q E' s := by
  induction H with
  | nil =>
    intro r s vs us vars Q hl eo vo R xv O
    cases List.length_eq_zero_iff.mp hl
    cases xv.inv
    exact wpAny_pure (O r s.heap s.toks R .refl vo)
  | @cons x i names is ho hi hr ih =>
    intro r s vs us vars Q hl eo vo R xv O
    cases vs with
    | nil => exact absurd hl (Nat.succ_ne_zero _).symm
    | cons v vs =>
      refine k23 xv.inv fun u us' q x1 xr => ?_; subst q
      show wpAny _ _ (holding us' (bindName env x u) >>= fun _ => assignInOrder (names.map fun n => bindName env n) us') _ _ _
      refine wpAny_bind (wpAny_holding (wpAny_bindName (store_sound ho hi eo vo R x1 fun r₁ h₁ tk₁ R₁ S₁ vo₁ => ?_)))
      exact ih (Nat.succ.inj hl) (eo.stepX S₁) vo₁ R₁ (xr.mv (S₁.mv (FrX.pv eo))) fun r₂ h₂ tk₂ R₂ S₂ vo₂ => O r₂ h₂ tk₂ R₂ (S₁.trans S₂) vo₂

noncomputable def nameOn (env : Env) (line : Nat) : Expr → Option Str
  | .Name id pos => if env.kindOf id == some .local && pos.line == line then some id else none
  | _ => none
theorem nameOn_i {env : Env} {line : Nat} {e : Expr} {x : Str} (h : nameOn env line e = some x) : ∃ p, e = .Name x p := by
  cases e with
  | Name id pos => exact (if_some h).2 ▸ ⟨pos, rfl⟩
  | _ => exact ns h
noncomputable def SwOk (es : List Expr) (env : Env) (m : Sem (Option (List Str))) : Prop := m = pure none ∨ ∃ line, m = pure (some (es.filterMap (nameOn env line))) ∧ (es.filterMap (nameOn env line)).length = es.length
theorem SwOk.ite {es : List Expr} {env : Env} {m : Sem (Option (List Str))} {b : Prop} [Decidable b] (h : ¬ b → SwOk es env m) : SwOk es env (if b then pure none else m) := by
  by_cases q : b
  · rw [if_pos q]; exact .inl rfl
  · rw [if_neg q]; exact h q
theorem swapped_tup (es : List Expr) (k : Nat) (q : Pos) (vs : List Expr) (k' : Nat) (p' : Pos) (env : Env) (hs : swapOk (.Tuple vs k' p') = true) : SwOk es env (swappedStores [.Tuple es k q] (.Tuple vs k' p') env) := by
  have hs' : (vs.all (constantsAlone 8)) = true → (vs.all (foldedForSure 8)) = true := fun h => by
    have hs : (!vs.all (constantsAlone 8) || vs.all (foldedForSure 8)) = true := hs
    rw [h] at hs; exact hs
  show SwOk es env (if _ then pure none else if _ then pure none else if _ then pure none else if _ then pure none else _)
  refine .ite fun _ => .ite fun _ => .ite fun hn => .ite fun hf => ?_
  have hf' : ¬ (vs.all (constantsAlone 8)) = true := fun h => hf (hs' h)
  have hl := (not_or.mp (mt (Bool.or_eq_true _ _).mpr hn)).1
  refine .inr ⟨((es.head?.map fun x : Expr => x.pos.line).getD 0), ?_, ?_⟩
  · exact if_neg hf'
  · exact Decidable.not_not.mp (mt bne_iff_ne.mpr hl)
theorem swapped_cases (es : List Expr) (k : Nat) (q : Pos) (a : AE) (env : Env) (hs : swapOk a.un = true) : SwOk es env (swappedStores [.Tuple es k q] a.un env) := by
  cases a <;> first | exact .inl rfl | exact swapped_tup es k q _ _ _ env hs
theorem bindT_tup {ts : List T} {v : V} {σ : H} {vars vars' : Vars} (e : bindT (.tup ts) v σ vars = some vars') : ∃ vs, v = .tup vs ∧ bindTs ts vs σ vars = some vars' := by
  cases v with
  | tup vs => exact ⟨vs, rfl, e⟩
  | _ => exact ns e
theorem unpack_sound {n : Nat} (hh : A.handled = none) (ih : EvOk c A (MI.ev c.Γ cf n)) {ts : List AT} {k : Nat} {q : Pos} {a : AE} {p : Pos} (hs : swapOk a.un = true) (hnd : ((erTs ts).filterMap T.id?).Nodup) (ht : okTs c.t sc ts = true) (tv : a.ok c.t sc = true)
    (eo : EnvOk c sc env r.pv) (vo : VarsOk c sc env r s.heap vars) (R : c.R r σ s.heap) (e : MI.ev c.Γ cf n a.er vars σ = some (v, σ')) (eb : bindT (.tup (erTs ts)) v σ' vars = some vars') {Q : Flow → Shared → Prop} (O : OutX c sc env r s σ' .next vars' Q) : wpAny c.M A (exec (.Assign [.Tuple (unTs ts) k q] a.un p) env) Q E' s := by
  have hsw : swapsWithSole [.Tuple (unTs ts) k q] a.un p.line env = pure false := swaps_tup a (unTs ts) k q p.line env
  rcases swapped_cases (unTs ts) k q a env hs with hw | ⟨line, hw, hlen⟩
  · refine wpAny_Assign_stores ?_ hsw hw
    refine ih (.mk tv) eo vo R e fun u r₁ h₁ tk₁ R₁ S₁ x₁ => ?_
    show wpAny _ _ (assign (.Tuple (unTs ts) k q) env u) _ _ _
    exact assign_sound (s := { s with heap := h₁, toks := tk₁ }) hh (.tup (erTs ts)) (TrT.mk (a := .tup ts k q) ht) (eo.step S₁) (vo.step eo R S₁) R₁ x₁ eb fun r₂ h₂ tk₂ R₂ S₂ vo₂ => O .next r₂ h₂ tk₂ R₂ (S₁.x.trans S₂) vo₂ rfl
  · rw [arm_exec_Assign]
    refine wpAny_bind (wpAny_standAt ?_)
    rw [hsw]
    refine wpAny_bind (wpAny_pure ?_)
    rw [if_neg (by decide)]
    refine wpAny_bind (ih (.mk tv) eo vo R e fun u r₁ h₁ tk₁ R₁ S₁ x₁ => ?_)
    rw [hw]
    refine wpAny_bind (wpAny_pure ?_)
    unfold assignStores
    dsimp only
    refine wpAny_bind (wpAny_rule ?_)
    refine k12 (bindT_tup eb) fun vs q1 eb => ?_; subst q1
    refine k12 (ids_shape (f := nameOn env line) (fun e x h => nameOn_i h) ts ht hlen) fun is his hids => ?_
    rw [his] at eb hnd
    refine k02 (bindTs_names eb) fun q2 hvl => ?_; subst q2
    refine k35 (x₁.tup_inv) fun items m a q3 ha hm hx hz => ?_; subst q3
    have hsz : ((unTs ts).filterMap (nameOn env line)).length = items.toArray.size := by rw [hids.length, hvl, List.size_toArray, hx.length]
    rw [hsz]
    refine wpAny_bind (unpackItems_tuple (s := { s with heap := h₁, toks := tk₁ }) hh (isTup_of ha) fun h₂ he => ?_)
    have kp : ∀ b o, h₁.get? b = some o → h₂.get? b = some o := fun b o e => he b o (Nat.ne_of_lt (Heap.lt_size e)) e
    have S₂ := Step.grow (r := r₁) kp
    have S12 := S₁.trans S₂
    have hids' := hids.reverse
    have hmap := idq_map is
    rw [hmap] at hnd
    have hkeys : ((is.zip vs).map (·.1)) = is := by rw [List.map_fst_zip]; omega
    refine wpAny_bind (stores_sound (s := { s with heap := h₂, toks := tk₁ }) hids' (vs := vs.reverse) (by simp [hvl]) (eo.step S12) (vo.step eo R S12) (R₁.grow kp) (by simpa using (hx.step S₂).reverse) fun r₃ h₃ tk₃ R₃ S₃ vo₃ => wpAny_pure (O .next r₃ h₃ tk₃ R₃ (S12.x.trans S₃) (vo₃.congr fun i => ?_) rfl))
    have : is.reverse.zip vs.reverse = (is.zip vs).reverse := zip_rev hvl
    rw [this, setAll_rev _ _ (by rw [hkeys]; exact hnd)]
end
end MI
end TMS26
section TMS27
open PySem PySem.Spec PySem.Calls PyProof.Rows PySem.W
set_option linter.unusedVariables false
namespace MI

theorem mapSeq_set_plain (its : List Value) (n j : Nat) (x : Value) : ∃ m, Obj.mapSeq (·.setIfInBounds j x) (lstO its n) = lstO (its.set j x) m := by
  simp [Obj.mapSeq, lstO]
section
variable {prog : Program} {w : World} {A : Around} {E : Value → Shared → Prop} {s : Shared}
theorem setItem_plain {l : Addr} {items : List Value} {n : Nat} {k : Int} {t : Tok} {v : Value} {Q : Unit → Shared → Prop} (ho : s.heap.get? l = some (lstO items n))
    (h0 : 0 ≤ k) (hfit : k < 2 ^ 63) (hn : k < items.length)
    (hQ' : Q () { s with heap := s.heap.update l (Obj.mapSeq (·.setIfInBounds k.toNat v)) }) :
    wpAny (model prog w) A (setItem (.ref l) (.int k t) v) Q E s := by
  have hT : s.TypeIs (.ref l) "list" := ⟨_, ho, rfl⟩
  unfold setItem
  try with_reducible refine wpAny_holding ?_
  first | refine wpAny_bind (wpAny_pure ?_) | skip
  refine wpAny_bind (wpAny_sequenceKey hT (by decide) ?_)
  refine wpAny_bind (wpAny_callSpecial?_slot (name := Str.ofString "__setitem__") hT slot_list_setitem
    (wpAny_call_entry slot_list_setitem hT entry_list_setitem ?_ (args_list_setitem _ _ _)))
  show wpAny _ _ (Builtin.List.listSubscript? (.int k t) >>= _) _ _ s
  refine wpAny_bind (wpAny_listSubscript_int (fitsIndex_of h0 hfit) ?_)
  clear hfit
  refine k11 (Int.eq_ofNat_of_zero_le h0) fun j q1 => ?_; subst q1
  have hj : j < items.toArray.size := by simp; omega
  have hx' : items.toArray[j]? = some items.toArray[j] := Array.getElem?_eq_getElem hj
  show wpAny _ _ ((seqItemAt l j >>= fun r => pure (r.map (j, ·))) >>= _) _ _ s
  refine wpAny_bind (wpAny_bind (wpAny_seqItemAt ho rfl (wpAny_pure ?_)))
  rw [hx']
  show wpAny _ _ (setSeqItemAt l j v >>= _) _ _ s
  refine wpAny_bind (wpAny_setSeqItemAt ho rfl ?_)
  first
    | exact wpAny_bind (wpAny_pure (wpAny_pure ⟨.none, rfl, wpAny_pure hQ'⟩))
    | exact wpAny_pure ⟨.none, rfl, wpAny_pure hQ'⟩
end
end MI
end TMS27
section TMS28
open PySem PySem.Spec PySem.Calls PyProof.Rows PySem.W
set_option linter.unusedVariables false
namespace MI

section
variable {c : Cx} {A : Around} {E' : Value → Shared → Prop} {s : Shared} {sc sc' : Scope} {env : Env} {r r' : Rh} {h h' : Heap} {σ σ' σ₁ : H} {v : V} {vars vars' : Vars} {ev : Ev} {cf : Cf} {fl : Fl} {n : Nat}

theorem OutX.next {Q : Flow → Shared → Prop} (O : OutX c sc env r s σ' .next vars' Q) {r' : Rh} {h' : Heap} {tk : Nat} (R : c.R r' σ' h') (S : StepX (FrX sc env) r s.heap r' h') (vo : VarsOk c sc env r' h' vars') : Q .next { s with heap := h', toks := tk } := O .next r' h' tk R S vo rfl

theorem seq2g (ih : EvOk c A ev) {a b : Expr} {a' b' : E} (ta : Tr c.t sc a a') (tb : Tr c.t sc b b') (eo : EnvOk c sc env r.pv) (vo : VarsOk c sc env r s.heap vars) (R : c.R r σ s.heap) {x y : V} {σ₁ σ₂ : H}
    (e1 : ev a' vars σ = some (x, σ₁)) (e2 : ev b' vars σ₁ = some (y, σ₂)) {P : Value → Value → Shared → Prop} (f : ∀ ua ub r' h' tk, c.R r' σ₂ h' → Step r s.heap r' h' → c.V r' h' x ua → c.V r' h' y ub → P ua ub { s with heap := h', toks := tk }) :
    wpAny c.M A (eval a env) (fun ua s₁ => wpAny c.M A (eval b env) (fun ub s₂ => P ua ub s₂) E' s₁) E' s := by
  refine ih ta eo vo R e1 fun ua r₁ h₁ tk₁ R₁ S₁ xa => ?_
  refine ih tb (eo.step S₁) (vo.step eo R S₁) R₁ e2 fun ub r₂ h₂ tk₂ R₂ S₂ xb => ?_
  exact f ua ub r₂ h₂ tk₂ R₂ (S₁.trans S₂) (xa.step S₂) xb

theorem setAttr_exec (hOk : c.Ok) {n : Nat} (ih : EvOk c A (MI.ev c.Γ cf n)) {o val : AE} {x : Str} {q p : Pos} {i : Nat} (hc : isComp val.un = false) (to : o.ok c.t sc = true) (hi : c.t.id x = some i) (tv : val.ok c.t sc = true) (eo : EnvOk c sc env r.pv) (vo : VarsOk c sc env r s.heap vars) (R : c.R r σ s.heap)
    {σ₂ : H} {C : Addr} {fs : List (Nat × V)} {j : Nat} (e1 : MI.ev c.Γ cf n val.er vars σ = some (v, σ₁)) (e2 : MI.ev c.Γ cf n o.er vars σ₁ = some (.ref j, σ₂)) (hj : σ₂[j]? = some (.inst C fs)) (hf : hasFld c.Γ C i = true) (hl : fs.length ≤ 100) {Q : Flow → Shared → Prop}
    (O : OutX c sc env r s (σ₂.set j (.inst C (put i v fs))) .next vars Q) : wpAny c.M A (exec (.Assign [.Attribute o.un x q] val.un p) env) Q E' s := by
  refine plainObj_wpAny_Assign_Attribute (seq2g ih (.mk tv) (.mk to) eo vo R e1 e2 fun uv uo r' h' tk R' S' xv xo => ?_) (swaps_un hc _ p.line env)
  refine setAttr_sound (s := { s with heap := h', toks := tk }) hOk.cls R' hj xo xv (Tx.id_get hi) (fun i' hi' => hOk.uniq i' i x hi' (Tx.id_get hi)) hf hl fun h'' tk' R'' S'' => ?_
  exact O.next R'' (S'.trans S'').x ((vo.step eo R S').step (eo.step S') R' S'')

theorem setSub_exec {n : Nat} (ih : EvOk c A (MI.ev c.Γ cf n)) {o i val : AE} {q p : Pos} (to : o.ok c.t sc = true) (ti : i.ok c.t sc = true) (tv : val.ok c.t sc = true) (eo : EnvOk c sc env r.pv) (vo : VarsOk c sc env r s.heap vars) (R : c.R r σ s.heap)
    {σ₂ σ₃ σ₄ : H} {xs : List V} {j qn : Nat} {k : Int} {w : V} (e1 : MI.ev c.Γ cf n val.er vars σ = some (v, σ₁)) (e2 : MI.ev c.Γ cf n o.er vars σ₁ = some (.ref j, σ₂)) (e3 : MI.ev c.Γ cf n i.er vars σ₂ = some (.int k, σ₃)) (hj : σ₃[j]? = some (.list xs)) (h0 : ¬ k < 0) (hk : idx xs.length k = some qn) (hs : setL σ₃ j (xs.set qn v) .none = some (w, σ₄)) {Q : Flow → Shared → Prop}
    (O : OutX c sc env r s σ₄ .next vars Q) : wpAny c.M A (exec (.Assign [.Subscript o.un i.un q] val.un p) env) Q E' s := by
  refine wpAny_Assign_Subscript (seq2g ih (.mk tv) (.mk to) eo vo R e1 e2 fun uv uo r' h' tk R' S' xv xo => ?_) (swaps_sub val o.un i.un q p.line env)
  refine ih (.mk ti) (eo.step S') (vo.step eo R S') R' e3 fun ui r₃ h₃ tk₃ R₃ S₃ xi => ?_
  refine k11 (xi.int_inv) fun t q1 => ?_; subst q1
  have S13 := S'.trans S₃
  refine k35 (R₃.listAt hj (xo.step S₃)) fun a items m q2 hp hg hxs hz => ?_; subst q2
  refine k02 (idx_inv hk) fun hf hq => ?_
  have hb := fit_bounds hf
  rcases seqIndex_inv hq with ⟨h1, h2, rfl⟩ | ⟨h1, _⟩
  · refine k11 (mapSeq_set_plain items m k.toNat uv) fun m' em => ?_
    · refine setItem_plain (s := { s with heap := h₃, toks := tk₃ }) hg h1 hb.2 (by rw [hxs.length]; exact h2) ?_
      unfold setL at hs
      split at hs
      · (refine sp hs fun q3 q4 => ?_; subst q3; subst q4; clear hs)
        have hg' : (h₃.update a (Obj.mapSeq (·.setIfInBounds k.toNat uv))).get? a = some (lstO (items.set k.toNat uv) m') := by rw [Heap.get?_update_self _ hg (by rw [em]; rfl), em]
        obtain ⟨R₄, S₄⟩ := R₃.upd (h' := h₃.update a (Obj.mapSeq (·.setIfInBounds k.toNat uv))) (o := .list (xs.set k.toNat v)) hp (fun b ob eb n1 _ => by
          rw [Heap.get?_update_other _ _ (Ne.symm n1)]; exact eb) (fun b ob eb => by
          by_cases z : b = a
          · subst z; exact ⟨_, hg'⟩
          · exact ⟨ob, by rw [Heap.get?_update_other _ _ (Ne.symm z)]; exact eb⟩) fun M => .list _ _ m' a hg' ((hxs.set (xv.step S₃)).mv M) (by simpa using hz)
        exact O.next R₄ (S13.trans S₄).x ((vo.step eo R S13).step (eo.step S13) R₃ S₄)
      · exact ns hs
  · exact (h0 h1).elim
end
end MI
end TMS28
section TMS29
open PySem PySem.Spec PySem.Calls PyProof.Rows PySem.W
set_option linter.unusedVariables false
namespace MI

/-- a runner of statement lists tells what the model does -/
noncomputable def ExsOk (c : Cx) (A : Around) (f : List S → Vars → H → Option (Fl × Vars × H)) : Prop :=
  ∀ {sc : Scope} {ss : List Stmt} {us : List S} {env : Env} {r : Rh} {σ σ' : H} {s : Shared} {vars vars' : Vars} {fl : Fl}, TrSs c.t sc ss us → EnvOk c sc env r.pv → VarsOk c sc env r s.heap vars → c.R r σ s.heap → f us vars σ = some (fl, vars', σ') →
    ∀ {Q : Flow → Shared → Prop} {E' : Value → Shared → Prop}, OutX c sc env r s σ' fl vars' Q → wpAny c.M A (execs ss env) Q E' s

section
variable {c : Cx} {A : Around} {E' : Value → Shared → Prop} {s : Shared} {sc sc' : Scope} {env : Env} {r r' : Rh} {h h' : Heap} {σ σ' σ₁ : H} {v : V} {vars vars' : Vars} {ev : Ev} {cf : Cf} {fl : Fl} {n : Nat}

theorem fl_i {β : Type} {f : Fl → Vars → H → Option β} {o : Option (Fl × Vars × H)} {y : β} (e : (match o with
    | some (fl, vars, σ') => f fl vars σ'
    | .none => .none) = some y) : ∃ fl vars σ', o = some (fl, vars, σ') ∧ f fl vars σ' = some y := by
  cases o with
  | none => exact ns e
  | some x => exact ⟨x.1, x.2.1, x.2.2, rfl, e⟩
noncomputable def WhileP (c : Cx) (sc : Scope) (env : Env) (r : Rh) (s : Shared) (q : Vars → H → Option (Bool × H)) (b : Vars → H → Option (Fl × Vars × H)) (res : Fl × Vars × H) (n : Nat) (s' : Shared) : Prop := ∃ r₁ vars₁ σ₁ h₁ tk₁, s' = { s with heap := h₁, toks := tk₁ } ∧ c.R r₁ σ₁ h₁ ∧ StepX (FrX sc env) r s.heap r₁ h₁ ∧ VarsOk c sc env r₁ h₁ vars₁ ∧ loopW q b n vars₁ σ₁ = some res
theorem while_sound (hOk : c.Ok) (hu : A.units + 100 < cLine) (ih : ∀ m, EvOk c A (MI.ev c.Γ cf m)) {fe : Nat} {body' : List S} {run : List S → Vars → H → Option (Fl × Vars × H)} (ihb : ExsOk c A run) {test : Expr} {body : List Stmt} {p : Pos} {test' : E} (tq : Tr c.t sc test test') (tb : TrSs c.t sc body body')
    (eo : EnvOk c sc env r.pv) (vo : VarsOk c sc env r s.heap vars) (R : c.R r σ s.heap) {fuel : Nat} (e : loopW (fun vars σ => evB (MI.ev c.Γ cf fe) test' vars σ) (fun vars σ => run body' vars σ) fuel vars σ = some (fl, vars', σ')) {Q : Flow → Shared → Prop} (O : OutX c sc env r s σ' fl vars' Q) :
    wpAny c.M A (exec (.While test body [] p) env) Q E' s := by
  refine wpAny_While ?_
  refine codeAny_whileLoop (WhileP c sc env r s (fun vars σ => evB (MI.ev c.Γ cf fe) test' vars σ) (fun vars σ => run body' vars σ) (fl, vars', σ')) ?_ fuel ⟨r, vars, σ, s.heap, s.toks, rfl, R, .refl, vo, e⟩
  rintro n s' ⟨r₁, vars₁, σ₁, h₁, tk₁, rfl, R₁, S₁, vo₁, e⟩
  cases n with
  | zero => cases e
  | succ n =>
    have eo₁ := eo.stepX S₁
    refine k22 (bb_i (o := evB (MI.ev c.Γ cf fe) test' vars₁ σ₁) (f := fun x σ' => match x with
      | false => some (.next, vars₁, σ')
      | true => match run body' vars₁ σ' with
        | some (fl, vars', σ'') => match fl with
          | .next => loopW (fun vars σ => evB (MI.ev c.Γ cf fe) test' vars σ) (fun vars σ => run body' vars σ) n vars' σ''
          | .brk => some (.next, vars', σ'')
          | .ret v => some (.ret v, vars', σ'')
        | .none => .none) e) fun x σ₂ e1 e => ?_
    refine evB_sound (s := { s with heap := h₁, toks := tk₁ }) hOk.tab hu (fun k _ => @ih k) (@ih fe) _ tq eo₁ vo₁ R₁ e1 fun r₂ h₂ tk₂ R₂ S₂ => ?_
    cases x with
    | false =>
      cases e
      refine (if_neg Bool.false_ne_true).mpr (wpAny_execs_nil ?_)
      exact O .next r₂ h₂ tk₂ R₂ (S₁.trans S₂.x) (vo₁.step eo₁ R₁ S₂) rfl
    | true =>
      refine k32 (fl_i (o := run body' vars₁ σ₂) (f := fun fl vars' σ'' => match fl with
          | .next => loopW (fun vars σ => evB (MI.ev c.Γ cf fe) test' vars σ) (fun vars σ => run body' vars σ) n vars' σ''
          | .brk => some (.next, vars', σ'')
          | .ret v => some (.ret v, vars', σ'')) e) fun fl₁ vars₃ σ₃ e2 e => ?_
      refine (if_pos rfl).mpr ?_
      have S12 := S₁.trans S₂.x
      have eo₂ := eo₁.step S₂
      refine ihb (s := { s with heap := h₂, toks := tk₂ }) tb eo₂ (vo₁.step eo₁ R₁ S₂) R₂ e2 fun f r₃ h₃ tk₃ R₃ S₃ vo₃ hf => ?_
      cases fl₁ with
      | next =>
        cases hf
        exact ⟨n, Nat.lt_succ_self n, r₃, vars₃, σ₃, h₃, tk₃, rfl, R₃, S12.trans S₃, vo₃, e⟩
      | brk =>
        cases e
        cases hf
        exact O .next r₃ h₃ tk₃ R₃ (S12.trans S₃) vo₃ rfl
      | ret w =>
        cases e
        obtain ⟨u, rfl, hu⟩ := hf
        exact O (.ret u) r₃ h₃ tk₃ R₃ (S12.trans S₃) vo₃ ⟨u, rfl, hu⟩

/-- a loop's turn -/
structure ForI (c : Cx) (A : Around) (sc : Scope) (env : Env) (L : List Addr) (I : Addr) (t : T) (r₀ : Rh) (h₀ : Heap) (r : Rh) (itr : Itr) (vars : Vars) (σ : H) (h : Heap) : Prop where
  R : c.R r σ h
  S : StepX (fun b => b ∈ L ∨ FrX sc env b) r₀ h₀ r h
  vo : VarsOk c sc env r h vars
  it : ItR c A r h itr I L
  ok : okT t itr = true

theorem ForI.exit {L : List Addr} {I : Addr} {t : T} {r₁ : Rh} {h₁ h₀ : Heap} {itr : Itr} (eo : EnvOk c sc env r₁.pv) (R₁ : c.R r₁ σ₁ h₁) (k₁ : ∀ b o, h₁.get? b = some o → h₀.get? b = some o) (nL : ∀ b ∈ L, h₁.get? b = .none) (J : ForI c A sc env L I t { r₁ with pv := r₁.pv ++ L } h₀ r itr vars σ h) (k : ∀ b o, b ∉ L → h.get? b = some o → h'.get? b = some o) :
    c.R { r with pv := r₁.pv } σ h' ∧ StepX (FrX sc env) r₁ h₁ { r with pv := r₁.pv } h' ∧ VarsOk c sc env { r with pv := r₁.pv } h' vars ∧ Mv r h { r with pv := r₁.pv } h' := by
  have pL : ∀ b ∈ r₁.pv, b ∉ L := fun b hb q => by
    refine k11 (R₁.pvl b hb) fun o e => ?_
    rw [nL b q] at e; exact ns e
  refine k02 (Rel.leave J.R J.S.pv pL fun b o e nb => k b o nb e) fun R' M => ?_
  have no : ∀ a, h₀.get? a = none → h₁.get? a = none := fun a ha => by
    cases q : h₁.get? a with
    | none => rfl
    | some o => have := k₁ a o q; rw [ha] at this; exact ns this
  refine ⟨R', ⟨?_, rfl, fun b o e hb hx => ?_, fun b o e => ?_⟩, J.vo.keepE (fun b hb o e => k b o (pL b (by
    rcases hb with rfl | ⟨x, hx⟩
    · exact eo.lpv
    · exact eo.cpv _ _ hx)) e) M, M⟩
  · refine k12 (J.S.ext) fun τ hτ hf => ?_
    exact ⟨τ, hτ, fun q hq => ⟨no _ (hf q hq).1, no _ (hf q hq).2⟩⟩
  · have nb : b ∉ L := fun q => by rw [nL b q] at e; exact ns e
    exact k b o nb (J.S.keep b o (k₁ b o e) hb fun q => q.elim nb hx)
  · have nb : b ∉ L := fun q => by rw [nL b q] at e; exact ns e
    refine k11 (J.S.live b o (k₁ b o e)) fun o' e' => ?_
    exact ⟨o', k b o' nb e'⟩

theorem FlR.mv (M : Mv r h r' h') {f : Flow} (x : FlR c r h fl f) : FlR c r' h' fl f := by
  cases fl with
  | next => exact x
  | brk => exact x
  | ret v => obtain ⟨u, rfl, hu⟩ := x; exact ⟨u, rfl, hu.mv M⟩

noncomputable def forBody (t : T) (run : Vars → H → Option (Fl × Vars × H)) : V → Vars → H → Option (Fl × Vars × H) := fun v vars σ => match bindT t v σ vars with
  | some vars => run vars σ
  | .none => .none
noncomputable def ForP (c : Cx) (A : Around) (sc : Scope) (env : Env) (L : List Addr) (I : Addr) (t : T) (r₀ : Rh) (h₀ : Heap) (s : Shared) (body : V → Vars → H → Option (Fl × Vars × H)) (res : Fl × Vars × H) (n : Nat) (s' : Shared) : Prop :=
  ∃ r₂ itr₂ vars₂ σ₂ h₃ tk₃, s' = { s with heap := h₃, toks := tk₃ } ∧ ForI c A sc env L I t r₀ h₀ r₂ itr₂ vars₂ σ₂ h₃ ∧ loopF (fun σ it => it.next σ) body n itr₂ vars₂ σ₂ = some res
noncomputable def ForTurn (Q : Flow → Shared → Prop) (P : Nat → Shared → Prop) (n : Nat) (f : Flow) (s₃ : Shared) : Prop := match f with
  | .next | .cont => ∃ m, m < n ∧ P m s₃
  | .brk => Q .next s₃
  | .ret v => Q (.ret v) s₃
theorem for_sound (hOk : c.Ok) (hh : A.handled = none) (ih : ∀ m, EvOk c A (MI.ev c.Γ cf m)) {fe : Nat} {body' : List S} {run : List S → Vars → H → Option (Fl × Vars × H)} (ihb : ExsOk c A run) {tg iter : Expr} {body : List Stmt} {p : Pos} {t : T} {it' : It} (tt : TrT c.t sc tg t) (tit : TrI c.t sc iter it') (tb : TrSs c.t sc body body')
    (eo : EnvOk c sc env r.pv) (vo : VarsOk c sc env r s.heap vars) (R : c.R r σ s.heap) {itr : Itr} (e1 : evIt (MI.ev c.Γ cf fe) it' vars σ = some (itr, σ₁)) (ok : okT t itr = true) {fuel : Nat}
    (e : loopF (fun σ it => it.next σ) (forBody t fun vars σ => run body' vars σ) fuel itr vars σ₁ = some (fl, vars', σ')) {Q : Flow → Shared → Prop} (O : OutX c sc env r s σ' fl vars' Q) :
    wpAny c.M A (exec (.For tg iter body [] p) env) Q E' s := by
  refine wpAny_For ?_ (folded_of tit)
  refine wpAny_mono (evIt_sound (Q := fun I s₂ => codeAny c.M A (.forLoop tg (.ref I) body [] env) (fun r s' => match r with | .ok f => Q f s' | .error e => cameBackBy c.M A env E' e s') s₂) hOk hh (@ih fe) tit eo vo R e1 ?_) (fun x s₁ h₁ => wpAny_mono h₁ (fun o s₂ h₂ => by obtain ⟨I, rfl, h₂⟩ := h₂; exact h₂) fun _ _ x => x) fun _ _ x => x
  intro r₁ h₁ h₂ tk I L R₁ S₁ k₁ nL lL it₁
  refine k02 (R₁.enter k₁ nL lL) fun RA MA => ?_
  have eo₁ : EnvOk c sc env r₁.pv := eo.step S₁
  have vo₁ := vo.step eo R S₁
  have notEnvL : ∀ b ∈ L, ¬ EnvAddr env b := fun b hb q => by
    have hp : b ∈ r₁.pv := by
      rcases q with rfl | ⟨x, hx⟩
      · exact eo₁.lpv
      · exact eo₁.cpv _ _ hx
    refine k11 (R₁.pvl b hp) fun o e => ?_
    rw [nL b hb] at e; exact ns e
  have eoA : EnvOk c sc env (r₁.pv ++ L) := eo₁.wider fun b hb => List.mem_append_left _ hb
  refine codeAny_forLoop_any (ForP c A sc env L I t { r₁ with pv := r₁.pv ++ L } h₂ s (forBody t fun vars σ => run body' vars σ) (fl, vars', σ')) ?_ fuel
    ⟨{ r₁ with pv := r₁.pv ++ L }, itr, vars, σ₁, h₂, tk, rfl, ⟨RA, .refl, vo₁.keepE (fun b _ o e => k₁ b o e) MA, it₁, ok⟩, e⟩
  rintro n s' ⟨r₂, itr₂, vars₂, σ₂, h₃, tk₃, rfl, J, e⟩
  cases n with
  | zero => exact ns e
  | succ n =>
    unfold loopF at e
    have hpv : r₂.pv = r₁.pv ++ L := J.S.pv
    have hL : ∀ b ∈ L, b ∈ r₂.pv := fun b hb => by rw [hpv]; exact List.mem_append_right _ hb
    split at e
    · exact ns e
    · rename_i hn
      cases e
      refine next_end (s := { s with heap := h₃, toks := tk₃ }) hh J.R J.it hn fun h₄ tk₄ k => wpAny_execs_nil ?_
      obtain ⟨R', S', vo', M⟩ := J.exit eo₁ R₁ k₁ nL k
      exact O .next _ h₄ tk₄ R' (S₁.x.trans S') vo' rfl
    · rename_i v itr' hn
      refine k32 (fl_i (o := forBody t (fun vars σ => run body' vars σ) v vars₂ σ₂) (f := fun fl vars' σ' => match fl with
        | .next => loopF (fun σ it => it.next σ) (forBody t fun vars σ => run body' vars σ) n itr' vars' σ'
        | .brk => some (.next, vars', σ')
        | .ret v => some (.ret v, vars', σ')) e) fun fl₁ vars₆ σ₆ hb e => ?_
      refine wpAny_mono (next_sound (s := { s with heap := h₃, toks := tk₃ }) J.R hL J.it hn tt J.ok (E' := _) (Q := fun u s₂ => wpAny c.M A (assign tg env u) (fun _ s₂ => wpAny c.M A (execs body env) (ForTurn Q (ForP c A sc env L I t { r₁ with pv := r₁.pv ++ L } h₂ s (forBody t fun vars σ => run body' vars σ) (fl, vars', σ')) (n + 1)) _ s₂) _ s₂) ?_) (fun o s₁ h₁ => by obtain ⟨u, rfl, h₁⟩ := h₁; exact h₁) fun _ _ x => x
      intro u h₄ tk₄ R₄ S₄ x₄ it₄
      unfold forBody at hb
      refine k12 (vars_i hb) fun vars₃ hbind hb => ?_
      have vo₄ : VarsOk c sc env r₂ h₄ vars₂ := J.vo.keepE (fun b hb o e => S₄.keep b o e (fun q => J.R.pvo b (by
        rw [hpv]
        refine List.mem_append_left _ ?_
        rcases hb with rfl | ⟨x, hx⟩
        · exact eo₁.lpv
        · exact eo₁.cpv _ _ hx) q) fun q => notEnvL b q hb) (S₄.mv hL)
      have eo₂ : EnvOk c sc env r₂.pv := hpv ▸ eoA
      refine assign_sound (s := { s with heap := h₄, toks := tk₄ }) hh t tt eo₂ vo₄ R₄ x₄ hbind fun r₅ h₅ tk₅ R₅ S₅ vo₅ => ?_
      have it₅ := it₄.keep (S₅.mv (FrX.pv eo₂)) fun b hb o e => S₅.keep b o e (R₄.pvo b (hL b hb)) fun q => notEnvL b hb q.toEnv
      have S05 : StepX (fun b => b ∈ L ∨ FrX sc env b) { r₁ with pv := r₁.pv ++ L } h₂ r₅ h₅ := (J.S.trans (S₄.mono fun b hb => .inl hb)).trans (S₅.mono fun b hb => .inr hb)
      have eo₅ : EnvOk c sc env r₅.pv := eo₂.stepX S₅
      refine ihb (s := { s with heap := h₅, toks := tk₅ }) tb eo₅ vo₅ R₅ hb fun f r₆ h₆ tk₆ R₆ S₆ vo₆ hf => ?_
      have it₆ := it₅.keep (S₆.mv (FrX.pv eo₅)) fun b hb o e => S₆.keep b o e (R₅.pvo b (S₅.pv ▸ hL b hb)) fun q => notEnvL b hb q.toEnv
      have J₆ : ForI c A sc env L I t { r₁ with pv := r₁.pv ++ L } h₂ r₆ itr' _ _ h₆ := ⟨R₆, S05.trans (S₆.mono fun b hb => .inr hb), vo₆, it₆, okT_next hn J.ok⟩
      cases fl₁ with
      | next => cases hf; exact ⟨n, Nat.lt_succ_self n, r₆, itr', _, _, h₆, tk₆, rfl, J₆, e⟩
      | brk =>
        cases hf
        cases e
        refine k04 (J₆.exit eo₁ R₁ k₁ nL (h' := h₆) fun b o _ e => e) fun R' S' vo' M => ?_
        exact O .next _ h₆ tk₆ R' (S₁.x.trans S') vo' rfl
      | ret w =>
        cases e
        refine k04 (J₆.exit eo₁ R₁ k₁ nL (h' := h₆) fun b o _ e => e) fun R' S' vo' M => ?_
        refine k12 hf fun u' q1 hu' => ?_; clear hf; subst q1
        exact O (.ret u') _ h₆ tk₆ R' (S₁.x.trans S') vo' ⟨u', rfl, hu'.mv M⟩
end
end MI
end TMS29
section TMS30
open PySem PySem.Spec PySem.Calls PyProof.Rows PySem.W
set_option linter.unusedVariables false
namespace MI

/-- a runner of one statement tells what the model does -/
noncomputable def ExOk (c : Cx) (A : Around) (f : S → Vars → H → Option (Fl × Vars × H)) : Prop :=
  ∀ {sc : Scope} {st : Stmt} {u : S} {env : Env} {r : Rh} {σ σ' : H} {s : Shared} {vars vars' : Vars} {fl : Fl}, TrS c.t sc st u → EnvOk c sc env r.pv → VarsOk c sc env r s.heap vars → c.R r σ s.heap → f u vars σ = some (fl, vars', σ') →
    ∀ {Q : Flow → Shared → Prop} {E' : Value → Shared → Prop}, OutX c sc env r s σ' fl vars' Q → wpAny c.M A (exec st env) Q E' s

section
variable {c : Cx} {A : Around} {cf : Cf} {fe n : Nat}

theorem exs_step (ih : ExOk c A (ex c.Γ cf fe n)) (ihs : ExsOk c A (exs c.Γ cf fe n)) : ExsOk c A (exs c.Γ cf fe (n + 1)) := by
  intro sc ss us env r σ σ' s vars vars' fl tr eo vo R e Q E' O
  refine k13 tr fun as q1 q2 h => ?_; clear tr; subst q1; subst q2
  cases as with
  | nil => cases e; exact wpAny_execs_nil (O .next r s.heap s.toks R .refl vo rfl)
  | cons a as =>
    refine k02 (and_i h) fun h1 h2 => ?_
    refine k32 (fl_i ((exs_cons c.Γ cf fe n vars σ a.er (erSs as)).symm.trans e)) fun fl₁ vars₁ σ₁ e1 e => ?_
    refine wpAny_execs_cons ?_
    refine ih ⟨a, rfl, rfl, h1⟩ eo vo R e1 fun f r₁ h₁ tk₁ R₁ S₁ vo₁ hf => ?_
    cases fl₁ with
    | next => cases hf; exact ihs (.mk h2) (eo.stepX S₁) vo₁ R₁ e (O.after S₁)
    | brk => cases e; cases hf; exact O .brk r₁ h₁ tk₁ R₁ S₁ vo₁ rfl
    | ret v => cases e; obtain ⟨u, rfl, hu⟩ := hf; exact O (.ret u) r₁ h₁ tk₁ R₁ S₁ vo₁ ⟨u, rfl, hu⟩

theorem ex_setSub (Γ : G) (o i e : E) (vars : Vars) (σ : H) : ex Γ cf fe (n + 1) (.setSub o i e) vars σ = (match ev Γ cf fe e vars σ with
      | some (v, σ) => match ev Γ cf fe o vars σ with
        | some (.ref j, σ) => match ev Γ cf fe i vars σ with
          | some (iv, σ) => setSubL σ j iv v vars
          | .none => .none
        | _ => .none
      | .none => .none) := rfl
theorem ex_whil (Γ : G) (t : E) (b : List S) (vars : Vars) (σ : H) : ex Γ cf fe (n + 1) (.whil t b) vars σ = loopW (fun vars σ => evB (ev Γ cf fe) t vars σ) (fun vars σ => exs Γ cf fe n b vars σ) loopFuel vars σ := rfl
theorem ex_forI (Γ : G) (t : T) (iter : It) (b : List S) (vars : Vars) (σ : H) : ex Γ cf fe (n + 1) (.for_ t iter b) vars σ = (match evIt (ev Γ cf fe) iter vars σ with
      | some (itr, σ) => if okT t itr then loopF (fun σ it => it.next σ) (forBody t fun vars σ => exs Γ cf fe n b vars σ) loopFuel itr vars σ else .none
      | .none => .none) := rfl
theorem ex_step (hOk : c.Ok) (hh : A.handled = none) (hu : A.units + 100 < cLine) (ih : ∀ m, EvOk c A (MI.ev c.Γ cf m)) (ihs : ExsOk c A (exs c.Γ cf fe n)) : ExOk c A (ex c.Γ cf fe (n + 1)) := by
  intro sc st u env r σ σ' s vars vars' fl tr eo vo R e Q E' O
  refine k13 tr fun a q3 q4 h => ?_; clear tr; subst q3; subst q4
  cases a with
  | setAttr o x i q v p =>
    refine k02 (and_i h) fun h1 h => ?_
    refine k02 (and_i h) fun h2 h => ?_
    refine k02 (and_i h) fun h3 h4 => ?_
    refine k22 (vh_i ((ex_setAttr c.Γ cf fe n vars σ o.er i v.er).symm.trans e)) fun w σ₁ e1 e => ?_
    refine k22 (vref_i e) fun j σ₂ e2 e => ?_
    refine k22 (inst_i e) fun C fs hj e => ?_
    refine k02 (if_some e) fun hf e => ?_
    cases e
    refine k02 (and_i hf) fun f1 f2 => ?_
    exact setAttr_exec hOk (@ih fe) (not_i h1) h2 (of_decide_eq_true h3) h4 eo vo R e1 e2 hj f1 (Nat.le_of_ble_eq_true f2) O
  | setSub o i q v p =>
    refine k02 (and_i h) fun h1 h => ?_
    refine k02 (and_i h) fun h2 h => ?_
    refine k02 (and_i h) fun h3 h4 => ?_
    refine k22 (vh_i ((ex_setSub c.Γ o.er i.er v.er vars σ).symm.trans e)) fun w σ₁ e1 e => ?_
    refine k22 (vref_i e) fun j σ₂ e2 e => ?_
    refine k22 (vh_i e) fun iv σ₃ e3 e => ?_
    cases iv with
    | int k =>
      refine k02 (if_i e) fun h0 e => ?_
      refine k12 (Option.bind_eq_some_iff.mp e) fun xs hx e => ?_
      refine k12 (Option.bind_eq_some_iff.mp e) fun qn hk e => ?_
      refine k12 (Option.map_eq_some_iff.mp e) fun p' hs e => ?_
      refine k12 (lstOf_i hx) fun j' hj' hj => ?_
      cases hj'
      cases e
      exact setSub_exec (@ih fe) h2 h3 h4 eo vo R e1 e2 e3 hj (Int.not_lt.mpr (of_decide_eq_true h0)) hk hs O
    | _ => exact ns e
  | unpack ts k q v p =>
    refine k02 (and_i h) fun h1 h => ?_
    refine k02 (and_i h) fun h2 h => ?_
    refine k02 (and_i h) fun h3 h4 => ?_
    refine k22 (vh_i ((ex_unpack c.Γ cf fe n vars σ (erTs ts) v.er).symm.trans e)) fun w σ₁ e1 e => ?_
    refine k12 (vars_i e) fun vars₁ eb e => ?_
    cases e
    exact unpack_sound hh (@ih fe) h1 (of_decide_eq_true h2) h3 h4 eo vo R e1 eb O
  | names xs v p =>
    refine k02 (and_i h) fun h1 h => ?_
    refine k02 (and_i h) fun h2 h3 => ?_
    refine k22 (vh_i ((ex_names c.Γ cf fe n vars σ (xs.map AN.er) v.er).symm.trans e)) fun w σ₁ e1 e => ?_
    cases e
    exact names_sound hOk hh hu ih (not_i h1) h2 h3 eo vo R e1 O
  | expr v p =>
    refine k02 (and_i h) fun h1 h2 => ?_
    refine k22 (vh_i ((ex_expr c.Γ cf fe n vars σ v.er).symm.trans e)) fun w σ₁ e1 e => ?_
    cases e
    refine wpAny_Expr_any (@ih fe _ _ _ _ _ _ _ _ _ _ (.mk h2) eo vo R e1 _ _ fun u r₁ h₁ tk₁ R₁ S₁ x₁ => O.next R₁ S₁.x (vo.step eo R S₁)) ?_ (swaps_un (not_i h1) _ _ env)
    unfold interactive
    rw [eo.kind]; rfl
  | ite q a b p =>
    refine k02 (and_i h) fun h0 h => ?_
    refine k02 (and_i h) fun h1 h2 => ?_
    refine k22 (bb_i ((ex_ite c.Γ cf fe n vars σ q.er (erSs a) (erSs b)).symm.trans e)) fun x σ₁ e1 e => ?_
    refine wpAny_If ?_
    refine evB_sound hOk.tab hu (fun k _ => @ih k) (@ih fe) _ (.mk h0) eo vo R e1 fun r₁ h₁ tk₁ R₁ S₁ => ?_
    cases x with
    | true => exact ihs (.mk h1) (eo.step S₁) (vo.step eo R S₁) R₁ e (O.after S₁.x)
    | false => exact ihs (.mk h2) (eo.step S₁) (vo.step eo R S₁) R₁ e (O.after S₁.x)
  | whil q b p =>
    refine k02 (and_i h) fun h0 h1 => ?_
    exact while_sound hOk hu ih (run := exs c.Γ cf fe n) ihs (.mk h0) (.mk h1) eo vo R ((ex_whil c.Γ q.er (erSs b) vars σ).symm.trans e) O
  | for_ tg it b p =>
    refine k02 (and_i h) fun h0 h => ?_
    refine k02 (and_i h) fun h1 h2 => ?_
    refine k22 (itr_i ((ex_forI c.Γ tg.er it.er (erSs b) vars σ).symm.trans e)) fun itr σ₁ e1 e => ?_
    refine k02 (if_i e) fun ok e => ?_
    exact for_sound hOk hh ih (run := exs c.Γ cf fe n) ihs (.mk h0) (.mk h1) (.mk h2) eo vo R e1 ok e O
  | ret v p =>
    cases v with
    | none => cases e; exact wpAny_Return_none (O (.ret .none) r s.heap s.toks R .refl vo ⟨_, rfl, .none⟩)
    | some v =>
      refine k22 (vh_i ((ex_ret c.Γ cf fe n vars σ v.er).symm.trans e)) fun w σ₁ e1 e => ?_
      cases e
      exact wpAny_Return_some (@ih fe _ _ _ _ _ _ _ _ _ _ (.mk h) eo vo R e1 _ _ fun u r₁ h₁ tk₁ R₁ S₁ x₁ => O (.ret u) r₁ h₁ tk₁ R₁ S₁.x (vo.step eo R S₁) ⟨u, rfl, x₁⟩)
  | brk p => cases e; exact wpAny_Break (O .brk r s.heap s.toks R .refl vo rfl)
  | pass p => cases e; exact wpAny_Pass (O .next r s.heap s.toks R .refl vo rfl)
  | bad st => exact ns e

theorem exs_sound (hOk : c.Ok) (hh : A.handled = none) (hu : A.units + 100 < cLine) (ih : ∀ m, EvOk c A (MI.ev c.Γ cf m)) : ∀ n, ExOk c A (ex c.Γ cf fe n) ∧ ExsOk c A (exs c.Γ cf fe n)
  | 0 => ⟨fun _ _ _ _ e => (by cases e), fun _ _ _ _ e => (by cases e)⟩
  | n + 1 => by
    refine k02 (exs_sound hOk hh hu ih n) fun h1 h2 => ?_
    exact ⟨ex_step hOk hh hu ih h2, exs_step h1 h2⟩
end
end MI
end TMS30
section TMS31
open PySem PySem.Spec PySem.Calls PyProof.Rows PySem.W
set_option linter.unusedVariables false
namespace MI

noncomputable def farE (e : E) : Bool := Nat.beq e.ctorIdx (E.ctorIdx (.listZip []))

section
variable {c : Cx} {A : Around} {n : Nat} {cf : Cf}

theorem ev_sound (hOk : c.Ok) (hA : FitsB A n) (HF : CfOk c n cf) (HB : BiOk c A) (HM : MeOk c A cf) (far : ∀ m, (∀ k, k ≤ m → EvOk c A (ev c.Γ cf k)) → NodeOk c A (m + 1) cf farE) : ∀ m, ∀ k, k ≤ m → EvOk c A (ev c.Γ cf k)
  | 0 => by
    intro k hk
    have : k = 0 := Nat.le_zero.mp hk
    subst this
    intro sc e u env r σ σ' s vars v tr eo vo R eq
    exact ns eq
  | m + 1 => by
    intro k hk
    have IH := ev_sound hOk hA HF HB HM far m
    rcases Nat.le_or_eq_of_le_succ hk with hkm | hkm
    · exact @IH k hkm
    · subst hkm
      have hh := hA.hd
      have hu : A.units + 100 < cLine := by have := hA.un; omega
      have far' : NodeOk c A (m + 1) cf farNode := by
        intro sc e u env r σ σ' s vars v hf tr eo vo R eq Q E' O
        refine k13 tr fun a q1 q2 h => ?_; clear tr; subst q1; subst q2
        cases a <;> first | (cases hf; done) | skip
        · exact far m IH rfl (.mk h) eo vo R eq O
        · rename_i elt tg it ifs sc' own p
          refine k02 (and_i h) fun hk h => ?_
          refine k02 (and_i h) fun hc h => ?_
          refine k02 (and_i h) fun h1 h => ?_
          refine k02 (and_i h) fun h2 h => ?_
          refine k02 (and_i h) fun h3 h => ?_
          refine k02 (and_i h) fun h4 h5 => ?_
          refine k54 (ev_comp_inv (elt := elt.er) (t := tg.er) (it := it.er) (ifs := erL ifs) (own := own) eq) fun itr σ₁ varsF acc σ₂ e1 ok e2 e3 => ?_
          exact comp_sound (target := tg.un) (iter := it.un) (ifs := unL ifs) (elt := elt.un) hOk hh hu (fun k hk => @IH k (Nat.le_of_lt hk)) (@IH m (Nat.le_refl _)) eo vo R (of_decide_eq_true hk) hc (.mk h1) (.mk h2) (.mk h3) (.mk h4) (of_decide_eq_true h5) e1 ok e2 e3 O
      exact @ev_step c A n cf hOk hA HF HB HM m IH far'
end

/-! functions -/
/-- what a function of the text is in K -/
structure FnFact (c : Cx) (f : Addr) (F : Fn) : Prop where
  fd : ∃ oc od sl name qual params body scope dV kV doc pm an cdv ct, c.K.lookup f = some ⟨oc, od, .func (fnOf name qual params body scope dV kV doc pm an cdv ct), sl⟩ ∧ codeIn c.K cdv qual = true ∧
    scope.isCoroutine = false ∧ scope.isGenerator = false ∧ scope.kind = .function ∧ (scope.names.all fun x => scope.names.lookup x.1 == some x.2) = true ∧ (scope.names.all fun x => x.2 != .free) = true ∧
    TrSs c.t scope body F.body ∧
    (∀ (as : List V) (ks : List (Nat × V)) (vars : Vars), bindFn c.Γ F as ks = some vars → ∀ {A : Around} {r : Rh} {σ : H} {s : Shared} {us : List Value} {kus : List (Str × Value)} {Q : List (Str × Value) → Shared → Prop} {E' : Value → Shared → Prop}, c.R r σ s.heap → VRs c.w.params r s.heap as us → KwR c r s.heap ks kus →
      (∀ binds h' tk, (∀ b o, s.heap.get? b = some o → h'.get? b = some o) → (∀ x u, (x, u) ∈ binds → scope.names.lookup x = some .local ∨ scope.names.lookup x = some .cell) → (∀ x i v, c.t.id x = some i → Vars.get i vars = some v → ∃ u, binds.reverse.lookup x = some u ∧ c.V r h' v u) → Q binds { s with heap := h', toks := tk }) →
      wpAny c.M A (bindArgs (fnOf name qual params body scope dV kV doc pm an cdv ct) ⟨us, kus⟩) Q E' s)
noncomputable def Cx.FnOk (c : Cx) : Prop := ∀ f F, c.Γ.fns.lookup f = some F → FnFact c f F

theorem fn_keep {c : Cx} {f : Addr} {F : Fn} (H : FnFact c f F) : keepIn c.K (.ref f) = true := by
  obtain ⟨oc, od, sl, name, qual, params, body, scope, dV, kV, doc, pm, an, cdv, ct, hl, _⟩ := H.fd
  have : keepIn c.K (.ref f) = (match c.K.lookup f with
      | some ⟨_, _, .func _, _⟩ => true
      | some ⟨_, _, .cls _, _⟩ => specialIn c.K (.ref f) "__call__" == some (some (.builtin "type.__call__"))
      | _ => false) := rfl
  rw [this, hl]
end MI
end TMS31
section TMS32
open PySem PySem.Spec PySem.Calls PyProof.Rows PySem.W
set_option linter.unusedVariables false
namespace MI

theorem bindL_get {K : Str → Option NameKind} {x : Str} : ∀ (binds : List (Str × Value)) (m : Str → Option Value), K x = some .local → bindL K binds m x = (match binds.reverse.lookup x with | some u => some u | none => m x)
  | [], m, _ => rfl
  | (n, v) :: r, m, hx => by
    have ih := fun m => bindL_get (K := K) (x := x) r m hx
    show bindL K r (if K n = some .local then fun y => if y = n then some v else m y else m) x = _
    rw [ih, List.reverse_cons, lookup_app]
    cases q : r.reverse.lookup x with
    | some u => rfl
    | none =>
      dsimp only
      rw [List.lookup_cons]
      by_cases hxn : x = n
      · subst hxn
        simp [hx]
      · have : (x == n) = false := by simpa using hxn
        rw [this]
        by_cases hn : K n = some .local
        · simp [hn, hxn]
        · simp [hn]
theorem bindC_get {K : Str → Option NameKind} {x : Str} : ∀ (binds : List (Str × Value)) (m : Str → Option Value), K x ≠ some .local → bindC K binds m x = (match binds.reverse.lookup x with | some u => some u | none => m x)
  | [], m, _ => rfl
  | (n, v) :: r, m, hx => by
    have ih := fun m => bindC_get (K := K) (x := x) r m hx
    show bindC K r (if K n = some .local then m else fun y => if y = n then some v else m y) x = _
    rw [ih, List.reverse_cons, lookup_app]
    cases q : r.reverse.lookup x with
    | some u => rfl
    | none =>
      dsimp only
      rw [List.lookup_cons]
      by_cases hxn : x = n
      · subst hxn
        simp [hx]
      · have : (x == n) = false := by simpa using hxn
        rw [this]
        by_cases hn : K n = some .local
        · simp [hn]
        · simp [hn, hxn]

/-- room for what the builtins want -/
structure Cx.HasRoom (c : Cx) (A : Around) : Prop where
  hd : A.handled = .none
  un : A.units + 400 < cLine
  dp : A.depth + 5 < recursionLimit
section
variable {c : Cx} {A : Around} {n : Nat} {cf : Cf} {r : Rh} {σ σ' : H} {s : Shared} {v : V}

theorem call_sound (hOk : c.Ok) (hA : FitsN A (n + 1)) (hx : ∀ env, ExsOk c (A.deeper env) (exs c.Γ cf fe fs)) {f : Addr} {F : Fn} (H : FnFact c f F) {as : List V} {ks : List (Nat × V)} {us : List Value} {kus : List (Str × Value)} (R : c.R r σ s.heap) (x : VRs c.w.params r s.heap as us) (y : KwR c r s.heap ks kus)
    (e : runBody c.Γ cf fe fs F as ks σ = some (v, σ')) {Rr : Result → Shared → Prop} (O : Out c r s σ' v (fun u s' => Rr (.ok (.ret u)) s')) : codeAny c.M A (.call (.ref f) ⟨us, kus⟩) Rr s := by
  obtain ⟨oc, od, sl, name, qual, params, body, scope, dV, kV, doc, pm, an, cdv, ct, hl, hcd, hco, hgen, hk, hnames, hfree, tb, bind⟩ := H.fd
  have X := c.X.keeps R.base
  unfold runBody at e
  obtain ⟨vars, hb, e⟩ := vars_i e
  · refine codeAny_call_function (by have := hA.dp; omega) (X _ _ hl) rfl hco hgen rfl (codeRec_of X hcd) ?_
    refine bind as ks vars hb R x y fun binds h₁ tk₁ k₁ hbk hbv => ?_
    have R₁ := R.grow k₁
    have hnm : ∀ {x : Str} {k : NameKind}, (x, k) ∈ scope.names → scope.names.lookup x = some k := fun hm => by simpa using List.all_eq_true.mp hnames _ hm
    have cellLk : ∀ (L : Nat) (x : Str), scope.names.lookup x = some .cell → ((cellsFrom (L + 1) scope.names []).lookup x).isSome = true := fun L x hx => by
      obtain ⟨a, ha⟩ := cellsFrom_some scope.names (L + 1) (mem_of_lookup hx)
      exact lookup_of_mem ha
    refine wpAny_newFunctionEnv_cells (s := { s with heap := h₁, toks := tk₁ }) hk (fun z hz => ?_) fun env he s₂ IC => ?_
    · rcases hbk z.1 z.2 hz with q | q
      · exact .inl q
      · exact .inr ⟨q, cellLk _ _ q⟩
    have hkind : ∀ x, env.kindOf x = scope.names.lookup x := fun x => by rw [he]; rfl
    have hloc : env.locals = h₁.objs.size := by rw [he]; rfl
    have hcells : env.cells = cellsFrom (h₁.objs.size + 1) scope.names [] := by rw [he]; rfl
    obtain ⟨h₂, tk₂, rfl, k₂⟩ := IC.done
    have nsL := IC.toInCall.ns
    have L1 : h₁.get? h₁.objs.size = .none := size_none h₁ (Nat.le_refl _)
    have cm := fun {x : Str} {a : Addr} (h : env.cells.lookup x = some a) => mem_of_lookup h
    let N : List Addr := env.locals :: env.cells.filterMap fun p => env.cells.lookup p.1
    have memN : ∀ b ∈ N, b = env.locals ∨ ∃ x, env.cells.lookup x = some b := fun b hb => by
      rcases List.mem_cons.mp hb with q | q
      · exact .inl q
      · obtain ⟨⟨x, a⟩, hx, e⟩ := List.mem_filterMap.mp q
        exact .inr ⟨x, e⟩
    have inN : ∀ {x : Str} {a : Addr}, env.cells.lookup x = some a → a ∈ N := fun {x a} h => .tail _ (List.mem_filterMap.mpr ⟨(x, a), cm h, h⟩)
    have geN : ∀ b ∈ N, h₁.objs.size ≤ b := fun b hb => by
      rcases memN b hb with rfl | ⟨x, hx⟩
      · rw [hloc]; exact Nat.le_refl _
      · have := IC.above x b (cm hx)
        rw [hloc] at this; exact Nat.le_of_lt this
    have newN : ∀ b ∈ N, h₁.get? b = .none := fun b hb => size_none h₁ (geN b hb)
    have liveN : ∀ b ∈ N, ∃ o, h₂.get? b = some o := fun b hb => by
      rcases memN b hb with rfl | ⟨x, hx⟩
      · obtain ⟨o, es, ep, e, _⟩ := nsL; exact ⟨o, e⟩
      · obtain ⟨o, e, _⟩ := IC.cell x b hx; exact ⟨o, e⟩
    obtain ⟨R₂, M₂⟩ := R₁.enter (L := N) k₂ newN liveN
    have nofree : ∀ x, scope.names.lookup x ≠ some .free := fun x hx => by
      have := List.all_eq_true.mp hfree _ (mem_of_lookup hx)
      simp at this
    have eo : EnvOk c scope env (r.pv ++ N) :=
      { kind := by rw [he]; exact hk
        glob := by rw [he]; rfl
        bi := by rw [he]; rfl
        lpv := List.mem_append_right _ (.head _)
        cpv := fun x a h => List.mem_append_right _ (inN h)
        loc := fun x h => by rw [hkind, h]
        cel := fun x h => ⟨by rw [hkind, h], by rw [hcells]; exact cellLk _ _ h⟩
        fre := fun x h => (nofree x h).elim
        glb := fun x h => by
          rw [hkind]
          exact isVar_false h
        inj := fun x y a h1 h2 => name_of_addr IC.apart (cm h1) (cm h2)
        apl := fun x a h => Ne.symm (Nat.ne_of_lt (IC.above x a (cm h))) }
    have vo : VarsOk c scope env { r with pv := r.pv ++ N } h₂ vars := by
      refine ⟨⟨_, nsL⟩, fun x a h => ⟨_, IC.cell x a h⟩, fun x i v e1 e2 e3 => ?_⟩
      obtain ⟨u, hu, hr⟩ := hbv x i v e1 e3
      refine ⟨u, ?_, hr.mv M₂⟩
      rcases isVar_true e2 with q | q | q
      · refine .inl ⟨by rw [hkind, q], _, nsL, ?_⟩
        rw [bindL_get _ _ (by rw [hkind, q]), hu]
      · obtain ⟨a, ha⟩ := Option.isSome_iff_exists.mp (cellLk h₁.objs.size x q)
        rw [← hcells] at ha
        refine .inr ⟨.inl (by rw [hkind, q]), a, ha, ?_⟩
        have := IC.cell x a ha
        rw [bindC_get _ _ (by rw [hkind, q]; decide), hu] at this
        exact this
      · exact (nofree x q).elim
    refine ⟨(Cx.T c).nolimit.keeps fun b o e => k₂ b o (k₁ b o (R.base b o e)), codeAny_func ?_⟩
    have fin : ∀ {fl : Fl} {vars' : Vars}, exs c.Γ cf fe fs F.body vars σ = some (fl, vars', σ') → (∀ (f : Flow) (r' : Rh) (h' : Heap), FlR c r' h' fl f → c.V r' h' v (match f with | .ret v => v | _ => .none)) →
        wpAny c.M (A.deeper env) (execs body env) (fun f s' => Rr (.ok (.ret (match f with | .ret v => v | _ => .none))) s') (fun e s' => wpAny c.M (A.deeper env) (leaving env e) (fun _ s'' => Rr (.error e) s'') (fun e' s'' => Rr (.error e') s'') s') { s with heap := h₂, toks := tk₂ } := fun he hv => by
      refine hx env (s := { s with heap := h₂, toks := tk₂ }) tb eo vo R₂ he fun f r₃ h₃ tk₃ R₃ S₃ vo₃ hf => ?_
      have pN : ∀ b ∈ r.pv, b ∉ N := fun b hb q => by
        obtain ⟨o, e⟩ := R₁.pvl b hb
        rw [newN b q] at e; cases e
      obtain ⟨R₄, M₄⟩ := Rel.leave R₃ S₃.pv pN (h' := h₃) fun b o e _ => e
      have kk : ∀ b o, s.heap.get? b = some o → h₂.get? b = some o := fun b o e => k₂ b o (k₁ b o e)
      have newS : ∀ b ∈ N, s.heap.get? b = .none := fun b hb => by
        cases q : s.heap.get? b with
        | none => rfl
        | some o => have := newN b hb; rw [k₁ b o q] at this; cases this
      have FN : ∀ b, FrX scope env b → b ∈ N := fun b hb => by
        rcases hb with rfl | ⟨x, _, hx⟩
        · exact .head _
        · exact inN hx
      have S₄ : Step r s.heap { r₃ with pv := r.pv } h₃ := StepX.exit (L := N) kk newS S₃ FN
      exact O _ { r₃ with pv := r.pv } h₃ tk₃ R₄ S₄ ((hv f r₃ h₃ hf).mv M₄)
    obtain ⟨fl, vars', σ₁, he', e⟩ := fl_i e
    cases fl with
    | ret w =>
      cases e
      refine fin he' fun f r' h' hf => ?_
      obtain ⟨u, rfl, hu⟩ := hf
      exact hu
    | next =>
      cases e
      refine fin he' fun f r' h' hf => ?_
      cases hf
      exact .none
    | brk => cases e

end
end MI
end TMS32
section TMS33
open PySem PySem.Spec PySem.Calls PyProof.Rows PySem.W
set_option linter.unusedVariables false
namespace MI

section
variable {c : Cx} {A : Around} {E' : Value → Shared → Prop} {s : Shared} {r : Rh} {σ σ' : H} {v : V} {Q : Value → Shared → Prop} {u : Value}

theorem bi_len_list (R : c.R r σ s.heap) {i : Nat} {xs : List V} (hi : σ[i]? = some (.list xs)) (x : c.V r s.heap (.ref i) u) (O : Out c r s σ (.int (xs.length : Int)) Q) : wpAny c.M A (call (.builtin "len") [u]) Q E' s := by
  refine k35 (R.listAt hi x) fun a items n q1 hp hg hxs hl => ?_; subst q1
  refine call_len_list (isList_of hg) (by simp only [List.size_toArray]; omega) ?_
  simp only [List.size_toArray, hxs.length]
  exact O.same R (.int _ _) _
theorem bi_len_str (R : c.R r σ s.heap) {x' : Txt} (hz : szOk x'.length = true) (x : c.V r s.heap (.str x') u) (O : Out c r s σ (.int (x'.length : Int)) Q) : wpAny c.M A (call (.builtin "len") [u]) Q E' s := by
  refine k11 (x.str_inv) fun t q2 => ?_; subst q2
  have := szOk_le hz
  refine len_str (by rw [stO_length]; omega) ?_
  rw [stO_length]
  exact O.same R (.int _ _) _
theorem bi_len_tup (R : c.R r σ s.heap) {xs : List V} (x : c.V r s.heap (.tup xs) u) (O : Out c r s σ (.int (xs.length : Int)) Q) : wpAny c.M A (call (.builtin "len") [u]) Q E' s := by
  refine k35 (x.tup_inv) fun items n a q3 hg hm hxs hl => ?_; subst q3
  refine call_function_entry kind_len plain_len entry_len (args_len1 _) ?_
  refine wpAny_mono (len_entry_tuple (Q := Q) (isTup_of hg) (by simp only [List.size_toArray]; omega) ?_) (fun fin s' h => h) fun _ _ x => x
  simp only [List.size_toArray, hxs.length]
  exact O.same R (.int _ _) _

/-- a new object of the model's own, frozen -/
theorem frozen_new (R : c.R r σ s.heap) (o : Obj) (hf : o.isFreed = false) : c.R r σ (s.heap.push o) ∧ Step r s.heap r (s.heap.push o) ∧ (s.heap.push o).get? s.heap.objs.size = some o ∧ ¬ r.mut s.heap.objs.size := by
  have k : ∀ b ob, s.heap.get? b = some ob → (s.heap.push o).get? b = some ob := fun b ob e => Heap.get?_push_of_some _ e
  refine ⟨R.grow k, Step.grow k, Heap.get?_push_size _ hf, fun hm => ?_⟩
  refine k11 (R.mutLive hm) fun ob ho => ?_
  rw [size_none s.heap (Nat.le_refl _)] at ho; exact ns ho

theorem bi_range1 (R : c.R r σ s.heap) {b : Int} (x : c.V r s.heap (.int b) u) (O : Out c r s σ (.rng 0 b) Q) : wpAny c.M A (call (.type "range") [u]) Q E' s := by
  refine k11 (x.int_inv) fun t q4 => ?_; subst q4
  refine call_range_1 ?_
  refine k04 (frozen_new R (rngO 0 b s.toks t (s.toks + 1)) rfl) fun R' S' g m => ?_
  exact O _ r _ _ R' S' (.rng 0 b _ _ _ _ g m)
theorem bi_range2 (R : c.R r σ s.heap) {a b : Int} {u' : Value} (x : c.V r s.heap (.int a) u) (y : c.V r s.heap (.int b) u') (O : Out c r s σ (.rng a b) Q) : wpAny c.M A (call (.type "range") [u, u']) Q E' s := by
  refine k11 (x.int_inv) fun t q5 => ?_; subst q5
  refine k11 (y.int_inv) fun t' q6 => ?_; subst q6
  refine call_range_2 ?_
  refine k04 (frozen_new R (rngO a b t t' s.toks) rfl) fun R' S' g m => ?_
  exact O _ r _ _ R' S' (.rng a b _ _ _ _ g m)

theorem bi_tuple (R : c.R r σ s.heap) {i : Nat} {xs : List V} (hi : σ[i]? = some (.list xs)) (x : c.V r s.heap (.ref i) u) (O : Out c r s σ (.tup xs) Q) : wpAny c.M A (call (.type "tuple") [u]) Q E' s := by
  refine k35 (R.listAt hi x) fun a items n q7 hp hg hxs hl => ?_; subst q7
  refine call_tuple_list (isList_of hg) (fun h' k => ?_) (by simp only [List.size_toArray]; have := sizeLine_ge; omega)
  have R₁ := R.grow k
  have S₁ := Step.grow (r := r) k
  refine k04 (frozen_new (s := { s with heap := h' }) R₁ (tupO items 0) rfl) fun R' S' g m => ?_
  exact O _ r _ s.toks R' (S₁.trans S') (.tup xs items 0 _ g m ((hxs.step S₁).step S') hl)

theorem bi_type_str (R : c.R r σ s.heap) {x' : Txt} (x : c.V r s.heap (.str x') u) (O : Out c r s σ (.cst (.type "str")) Q) : wpAny c.M A (call (.type "type") [u]) Q E' s := by
  refine k11 (x.str_inv) fun t q8 => ?_; subst q8
  exact call_type_of (Tx := "str") (typeIs_str s _ _) (by decide) (O.here R (.cst _))
theorem bi_type_list (R : c.R r σ s.heap) {i : Nat} {xs : List V} (hi : σ[i]? = some (.list xs)) (x : c.V r s.heap (.ref i) u) (O : Out c r s σ (.cst (.type "list")) Q) : wpAny c.M A (call (.type "type") [u]) Q E' s := by
  refine k35 (R.listAt hi x) fun a items n q9 hp hg hxs hl => ?_; subst q9
  exact call_type_of (Tx := "list") (isList_of hg).typeIs (by decide) (O.here R (.cst _))

/-- a new list of the model's own becomes ours -/
theorem Out.adopt (O : Out c r s σ' v Q) {vs : List V} (e : mkL vs σ = some (v, σ')) {h' : Heap} {tk : Nat} {a : Addr} {items : List Value} {n : Nat} {r₁ : Rh} {h₁ : Heap} (R₁ : c.R r₁ σ h₁) (S₁ : Step r s.heap r₁ h₁) (k : ∀ b o, h₁.get? b = some o → h'.get? b = some o) (na : h₁.get? a = .none) (g : h'.get? a = some (lstO items n)) (x : VRs c.w.params r₁ h₁ vs items) : Q (.ref a) { s with heap := h', toks := tk } := by
  refine k03 (mkL_eq e) fun hl q10 q11 => ?_; subst q10; subst q11
  have mv : Mv r₁ h₁ { r₁ with ob := r₁.ob ++ [(a, a)] } h' := ⟨fun i p ep => by
      have hl := lt_of_get ep
      rw [List.getElem?_append_left hl]; exact ep, fun b o eb f => ⟨k b o eb, fun q => by
      rcases q with ⟨p, hp, hb⟩ | q
      · rcases List.mem_append.mp hp with hp | hp
        · exact f (.inl ⟨p, hp, hb⟩)
        · rw [List.mem_singleton.mp hp] at hb
          rcases hb with rfl | rfl <;> (rw [na] at eb; cases eb)
      · exact f (.inr q)⟩⟩
  refine k02 (R₁.push (p := (a, a)) (o := .list vs) k na na (.list vs items n a g (x.mv mv) (by rw [x.length]; omega))) fun R' S' => ?_
  refine O _ _ h' tk R' (S₁.trans S') (.ref _ (a, a) ?_)
  show (r₁.ob ++ [_])[σ.length]? = _
  rw [← R₁.len, List.getElem?_append_right (Nat.le_refl _), Nat.sub_self]; rfl

theorem VRs.ofPlaces {P : Params} {r : Rh} {h : Heap} {vs : List V} {us : List Value} (hl : us.length = vs.length) (H : ∀ (j : Nat) (v : V) (u : Value), vs[j]? = some v → us[j]? = some u → VR P r h v u) : VRs P r h vs us := by
  induction vs generalizing us with
  | nil => cases List.length_eq_zero_iff.mp hl; exact .nil
  | cons v vs ih => cases us with
    | nil => exact absurd hl (Nat.succ_ne_zero _).symm
    | cons u us => exact .cons (H 0 v u rfl rfl) (ih (Nat.succ.inj hl) fun j v u e1 e2 => H (j + 1) v u e1 e2)

theorem bi_list_range (hh : A.handled = none) (R : c.R r σ s.heap) {a b : Int} (hb : b - a < 1000) (fa : fit a = true) (fb : fit b = true) (x : c.V r s.heap (.rng a b) u) (e : mkL (rngItems a b) σ = some (v, σ')) (O : Out c r s σ' v Q) : wpAny c.M A (call (.type "list") [u]) Q E' s := by
  refine k43 x.inv fun t u' v' y q hg hm => ?_; subst q
  have f1 := fit_iff.mp fa
  have f2 := fit_iff.mp fb
  refine call_list_range (n := (b - a).toNat) hh hg (small_one (by omega) (by omega) (by omega) (by omega)) (rangeSize_nat a b) (by omega) fun h' tk acc c' k g hi => ?_
  have hsz : acc.toList.length = (b - a).toNat := by simpa using hi.1
  refine O.adopt (items := acc.toList) (n := c') e R (Step.refl _ _) k (size_none s.heap (Nat.le_refl _)) (by rw [g]; simp [lstO]) (VRs.ofPlaces (by rw [hsz]; unfold rngItems; rw [rangeL_len]) fun j w uw e1 e2 => ?_)
  cases rngItems_get e1
  refine k11 (hi.2 j uw (by simpa using e2)) fun t q12 => ?_; subst q12
  rw [Int.mul_one]
  exact .int _ _
end
end MI
end TMS33
section TMS34
open PySem PySem.Spec PySem.Calls PyProof.Rows PySem.W
set_option linter.unusedVariables false
namespace MI

theorem stO_ts (x : Str) : stO (tsT x) = x := by
  cases x; simp [stO, tsT]
theorem VRs.strs {P : Params} {r : Rh} {h : Heap} {xs : List V} {us : List Value} {l : List Txt} (x : VRs P r h xs us) (e : strsOf xs = some l) : StrsAre us (l.map stO) :=
  x.ind (M := fun xs us => ∀ l : List Txt, strsOf xs = some l → StrsAre us (l.map stO)) (fun l e => Option.some.inj e ▸ .nil) (fun {v u vs us} a _ ih l e => by
    cases v with
    | str w =>
      refine k12 (Option.map_eq_some_iff.mp (show (strsOf vs).map (w :: ·) = some l from e)) fun l' e' q1 => ?_; subst q1
      refine k11 (a.str_inv) fun t q2 => ?_; subst q2
      exact .cons _ _ (ih l' e')
    | _ => exact ns e) l e

section
variable {c : Cx} {A : Around} {E' : Value → Shared → Prop} {s : Shared} {r : Rh} {σ σ' : H} {v : V} {Q : Value → Shared → Prop} {u u' : Value}

theorem bi_int (R : c.R r σ s.heap) {x' : Txt} {i : Int} (e : readI x' = some i) (x : c.V r s.heap (.str x') u) (O : Out c r s σ (.int i) Q) : wpAny c.M A (call (.type "int") [u]) Q E' s := by
  refine k11 (x.str_inv) fun t q3 => ?_; subst q3
  unfold readI at e
  split at e
  · rename_i hl
    exact KIN.call_text e (by rw [stO_length]; exact Nat.le_of_ble_eq_true hl) (O.same R (.int _ _) _)
  · exact ns e
theorem bi_str (R : c.R r σ s.heap) {i : Int} (hf : fit i = true) (x : c.V r s.heap (.int i) u) (O : Out c r s σ (.str (showI i)) Q) : wpAny c.M A (call (.type "str") [u]) Q E' s := by
  refine k11 (x.int_inv) fun t q4 => ?_; subst q4
  have hb := fit_iff.mp hf
  refine PySem.P.str_of_int ?_ ?_
  · refine Nat.lt_of_le_of_lt (m := 62) ?_ (by omega)
    by_cases h0 : i.natAbs = 0
    · rw [h0]; decide
    · exact Nat.le_of_lt_succ ((Nat.log2_lt h0).mpr (by omega))
  · have := O.same R (u := .str (stO (showI i)) s.toks) (.str (showI i) _) (s.toks + 1)
    unfold showI at this
    rw [stO_ts] at this
    exact this

theorem m_join (R : c.R r σ s.heap) {sep : Txt} {i : Nat} {xs : List V} {l : List Txt} {t : Tok} (hi : σ[i]? = some (.list xs)) (hs : strsOf xs = some l) (ok : joinOk sep l = true) (y : c.V r s.heap (.ref i) u) (O : Out c r s σ (.str (tsT (PySem.Txt.join (stT sep) (l.map stT)))) Q) :
    wpAny c.M A (call (.builtin "str.join") [.str (stO sep) t, u]) Q E' s := by
  refine k35 (R.listAt hi y) fun a items n q5 hp hg hxs hl => ?_; subst q5
  have hle := Nat.le_of_ble_eq_true ok
  refine join_list (isList_of hg) (ys := l.map stO) (by simpa using hxs.strs hs) ?_ fun t' k => ?_
  · rw [List.map_map, List.length_map]
    have : (l.map ((fun x => x.length) ∘ stO)).sum + l.length * (stO sep).length ≤ 1000000 := hle
    omega
  · have := O.same R (u := .str (stO (tsT (PySem.Txt.join (stT sep) (l.map stT)))) t') (.str _ _) k
    rw [stO_ts] at this
    exact this
theorem ascii_mem {x : Txt} (h : ascii x = true) : ∀ ch ∈ (stO x).cps.toList, ch < 128 := fun ch hc => by
  have := List.all_eq_true.mp h ch (by simpa [stO] using hc)
  have h2 : Nat.ble (ch + 1) 128 = true := this
  exact Nat.le_of_ble_eq_true h2
theorem lowC_eq (n : Nat) : lowC n = lo1 n := by
  unfold lowC lo1
  by_cases h : 65 ≤ n ∧ n ≤ 90
  · rw [if_pos h, if_pos (by rw [Bool.and_eq_true]; exact ⟨Nat.ble_eq_true_of_le h.1, Nat.ble_eq_true_of_le h.2⟩)]
  · rw [if_neg h, if_neg (fun q => h (by rw [Bool.and_eq_true] at q; exact ⟨Nat.le_of_ble_eq_true q.1, Nat.le_of_ble_eq_true q.2⟩))]
theorem upC_eq (n : Nat) : upC n = up1 n := by
  unfold upC up1
  by_cases h : 97 ≤ n ∧ n ≤ 122
  · rw [if_pos h, if_pos (by rw [Bool.and_eq_true]; exact ⟨Nat.ble_eq_true_of_le h.1, Nat.ble_eq_true_of_le h.2⟩)]
  · rw [if_neg h, if_neg (fun q => h (by rw [Bool.and_eq_true] at q; exact ⟨Nat.le_of_ble_eq_true q.1, Nat.le_of_ble_eq_true q.2⟩))]
theorem m_lower (R : c.R r σ s.heap) {x : Txt} {t : Tok} (ha : ascii x = true) (hz : szOk x.length = true) (O : Out c r s σ (.str (x.map lowC)) Q) : wpAny c.M A (call (.builtin "str.lower") [.str (stO x) t]) Q E' s := by
  have e : PySem.Txt.lower (stO x) = stO (x.map lowC) := by
    rw [lower_ascii (ascii_mem ha)]
    simp [stO, lowC_eq, List.map_congr_left]
  have hl := szOk_le hz
  refine SC.lower ?_ ?_
  · rw [e, stO_length, List.length_map]; unfold Builtin.Str.tooLong; rw [decide_eq_false]; have := sizeLine_ge; omega
  · rw [e]; exact O.same R (.str _ _) _
theorem m_upper (R : c.R r σ s.heap) {x : Txt} {t : Tok} (ha : ascii x = true) (hz : szOk x.length = true) (O : Out c r s σ (.str (x.map upC)) Q) : wpAny c.M A (call (.builtin "str.upper") [.str (stO x) t]) Q E' s := by
  have e : PySem.Txt.upper (stO x) = stO (x.map upC) := by
    rw [upper_ascii (ascii_mem ha)]
    simp [stO, upC_eq, List.map_congr_left]
  have hl := szOk_le hz
  refine SC.upper ?_ ?_
  · rw [e, stO_length, List.length_map]; unfold Builtin.Str.tooLong; rw [decide_eq_false]; have := sizeLine_ge; omega
  · rw [e]; exact O.same R (.str _ _) _
theorem m_find (R : c.R r σ s.heap) {x y : Txt} {t t' : Tok} (O : Out c r s σ (.int (PySem.Txt.find (stT x) (stT y))) Q) : wpAny c.M A (call (.builtin "str.find") [.str (stO x) t, .str (stO y) t']) Q E' s := SC.find (O.same R (.int _ _) _)
theorem m_isdigit (R : c.R r σ s.heap) {x : Txt} {t : Tok} (O : Out c r s σ (.bool (PySem.Txt.isdigit (stT x))) Q) : wpAny c.M A (call (.builtin "str.isdigit") [.str (stO x) t]) Q E' s := SC.isdigit (O.here R (.bool _))
theorem m_index (R : c.R r σ s.heap) {x y : Txt} {t t' : Tok} {n : Nat} {rest : List Nat} (ho : Builtin.Str.occurrences (stT x) (stT y) 0 x.length 1 = n :: rest) (O : Out c r s σ (.int (n : Int)) Q) : wpAny c.M A (call (.builtin "str.index") [.str (stO x) t, .str (stO y) t']) Q E' s :=
  SC.index (i := n) (rest := rest) (by rw [stO_length]; exact ho) (O.same R (.int _ _) _)
end
end MI
end TMS34
section TMS35
open PySem PySem.Spec PySem.Calls PyProof.Rows PySem.W
set_option linter.unusedVariables false
namespace MI
section
variable {c : Cx} {A : Around} {E' : Value → Shared → Prop} {s : Shared} {r : Rh} {σ σ' : H} {v w : V} {Q : Value → Shared → Prop} {u u' : Value}

theorem setL_inv {i : Nat} {vs : List V} {v w : V} {σ σ' : H} (e : setL σ i vs v = some (w, σ')) : vs.length ≤ 1000000 ∧ w = v ∧ σ' = σ.set i (.list vs) := by
  unfold setL at e
  split at e
  · rename_i h; (refine sp e fun q1 q2 => ?_; subst q1; subst q2; clear e); exact ⟨szOk_le h, rfl, rfl⟩
  · exact ns e
/-- a list of ours changed -/
theorem list_chg {h' : Heap} (R : c.R r σ s.heap) {i : Nat} {a : Addr} (hp : r.ob[i]? = some (a, a)) {items : List Value} {n : Nat} {vs : List V} (g : h'.get? a = some (lstO items n)) (sb : Heap.SameBut a s.heap h') (x : VRs c.w.params r s.heap vs items) (hz : items.length ≤ 4000000) :
    c.R r (σ.set i (.list vs)) h' ∧ Step r s.heap r h' :=
  R.upd (h' := h') (o := .list vs) hp (fun b ob eb n1 _ => (sb.2 b n1).trans eb) (fun b ob eb => by
    by_cases z : b = a
    · subst z; exact ⟨_, g⟩
    · exact ⟨ob, (sb.2 b z).trans eb⟩) fun M => .list _ _ n a g (x.mv M) hz

theorem m_append (R : c.R r σ s.heap) {i : Nat} {xs : List V} (hi : σ[i]? = some (.list xs)) (x : c.V r s.heap (.ref i) u) (y : c.V r s.heap v u') (e : setL σ i (xs ++ [v]) .none = some (w, σ')) (O : Out c r s σ' w Q) : wpAny c.M A (call (.builtin "list.append") [u, u']) Q E' s := by
  refine k35 (R.listAt hi x) fun a items n q1 hp hg hxs hl => ?_; subst q1
  refine k03 (setL_inv e) fun hz q2 q3 => ?_; subst q2; subst q3
  have hlen : items.length ≤ 1000000 := by rw [hxs.length]; simp at hz; omega
  refine wpAny_list_append_plain (items := items.toArray) ⟨n, hg⟩ (fun h' hp' hs' => ?_) (by simp only [List.size_toArray]; have := sizeLine_ge; omega)
  refine k11 hp' fun m g => ?_; clear hp'
  have g' : h'.get? a = some (lstO (items ++ [u']) m) := by rw [g]; simp [lstO]
  refine k02 (list_chg R hp g' hs' (hxs.append (.cons y .nil)) (by simp; omega)) fun R' S' => ?_
  exact O .none r h' s.toks R' S' .none

theorem mapSeq_pop_plain (its : List Value) (n j : Nat) (h : j < its.length) : ∃ m, Obj.mapSeq (·.eraseIdxIfInBounds j) (lstO its n) = lstO (its.eraseIdx j) m := by
  simp [Obj.mapSeq, lstO]
theorem eraseLast (l : List Value) : l.eraseIdx (l.length - 1) = l.dropLast := by
  exact List.eraseIdx_length_sub_one
theorem VRs.dropLast {P : Params} {r : Rh} {h : Heap} {vs : List V} {us : List Value} (x : VRs P r h vs us) : VRs P r h vs.dropLast us.dropLast := by
  rw [List.dropLast_eq_take, List.dropLast_eq_take, x.length]; exact x.take _

theorem m_pop (R : c.R r σ s.heap) {i : Nat} {xs : List V} (hi : σ[i]? = some (.list xs)) (x : c.V r s.heap (.ref i) u) (hv : xs.getLast? = some v) (e : setL σ i xs.dropLast v = some (w, σ')) (O : Out c r s σ' w Q) : wpAny c.M A (call (.builtin "list.pop") [u]) Q E' s := by
  refine k35 (R.listAt hi x) fun a items n q4 hp hg hxs hl => ?_; subst q4
  refine k03 (setL_inv e) fun hz q5 q6 => ?_; subst q5; subst q6
  have hne : 0 < items.length := by
    rw [hxs.length]
    cases xs with
    | nil => exact ns hv
    | cons => simp
  refine wpAny_call_entry PySem.F.slot_list_pop ⟨_, hg, rfl⟩ PySem.F.entry_list_pop ?_ (PySem.F.args_list_pop_1 _)
  unfold Builtin.«list.pop»
  refine wpAny_bind (m := selfAndSome "list.pop" "pop" 0 1 _) (wpAny_of_eq (show selfAndSome "list.pop" "pop" 0 1 ⟨[.ref a], []⟩ = pure (.ref a, []) from rfl) ?_)
  dsimp only
  refine wpAny_bind (wpAny_pure ?_)
  rw [if_neg (by decide)]
  show wpAny _ _ (Builtin.List.listItems (.ref a) >>= _) _ _ _
  unfold Builtin.List.listItems
  refine wpAny_bind (wpAny_bind (wpAny_seqItems hg rfl (wpAny_pure ?_)))
  rw [if_neg (by simp; exact fun q => by rw [q] at hne; exact Nat.lt_irrefl _ hne)]
  have hlast : items[items.length - 1]? = items.getLast? := List.getLast?_eq_getElem?.symm
  refine k12 (hxs.get (i := xs.length - 1) (by rw [← List.getLast?_eq_getElem?]; exact hv)) fun u' hu' hr => ?_
  have hsq : (seqIndex? (-1) items.toArray.size).bind (fun k => items.toArray[k]?.map (k, ·)) = some (items.length - 1, u') := by
    rw [List.size_toArray, seqIndex?_neg_one hne, Option.bind_some, ← hxs.length] at *
    simp [hu']
  rw [hsq]
  dsimp only
  show wpAny _ _ (updateSeq a (·.eraseIdxIfInBounds (items.length - 1)) >>= _) _ _ _
  refine wpAny_bind ?_
  refine k11 (mapSeq_pop_plain items n (items.length - 1) (by omega)) fun m em => ?_
  have g' : (s.heap.update a (Obj.mapSeq (·.eraseIdxIfInBounds (items.length - 1)))).get? a = some (lstO items.dropLast m) := by
    rw [Heap.get?_update_self _ hg (by rw [em]; rfl), em, eraseLast]
  refine k02 (list_chg R hp g' (Heap.SameBut.update ..) hxs.dropLast (by simp; omega)) fun R' S' => ?_
  refine wpAny_updateSeq (_hz' := by
    have h2 := sizeLine_ge
    have h1 : (items.toArray.eraseIdxIfInBounds (items.length - 1)).toList = items.eraseIdx (items.length - 1) := by simp
    have h3 : (items.toArray.eraseIdxIfInBounds (items.length - 1)).size = (items.eraseIdx (items.length - 1)).length := (Array.length_toList).symm.trans (congrArg List.length h1)
    rw [h3, eraseLast, List.length_dropLast]; omega) hg rfl (wpAny_pure ⟨u', rfl, ?_⟩)
  exact O u' r _ s.toks R' S' (hr.step S')

theorem m_dget (HT : c.TabOk) (R : c.R r σ s.heap) {a : Addr} {k : Txt} {kvs : List (Txt × V)} {d : V} {t : Tok} (hk : c.Γ.dicts.lookup a = some kvs) (x : c.V r s.heap d u) (O : Out c r s σ ((tlook k kvs).getD d) Q) : wpAny c.M A (call (.builtin "dict.get") [.ref a, .str (stO k) t, u]) Q E' s := by
  obtain ⟨hs, es, n, hK, T⟩ := HT _ _ hk
  have ho : s.heap.get? a = some (dctO es n) := R.base _ _ (c.X _ _ hK)
  have T' := T.base R
  have L := T'.look k
  have hm := T'.mapOf (prog := c.prog) ho
  refine call_meetsIn PySem.F.slot_dict_get ⟨_, ho, rfl⟩ PySem.F.entry_dict_get (PySem.F.args_dict_get_3 _ _ _) (meets_dict_get_default (PySem.strKind c.prog c.w) a (strKind_is c.prog c.w (stO k) t) hs u) ⟨_, hm, ?_⟩
  cases q : tlook k kvs with
  | none =>
    rw [q] at L O
    rw [show findBy Value.isStrOf es.toArray (stO k) = .none from L]
    exact O.same R x _
  | some v =>
    rw [q] at L O
    obtain ⟨u', hu', hr⟩ := L
    rw [hu']
    exact O.same R hr _
end
end MI
end TMS35
section TMS36
open PySem PySem.Spec PySem.Calls PyProof.Rows PySem.W
set_option linter.unusedVariables false
namespace MI
theorem VRs.ints {P : Params} {r : Rh} {h : Heap} {xs : List V} {us : List Value} {l : List Int} (x : VRs P r h xs us) (e : intsOf xs = some l) : us.length = l.length ∧ ∀ (j : Nat) (u : Value), us[j]? = some u → ∃ t, u = .int (l.getD j 0) t :=
  x.ind (M := fun xs us => ∀ l : List Int, intsOf xs = some l → us.length = l.length ∧ ∀ (j : Nat) (u : Value), us[j]? = some u → ∃ t, u = .int (l.getD j 0) t) (fun l e => Option.some.inj e ▸ ⟨rfl, fun j u h => ns h⟩) (fun {v u vs us} a _ ih l e => by
    cases v with
    | int i =>
      refine k12 (Option.map_eq_some_iff.mp (show (intsOf vs).map (i :: ·) = some l from e)) fun l' e' q1 => ?_; subst q1
      refine k11 (a.int_inv) fun t q2 => ?_; subst q2
      refine k02 (ih l' e') fun h1 h2 => ?_
      refine ⟨congrArg Nat.succ h1, fun j u hu => ?_⟩
      cases j with
      | zero => exact ⟨t, (Option.some.inj hu).symm⟩
      | succ j => exact h2 j u hu
    | _ => exact ns e) l e

theorem sumI_inv : ∀ (l : List Int) (a b : Int), sumI a l = some b → (∀ x ∈ l, fit x = true) ∧ b = a + l.sum ∧ ∀ j, j < l.length → fit (a + (l.take (j + 1)).sum) = true
  | [], a, b, e => by (refine si e fun q9 => ?_; subst q9; clear e); exact ⟨by simp, by simp, by simp⟩
  | x :: r, a, b, e => by
    unfold sumI at e
    split at e
    · rename_i h
      rw [Bool.and_eq_true] at h
      refine k03 (sumI_inv r (a + x) b e) fun h1 h2 h3 => ?_
      refine ⟨fun y hy => ?_, by rw [h2]; simp; omega, fun j hj => ?_⟩
      · rcases List.mem_cons.mp hy with q | q
        · rw [q]; exact h.1
        · exact h1 y q
      · cases j with
        | zero => simpa using h.2
        | succ j =>
          have := h3 j (by simpa using hj)
          rw [List.take_succ_cons, List.sum_cons, ← Int.add_assoc]
          exact this
    · exact ns e
theorem preSum_take (l : List Int) : ∀ j, j ≤ l.length → preSum (fun i => l.getD i 0) j = (l.take j).sum
  | 0, _ => rfl
  | j + 1, h => by
    show preSum (fun i => l.getD i 0) j + l.getD j 0 = _
    have hj : j < l.length := by omega
    rw [preSum_take l j (by omega), List.take_add_one, List.getElem?_eq_getElem hj, List.sum_append, List.getD_eq_getElem?_getD, List.getElem?_eq_getElem hj]
    simp only [Option.getD_some, Option.toList_some, List.sum_cons, List.sum_nil, Int.add_zero]

section
variable {c : Cx} {A : Around} {E' : Value → Shared → Prop} {s : Shared} {r : Rh} {σ σ' : H} {v w : V} {Q : Value → Shared → Prop} {u u' : Value}
/-- a list's iterator made, as a Walks -/
theorem listWalk {A' : Around} (hh : A'.handled = none) (R : c.R r σ s.heap) {i : Nat} {xs : List V} (hi : σ[i]? = some (.list xs)) (x : c.V r s.heap (.ref i) u) {Q : Value → Shared → Prop}
    (h : ∀ a items n, u = .ref a → s.heap.get? a = some (lstO items n) → VRs c.w.params r s.heap xs items → items.length ≤ 4000000 → ∀ o, a ≠ s.heap.objs.size → (s.heap.push o).IsListIter s.heap.objs.size a 0 → (s.heap.push o).IsList a items.toArray → Walks c.prog c.w A' s.heap.objs.size [s.heap.objs.size, a] [s.heap.objs.size] items.toArray.size (fun i v => items.toArray[i]? = some v) (fun i h => h.IsListIter s.heap.objs.size a i ∧ h.IsList a items.toArray) →
      Q (.ref s.heap.objs.size) { s with heap := s.heap.push o }) : wpAny c.M A' (pyIter u) Q E' s := by
  refine k35 (R.listAt hi x) fun a items n q3 hp hg hxs hl => ?_; subst q3
  have hne : a ≠ s.heap.objs.size := fun q => by rw [q, size_none s.heap (Nat.le_refl _)] at hg; exact ns hg
  exact wpAny_pyIter_list (isList_of hg) (h a items n rfl hg hxs hl _ hne ⟨_, Heap.get?_push_size _ rfl, rfl, rfl⟩ (isList_of (Heap.get?_push_of_some _ hg)) (Walks.list hh _ a hne _))

theorem bi_sum (hh : A.handled = none) (R : c.R r σ s.heap) {i : Nat} {xs : List V} {l : List Int} {b : Int} (hi : σ[i]? = some (.list xs)) (hl : intsOf xs = some l) (hb : sumI 0 l = some b) (x : c.V r s.heap (.ref i) u) (O : Out c r s σ (.int b) Q) : wpAny c.M A (call (.builtin "sum") [u]) Q E' s := by
  refine k03 (sumI_inv l 0 b hb) fun f1 f2 f3 => ?_
  refine call_sum_walk (listWalk (A' := A.in1) hh R hi x fun a items n hu hg hxs hz o hne hit hL W => ?_)
  refine k02 (hxs.ints hl) fun h1 h2 => ?_
  refine ⟨_, _, _, _, _, _, fun j => l.getD j 0, rfl, W, ⟨hit, hL⟩, fun b hb => ?_, fun j v hv => h2 j v (by simpa using hv), fun j hj => ⟨?_, ?_⟩, fun h' tk t' hk => ?_⟩
  · rw [Heap.size_push]
    rcases List.mem_cons.mp hb with q | q
    · rw [q]; exact Nat.lt_succ_self _
    · rw [List.mem_singleton.mp q]; exact Nat.lt_succ_of_lt (Heap.lt_size hg)
  · have hj' : j < l.length := by simp at hj; omega
    have := fit_bounds (f1 (l.getD j 0) (by simp [List.getD_eq_getElem?_getD, List.getElem?_eq_getElem hj']))
    exact this
  · have hj' : j < l.length := by simp at hj; omega
    rw [preSum_take l (j + 1) (by omega)]
    have := fit_bounds (f3 j hj')
    rw [Int.zero_add] at this
    exact this
  · rw [show items.toArray.size = l.length by simp [h1], preSum_take l _ (Nat.le_refl _), List.take_length]
    have e : l.sum = b := by rw [f2]; omega
    rw [e]
    have k : ∀ b ob, s.heap.get? b = some ob → h'.get? b = some ob := fun b ob e => hk b ob (fun q => by
      rw [List.mem_singleton.mp q, size_none s.heap (Nat.le_refl _)] at e; cases e) (Heap.get?_push_of_some _ e)
    exact O _ r h' tk (R.grow k) (Step.grow k) (.int _ _)
end
end MI
end TMS36
section TMS37
open PySem PySem.Spec PySem.Calls PyProof.Rows PySem.W
set_option linter.unusedVariables false
namespace MI
theorem maxI_app : ∀ (l : List Int) (m y : Int), maxI m (l ++ [y]) = if maxI m l < y then y else maxI m l
  | [], m, y => by by_cases h : m < y <;> simp [maxI, h]
  | x :: r, m, y => by rw [List.cons_append]; unfold maxI; exact maxI_app r _ y
theorem minI_app : ∀ (l : List Int) (m y : Int), minI m (l ++ [y]) = if y < minI m l then y else minI m l
  | [], m, y => by by_cases h : y < m <;> simp [minI, h]
  | x :: r, m, y => by rw [List.cons_append]; unfold minI; exact minI_app r _ y
theorem argBest_succ (bt : Nat → Nat → Bool) (k : Nat) : argBest bt (k + 1) = if bt (k + 1) (argBest bt k) then k + 1 else argBest bt k := rfl
theorem best_max (x : Int) (r : List Int) : ∀ k, k ≤ r.length → (x :: r).getD (argBest (fun i j => decide ((x :: r).getD i 0 > (x :: r).getD j 0)) k) 0 = maxI x (r.take k)
  | 0, _ => rfl
  | k + 1, h => by
    have ih := best_max x r k (by omega)
    have hk : k < r.length := by omega
    have e1 : (x :: r).getD (k + 1) 0 = r[k] := by simp [List.getD_eq_getElem?_getD, List.getElem?_eq_getElem hk]
    rw [List.take_add_one, List.getElem?_eq_getElem hk, Option.toList_some, maxI_app, ← ih]
    rw [argBest_succ]
    simp only [decide_eq_true_eq, e1, gt_iff_lt]
    by_cases q : (x :: r).getD (argBest (fun i j => decide ((x :: r).getD i 0 > (x :: r).getD j 0)) k) 0 < r[k]
    · simp only [gt_iff_lt] at q ⊢; rw [if_pos q, if_pos q, e1]
    · simp only [gt_iff_lt] at q ⊢; rw [if_neg q, if_neg q]
theorem best_min (x : Int) (r : List Int) : ∀ k, k ≤ r.length → (x :: r).getD (argBest (fun i j => decide ((x :: r).getD i 0 < (x :: r).getD j 0)) k) 0 = minI x (r.take k)
  | 0, _ => rfl
  | k + 1, h => by
    have ih := best_min x r k (by omega)
    have hk : k < r.length := by omega
    have e1 : (x :: r).getD (k + 1) 0 = r[k] := by simp [List.getD_eq_getElem?_getD, List.getElem?_eq_getElem hk]
    rw [List.take_add_one, List.getElem?_eq_getElem hk, Option.toList_some, minI_app, ← ih]
    rw [argBest_succ]
    simp only [decide_eq_true_eq, e1, gt_iff_lt]
    by_cases q : r[k] < (x :: r).getD (argBest (fun i j => decide ((x :: r).getD i 0 < (x :: r).getD j 0)) k) 0
    · rw [if_pos q, if_pos q, e1]
    · rw [if_neg q, if_neg q]

section
variable {c : Cx} {A : Around} {E' : Value → Shared → Prop} {s : Shared} {r : Rh} {σ σ' : H} {v w : V} {Q : Value → Shared → Prop} {u u' : Value}

theorem bi_max (hh : A.handled = none) (R : c.R r σ s.heap) {i : Nat} {xs : List V} {x0 : Int} {l : List Int} (hi : σ[i]? = some (.list xs)) (hl : intsOf xs = some (x0 :: l)) (x : c.V r s.heap (.ref i) u) (O : Out c r s σ (.int (maxI x0 l)) Q) : wpAny c.M A (call (.builtin "max") [u]) Q E' s := by
  refine call_max_walk (listWalk (A' := A.in1) hh R hi x fun a items n hu hg hxs hz o hne hit hL W => ?_)
  refine k02 (hxs.ints hl) fun h1 h2 => ?_
  refine ⟨_, _, _, _, _, _, _, rfl, W, ⟨hit, hL⟩, fun b hb => ?_, by simp [h1], CmpOf.ints_gt (fun j => (x0 :: l).getD j 0) (fun j v hv => h2 j v (by simpa using hv)), fun v h' tk hP hk => ?_⟩
  · rw [Heap.size_push]
    rcases List.mem_cons.mp hb with q | q
    · rw [q]; exact Nat.lt_succ_self _
    · rw [List.mem_singleton.mp q]; exact Nat.lt_succ_of_lt (Heap.lt_size hg)
  · refine k11 (h2 _ v (List.getElem?_toArray.symm.trans hP)) fun t q1 => ?_; subst q1
    have e : items.toArray.size - 1 = l.length := by simp [h1]
    rw [e, best_max x0 l _ (Nat.le_refl _), List.take_length]
    have k : ∀ b ob, s.heap.get? b = some ob → h'.get? b = some ob := fun b ob e => hk b ob (fun q => by
      rw [List.mem_singleton.mp q, size_none s.heap (Nat.le_refl _)] at e; cases e) (Heap.get?_push_of_some _ e)
    exact O _ r h' tk (R.grow k) (Step.grow k) (.int _ _)
theorem bi_min (hh : A.handled = none) (R : c.R r σ s.heap) {i : Nat} {xs : List V} {x0 : Int} {l : List Int} (hi : σ[i]? = some (.list xs)) (hl : intsOf xs = some (x0 :: l)) (x : c.V r s.heap (.ref i) u) (O : Out c r s σ (.int (minI x0 l)) Q) : wpAny c.M A (call (.builtin "min") [u]) Q E' s := by
  refine call_min_walk (listWalk (A' := A.in1) hh R hi x fun a items n hu hg hxs hz o hne hit hL W => ?_)
  refine k02 (hxs.ints hl) fun h1 h2 => ?_
  refine ⟨_, _, _, _, _, _, _, rfl, W, ⟨hit, hL⟩, fun b hb => ?_, by simp [h1], CmpOf.ints_lt (fun j => (x0 :: l).getD j 0) (fun j v hv => h2 j v (by simpa using hv)), fun v h' tk hP hk => ?_⟩
  · rw [Heap.size_push]
    rcases List.mem_cons.mp hb with q | q
    · rw [q]; exact Nat.lt_succ_self _
    · rw [List.mem_singleton.mp q]; exact Nat.lt_succ_of_lt (Heap.lt_size hg)
  · refine k11 (h2 _ v (List.getElem?_toArray.symm.trans hP)) fun t q2 => ?_; subst q2
    have e : items.toArray.size - 1 = l.length := by simp [h1]
    rw [e, best_min x0 l _ (Nat.le_refl _), List.take_length]
    have k : ∀ b ob, s.heap.get? b = some ob → h'.get? b = some ob := fun b ob e => hk b ob (fun q => by
      rw [List.mem_singleton.mp q, size_none s.heap (Nat.le_refl _)] at e; cases e) (Heap.get?_push_of_some _ e)
    exact O _ r h' tk (R.grow k) (Step.grow k) (.int _ _)
theorem bi_max2 (hh : A.handled = none) (R : c.R r σ s.heap) {a b : Int} (x : c.V r s.heap (.int a) u) (y : c.V r s.heap (.int b) u') (O : Out c r s σ (.int (if decide (a < b) then b else a)) Q) : wpAny c.M A (call (.builtin "max") [u, u']) Q E' s := by
  refine k11 (x.int_inv) fun t q3 => ?_; subst q3
  refine k11 (y.int_inv) fun t' q4 => ?_; subst q4
  refine call_max_two ?_
  have hT : (s.heap.push { cls := .type "tuple", data := .seq #[.int a t, .int b t'] }).IsTuple s.heap.objs.size #[.int a t, .int b t'] := ⟨_, Heap.get?_push_size _ rfl, rfl, 0, rfl⟩
  have hz : (s.heap.push { cls := .type "tuple", data := .seq #[.int a t, .int b t'] }).objs.size = s.heap.objs.size + 1 := Heap.size_push ..
  refine wpAny_pyIter_tuple hT ?_
  have val : ∀ (i : Nat) (v : Value), (#[Value.int a t, Value.int b t'] : Array Value)[i]? = some v → ∃ t, v = .int (if i = 0 then a else b) t := fun i v hv => by
    match i, hv with
    | 0, hv => simp at hv; exact ⟨t, by simp [hv]⟩
    | 1, hv => simp at hv; exact ⟨t', by simp [hv]⟩
    | i + 2, hv => simp at hv
  have hne : s.heap.objs.size ≠ (s.heap.push { cls := .type "tuple", data := .seq #[.int a t, .int b t'] }).objs.size := by rw [hz]; exact (Nat.succ_ne_self _).symm
  refine ⟨_, _, _, _, _, _, _, rfl, Walks.tuple (A := A.in1) hh _ s.heap.objs.size hne _, ⟨⟨_, Heap.get?_push_size _ rfl, rfl, rfl⟩, ⟨_, Heap.get?_push_of_some _ (Heap.get?_push_size _ rfl), rfl, 0, rfl⟩⟩, fun b hb => ?_, Nat.zero_lt_succ _, CmpOf.ints_gt _ val, fun v h' tk hP hk => ?_⟩
  · rw [Heap.size_push]
    rcases List.mem_cons.mp hb with q | q
    · rw [q]; exact Nat.lt_succ_self _
    · rw [List.mem_singleton.mp q, hz]; exact Nat.lt_succ_of_lt (Nat.lt_succ_self _)
  · have k : ∀ b ob, s.heap.get? b = some ob → h'.get? b = some ob := fun b ob e => hk b ob (fun q => by
      rw [List.mem_singleton.mp q, size_none s.heap (by rw [hz]; exact Nat.le_succ _)] at e; cases e) (Heap.get?_push_of_some _ (Heap.get?_push_of_some _ e))
    refine k11 (val _ v hP) fun t2 q5 => ?_; subst q5
    have e : (if argBest (fun i j => decide ((if i = 0 then a else b) > (if j = 0 then a else b))) ((#[Value.int a t, Value.int b t'] : Array Value).size - 1) = 0 then a else b) = (if decide (a < b) then b else a) := by
      show (if argBest (fun i j => decide ((if i = 0 then a else b) > (if j = 0 then a else b))) 1 = 0 then a else b) = _
      rw [argBest_succ]
      show (if (if decide ((if (0 + 1) = 0 then a else b) > (if 0 = 0 then a else b)) = true then 0 + 1 else 0) = 0 then a else b) = _
      by_cases q : a < b <;> simp [q]
    rw [e]
    exact O _ r h' tk (R.grow k) (Step.grow k) (.int _ _)
end
end MI
end TMS37
section TMS38
open PySem PySem.Spec PySem.Calls PyProof.Rows PySem.W
set_option linter.unusedVariables false
namespace MI
/-- what sorted is to tell -/
noncomputable def SortOk (c : Cx) (A : Around) : Prop := ∀ {i : Nat} {xs : List V} {σ σ' : H} {v : V} {r : Rh} {s : Shared} {u : Value}, σ[i]? = some (.list xs) → sortOk xs = true → sortL xs σ = some (v, σ') → c.R r σ s.heap → c.V r s.heap (.ref i) u → ∀ {Q E'}, Out c r s σ' v Q → wpAny c.M A (call (.builtin "sorted") [u] []) Q E' s

theorem VRs.one {P : Params} {r : Rh} {h : Heap} {v : V} {us : List Value} (x : VRs P r h [v] us) : ∃ u, us = [u] ∧ VR P r h v u := by
  cases x with | cons a b => cases b; exact ⟨_, rfl, a⟩
theorem VRs.two {P : Params} {r : Rh} {h : Heap} {v w : V} {us : List Value} (x : VRs P r h [v, w] us) : ∃ u u', us = [u, u'] ∧ VR P r h v u ∧ VR P r h w u' := by
  cases x with | cons a b => obtain ⟨u', rfl, y⟩ := b.one; exact ⟨_, u', rfl, a, y⟩

theorem ite_i {p : Prop} [Decidable p] {α : Type} {x z : Option α} {y : α} (e : (if p then x else z) = some y) : (p ∧ x = some y) ∨ (¬ p ∧ z = some y) := by
  by_cases h : p
  · rw [if_pos h] at e; exact .inl ⟨h, e⟩
  · rw [if_neg h] at e; exact .inr ⟨h, e⟩
theorem int_i {l : List Int} {σ σ' : H} {v : V} {f : Int → List Int → Int} (e : (match l with
  | [] => Option.none
  | x :: r => some (V.int (f x r), σ)) = some (v, σ')) : ∃ x r, l = x :: r ∧ v = .int (f x r) ∧ σ' = σ := by
  cases l with
  | nil => exact ns e
  | cons x r => (refine sp e fun q5 q6 => ?_; subst q5; subst q6; clear e); exact ⟨x, r, rfl, rfl, rfl⟩
/-- one argument -/
noncomputable def BiOne (c : Cx) (A : Around) (f : Value) (b : V → H → Option (V × H)) : Prop := ∀ {a v : V} {σ σ' : H} {r : Rh} {s : Shared} {u : Value}, b a σ = some (v, σ') → c.R r σ s.heap → c.V r s.heap a u → ∀ {Q E'}, Out c r s σ' v Q → wpAny c.M A (call f [u] []) Q E' s
section
variable {c : Cx} {A : Around}
theorem bi_lst {f : Value} {b : List V → H → Option (V × H)} (h : ∀ {i : Nat} {xs : List V} {v : V} {σ σ' : H} {r : Rh} {s : Shared} {u : Value}, σ[i]? = some (.list xs) → b xs σ = some (v, σ') → c.R r σ s.heap → c.V r s.heap (.ref i) u → ∀ {Q E'}, Out c r s σ' v Q → wpAny c.M A (call f [u] []) Q E' s) :
    BiOne c A f (fun v σ => (lstOf σ v).bind fun xs => b xs σ) := by
  intro a v σ σ' r s u e R x Q E' O
  refine k12 (Option.bind_eq_some_iff.mp e) fun xs hx e1 => ?_
  refine k12 (lstOf_i hx) fun i q1 hi => ?_; subst q1
  exact h hi e1 R x O
theorem one_len : BiOne c A (.builtin "len") bLen := by
  intro a v σ σ' r s u e R x Q E' O
  cases a with
  | str t => obtain ⟨hz, e⟩ := if_some (b := szOk t.length) (x := (V.int (t.length : Int), σ)) e; cases e; exact bi_len_str R hz x O
  | tup xs => (refine sp e fun q10 q11 => ?_; subst q10; subst q11; clear e); exact bi_len_tup R x O
  | ref i => obtain ⟨xs, hi, e⟩ := lst_i (o := σ[i]?) (f := fun xs => some (V.int (xs.length : Int), σ)) e; (refine sp e fun q12 q13 => ?_; subst q12; subst q13; clear e); exact bi_len_list R hi x O
  | _ => exact ns e
theorem one_max (hh : A.handled = none) : BiOne c A (.builtin "max") (fun v σ => (lstOf σ v).bind fun xs => bMax xs σ) := bi_lst fun {i xs v σ σ' r s u} hi e R x {Q E'} O => by
  refine k12 (Option.bind_eq_some_iff.mp e) fun l hl e => ?_
  refine k23 (int_i (f := maxI) e) fun y r' q2 q3 q4 => ?_; subst q2; subst q3; subst q4
  exact bi_max hh R hi hl x O
theorem one_min (hh : A.handled = none) : BiOne c A (.builtin "min") (fun v σ => (lstOf σ v).bind fun xs => bMin xs σ) := bi_lst fun {i xs v σ σ' r s u} hi e R x {Q E'} O => by
  refine k12 (Option.bind_eq_some_iff.mp e) fun l hl e => ?_
  refine k23 (int_i (f := minI) e) fun y r' q5 q6 q7 => ?_; subst q5; subst q6; subst q7
  exact bi_min hh R hi hl x O
theorem one_sum (hh : A.handled = none) : BiOne c A (.builtin "sum") (fun v σ => (lstOf σ v).bind fun xs => bSum xs σ) := bi_lst fun {i xs v σ σ' r s u} hi e R x {Q E'} O => by
  refine k12 (Option.bind_eq_some_iff.mp e) fun l hl e => ?_
  refine k12 (Option.map_eq_some_iff.mp e) fun b hb e => ?_
  cases e
  exact bi_sum hh R hi hl hb x O
theorem one_sorted (hs : SortOk c A) : BiOne c A (.builtin "sorted") (fun v σ => (lstOf σ v).bind fun xs => bSort xs σ) := bi_lst fun {i xs v σ σ' r s u} hi e R x {Q E'} O => by
  refine k02 (if_i (b := sortOk xs) (x := sortL xs σ) e) fun hk e => ?_
  exact hs hi hk e R x O
theorem one_range : BiOne c A (.type "range") (fun v σ => match v with | .int b => tRange b σ | _ => .none) := by
  intro a v σ σ' r s u e R x Q E' O
  cases a with
  | int b => obtain ⟨hf, e⟩ := if_some (b := fit b) (x := (V.rng 0 b, σ)) e; cases e; exact bi_range1 R x O
  | _ => exact ns e
theorem one_list (hh : A.handled = none) : BiOne c A (.type "list") tList := by
  intro a v σ σ' r s u e R x Q E' O
  cases a with
  | rng a b =>
    refine k02 (if_i (b := decide (b - a < 1000) && fit a && fit b) (x := mkL (rngItems a b) σ) e) fun hc e => ?_
    refine k02 (and_i hc) fun hc h3 => ?_
    refine k02 (and_i hc) fun h1 h2 => ?_
    exact bi_list_range hh R (of_decide_eq_true h1) h2 h3 x e O
  | _ => exact ns e
theorem one_tuple : BiOne c A (.type "tuple") (fun v σ => (lstOf σ v).map fun xs => (.tup xs, σ)) := by
  intro a v σ σ' r s u e R x Q E' O
  refine k12 (Option.map_eq_some_iff.mp e) fun xs hx e1 => ?_
  refine k12 (lstOf_i hx) fun i q8 hi => ?_; subst q8
  cases e1
  exact bi_tuple R hi x O
theorem one_int : BiOne c A (.type "int") tInt := by
  intro a v σ σ' r s u e R x Q E' O
  cases a with
  | str t =>
    refine k12 (Option.map_eq_some_iff.mp e) fun i hi e => ?_
    cases e
    exact bi_int R hi x O
  | _ => exact ns e
theorem one_str : BiOne c A (.type "str") tStr := by
  intro a v σ σ' r s u e R x Q E' O
  cases a with
  | int i => obtain ⟨hf, e⟩ := if_some (b := fit i) (x := (V.str (showI i), σ)) e; cases e; exact bi_str R hf x O
  | _ => exact ns e
theorem one_type : BiOne c A (.type "type") tType := by
  intro a v σ σ' r s u e R x Q E' O
  cases a with
  | str t => (refine sp e fun q41 q42 => ?_; subst q41; subst q42; clear e); exact bi_type_str R x O
  | ref i => obtain ⟨xs, hi, e⟩ := lst_i (o := σ[i]?) (f := fun _ => some (V.cst (.type "list"), σ)) e; (refine sp e fun q43 q44 => ?_; subst q43; subst q44; clear e); exact bi_type_list R hi x O
  | _ => exact ns e
theorem kb {f : String} {as : List V} {σ σ' : H} {v : V} {b : V → H → Option (V × H)} {a : V} (H : BiOne c A (.builtin f) b) (e : b a σ = some (v, σ')) : KeepF c (.builtin f) ∧ ∀ r s us, c.R r σ s.heap → VRs c.w.params r s.heap [a] us → ∀ Q E', Out c r s σ' v Q → wpAny c.M A (call (.builtin f) us []) Q E' s :=
  ⟨.builtin, fun r s us R x Q E' O => by obtain ⟨u, rfl, x1⟩ := x.one; exact H e R x1 O⟩
theorem kt {f : String} {as : List V} {σ σ' : H} {v : V} {b : V → H → Option (V × H)} {a : V} (H : BiOne c A (.type f) b) (e : b a σ = some (v, σ')) : KeepF c (.type f) ∧ ∀ r s us, c.R r σ s.heap → VRs c.w.params r s.heap [a] us → ∀ Q E', Out c r s σ' v Q → wpAny c.M A (call (.type f) us []) Q E' s :=
  ⟨.type, fun r s us R x Q E' O => by obtain ⟨u, rfl, x1⟩ := x.one; exact H e R x1 O⟩
theorem b_one (hh : A.handled = none) (hs : SortOk c A) {f : String} {a v : V} {σ σ' : H} (e : bOne f a σ = some (v, σ')) : KeepF c (.builtin f) ∧ ∀ r s us, c.R r σ s.heap → VRs c.w.params r s.heap [a] us → ∀ Q E', Out c r s σ' v Q → wpAny c.M A (call (.builtin f) us []) Q E' s := by
  unfold bOne at e
  rcases ite_i e with ⟨rfl, e⟩ | ⟨_, e⟩
  · exact kb (as := []) one_len e
  rcases ite_i e with ⟨rfl, e⟩ | ⟨_, e⟩
  · exact kb (as := []) (one_max hh) e
  rcases ite_i e with ⟨rfl, e⟩ | ⟨_, e⟩
  · exact kb (as := []) (one_min hh) e
  rcases ite_i e with ⟨rfl, e⟩ | ⟨_, e⟩
  · exact kb (as := []) (one_sum hh) e
  rcases ite_i e with ⟨rfl, e⟩ | ⟨_, e⟩
  · exact kb (as := []) (one_sorted hs) e
  exact ns e
theorem t_one (hh : A.handled = none) {f : String} {a v : V} {σ σ' : H} (e : tOne f a σ = some (v, σ')) : KeepF c (.type f) ∧ ∀ r s us, c.R r σ s.heap → VRs c.w.params r s.heap [a] us → ∀ Q E', Out c r s σ' v Q → wpAny c.M A (call (.type f) us []) Q E' s := by
  unfold tOne at e
  rcases ite_i e with ⟨rfl, e⟩ | ⟨_, e⟩
  · exact kt (as := []) one_range e
  rcases ite_i e with ⟨rfl, e⟩ | ⟨_, e⟩
  · exact kt (as := []) (one_list hh) e
  rcases ite_i e with ⟨rfl, e⟩ | ⟨_, e⟩
  · exact kt (as := []) one_tuple e
  rcases ite_i e with ⟨rfl, e⟩ | ⟨_, e⟩
  · exact kt (as := []) one_int e
  rcases ite_i e with ⟨rfl, e⟩ | ⟨_, e⟩
  · exact kt (as := []) one_str e
  rcases ite_i e with ⟨rfl, e⟩ | ⟨_, e⟩
  · exact kt (as := []) one_type e
  exact ns e
theorem b_two (hh : A.handled = none) {f : String} {a d v : V} {σ σ' : H} (e : bTwo f a d σ = some (v, σ')) : KeepF c (.builtin f) ∧ ∀ r s us, c.R r σ s.heap → VRs c.w.params r s.heap [a, d] us → ∀ Q E', Out c r s σ' v Q → wpAny c.M A (call (.builtin f) us []) Q E' s := by
  cases a with
  | int a => cases d with
    | int d =>
      rcases ite_i (p := f = "max") e with ⟨rfl, e⟩ | ⟨_, e⟩
      · refine ⟨.builtin, fun r s us R x Q E' O => ?_⟩
        refine k23 (x.two) fun u u' q9 x1 y1 => ?_; subst q9
        (refine sp e fun q52 q53 => ?_; subst q52; subst q53; clear e)
        exact bi_max2 hh R x1 y1 O
      · exact ns e
    | _ => exact ns e
  | _ => exact ns e
theorem t_two {f : String} {a d v : V} {σ σ' : H} (e : tTwo f a d σ = some (v, σ')) : KeepF c (.type f) ∧ ∀ r s us, c.R r σ s.heap → VRs c.w.params r s.heap [a, d] us → ∀ Q E', Out c r s σ' v Q → wpAny c.M A (call (.type f) us []) Q E' s := by
  cases a with
  | int a => cases d with
    | int d =>
      rcases ite_i (p := f = "range") e with ⟨rfl, e⟩ | ⟨_, e⟩
      · refine ⟨.type, fun r s us R x Q E' O => ?_⟩
        refine k23 (x.two) fun u u' q10 x1 y1 => ?_; subst q10
        refine k02 (if_some e) fun hf e => ?_
        cases e
        exact bi_range2 R x1 y1 O
      · exact ns e
    | _ => exact ns e
  | _ => exact ns e
theorem bi_ok (hh : A.handled = none) (hs : SortOk c A) : BiOk c A := by
  intro f as σ v σ' e
  cases f with
  | builtin f => cases as with
    | nil => exact ns e
    | cons a as => cases as with
      | nil => exact b_one hh hs e
      | cons d as => cases as with
        | nil => exact b_two hh e
        | cons _ _ => exact ns e
  | type f => cases as with
    | nil => exact ns e
    | cons a as => cases as with
      | nil => exact t_one hh e
      | cons d as => cases as with
        | nil => exact t_two e
        | cons _ _ => exact ns e
  | _ => exact ns e
end
end MI
end TMS38
section TMS39
open PySem PySem.Spec PySem.Calls PyProof.Rows PySem.W
set_option linter.unusedVariables false
namespace MI
section
variable {c : Cx} {A : Around} {E' : Value → Shared → Prop} {s : Shared} {r : Rh} {σ σ' : H} {v w : V} {u u' : Value}
theorem get_list {name : Str} {id : String} {pl : Sem Bool} {Q : Value × List Value → Shared → Prop} (slot : Slot "list" name id) (hty : typeOf (.builtin id) = pure (.type "method_descriptor")) {a : Addr} {items : List Value} {n : Nat} (hg : s.heap.get? a = some (lstO items n)) (h : Q (.builtin id, [.ref a]) s) : wpAny c.M A (getMethod (.ref a) name pl) Q E' s :=
  getMethod_builtin ⟨_, hg, rfl⟩ PySem.F.plainAttrs_list slot hty (fun b e => by cases e; exact ⟨_, hg, rfl⟩) h
theorem get_dict {name : Str} {id : String} {pl : Sem Bool} {Q : Value × List Value → Shared → Prop} (slot : Slot "dict" name id) (hty : typeOf (.builtin id) = pure (.type "method_descriptor")) {a : Addr} {es : List DictEntry} {n : Nat} (hg : s.heap.get? a = some (dctO es n)) (h : Q (.builtin id, [.ref a]) s) : wpAny c.M A (getMethod (.ref a) name pl) Q E' s :=
  getMethod_builtin ⟨_, hg, rfl⟩ PySem.F.plainAttrs_dict slot hty (fun b e => by cases e; exact ⟨_, hg, rfl⟩) h
end
end MI
end TMS39
section TMS40
open PySem PySem.Spec PySem.Calls PyProof.Rows PySem.W
set_option linter.unusedVariables false
namespace MI
theorem txtEq_eq {a b : Txt} (h : txtEq a b = true) : a = b := txtEq_iff.mp h
theorem name_of {c : Cx} (hOk : c.Ok) {x : Nat} {name : Str} {m : Txt} (hx : c.t.ids[x]? = some name) (hm : c.Γ.ids[x]? = some m) : name = stO m := by
  rw [hOk.ids, List.getElem?_map, hx] at hm
  (refine si hm fun q5 => ?_; subst q5; clear hm)
  cases name; simp [stO]
theorem n_append : stO [97, 112, 112, 101, 110, 100] = ("append" : Str) := by decide +kernel
theorem n_pop : stO [112, 111, 112] = ("pop" : Str) := by decide +kernel
theorem n_get : stO [103, 101, 116] = ("get" : Str) := by decide +kernel
theorem n_search : stO [115, 101, 97, 114, 99, 104] = ("search" : Str) := by decide +kernel
theorem n_join : stO [106, 111, 105, 110] = ("join" : Str) := by decide +kernel
theorem n_lower : stO [108, 111, 119, 101, 114] = ("lower" : Str) := by decide +kernel
theorem n_upper : stO [117, 112, 112, 101, 114] = ("upper" : Str) := by decide +kernel
theorem n_find : stO [102, 105, 110, 100] = ("find" : Str) := by decide +kernel
theorem n_split : stO [115, 112, 108, 105, 116] = ("split" : Str) := by decide +kernel
end MI
end TMS40
section TMS41
open PySem PySem.Spec PySem.Calls PyProof.Rows PySem.W
set_option linter.unusedVariables false
namespace MI
/-- what a pattern's search is to tell -/
structure SearchOk (c : Cx) (A : Around) : Prop where
  get : ∀ {a : Addr} {s : Shared}, c.Γ.pats.contains a = true → (∀ b o, c.h₀.get? b = some o → s.heap.get? b = some o) → ∀ {Q E' pl}, (∀ tk, Q (.builtin "re.Pattern.search", [.ref a]) { s with toks := tk }) → wpAny c.M A (getMethod (.ref a) ("search" : Str) pl) Q E' s
  run : ∀ {a : Addr} {x : Txt} {t : Tok} {s : Shared}, c.Γ.pats.contains a = true → (∀ b o, c.h₀.get? b = some o → s.heap.get? b = some o) → noCtl x = true → ∀ {Q E'}, (∀ tk, Q .none { s with toks := tk }) → wpAny c.M A (call (.builtin "re.Pattern.search") [.ref a, .str (stO x) t]) Q E' s

section
variable {c : Cx} {A : Around} {cf : Cf}
theorem KwR.none_inv {r : Rh} {h : Heap} {kit : List (Str × Value)} (x : KwR c r h [] kit) : kit = [] := by cases x; rfl

noncomputable abbrev MeAt (c : Cx) (A : Around) (cf : Cf) (m : Meth) (u : Value) (name : Str) (r : Rh) (s : Shared) : Prop := ∃ f first, KeepF c f ∧ (∀ Q E' pl, (∀ tk, Q (f, first) { s with toks := tk }) → wpAny c.M A (getMethod u name pl) Q E' s) ∧
    ∀ as ks r' σ₁ σ' s' v items kit, applyMeth c.Γ cf m as ks σ₁ = some (v, σ') → Step r s.heap r' s'.heap → c.R r' σ₁ s'.heap → VRs c.w.params r' s'.heap as items → KwR c r' s'.heap ks kit → ∀ Q E', Out c r' s' σ' v Q → wpAny c.M A (call f (first ++ items) kit) Q E' s'
theorem one_arg {P : Params} {r : Rh} {h : Heap} {as : List V} {items : List Value} {f : V → Option (V × H)} {v : V} {σ' : H} (e : (match as with
  | [v] => f v
  | _ => Option.none) = some (v, σ')) (x : VRs P r h as items) : ∃ a u, as = [a] ∧ items = [u] ∧ VR P r h a u ∧ f a = some (v, σ') := by
  cases as with
  | nil => exact ns e
  | cons a as => cases as with
    | nil => obtain ⟨u, rfl, x1⟩ := x.one; exact ⟨a, u, rfl, rfl, x1, e⟩
    | cons _ _ => exact ns e
theorem no_arg {P : Params} {r : Rh} {h : Heap} {as : List V} {items : List Value} {f : Option (V × H)} {v : V} {σ' : H} (e : (match as with
  | [] => f
  | _ => Option.none) = some (v, σ')) (x : VRs P r h as items) : items = [] ∧ f = some (v, σ') := by
  cases as with
  | nil => cases x; exact ⟨rfl, e⟩
  | cons a as => exact ns e
theorem strOf_i {P : Params} {r : Rh} {h : Heap} {v : V} {u : Value} {p : Txt} (x : VR P r h v u) (e : strOf v = some p) : v = .str p ∧ ∃ t, u = .str (stO p) t := by
  cases v with
  | str q => (refine si e fun q11 => ?_; subst q11; clear e); exact ⟨rfl, x.str_inv⟩
  | _ => exact ns e
theorem no_kw {ks : List (Nat × V)} {α : Type} {x : Option α} {y : α} {r : Rh} {h : Heap} {kit : List (Str × Value)} (k : KwR c r h ks kit) (e : (if ks.isEmpty = true then x else .none) = some y) : kit = [] ∧ x = some y := by
  cases ks with
  | nil => exact ⟨k.none_inv, e⟩
  | cons _ _ => exact ns e
theorem me_lst (hOk : c.Ok) {i x : Nat} {m : Txt} {name : Str} {u : Value} {r : Rh} {σ : H} {s : Shared} {xs : List V} (hi : σ[i]? = some (.list xs)) (hm : c.Γ.ids[x]? = some m) (hl : listMeths.any (txtEq m) = true) (hx : c.t.ids[x]? = some name) (R : c.R r σ s.heap) (y : c.V r s.heap (.ref i) u) : MeAt c A cf (.lst i m) u name r s := by
  refine k35 (R.listAt hi y) fun a its n q1 hp hg hxs hz => ?_; subst q1
  have hname := name_of hOk hx hm
  rcases Bool.or_eq_true_iff.mp hl with h1 | h1
  · have := txtEq_eq h1; subst this
    rw [hname, n_append]
    refine ⟨.builtin "list.append", [.ref a], .builtin, fun Q E' pl h => get_list PySem.F.slot_list_append PySem.F.type_list_append hg (h s.toks), fun as ks r' σ₁ σ' s' v items kit e S R' x' k' Q E' O => ?_⟩
    refine k02 (no_kw k' e) fun q2 e => ?_; subst q2
    refine k12 (Option.bind_eq_some_iff.mp e) fun xs' hx' e => ?_
    refine k12 (lstOf_i hx') fun i' hi' hxs' => ?_
    cases hi'
    refine k24 (one_arg (f := fun v => setL σ₁ i (xs' ++ [v]) .none) e x') fun w u1 q3 q4 x1 e => ?_; subst q3; subst q4
    exact m_append R' hxs' (.ref i (a, a) (S.at_ob hp)) x1 e O
  · have h1 := (Bool.or_false _).symm.trans h1
    have := txtEq_eq h1; subst this
    rw [hname, n_pop]
    refine ⟨.builtin "list.pop", [.ref a], .builtin, fun Q E' pl h => get_list PySem.F.slot_list_pop PySem.F.type_list_pop hg (h s.toks), fun as ks r' σ₁ σ' s' v items kit e S R' x' k' Q E' O => ?_⟩
    refine k02 (no_kw k' e) fun q5 e => ?_; subst q5
    refine k12 (Option.bind_eq_some_iff.mp e) fun xs' hx' e => ?_
    refine k12 (lstOf_i hx') fun i' hi' hxs' => ?_
    cases hi'
    refine k02 (no_arg (f := xs'.getLast?.bind fun v => setL σ₁ i xs'.dropLast v) e x') fun q6 e => ?_; subst q6
    refine k12 (Option.bind_eq_some_iff.mp e) fun w hw e => ?_
    exact m_pop R' hxs' (.ref i (a, a) (S.at_ob hp)) hw e O
end
end MI
end TMS41
section TMS42
open PySem PySem.Spec PySem.Calls PyProof.Rows PySem.W
set_option linter.unusedVariables false
set_option maxRecDepth 100000
namespace MI
section
variable {c : Cx} {A : Around} {cf : Cf}
theorem gs_join {E' : Value → Shared → Prop} {s : Shared} {pl : Sem Bool} {Q : Value × List Value → Shared → Prop} {x : Str} {t : Tok} (h : ∀ tk, Q (.builtin "str.join", [.str x t]) { s with toks := tk }) : wpAny c.M A (getMethod (.str x t) ("join" : Str) pl) Q E' s := by
  have h0 := h s.toks
  with_reducible exact PySem.GM.join h0
theorem gs_lower {E' : Value → Shared → Prop} {s : Shared} {pl : Sem Bool} {Q : Value × List Value → Shared → Prop} {x : Str} {t : Tok} (h : ∀ tk, Q (.builtin "str.lower", [.str x t]) { s with toks := tk }) : wpAny c.M A (getMethod (.str x t) ("lower" : Str) pl) Q E' s := by
  have h0 := h s.toks
  with_reducible exact PySem.GM.lower h0
theorem gs_upper {E' : Value → Shared → Prop} {s : Shared} {pl : Sem Bool} {Q : Value × List Value → Shared → Prop} {x : Str} {t : Tok} (h : ∀ tk, Q (.builtin "str.upper", [.str x t]) { s with toks := tk }) : wpAny c.M A (getMethod (.str x t) ("upper" : Str) pl) Q E' s := by
  have h0 := h s.toks
  with_reducible exact PySem.GM.upper h0
theorem gs_find {E' : Value → Shared → Prop} {s : Shared} {pl : Sem Bool} {Q : Value × List Value → Shared → Prop} {x : Str} {t : Tok} (h : ∀ tk, Q (.builtin "str.find", [.str x t]) { s with toks := tk }) : wpAny c.M A (getMethod (.str x t) ("find" : Str) pl) Q E' s := by
  have h0 := h s.toks
  with_reducible exact PySem.GM.find h0
theorem gs_split {E' : Value → Shared → Prop} {s : Shared} {pl : Sem Bool} {Q : Value × List Value → Shared → Prop} {x : Str} {t : Tok} (h : ∀ tk, Q (.builtin "str.split", [.str x t]) { s with toks := tk }) : wpAny c.M A (getMethod (.str x t) ("split" : Str) pl) Q E' s := by
  have h0 := h s.toks
  with_reducible exact PySem.GM.split h0
/-- what a str's split is to tell -/
noncomputable def SplitOk (c : Cx) (A : Around) : Prop := ∀ {x : Txt} {ch : Nat} {σ σ' : H} {v : V} {r : Rh} {s : Shared} {t t' : Tok}, szOk x.length = true → mkL ((PySem.Txt.split (stT x) (stT [ch])).map fun y => V.str (tsT y)) σ = some (v, σ') → c.R r σ s.heap → ∀ {Q E'}, Out c r s σ' v Q → wpAny c.M A (call (.builtin "str.split") [.str (stO x) t, .str (stO [ch]) t']) Q E' s

theorem me_ent {w m : Txt} {f : Value} {name : Str} {t : Tok} {r : Rh} {s : Shared} (kf : KeepF c f) (g : ∀ Q E' pl, (∀ tk, Q (f, [.str (stO w) t]) { s with toks := tk }) → wpAny c.M A (getMethod (.str (stO w) t) name pl) Q E' s)
    (h : ∀ as r' σ₁ σ' s' v items, strMeth w m as σ₁ = some (v, σ') → c.R r' σ₁ s'.heap → VRs c.w.params r' s'.heap as items → ∀ Q E', Out c r' s' σ' v Q → wpAny c.M A (call f (.str (stO w) t :: items) []) Q E' s') : MeAt c A cf (.str w m) (.str (stO w) t) name r s := by
  refine ⟨f, [.str (stO w) t], kf, g, fun as ks r' σ₁ σ' s' v items kit e S R' x' k' Q E' O => ?_⟩
  refine k02 (no_kw k' e) fun q1 e => ?_; subst q1
  exact h as r' σ₁ σ' s' v items e R' x' Q E' O
theorem me_join {w : Txt} {t : Tok} {r : Rh} {s : Shared} : MeAt c A cf (.str w [106, 111, 105, 110]) (.str (stO w) t) ("join" : Str) r s := me_ent .builtin (fun Q E' pl h => gs_join h) fun as r' σ₁ σ' s' v items e R' x' Q E' O => by
  refine k24 (one_arg (f := fun v => (lstOf σ₁ v).bind fun xs => (strsOf xs).bind fun l => if joinOk w l then some (.str (tsT (PySem.Txt.join (stT w) (l.map stT))), σ₁) else .none) e x') fun a u1 q2 q3 x1 e => ?_; subst q2; subst q3
  refine k12 (Option.bind_eq_some_iff.mp e) fun xs hx e2 => ?_
  refine k12 (Option.bind_eq_some_iff.mp e2) fun l hl e3 => ?_
  refine k02 (if_some e3) fun ok e4 => ?_
  refine k12 (lstOf_i hx) fun i q4 hi => ?_; subst q4
  cases e4
  exact m_join R' hi hl ok x1 O
theorem me_lower {w : Txt} {t : Tok} {r : Rh} {s : Shared} : MeAt c A cf (.str w [108, 111, 119, 101, 114]) (.str (stO w) t) ("lower" : Str) r s := me_ent .builtin (fun Q E' pl h => gs_lower h) fun as r' σ₁ σ' s' v items e R' x' Q E' O => by
  refine k02 (no_arg (f := if ascii w && szOk w.length then some (.str (w.map lowC), σ₁) else .none) e x') fun q5 e => ?_; subst q5
  refine k02 (if_some e) fun hz e => ?_
  refine k02 (and_i hz) fun h1 h2 => ?_
  cases e
  exact m_lower R' h1 h2 O
theorem me_upper {w : Txt} {t : Tok} {r : Rh} {s : Shared} : MeAt c A cf (.str w [117, 112, 112, 101, 114]) (.str (stO w) t) ("upper" : Str) r s := me_ent .builtin (fun Q E' pl h => gs_upper h) fun as r' σ₁ σ' s' v items e R' x' Q E' O => by
  refine k02 (no_arg (f := if ascii w && szOk w.length then some (.str (w.map upC), σ₁) else .none) e x') fun q6 e => ?_; subst q6
  refine k02 (if_some e) fun hz e => ?_
  refine k02 (and_i hz) fun h1 h2 => ?_
  cases e
  exact m_upper R' h1 h2 O
theorem me_find {w : Txt} {t : Tok} {r : Rh} {s : Shared} : MeAt c A cf (.str w [102, 105, 110, 100]) (.str (stO w) t) ("find" : Str) r s := me_ent .builtin (fun Q E' pl h => gs_find h) fun as r' σ₁ σ' s' v items e R' x' Q E' O => by
  obtain ⟨a, u1, rfl, rfl, x1, e⟩ := one_arg (f := fun v => (strOf v).map fun p => (.int (PySem.Txt.find (stT w) (stT p)), σ₁)) e x'
  obtain ⟨p, hp, e2⟩ := Option.map_eq_some_iff.mp e
  obtain ⟨rfl, t1, rfl⟩ := strOf_i x1 hp
  cases e2
  exact m_find R' O
theorem me_split (hs : SplitOk c A) {w : Txt} {t : Tok} {r : Rh} {s : Shared} : MeAt c A cf (.str w [115, 112, 108, 105, 116]) (.str (stO w) t) ("split" : Str) r s := me_ent .builtin (fun Q E' pl h => gs_split h) fun as r' σ₁ σ' s' v items e R' x' Q E' O => by
  obtain ⟨a, u1, rfl, rfl, x1, e⟩ := one_arg (f := fun v => (strOf v).bind fun p => (oneOf p).bind fun c => if szOk w.length then mkL ((PySem.Txt.split (stT w) (stT [c])).map fun x => .str (tsT x)) σ₁ else .none) e x'
  obtain ⟨p, hp, e2⟩ := Option.bind_eq_some_iff.mp e
  obtain ⟨ch, hc, e3⟩ := Option.bind_eq_some_iff.mp e2
  obtain ⟨hz, e4⟩ := if_i e3
  obtain ⟨rfl, t1, rfl⟩ := strOf_i x1 hp
  have : p = [ch] := by
    cases p with
    | nil => cases hc
    | cons x q => cases q with
      | nil => cases hc; rfl
      | cons _ _ => cases hc
  subst this
  exact hs hz e4 R' O
theorem me_str (hOk : c.Ok) (hs : SplitOk c A) {x : Nat} {m w : Txt} {name : Str} {u : Value} {r : Rh} {s : Shared} (hm : c.Γ.ids[x]? = some m) (hl : strMeths.any (txtEq m) = true) (hx : c.t.ids[x]? = some name) (y : c.V r s.heap (.str w) u) : MeAt c A cf (.str w m) u name r s := by
  refine k11 (y.str_inv) fun t q7 => ?_; subst q7
  have hname := name_of hOk hx hm
  rcases Bool.or_eq_true_iff.mp hl with h | h
  · have := txtEq_eq h; subst this
    rw [hname, n_join]
    exact me_join
  rcases Bool.or_eq_true_iff.mp h with h | h
  · have := txtEq_eq h; subst this
    rw [hname, n_lower]
    exact me_lower
  rcases Bool.or_eq_true_iff.mp h with h | h
  · have := txtEq_eq h; subst this
    rw [hname, n_upper]
    exact me_upper
  rcases Bool.or_eq_true_iff.mp h with h | h
  · have := txtEq_eq h; subst this
    rw [hname, n_find]
    exact me_find
  rcases Bool.or_eq_true_iff.mp h with h | h
  · have := txtEq_eq h; subst this
    rw [hname, n_split]
    exact me_split hs
  · exact ft h
end
end MI
end TMS42
section TMS43
open PySem PySem.Spec PySem.Calls PyProof.Rows PySem.W
open PySem.Builtin PySem.Builtin.Re
set_option linter.unusedVariables false
namespace MI

structure CodeOk (code : Array Nat) : Prop where
  i0 : Sre.ops[code.getD 0 0]? = some .INFO
  i2 : code.getD 2 0 = 4
  i3 : code.getD 3 0 = 1
  miss : ∀ c seen, 32 ≤ c → c < 127 → ∃ s', Sre.inSet code c code.size 5 true seen = .ok (false, s')

noncomputable def Said (m : Sre.M) : Prop := m.answer = some false ∧ m.frames = [] ∧ m.outcome = none

theorem admitted_none {m : Sre.M} (hc : CodeOk m.code) (ht : ∀ s, s < m.lim → 32 ≤ m.text.getD s 0 ∧ m.text.getD s 0 < 127) : ∀ (fuel s : Nat) (seen : Sre.Seen), ∃ s', Sre.M.admitted m fuel s seen = .ok (none, s')
  | 0, s, seen => ⟨seen, rfl⟩
  | fuel + 1, s, seen => by
    unfold Sre.M.admitted
    by_cases h : s ≥ m.lim
    · rw [if_pos h]; exact ⟨_, rfl⟩
    · rw [if_neg h]
      have ht' := ht s (by omega)
      refine k11 (hc.miss _ seen ht'.1 ht'.2) fun s' e => ?_
      rw [e]
      exact admitted_none hc ht fuel (s + 1) s'

theorem said_search {code text : Array Nat} {groups lim : Nat} (hc : CodeOk code) (hl : lim ≤ text.size) (ht : ∀ s, s < text.size → 32 ≤ text.getD s 0 ∧ text.getD s 0 < 127) : Said (Sre.forSearch code text groups 0 lim false) := by
  unfold Sre.forSearch
  dsimp only
  split
  · exact ⟨rfl, rfl, rfl⟩
  · unfold Sre.M.attemptFrom
    have hf : ∀ m : Sre.M, m.code = code → m.hasFirstSet = true := fun m e => by
      unfold Sre.M.hasFirstSet
      rw [e, hc.i0, hc.i2]; rfl
    rw [hf _ rfl]
    rw [if_neg (by simp)]
    have key : ∀ m : Sre.M, m.code = code → m.text = text → m.lim = lim → ∀ fuel s seen, ∃ s', Sre.M.admitted m fuel s seen = .ok (none, s') := fun m e1 e2 e3 fuel s seen =>
      admitted_none (by rw [e1]; exact hc) (fun s hs => by rw [e2]; exact ht s (by rw [e3] at hs; omega)) fuel s seen
    split
    · rename_i s seen e
      refine (?_ : ∀ m fuel s0 seen0, Sre.M.admitted m fuel s0 seen0 = .ok (some s, seen) → m.code = code → m.text = text → m.lim = lim → False) _ _ _ _ e rfl rfl rfl |>.elim
      intro m fuel s0 seen0 e e1 e2 e3
      refine k11 (key m e1 e2 e3 fuel s0 seen0) fun s' e' => ?_
      rw [e'] at e
      cases e
    · exact ⟨rfl, rfl, rfl⟩
    · rename_i why e
      refine (?_ : ∀ m fuel s0 seen0, Sre.M.admitted m fuel s0 seen0 = .error why → m.code = code → m.text = text → m.lim = lim → False) _ _ _ _ e rfl rfl rfl |>.elim
      intro m fuel s0 seen0 e e1 e2 e3
      refine k11 (key m e1 e2 e3 fuel s0 seen0) fun s' e' => ?_
      rw [e'] at e
      cases e

section
variable {M : Model} {A : Around} {E : Value → Shared → Prop} {s : Shared}
theorem wp_rules {b : Nat → PUnit → Sem (ForInStep PUnit)} (hb : ∀ i (Q' : ForInStep PUnit → Shared → Prop), Q' (.yield ⟨⟩) s → wpAny M A (b i ⟨⟩) Q' E s) : ∀ (l : List Nat) {Q : PUnit → Shared → Prop}, Q ⟨⟩ s → wpAny M A (forIn l PUnit.unit b) Q E s
  | [], Q, h => by rw [List.forIn_nil]; exact wpAny_pure h
  | i :: l, Q, h => by
    rw [List.forIn_cons]
    exact wpAny_bind (hb _ _ (wp_rules hb l h))

theorem runToEnd_said {m : Sre.M} (hm : Said m) {Q : Option Sre.M → Shared → Prop} (h : Q none s) : wpAny M A (reRunToEnd m) Q E s := by
  refine k03 hm fun h1 h2 h3 => ?_; clear hm
  have hst : m.step = { m with outcome := some .failed } := by
    unfold Sre.M.step
    rw [h3, h1, h2]
    rfl
  have hrun : m.runFor 4 = { m with outcome := some .failed } := by
    unfold Sre.M.runFor
    rw [h3, hst]
    rfl
  have hdr : reDrive (2 ^ 64) m = pure { m with outcome := some .failed } := by
    show reDrive (18446744073709551615 + 1) m = _
    unfold reDrive
    show (if (m.runFor 4).outcome.isSome = true then pure (m.runFor 4) else _) = _
    rw [hrun]
    rfl
  unfold reRunToEnd
  rw [hdr]
  refine wpAny_bind (wpAny_pure ?_)
  refine wpAny_bind (wp_rules (fun i Q' hq => ?_) _ (wpAny_pure h))
  split
  · exact wpAny_bind (wpAny_rule (wpAny_pure hq))
  · exact wpAny_pure hq
end
end MI
end TMS43
section TMS44
open PySem PySem.Spec PySem.Calls PyProof.Rows PySem.W
open PySem.Builtin PySem.Builtin.Re
set_option linter.unusedVariables false
set_option maxRecDepth 100000
namespace MI
theorem plainAttrs_pat : PlainAttrs "re.Pattern" :=
  ⟨⟨"object.__getattribute__", by rw [typeLookup_type, builtinLookup_eq_fast]; kernel_rfl, by decide +kernel⟩, by rw [typeLookup_type, builtinLookup_eq_fast]; kernel_rfl⟩
theorem slot_pat_search : Slot "re.Pattern" "search" "re.Pattern.search" :=
  .of (owner := "re.Pattern") (n := "search") (by rw [typeLookup_type, builtinLookup_eq_fast]; kernel_rfl) (by decide +kernel) (by decide +kernel) (by decide +kernel)
    (by first | exact .inl (by decide +kernel) | exact .inr (by decide +kernel)) (by rw [isSubtype_type]; kernel_rfl)
theorem type_pat_search : typeOf (.builtin "re.Pattern.search") = pure (.type "method_descriptor") := by show builtinType _ = _; rw [builtinType_eq_fast]; kernel_rfl
theorem entry_pat_search : entryFor table "re.Pattern.search" = some Builtin.«re.Pattern.search» := entryFor_of_tree (by kernel_rfl)
theorem args_pat_search_2 (a b : Value) : argsOk "re.Pattern.search" ⟨[a, b], []⟩ := by
  unfold argsOk; kernel_rfl

/-- a compiled pattern that stands in a heap -/
structure PatAt (h : Heap) (a : Addr) : Prop where
  pa : ∃ p f g x y cd ct kd sl, reRawNat g = 0 ∧ reRawNat kd = 0 ∧ h.get? a = some { cls := .type "re.Pattern", dict := none, data := .fields #[p, f, g, x, y, .ref cd, kd], slots := sl } ∧
    ∃ o items n, h.get? cd = some o ∧ o.data = .seq items n ∧ items.map reRawOf = ct ∧ CodeOk (ct.map (·.toNat))

theorem noCtl_mem {x : Txt} (h : noCtl x = true) : ∀ k, k < (stO x).cps.size → 32 ≤ (stO x).cps.getD k 0 ∧ (stO x).cps.getD k 0 < 127 := fun k hk => by
  have hk' : k < x.length := by simpa [stO] using hk
  have e : (stO x).cps.getD k 0 = x[k] := by simp [stO, Array.getD, hk']
  rw [e]
  have := List.all_eq_true.mp h x[k] (List.getElem_mem hk')
  rw [Bool.and_eq_true] at this
  exact ⟨Nat.le_of_ble_eq_true this.1, Nat.le_of_ble_eq_true this.2⟩

section
variable {prog : Program} {w : World} {A : Around} {E' : Value → Shared → Prop} {s : Shared}
theorem pat_get {a : Addr} (H : PatAt s.heap a) {Q : Value × List Value → Shared → Prop} {pl : Sem Bool} (h : Q (.builtin "re.Pattern.search", [.ref a]) s) : wpAny (model prog w) A (getMethod (.ref a) ("search" : Str) pl) Q E' s := by
  obtain ⟨p, f, g, x, y, cd, ct, kd, sl, _, _, ho, _⟩ := H.pa
  exact getMethod_builtin ⟨_, ho, rfl⟩ plainAttrs_pat slot_pat_search type_pat_search (fun b e => by cases e; exact ⟨_, ho, rfl⟩) h

theorem seqItems_at {M : Model} {E : Value → Shared → Prop} {a : Addr} {o : Obj} {xs : Array Value} {n : Nat} (ho : s.heap.get? a = some o) (hd : o.data = .seq xs n) {Q : Option (Array Value) → Shared → Prop} (h : Q (some xs) s) : wpAny M A (seqItems? (.ref a)) Q E s := by
  unfold seqItems?
  refine wpAny_bind (wpAny_load ho ?_)
  rw [hd]
  exact wpAny_pure h
theorem pat_target {M : Model} {a : Addr} {fs : Array Value} {sl : Array (Option Value)} {cd : Addr} {o : Obj} {items : Array Value} {n : Nat} {ct : Array Int} {t : Tok} {x : Str}
    (ho : s.heap.get? a = some { cls := .type "re.Pattern", dict := none, data := .fields fs, slots := sl }) (h2 : reRawNat (fs.getD 2 .none) = 0) (h5 : fs.getD 5 .none = .ref cd) (h6 : reRawNat (fs.getD 6 .none) = 0) (hc : s.heap.get? cd = some o) (hd : o.data = .seq items n) (hi : items.map reRawOf = ct)
    {Q : ReTarget → Shared → Prop} (h : ∀ t' : ReTarget, t'.code = ct.map (·.toNat) → t'.text = x.cps → t'.groups = 0 → t'.pos = 0 → t'.lim ≤ x.cps.size → Q t' s) : wpAny M A (reTarget "re.Pattern.search" "search" ⟨[.ref a, .str x t], []⟩) Q E' s := by
  unfold reTarget
  dsimp only
  refine wpAny_bind (wpAny_of_eq (show reNamed "re.Pattern.search" "search" ["string", "pos", "endpos"] 1 [.str x t] [] = pure [some (.str x t), none, none] from rfl) ?_)
  dsimp only
  refine wpAny_bind (wpAny_pure ?_)
  refine wpAny_bind (wpAny_pure ?_)
  unfold fieldsOf
  refine wpAny_bind (wpAny_bind (wpAny_load ho (wpAny_pure ?_)))
  refine wpAny_bind (wpAny_of_eq (show reTextOf (.str x t) = pure (x.cps, 0) from rfl) ?_)
  dsimp only
  rw [h6]
  rw [if_neg (by decide), if_neg (by decide)]
  refine wpAny_bind (wpAny_of_eq (show reNoCollectionInside (.str x t) 0 = pure () from rfl) ?_)
  unfold reRawItems
  rw [h5]
  refine wpAny_bind (wpAny_bind (seqItems_at hc hd (wpAny_pure ?_)))
  refine wpAny_pure (h _ ?_ rfl h2 ?_ ?_)
  · rw [← hi]; rfl
  · show min (0 : Int).toNat x.cps.size = 0
    simp
  · exact Nat.min_le_right _ _

theorem pat_run {a : Addr} (H : PatAt s.heap a) {x : Txt} {t : Tok} (hx : noCtl x = true) {Q : Value → Shared → Prop} (h : Q .none s) : wpAny (model prog w) A (call (.builtin "re.Pattern.search") [.ref a, .str (stO x) t]) Q E' s := by
  obtain ⟨p, f, g, x1, y, cd, ct, kd, sl, h2, h6, ho, o, items, n, hc, hd, hi, ok⟩ := H.pa
  refine wpAny_call_entry slot_pat_search ⟨_, ho, rfl⟩ entry_pat_search ?_ (args_pat_search_2 _ _)
  unfold Builtin.«re.Pattern.search»
  refine wpAny_bind (pat_target ho h2 rfl h6 hc hd hi fun t' e1 e2 e3 e4 e5 => ?_)
  unfold reAnswer
  refine wpAny_bind (runToEnd_said ?_ ?_)
  · rw [e1, e2, e4]
    exact said_search ok (by rw [e2] at *; exact e5) (noCtl_mem hx)
  · exact wpAny_pure ⟨_, rfl, h⟩
end
end MI
end TMS44
section TMS45
open PySem PySem.Spec PySem.Calls PyProof.Rows PySem.W
open PySem.Builtin PySem.Builtin.Re
set_option linter.unusedVariables false
set_option maxRecDepth 100000
namespace MI
theorem code_name : CodeOk #[14, 10, 4, 1, 1, 22, 0, 31, 16, 127, 0, 13, 7, 22, 0, 31, 16, 127, 0, 1] where
  i0 := rfl
  i2 := rfl
  i3 := rfl
  miss := fun c seen h1 h2 => by
    show ∃ s', (if (decide (0 ≤ c) && decide (c ≤ 31)) = true then _ else _) = _
    rw [if_neg (by simp; omega)]
    show ∃ s', (if (c == 127) = true then _ else _) = _
    rw [if_neg (by simp; omega)]
    exact ⟨_, rfl⟩
theorem code_value : CodeOk #[14, 14, 4, 1, 1, 9, 4294966783, 0, 0, 2147483648, 0, 0, 0, 0, 0, 13, 11, 9, 4294966783, 0, 0, 2147483648, 0, 0, 0, 0, 0, 1] where
  i0 := rfl
  i2 := rfl
  i3 := rfl
  miss := fun c seen h1 h2 => by
    have hb : ∀ c < 127, 32 ≤ c → ((#[14, 14, 4, 1, 1, 9, 4294966783, 0, 0, 2147483648, 0, 0, 0, 0, 0, 13, 11, 9, 4294966783, 0, 0, 2147483648, 0, 0, 0, 0, 0, 1] : Array Nat).getD (5 + (1 + c / 32)) 0).testBit (c % 32) = false := by decide +kernel
    have hb' := hb c h2 h1
    show ∃ s', (if (decide (c < 256) && _) = true then _ else _) = _
    rw [hb', Bool.and_false, if_neg (by simp)]
    exact ⟨_, rfl⟩

noncomputable def Cx.PatsOk (c : Cx) : Prop := ∀ a, c.Γ.pats.contains a = true → PatAt c.h₀ a
theorem PatAt.mono {h h' : Heap} {a : Addr} (k : ∀ b o, h.get? b = some o → h'.get? b = some o) (H : PatAt h a) : PatAt h' a := by
  obtain ⟨p, f, g, x1, y, cd, ct, kd, sl, h2, h6, ho, o, items, n, hc, hd, hi, ok⟩ := H.pa
  exact ⟨p, f, g, x1, y, cd, ct, kd, sl, h2, h6, k _ _ ho, o, items, n, k _ _ hc, hd, hi, ok⟩
theorem search_ok {c : Cx} {A : Around} (H : c.PatsOk) : SearchOk c A where
  get := fun {a s} hp k {Q E' pl} h => pat_get ((H a hp).mono k) (h s.toks)
  run := fun {a x t s} hp k hx {Q E'} h => pat_run ((H a hp).mono k) hx (h s.toks)

theorem strVals {P : Params} {r : Rh} {h : Heap} : ∀ (l : List (Str × Tok)), VRs P r h (l.map fun y => V.str (tsT y.1)) (strValues l)
  | [] => .nil
  | (x, t) :: l => by
    have := VR.str (P := P) (r := r) (h := h) (tsT x) t
    rw [stO_ts] at this
    exact .cons this (strVals l)
theorem split_ok {c : Cx} {A : Around} : SplitOk c A := by
  intro x ch σ σ' v r s t t' hz e R Q E' O
  have hz' := szOk_le hz
  have hlen := stO_length x
  have key : ∀ (l : List (Str × Tok)), l.map (·.1) = PySem.Txt.split (stO x) (stO [ch]) → ∀ k, Q (.ref s.heap.objs.size) { s with heap := s.heap.push { cls := .type "list", data := .seq (strValues l).toArray }, toks := k } := fun l hl k => by
    refine O.list (vs := l.map fun y => V.str (tsT y.1)) ?_ R (strVals l) k
    rw [← e]
    show mkL _ _ = mkL ((PySem.Txt.split (stO x) (stO [ch])).map _) _
    rw [← hl, List.map_map]; rfl
  have hy : ((stO [ch]).length == 0) = false := rfl
  have hn : (Builtin.Str.partsBetween (stO x) (Builtin.Str.occurrences (stO x) (stO [ch]) 0 (stO x).length ((stO x).length + 1)) (stO [ch]).length).length ≤ sizeLine := by
    have e1 := StrLaws.occ_length_le (stO x) (stO [ch]) 0 (stO x).length ((stO x).length + 1)
    have := sizeLine_ge
    rw [length_partsBetween]; omega
  cases h1 : (decide ((stO x).length < (stO [ch]).length) || decide (Builtin.Str.strKind (stO x) < Builtin.Str.strKind (stO [ch])))
  · cases hf : (Builtin.Str.occurrences (stO x) (stO [ch]) 0 (stO x).length ((stO x).length + 1)).isEmpty
    · refine call_meets PySem.F.slot_str_split (typeIs_str _ _ _) PySem.F.entry_str_split (PySem.F.args_str_split_2 _ _) (meets_str_split_sep (stO x) (stO [ch]) t t' h1 hy hf (by have := sizeLine_ge; omega) hn) ?_
      show Q (.ref s.heap.objs.size) { s with toks := _, heap := s.heap.push { cls := .type "list", data := .seq (strsFrom s.toks (Builtin.Str.partsBetween (stO x) (Builtin.Str.occurrences (stO x) (stO [ch]) 0 (stO x).length ((stO x).length + 1)) (stO [ch]).length)).toArray } }
      rw [strsFrom_eq]
      exact key (numbered s.toks _) ((numbered_texts _ _).trans ((if_neg (ne_true_of_eq_false h1)).trans (if_neg (ne_true_of_eq_false hf))).symm) _
    · refine call_meets PySem.F.slot_str_split (typeIs_str _ _ _) PySem.F.entry_str_split (PySem.F.args_str_split_2 _ _) (meets_str_split_not_found (stO x) (stO [ch]) t t' h1 hy hf) ?_
      exact key [(stO x, t)] ((if_neg (ne_true_of_eq_false h1)).trans (if_pos hf)).symm _
  · refine call_meets PySem.F.slot_str_split (typeIs_str _ _ _) PySem.F.entry_str_split (PySem.F.args_str_split_2 _ _) (meets_str_split_cannot_occur (stO x) (stO [ch]) t t' h1) ?_
    exact key [(stO x, t)] (if_pos h1).symm _
end MI
end TMS45
section TMS48
open PySem PySem.Spec PySem.Calls PyProof.Rows PySem.W
set_option linter.unusedVariables false
namespace MI.Srt

open KasT
theorem go_wp {n : Nat} {α : Type} {lt : Nat → Nat → Bool} {cmp : Nat → Nat → (Bool → Shared → Prop) → Shared → Prop} {s : Shared} (hc : ∀ i j (C : Bool → Shared → Prop), i < n → j < n → C (lt i j) s → cmp i j C s) {a : α} : ∀ {t : KasT α}, kasGo n lt t = some a → t.kasWp cmp (fun b s' => s' = s ∧ b = a) s
  | .ret b, h => ⟨rfl, Option.some.inj h⟩
  | .ask i j k, h => by
    refine k02 (if_i (b := Nat.blt i n && Nat.blt j n) (x := kasGo n lt (k (lt i j))) h) fun hb h => ?_
    refine k02 (and_i hb) fun h1 h2 => ?_
    exact hc i j _ (Nat.le_of_ble_eq_true h1) (Nat.le_of_ble_eq_true h2) (go_wp hc h)

section
variable {prog : Program} {w : World} {A : Around} {E : Value → Shared → Prop} {s : Shared}

/-- what the comparisons tell -/
noncomputable def AskOk (prog : Program) (w : World) (A : Around) (vs : List Value) (lt : Nat → Nat → Bool) (s : Shared) : Prop :=
  wpAny (model prog w) A (keyKind' vs.toArray) (fun κ s' => s' = s ∧ ∀ i j (C : Bool → Shared → Prop), i < vs.length → j < vs.length → C (lt i j) s → kas_ask prog w A κ vs i j C s) (fun _ _ => False) s

noncomputable def outOf (vs : List Value) (p : Array Nat) : List Value := p.toList.map fun i => vs.getD i Value.none

theorem range_getD (vs : List Value) : outOf vs (List.range vs.length).toArray = vs := by
  unfold outOf
  refine List.ext_getElem (by simp) fun i h1 h2 => ?_
  simp [h2]

/-- what the sort tells: the list as it is, or as the decisions order it -/
noncomputable def Told2 (vs : List Value) (lt : Nat → Nat → Bool) (p : Array Nat) : Prop := (vs.length < 2 ∧ p = (List.range vs.length).toArray) ∨ (2 ≤ vs.length ∧ kasGo vs.length lt (kas_sort vs.length) = some p ∧ p.size ≤ 64)
theorem sort_list {a : Addr} {vs : List Value} {n : Nat} {lt : Nat → Nat → Bool} {p : Array Nat} {P : Fin → Shared → Prop} (ho : s.heap.get? a = some (seqObj "list" vs.toArray n)) (h64 : vs.length < 64) (hp : Told2 vs lt p)
    (hask : 2 ≤ vs.length → ∀ h', (∀ b o, b ≠ a → s.heap.get? b = some o → h'.get? b = some o) → AskOk prog w A vs lt { s with heap := h' })
    (h : P (.done (.ret .none)) { s with heap := sortedHeap s.heap a vs (outOf vs p).toArray }) :
    wpAny (model prog w) A (Builtin.«list.sort» ⟨[.ref a], []⟩) P E s := by
  rw [list_sort_plain]
  have ha : a < s.heap.objs.size := Heap.lt_size ho
  have hline := sizeLine_ge
  refine wpAny_bind (listItems_at ho rfl ?_)
  refine wpAny_bind (listUpdate_at ho rfl ?_ (by rw [List.size_toArray]; omega) (Nat.zero_le _))
  obtain ⟨e1, ho1⟩ : ∃ e1, (s.heap.update a (Obj.mapSeq fun _ => #[])).get? a = some (seqObj "list" #[] e1) := ⟨_, get?_update_seq ho (fun _ => #[])⟩
  refine wpAny_bind (seqEpoch_at ho1 rfl ?_)
  refine wpAny_bind (wpAny_newTuple ?_ (by show vs.length ≤ _; omega))
  refine wpAny_bind (wpAny_newList ?_ (Nat.zero_le _))
  refine wpAny_holding ?_
  have keep : ∀ b o, b ≠ a → s.heap.get? b = some o → (((s.heap.update a (Obj.mapSeq fun _ => #[])).push (seqObj "tuple" vs.toArray 0)).push (seqObj "list" #[] 0)).get? b = some o := fun b o hb e =>
    Heap.get?_push_of_some _ (Heap.get?_push_of_some _ ((Heap.SameBut.update s.heap a (Obj.mapSeq fun _ => (#[] : Array Value))).2 b hb ▸ e))
  have ho6 : (((s.heap.update a (Obj.mapSeq fun _ => #[])).push (seqObj "tuple" vs.toArray 0)).push (seqObj "list" #[] 0)).get? a = some (seqObj "list" #[] e1) := Heap.get?_push_of_some _ (Heap.get?_push_of_some _ ho1)
  show wpAny (model prog w) A _ P E { s with heap := ((s.heap.update a (Obj.mapSeq fun _ => #[])).push (seqObj "tuple" vs.toArray 0)).push (seqObj "list" #[] 0) }
  dsimp only
  have hsz : vs.toArray.size = vs.length := by simp
  by_cases h2 : vs.toArray.size < 2
  · rw [if_pos h2, if_pos h2]
    refine wpAny_bind (wpAny_pure ?_)
    rw [StateT.run_pure]
    refine wpAny_bind (wpAny_pure ?_)
    dsimp only
    have hp' : p = (List.range vs.length).toArray := by
      rcases hp with hp | hp
      · exact hp.2
      · exact absurd hp.1 (by omega)
    have ho' := h
    rw [hp', range_getD] at ho'
    have harr : (arrOf (SortSt.mk' general' (vs.toArray.zip vs.toArray) #[] 7 none)).map (·.2) = vs.toArray := by
      show (vs.toArray.zip vs.toArray).map (·.2) = vs.toArray
      apply Array.ext
      · simp
      · intro i h1 h2; simp
    rw [harr]
    refine wpAny_bind (seqEpoch_at ho6 rfl ?_)
    refine wpAny_bind (listUpdate_at ho6 rfl ?_ (Nat.zero_le _) (by rw [hsz]; omega))
    simp only [bne_self_eq_false, Bool.false_eq_true, if_false]
    exact wpAny_pure ho'
  · rw [if_neg h2, if_neg h2]
    refine wpAny_bind (wpAny_mono (hask (by omega) _ keep) (fun κ s' hk => ?_) fun _ _ x => x.elim)
    refine k02 hk fun q1 hcmp => ?_; clear hk; subst q1
    have hp' : kasGo vs.length lt (kas_sort vs.length) = some p ∧ p.size ≤ 64 := by
      rcases hp with hp | hp
      · exact absurd hp.1 (by omega)
      · exact hp.2
    have safe := go_wp (n := vs.length) hcmp hp'.1
    refine wpAny_bind (wpAny_mono (kat_run (E := fun _ _ => False) (Q := fun st' s' => arrOf st' = p.map (kas_item (vs.toArray.zip vs.toArray)) ∧ failedOf st' = none ∧ s' = _) rfl (by omega) h64 (fun p' st' s' a1 a2 a3 a4 => by obtain ⟨q1, q2⟩ := a4; subst q2; exact ⟨a2, a3, q1⟩) safe) ?_ fun _ _ x => x.elim)
    rintro ⟨⟨⟩, st'⟩ s' ⟨har, hf, rfl⟩
    dsimp only
    have hout : (arrOf st').map (·.2) = (outOf vs p).toArray := kat_snds rfl har
    have hos : (outOf vs p).toArray.size = p.size := by
      unfold outOf
      rw [List.size_toArray, List.length_map, Array.length_toList]
    rw [hout]
    refine wpAny_bind (seqEpoch_at ho6 rfl ?_)
    refine wpAny_bind (listUpdate_at ho6 rfl ?_ (Nat.zero_le _) (by rw [hos]; have := hp'.2; omega))
    rw [hf]
    simp only [bne_self_eq_false, Bool.false_eq_true, if_false]
    exact wpAny_pure h

theorem sorted_gen {l : Addr} {vs : List Value} {lt : Nat → Nat → Bool} {p : Array Nat} {Q : Value → Shared → Prop} (hl : s.heap.IsList l vs.toArray) (h64 : vs.length < 64) (hp : Told2 vs lt p)
    (hask : 2 ≤ vs.length → ∀ h', (∀ b o, s.heap.get? b = some o → h'.get? b = some o) → AskOk prog w A.in1.in1 vs lt { s with heap := h' })
    (h : Q (.ref (s.heap.objs.size + 1)) { s with heap := sortedAll s.heap vs (outOf vs p).toArray }) :
    wpAny (model prog w) A (call (.builtin "sorted") [.ref l]) Q E s := by
  have hline := sizeLine_ge
  refine Calls.call_function_entry kind_sorted plain_sorted entry_sorted (args_sorted1 _) ?_
  unfold Builtin.«sorted»
  refine wpAny_bind (m := checkCount "sorted" 1 1 _) (wpAny_pure ?_)
  refine wpAny_bind (collect_list hl ?_ (by omega))
  refine wpAny_bind (wpAny_newList ?_ (by omega))
  have hsz : ((s.heap.push (seqObj "list" #[] 0)).update s.heap.objs.size (Obj.mapSeq (· ++ vs.toArray))).objs.size = s.heap.objs.size + 1 := by
    rw [Heap.size_update, size_push']
  have hoL : (((s.heap.push (seqObj "list" #[] 0)).update s.heap.objs.size (Obj.mapSeq (· ++ vs.toArray))).push (seqObj "list" vs.toArray 0)).get? (s.heap.objs.size + 1) = some (seqObj "list" vs.toArray 0) := by
    rw [← hsz]; exact Heap.get?_push_size _ rfl
  have keep : ∀ b o, s.heap.get? b = some o → (((s.heap.push (seqObj "list" #[] 0)).update s.heap.objs.size (Obj.mapSeq (· ++ vs.toArray))).push (seqObj "list" vs.toArray 0)).get? b = some o := fun b o q => by
    have hlt : b < s.heap.objs.size := Heap.lt_size q
    rw [Heap.get?_push_ne _ _ _ (by rw [hsz]; exact Nat.ne_of_lt (Nat.lt_succ_of_lt hlt)), Heap.get?_update_ne _ _ _ _ (Nat.ne_of_lt hlt), Heap.get?_push_ne _ _ _ (Nat.ne_of_lt hlt)]
    exact q
  show wpAny _ _ _ _ _ { s with heap := ((s.heap.push (seqObj "list" #[] 0)).update s.heap.objs.size (Obj.mapSeq (· ++ vs.toArray))).push (seqObj "list" vs.toArray 0) }
  rw [hsz]
  refine wpAny_bind (wpAny_holding (wpAny_call_entry slot_list_sort ⟨_, hoL, rfl⟩ entry_list_sort ?body (args_list_sort _)))
  case body =>
    refine sort_list (s := { s with heap := ((s.heap.push (seqObj "list" #[] 0)).update s.heap.objs.size (Obj.mapSeq (· ++ vs.toArray))).push (seqObj "list" vs.toArray 0) }) (lt := lt) (p := p) hoL h64 hp (fun h2 h' k => hask h2 h' fun b o e => k b o (Nat.ne_of_lt (Nat.lt_succ_of_lt (Heap.lt_size e))) (keep b o e)) ?_
    exact ⟨_, rfl, wpAny_pure ⟨_, rfl, h⟩⟩
end
end MI.Srt
end TMS48
section TMS49
open PySem PySem.Spec PySem.Calls PyProof.Rows PySem.W
set_option linter.unusedVariables false
namespace MI.Srt

theorem txtLt_cons (a b : Nat) (r q : Txt) : txtLt (a :: r) (b :: q) = true ↔ a < b ∨ (a = b ∧ txtLt r q = true) := by
  show (if Nat.beq a b = true then txtLt r q else Nat.blt a b) = true ↔ _
  by_cases h : a = b
  · subst h
    rw [if_pos (by simp)]
    simp
  · rw [if_neg (by simpa using h)]
    have : (Nat.blt a b = true) ↔ a < b := by unfold Nat.blt; rw [Nat.ble_eq]; exact Iff.rfl
    rw [this]
    simp [h]
theorem txtLt_irr : ∀ a : Txt, txtLt a a = false
  | [] => rfl
  | a :: r => by
    cases h : txtLt (a :: r) (a :: r)
    · rfl
    · rcases (txtLt_cons a a r r).mp h with h | ⟨_, h⟩
      · omega
      · rw [txtLt_irr r] at h; exact ft h
theorem txtLt_list : ∀ a b : Txt, txtLt a b = decide (a < b)
  | [], [] => rfl
  | [], b :: q => (decide_eq_true (List.nil_lt_cons b q)).symm
  | a :: r, [] => (decide_eq_false (List.not_lt_nil _)).symm
  | a :: r, b :: q => by
    have ih := txtLt_list r q
    rw [Bool.eq_iff_iff, txtLt_cons, ih]
    simp [List.cons_lt_cons_iff]

section
variable {prog : Program} {w : World} {A : Around} {E : Value → Shared → Prop} {s : Shared}
theorem lex2 {p q p' q' : Value} {ea eb la lb : Bool} {C : Bool → Shared → Prop} (h1 : ∀ Q : Bool → Shared → Prop, Q ea s → wpAny (model prog w) A (eqBool p q) Q (fun _ _ => False) s) (l1 : ∀ Q : Bool → Shared → Prop, Q la s → wpAny (model prog w) A (oneLt' true p q) Q (fun _ _ => False) s)
    (h2 : ∀ Q : Bool → Shared → Prop, Q eb s → wpAny (model prog w) A (eqBool p' q') Q (fun _ _ => False) s) (l2 : ∀ Q : Bool → Shared → Prop, Q lb s → wpAny (model prog w) A (oneLt' false p' q') Q (fun _ _ => False) s)
    (hc : C (if ea then (if eb then false else lb) else la) s) : KatLex prog w A true false C [(p, q), (p', q')] 0 s := by
  refine kat_cons (h1 _ ?_)
  cases ea with
  | false => exact kat_no (l1 _ hc)
  | true =>
    refine kat_yes (kat_cons (h2 _ ?_))
    cases eb with
    | false => exact kat_no (l2 _ hc)
    | true => exact kat_yes (kat_nil hc)

theorem lex_strs {a b c d : Txt} {t1 t2 t3 t4 : Tok} {C : Bool → Shared → Prop} (hc : C (ltV (.tup [.str a, .str b]) (.tup [.str c, .str d])) s) : KatLex prog w A true false C [(.str (stO a) t1, .str (stO c) t2), (.str (stO b) t3, .str (stO d) t4)] 0 s := by
  have lt : ∀ x y : Txt, decide ((stO x).cps.toList < (stO y).cps.toList) = txtLt x y := fun x y => by rw [txtLt_list]; rfl
  refine lex2 (ea := stO a == stO c) (eb := stO b == stO d) (la := txtLt a c) (lb := txtLt b d) (fun Q h => PyProof.Rows.eqBool_str h) (fun Q h => oneLt_str (by rw [lt]; exact h)) (fun Q h => PyProof.Rows.eqBool_str h) (fun Q h => kat_one _ _ (PyProof.Rows.lt_str (by rw [lt]; exact h))) ?_
  have e : ltV (.tup [.str a, .str b]) (.tup [.str c, .str d]) = (if stO a == stO c then (if stO b == stO d then false else txtLt b d) else txtLt a c) := by
    show (txtLt a c || (txtEq a c && txtLt b d)) = _
    rw [← txtEq_st, ← txtEq_st]
    by_cases h1 : a = c
    · subst h1
      rw [txtEq_iff.mpr rfl, txtLt_irr]
      by_cases h2 : b = d
      · subst h2; rw [txtEq_iff.mpr rfl, txtLt_irr]; rfl
      · rw [Bool.eq_false_iff.mpr fun h => h2 (txtEq_iff.mp h)]; rfl
    · rw [Bool.eq_false_iff.mpr fun h => h1 (txtEq_iff.mp h)]
      cases txtLt a c <;> rfl
  rw [← e]; exact hc
end
end MI.Srt
end TMS49
section TMS50
open PySem PySem.Spec PySem.Calls PyProof.Rows PySem.W
set_option linter.unusedVariables false
namespace MI.Srt

section
variable {prog : Program} {w : World} {A : Around} {s : Shared} {P : Params} {r : Rh}

theorem getD_some {α : Type} {l : List α} {i : Nat} {d v : α} (h : l[i]? = some v) : l.getD i d = v := by
  rw [List.getD_eq_getElem?_getD, h]; rfl
theorem VRs.at {h : Heap} {xs : List V} {vs : List Value} (x : VRs P r h xs vs) {i : Nat} (hi : i < vs.length) : ∃ v u, xs[i]? = some v ∧ vs[i]? = some u ∧ v ∈ xs ∧ VR P r h v u := by
  have hl : i < xs.length := by rw [← x.length]; exact hi
  refine k12 (x.get (List.getElem?_eq_getElem hl)) fun u hu hr => ?_
  exact ⟨_, u, List.getElem?_eq_getElem hl, hu, List.getElem_mem hl, hr⟩
theorem isStr_inv {v : V} (h : isStr v = true) : ∃ a, v = .str a := by
  cases v with
  | str a => exact ⟨a, rfl⟩
  | _ => exact ft h
theorem isSS_inv {v : V} (h : isSS v = true) : ∃ a b, v = .tup [.str a, .str b] := by
  cases v with
  | tup vs => cases vs with
    | nil => exact ft h
    | cons x r => cases r with
      | nil => exact ft h
      | cons y r =>
        refine k02 (and_i h) fun h1 h2 => ?_
        refine k02 (and_i h2) fun h2 h3 => ?_
        refine k11 (isStr_inv h1) fun a q => ?_; subst q
        refine k11 (isStr_inv h2) fun b q => ?_; subst q
        cases List.isEmpty_iff.mp h3
        exact ⟨a, b, rfl⟩
  | _ => exact ft h
theorem VR.SS_inv {h : Heap} {a b : Txt} {u : Value} (x : VR P r h (.tup [.str a, .str b]) u) : ∃ ad n t t', u = .ref ad ∧ h.get? ad = some (tupO [.str (stO a) t, .str (stO b) t'] n) := by
  refine k35 (x.tup_inv) fun items n ad q4 hg hm hxs hz => ?_; subst q4
  refine k23 hxs.inv fun u us q p p2 => ?_; subst q
  refine k23 p2.inv fun u' us q p' p3 => ?_; subst q
  cases p3.inv
  refine k11 (p.str_inv) fun t0 q5 => ?_; subst q5
  refine k11 (p'.str_inv) fun t1 q6 => ?_; subst q6
  exact ⟨ad, n, t0, t1, rfl, hg⟩
theorem tups_SS {h : Heap} {xs : List V} {vs : List Value} (x : VRs P r h xs vs) : (∀ v ∈ xs, isSS v = true) → ∃ fs, KatTups h vs fs ∧ fs.length = vs.length ∧ ∀ v ∈ fs, ∃ i t, v = .str i t :=
  x.ind (M := fun xs vs => (∀ v ∈ xs, isSS v = true) → ∃ fs, KatTups h vs fs ∧ fs.length = vs.length ∧ ∀ v ∈ fs, ∃ i t, v = .str i t) (fun _ => ⟨[], .nil, rfl, fun _ h => nomatch h⟩) fun a _ ih hx => by
    refine k13 (ih fun v hv => hx v (.tail _ hv)) fun fs t hl hf => ?_
    refine k21 (isSS_inv (hx _ (.head _))) fun i j q1 => ?_; subst q1
    refine k42 (VR.SS_inv a) fun ad n t0 t1 q hg => ?_; subst q
    exact ⟨.str (stO i) t0 :: fs, .cons hg rfl rfl rfl t, congrArg Nat.succ hl, fun v hv => (List.mem_cons.mp hv).elim (fun q => ⟨_, _, q⟩) (hf v)⟩

theorem ask_SS {xs : List V} {vs : List Value} (x : VRs P r s.heap xs vs) (hD : ∀ v ∈ xs, isSS v = true) (h2 : 2 ≤ vs.length) : AskOk prog w A vs (ltAt xs) s := by
  refine k13 (tups_SS x hD) fun fs tp hl hf => ?_
  unfold AskOk
  refine kat_kind (T := .type "str") tp (by omega) (fun v hv => ?_) (by decide) ⟨rfl, fun i j C hi hj hC => ?_⟩
  · refine k21 (hf v hv) fun i t q7 => ?_; subst q7
    exact Looks.of_pure rfl
  · refine k24 (VRs.at x hi) fun a u ea eu ma ra => ?_
    refine k24 (VRs.at x hj) fun b u' eb eu' mb rb => ?_
    replace hC : C (ltV (xs.getD i .none) (xs.getD j .none)) s := hC
    rw [getD_some ea, getD_some eb] at hC
    refine k21 (isSS_inv (hD _ ma)) fun a1 a2 q8 => ?_; subst q8
    refine k21 (isSS_inv (hD _ mb)) fun b1 b2 q9 => ?_; subst q9
    refine k42 (VR.SS_inv ra) fun ad n t t' q10 hg => ?_; subst q10
    refine k42 (VR.SS_inv rb) fun bd m k k' q11 hg' => ?_; subst q11
    unfold kas_ask
    rw [getD_some eu, getD_some eu']
    exact kat_lt hg rfl hg' rfl (lex_strs hC)
end

theorem out_rel {P : Params} {r : Rh} {h : Heap} {xs : List V} {vs : List Value} (x : VRs P r h xs vs) : ∀ (l : List Nat), VRs P r h (l.map fun i => xs.getD i .none) (l.map fun i => vs.getD i Value.none)
  | [] => .nil
  | i :: l => by
    refine .cons ?_ (out_rel x l)
    by_cases hi : i < vs.length
    · refine k24 (VRs.at x hi) fun a u ea eu ma ra => ?_
      dsimp only
      rw [getD_some ea, getD_some eu]
      exact ra
    · have h1 : xs.length ≤ i := by rw [← x.length]; exact Nat.le_of_not_lt hi
      dsimp only
      rw [List.getD_eq_getElem?_getD, List.getD_eq_getElem?_getD, List.getElem?_eq_none h1, List.getElem?_eq_none (Nat.le_of_not_lt hi)]
      exact .none
end MI.Srt
end TMS50
section TMS51
open PySem PySem.Spec PySem.Calls PyProof.Rows PySem.W
set_option linter.unusedVariables false
namespace MI

/-- a new list laid anywhere -/
theorem Out.listAt {c : Cx} {r : Rh} {s : Shared} {σ σ' : H} {v : V} {Q : Value → Shared → Prop} {vs : List V} {items : List Value} (O : Out c r s σ' v Q) (e : mkL vs σ = some (v, σ')) (R : c.R r σ s.heap)
    (x : VRs c.w.params r s.heap vs items) {h' : Heap} {D : Addr} {n : Nat} (k : ∀ b o, s.heap.get? b = some o → h'.get? b = some o) (hD : s.heap.get? D = .none) (hg : h'.get? D = some (lstO items n)) (tk : Nat) : Q (.ref D) { s with heap := h', toks := tk } := by
  refine k03 (mkL_eq e) fun hl q1 q2 => ?_; subst q1; subst q2
  have mv : Mv r s.heap { r with ob := r.ob ++ [(D, D)] } h' := Step.mv ⟨⟨_, rfl, fun q hq => by rw [List.mem_singleton.mp hq]; exact ⟨hD, hD⟩⟩, rfl, fun b ob e _ => k b ob e, fun b ob e => ⟨ob, k b ob e⟩⟩
  refine k02 (R.push (p := (D, D)) k hD hD (.list vs items n _ hg (x.mv mv) (by rw [x.length]; omega))) fun R' S' => ?_
  refine O _ _ _ tk R' S' ?_
  refine .ref _ (D, D) ?_
  show (r.ob ++ [_])[σ.length]? = _
  rw [← R.len, List.getElem?_append_right (Nat.le_refl _), Nat.sub_self]; rfl

theorem sort_sound {c : Cx} {A : Around} : SortOk c A := by
  intro i xs σ σ' v r s u hi hk e R x Q E' O
  refine k35 (R.listAt hi x) fun a items n q3 hp hg hxs hl => ?_; subst q3
  refine k02 (and_i hk) fun h64 hD => ?_
  have h64 : xs.length < 64 := Nat.le_of_ble_eq_true h64
  have hlen := hxs.length
  have go : ∀ p : Array Nat, Srt.Told2 items (ltAt xs) p → mkL (p.toList.map fun i => xs.getD i .none) σ = some (v, σ') → wpAny c.M A (call (.builtin "sorted") [.ref a] []) Q E' s := fun p hp e => by
    refine Srt.sorted_gen (isList_of hg) (by omega) hp (fun h2 h' k => Srt.ask_SS (hxs.step (Step.grow k)) (fun v hv => List.all_eq_true.mp hD v hv) h2) ?_
    refine k11 (sortedAll_at s.heap items (Srt.outOf items p).toArray) fun m hm => ?_
    exact O.listAt e R (Srt.out_rel hxs p.toList) (fun b o e => sortedAll_old e) (size_none s.heap (Nat.le_succ _)) hm s.toks
  unfold sortL at e
  by_cases h2 : Nat.blt xs.length 2 = true
  · rw [if_pos h2] at e
    refine go (List.range items.length).toArray (.inl ⟨by rw [hlen]; exact Nat.le_of_ble_eq_true h2, rfl⟩) ?_
    rw [hlen]
    have : ((List.range xs.length).toArray.toList.map fun i => xs.getD i .none) = xs := by
      refine List.ext_getElem (by simp) fun i h1 h2 => ?_
      simp [h2]
    rw [this]
    exact e
  · rw [if_neg h2] at e
    cases hg : kasGo xs.length (ltAt xs) (PySem.W.kas_sort xs.length) with
    | none => rw [hg] at e; exact ns e
    | some p =>
      rw [hg] at e
      refine k02 (if_i e) fun h3 e => ?_
      refine go p (.inr ⟨?_, by rw [hlen]; exact hg, Nat.le_of_ble_eq_true h3⟩) e
      rw [hlen]
      exact Nat.le_of_not_lt fun h => h2 (Nat.ble_eq_true_of_le h)
end MI
end TMS51
section TMS53
open PySem PySem.Spec PySem.Calls PyProof.Rows PySem.W
set_option linter.unusedVariables false
namespace MI
theorem mt_i {f : Txt → Option Meth} {o : Option Txt} {y : Meth} (e : (match o with
    | some m => f m
    | .none => .none) = some y) : ∃ m, o = some m ∧ f m = some y := by
  cases o with
  | none => exact ns e
  | some x => exact ⟨x, rfl, e⟩
theorem two_arg {as : List V} {f : V → V → Option (V × H)} {v : V} {σ' : H} (e : (match as with
  | [x, y] => f x y
  | _ => Option.none) = some (v, σ')) : ∃ a b, as = [a, b] ∧ f a b = some (v, σ') := by
  cases as with
  | nil => exact ns e
  | cons a as => cases as with
    | nil => exact ns e
    | cons b as => cases as with
      | nil => exact ⟨a, b, rfl, e⟩
      | cons _ _ => exact ns e
theorem me_dget {c : Cx} {A : Around} {cf : Cf} (hOk : c.Ok) {a : Addr} {s : Shared} {r : Rh} {σ : H} (h2 : (c.Γ.dicts.lookup a).isSome = true) (R : c.R r σ s.heap) : MeAt c A cf (.dget a) (.ref a) "get" r s := by
  refine k11 (Option.isSome_iff_exists.mp h2) fun kvs hk => ?_
  refine k02 (hOk.tab _ _ hk) fun hs hK => ?_
  refine k22 hK fun es n hK T => ?_
  have ho : s.heap.get? a = some (dctO es n) := R.base _ _ (c.X _ _ hK)
  refine ⟨.builtin "dict.get", [.ref a], .builtin, fun Q E' pl h => get_dict PySem.F.slot_dict_get PySem.F.type_dict_get ho (h s.toks), fun as ks r' σ₁ σ' s' v items kit e S R' x' k' Q E' O => ?_⟩
  refine k02 (no_kw k' e) fun q1 e1 => ?_; subst q1
  refine k22 (two_arg (f := fun v d => (strOf v).bind fun k => (c.Γ.dicts.lookup a).map fun kvs => ((tlook k kvs).getD d, σ₁)) e1) fun p d q2 e2 => ?_; subst q2
  refine k23 x'.two fun u1 u2 q3 x1 x2 => ?_; subst q3
  refine k12 (Option.bind_eq_some_iff.mp e2) fun k hk1 e3 => ?_
  refine k12 (Option.map_eq_some_iff.mp e3) fun kvs' hk' e4 => ?_
  refine k02 (strOf_i x1 hk1) fun q4 q5 => ?_
  refine k11 q5 fun t1 q5 => ?_; subst q5
  cases e4
  exact m_dget hOk.tab R' hk' x2 O
theorem me_search {c : Cx} {A : Around} {cf : Cf} (hP : c.PatsOk) {a : Addr} {s : Shared} {r : Rh} {σ : H} (h2 : c.Γ.pats.contains a = true) (R : c.R r σ s.heap) : MeAt c A cf (.search a) (.ref a) "search" r s := by
  refine ⟨.builtin "re.Pattern.search", [.ref a], .builtin, fun Q E' pl h => (search_ok (A := A) hP).get h2 R.base h, fun as ks r' σ₁ σ' s' v items kit e S R' x' k' Q E' O => ?_⟩
  refine k02 (no_kw k' e) fun q1 e1 => ?_; subst q1
  refine k24 (one_arg (f := fun v => (strOf v).bind fun s => if noCtl s then some (.none, σ₁) else .none) e1 x') fun w u1 q2 q3 x1 e2 => ?_; subst q3
  refine k12 (Option.bind_eq_some_iff.mp e2) fun k hk1 e3 => ?_
  refine k02 (if_some e3) fun hn e4 => ?_
  refine k02 (strOf_i x1 hk1) fun q4 q5 => ?_
  refine k11 q5 fun t1 q5 => ?_; subst q5
  cases e4
  exact (search_ok (A := A) hP).run h2 R'.base hn fun tk => O _ r' _ tk R' (Step.refl _ _) .none
theorem me_ok {c : Cx} {A : Around} {cf : Cf} (hOk : c.Ok) (hP : c.PatsOk) : MeOk c A cf := by
  intro ov x name m u r σ s hm hf hx R y
  show MeAt c A cf m u name r s
  cases ov with
  | ref i =>
    unfold methOf at hm
    dsimp only at hm
    cases hi : σ[i]? with
    | none => rw [hi] at hm; exact ns hm
    | some o =>
      rw [hi] at hm
      cases o with
      | inst C fs =>
        dsimp only at hm
        cases hl : look x fs with
        | some w => rw [hl] at hm; exact ns hm
        | none =>
          rw [hl] at hm
          refine k12 (Option.map_eq_some_iff.mp hm) fun f _ q => ?_
          exact absurd q.symm (hf f _)
      | list xs =>
        refine k12 (mt_i (o := c.Γ.ids[x]?) (f := fun m => if listMeths.any (txtEq m) then some (.lst i m) else .none) hm) fun m' hm' hm => ?_
        refine k02 (if_some hm) fun hl hm => ?_; subst hm
        exact me_lst hOk hi hm' hl hx R y
  | str w =>
    refine k12 (mt_i (o := c.Γ.ids[x]?) (f := fun m => if strMeths.any (txtEq m) then some (.str w m) else .none) hm) fun m' hm' hm => ?_
    refine k02 (if_some hm) fun hl hm => ?_; subst hm
    exact me_str hOk split_ok hm' hl hx y
  | cst w =>
    cases w with
    | ref a =>
      cases y.cst_inv
      refine k12 (mt_i (o := c.Γ.ids[x]?) (f := fun m => if txtEq m [103, 101, 116] && (c.Γ.dicts.lookup a).isSome then some (.dget a)
      else if txtEq m [115, 101, 97, 114, 99, 104] && c.Γ.pats.contains a then some (.search a) else .none) hm) fun m' hm' hm => ?_
      have hname := name_of hOk hx hm'
      rcases ite_i hm with ⟨hc, hm⟩ | ⟨_, hm⟩
      · cases hm
        refine k02 (and_i hc) fun h1 h2 => ?_
        cases txtEq_eq h1
        rw [hname, n_get]
        exact me_dget hOk h2 R
      · refine k02 (if_some hm) fun hc hm => ?_
        cases hm
        refine k02 (and_i hc) fun h1 h2 => ?_
        cases txtEq_eq h1
        rw [hname, n_search]
        exact me_search hP h2 R
    | _ => exact ns hm
  | _ => exact ns hm
end MI
end TMS53
section TMS54
open PySem PySem.Spec PySem.Calls PyProof.Rows PySem.W
set_option linter.unusedVariables false
namespace MI.Zp
open PySem.Builtin PySem.Builtin.SmallTypes

noncomputable abbrev Keep (L : List Addr) (h h' : Heap) : Prop := ∀ b o, b ∉ L → h.get? b = some o → h'.get? b = some o

section
variable {prog : Program} {w : World} {A : Around} {E : Value → Shared → Prop} {s : Shared}
theorem wpAny_loadIfAlive {M : Model} {a : Addr} {Q : Option Obj → Shared → Prop} (h : Q (s.heap.get? a) s) : wpAny M A (loadIfAlive a) Q E s :=
  fun Γ p _ => by
    unfold loadIfAlive
    rw [Sem.wp_loadIfAlive]
    exact h

theorem nextOf_range {it : Addr} {x left : Int} {Q : Value → Shared → Prop} (hit : IsRangeIter s.heap it x left 1) (hleft : 0 < left)
    (hQ : ∀ h', IsRangeIter h' it (x + 1) (left - 1) 1 → Heap.SameBut it s.heap h' → Q (.int x s.toks) { s with heap := h', toks := s.toks + 1 }) :
    wpAny (model prog w) A (nextOf (.ref it)) Q E s := by
  have hT : s.TypeIs (.ref it) "range_iterator" := ⟨_, hit, rfl⟩
  unfold nextOf
  refine wpAny_bind (wpAny_callSpecial?_slot (name := Str.ofString "__next__") hT F.slot_range_iterator_next
    (call_meets F.slot_range_iterator_next hT F.entry_range_iterator_next (F.args_range_iterator_next_1 _) (AutoRange.range_iterator___next___range_iterator_1 it x left 1 (by omega)) ⟨hit, ?_⟩))
  exact wpAny_pure (hQ _ (Heap.get?_update_self _ (Heap.get?_update_self _ hit rfl) rfl) ((Heap.SameBut.update ..).trans (Heap.SameBut.update ..)))

theorem nextOf_range_end {it : Addr} {x left : Int} {Q : Value → Shared → Prop} (hh : A.handled = none) (hit : IsRangeIter s.heap it x left 1) (hleft : left ≤ 0)
    (hE : ∀ h' e, Heap.ExtBut it s.heap h' → (∃ o, h'.get? e = some o ∧ o.cls = .type "StopIteration") → E (.ref e) { s with heap := h' }) :
    wpAny (model prog w) A (nextOf (.ref it)) Q E s := by
  have hT : s.TypeIs (.ref it) "range_iterator" := ⟨_, hit, rfl⟩
  unfold nextOf
  refine wpAny_bind (wpAny_callSpecial?_slot (name := Str.ofString "__next__") hT F.slot_range_iterator_next
    (wpAny_call_entry F.slot_range_iterator_next hT F.entry_range_iterator_next ?_ (F.args_range_iterator_next_1 _)))
  show wpAny _ _ (field (.ref it) 0 >>= _) _ _ s
  refine wpAny_bind (wpAny_field hit rfl (x := rawInt x) rfl ?_)
  show wpAny _ _ (field (.ref it) 1 >>= _) _ _ s
  refine wpAny_bind (wpAny_field hit rfl (x := rawInt left) rfl ?_)
  show wpAny _ _ (field (.ref it) 2 >>= _) _ _ s
  refine wpAny_bind (wpAny_field hit rfl (x := rawInt 1) rfl ?_)
  show wpAny _ _ (if left ≤ 0 then _ else _) _ _ s
  rw [if_pos hleft]
  refine wpAny_bind (wpAny_rule ?_)
  refine wpAny_bind ?_
  show wpAny _ _ (newExc (.type "StopIteration") [] >>= _) _ _ _
  refine wpAny_bind ?_
  simp only [newExc, newTuple]
  refine wpAny_bind (wpAny_newObj_type ?_ (by size_fits))
  refine wpAny_bind (m := firstArgMember _ _) (wpAny_of_eq (a := Value.none) (by first | rfl | (simp only [firstArgMember]; rfl)) ?_)
  refine wpAny_newObj_type ?_ (by size_fits)
  refine wpAny_raiseNew_none hh ?_
  exact hE _ _ (((Heap.ExtBut.refl it s.heap).push _).push _) ⟨_, Heap.get?_push_size _ rfl, rfl⟩
end
end MI.Zp
end TMS54
section TMS55
open PySem PySem.Spec PySem.Calls PyProof.Rows PySem.W
set_option linter.unusedVariables false
namespace MI.Zp
open PySem.Builtin PySem.Builtin.SmallTypes

noncomputable abbrev ZAt (h : Heap) (z : Addr) (f0 f1 : Value) (TI TO : Addr) : Prop := h.get? z = some { cls := .type "zip", dict := none, data := .fields #[f0, f1, .bool false, .ref TI, .ref TO], slots := #[] }
noncomputable abbrev Trip (h : Heap) (T : Addr) (a b c : Value) : Prop := h.get? T = some { cls := .type "tuple", data := .seq #[a, b, c] }

section
variable {prog : Program} {w : World} {A : Around} {E : Value → Shared → Prop} {s : Shared}
theorem updTrip {T : Addr} {a b c x : Value} {k : Nat} {Q : Unit → Shared → Prop} (hT : Trip s.heap T a b c)
    (h : ∀ h', h'.get? T = some { cls := .type "tuple", data := .seq ((#[a, b, c] : Array Value).setIfInBounds k x) } → Heap.SameBut T s.heap h' → Q () { s with heap := h' }) :
    wpAny (model prog w) A (updateSeq T (·.setIfInBounds k x)) Q E s := by
  refine wpAny_updateSeq hT rfl (h _ ?_ (Heap.SameBut.update ..))
  rw [Heap.get?_update_self _ hT rfl]
  simp [Obj.mapSeq]

structure Apart3 (z TI TO i0 i1 i2 l1 l2 : Addr) : Prop where
  nd : [z, TI, TO, i0, i1, i2].Nodup
  l1 : l1 ∉ [z, TO, i0, i1, i2]
  l2 : l2 ∉ [z, TO, i0, i1, i2]

theorem z_item1 {z TI TO i0 i1 i2 l1 l2 : Addr} {k : Nat} {x left : Int} {xs ys : Array Value} {u v a b c f1 : Value} {Q : Value → Shared → Prop} (D : Apart3 z TI TO i0 i1 i2 l1 l2)
    (hz : ZAt s.heap z .none f1 TI TO) (hTI : Trip s.heap TI (.ref i0) (.ref i1) (.ref i2)) (hTO : Trip s.heap TO a b c) (h0 : IsRangeIter s.heap i0 x left 1) (hlt : 0 < left)
    (h1 : s.heap.IsListIter i1 l1 k) (h2 : s.heap.IsListIter i2 l2 k) (hl1 : s.heap.IsList l1 xs) (hl2 : s.heap.IsList l2 ys) (hx : xs[k]? = some u) (hy : ys[k]? = some v)
    (hQ : ∀ h' T t tk f0 f1, ZAt h' z f0 f1 TI TO → (∃ T o, f0 = rawInt (T : Nat) ∧ h'.get? T = some o ∧ T ∉ [z, TO, i0, i1, i2]) → (∃ a b c, Trip h' TO a b c) → IsRangeIter h' i0 (x + 1) (left - 1) 1 → h'.IsListIter i1 l1 (k + 1) → h'.IsListIter i2 l2 (k + 1) → s.heap.get? T = none → Trip h' T (.int x t) u v →
      Keep [z, TO, i0, i1, i2] s.heap h' → Q (.ref T) { s with heap := h', toks := tk }) :
    wpAny (model prog w) A (Builtin.«zip.__next__» ⟨[.ref z], []⟩) (fun fin s' => ∃ v, fin = .done (.ret v) ∧ Q v s') E s := by
  obtain ⟨nd, dl1, dl2⟩ := D
  simp only [List.nodup_cons, List.mem_cons, List.not_mem_nil, or_false, not_or, List.nodup_nil, and_true, not_false_eq_true] at nd dl1 dl2
  obtain ⟨⟨n1, n2, n3, n4, n5⟩, ⟨n6, n7, n8, n9⟩, ⟨n10, n11, n12⟩, ⟨n13, n14⟩, n15⟩ := nd
  obtain ⟨p1, p2, p3, p4, p5⟩ := dl1
  obtain ⟨q1, q2, q3, q4, q5⟩ := dl2
  show wpAny _ _ (field (.ref z) 2 >>= _) _ _ _
  refine wpAny_bind (wpAny_field hz rfl (x := .bool false) rfl ?_)
  show wpAny _ _ (field (.ref z) 3 >>= _) _ _ _
  refine wpAny_bind (wpAny_field hz rfl (x := .ref TI) rfl ?_)
  refine wpAny_bind (wpAny_seqItems hTI rfl ?_)
  show wpAny _ _ (ownedTupleIsFree (.ref z) >>= _) _ _ _
  refine wpAny_bind ?_
  unfold ownedTupleIsFree
  refine wpAny_bind (wpAny_field hz rfl (x := .none) rfl (wpAny_pure ?_))
  simp only [if_true]
  refine wpAny_bind (wpAny_rule ?_)
  refine wpAny_bind (wpAny_field hz rfl (x := .ref TO) rfl ?_)
  refine wpAny_bind (wpAny_setField_rec hz (by simp) fun g₁ hz₁ hs₁ => ?_)
  replace hz₁ : ZAt g₁ z .ellipsis f1 TI TO := hz₁
  refine wpAny_bind ?_
  simp only [List.zipIdx_cons, List.zipIdx_nil, List.forIn_cons, List.forIn_nil]
  refine wpAny_bind (wpAny_bind (wpAny_onRaise ?_))
  show wpAny _ _ (nextOf (.ref i0) >>= _) _ _ _
  have h0₁ : IsRangeIter g₁ i0 x left 1 := hs₁.extBut _ _ (Ne.symm n3) h0
  refine wpAny_bind (nextOf_range h0₁ hlt fun g₂ h0₂ hs₂ => wpAny_pure ?_)
  have hTO₂ : Trip g₂ TO a b c := hs₂.extBut _ _ n10 (hs₁.extBut _ _ (Ne.symm n2) hTO)
  refine wpAny_bind (wpAny_seqItems hTO₂ rfl ?_)
  refine wpAny_bind (updTrip hTO₂ fun g₃ hTO₃ hs₃ => ?_)
  replace hTO₃ : Trip g₃ TO (.int x s.toks) b c := hTO₃
  refine wpAny_bind (wpAny_letGo (wpAny_pure ?_))
  refine wpAny_bind (wpAny_bind (wpAny_onRaise ?_))
  show wpAny _ _ (nextOf (.ref i1) >>= _) _ _ _
  have h1₃ : g₃.IsListIter i1 l1 k := ((h1.extBut hs₁.extBut (Ne.symm n4)).extBut hs₂.extBut (Ne.symm n13)).extBut hs₃.extBut (Ne.symm n11)
  have hl1₃ : g₃.IsList l1 xs := ((hl1.extBut hs₁.extBut p1).extBut hs₂.extBut p3).extBut hs₃.extBut p2
  refine wpAny_bind (wpAny_nextOf_list_item h1₃ hl1₃ hx fun g₄ h1₄ hs₄ => wpAny_pure ?_)
  have hTO₄ : Trip g₄ TO (.int x s.toks) b c := hs₄.extBut _ _ n11 hTO₃
  refine wpAny_bind (wpAny_seqItems hTO₄ rfl ?_)
  refine wpAny_bind (updTrip hTO₄ fun g₅ hTO₅ hs₅ => ?_)
  replace hTO₅ : Trip g₅ TO (.int x s.toks) u c := hTO₅
  refine wpAny_bind (wpAny_letGo (wpAny_pure ?_))
  refine wpAny_bind (wpAny_bind (wpAny_onRaise ?_))
  show wpAny _ _ (nextOf (.ref i2) >>= _) _ _ _
  have h2₅ : g₅.IsListIter i2 l2 k := ((((h2.extBut hs₁.extBut (Ne.symm n5)).extBut hs₂.extBut (Ne.symm n14)).extBut hs₃.extBut (Ne.symm n12)).extBut hs₄.extBut (Ne.symm n15)).extBut hs₅.extBut (Ne.symm n12)
  have hl2₅ : g₅.IsList l2 ys := ((((hl2.extBut hs₁.extBut q1).extBut hs₂.extBut q3).extBut hs₃.extBut q2).extBut hs₄.extBut q4).extBut hs₅.extBut q2
  refine wpAny_bind (wpAny_nextOf_list_item h2₅ hl2₅ hy fun g₆ h2₆ hs₆ => wpAny_pure ?_)
  have hTO₆ : Trip g₆ TO (.int x s.toks) u c := hs₆.extBut _ _ n12 hTO₅
  refine wpAny_bind (wpAny_seqItems hTO₆ rfl ?_)
  refine wpAny_bind (updTrip hTO₆ fun g₇ hTO₇ hs₇ => ?_)
  replace hTO₇ : Trip g₇ TO (.int x s.toks) u v := hTO₇
  refine wpAny_bind (wpAny_letGo (wpAny_pure (wpAny_pure ?_)))
  refine wpAny_bind (wpAny_seqItems hTO₇ rfl ?_)
  refine wpAny_bind (wpAny_newTuple ?_)
  have hsz : g₇.objs.size = s.heap.objs.size := by rw [hs₇.1, hs₆.1, hs₅.1, hs₄.1, hs₃.1, hs₂.1, hs₁.1]
  have hk : Keep [z, TO, i0, i1, i2] s.heap g₇ := fun b o hb e => by
    simp only [List.mem_cons, List.not_mem_nil, or_false, not_or] at hb
    obtain ⟨b1, b2, b3, b4, b5⟩ := hb
    exact hs₇.extBut _ _ b2 (hs₆.extBut _ _ b5 (hs₅.extBut _ _ b2 (hs₄.extBut _ _ b4 (hs₃.extBut _ _ b2 (hs₂.extBut _ _ b3 (hs₁.extBut _ _ b1 e))))))
  have hz₇ : ZAt g₇ z .ellipsis f1 TI TO := hs₇.extBut _ _ n2 (hs₆.extBut _ _ n5 (hs₅.extBut _ _ n2 (hs₄.extBut _ _ n4 (hs₃.extBut _ _ n2 (hs₂.extBut _ _ n3 hz₁)))))
  have h0₇ : IsRangeIter g₇ i0 (x + 1) (left - 1) 1 := hs₇.extBut _ _ (Ne.symm n10) (hs₆.extBut _ _ n14 (hs₅.extBut _ _ (Ne.symm n10) (hs₄.extBut _ _ n13 (hs₃.extBut _ _ (Ne.symm n10) h0₂))))
  have h1₇ : g₇.IsListIter i1 l1 (k + 1) := ((h1₄.extBut hs₅.extBut (Ne.symm n11)).extBut hs₆.extBut n15).extBut hs₇.extBut (Ne.symm n11)
  have h2₇ : g₇.IsListIter i2 l2 (k + 1) := h2₆.extBut hs₇.extBut (Ne.symm n12)
  have hzlt : z < g₇.objs.size := Heap.lt_size hz₇
  show wpAny _ _ (ownedTupleHandOut (.ref z) (.ref g₇.objs.size) >>= _) _ _ _
  refine wpAny_bind ?_
  unfold ownedTupleHandOut
  have hz₈ : ZAt (g₇.push { cls := .type "tuple", data := .seq #[.int x s.toks, u, v] }) z .ellipsis f1 TI TO := Heap.get?_push_of_some _ hz₇
  refine wpAny_bind (wpAny_setField_rec hz₈ (by simp) fun g₉ hz₉ hs₉ => ?_)
  replace hz₉ : ZAt g₉ z (rawInt g₇.objs.size) f1 TI TO := hz₉
  refine wpAny_setField_rec hz₉ (by simp) fun g₁₀ hz₁₀ hs₁₀ => ?_
  replace hz₁₀ : ZAt g₁₀ z (rawInt g₇.objs.size) (.bool false) TI TO := hz₁₀
  have up : ∀ c o, c ≠ z → g₇.get? c = some o → g₁₀.get? c = some o := fun c o c1 e => hs₁₀.extBut _ _ c1 (hs₉.extBut _ _ c1 (Heap.get?_push_of_some _ e))
  have hT : Trip g₁₀ g₇.objs.size (.int x s.toks) u v := hs₁₀.extBut _ _ (Nat.ne_of_gt hzlt) (hs₉.extBut _ _ (Nat.ne_of_gt hzlt) (Heap.get?_push_size _ rfl))
  have hout : g₇.objs.size ∉ [z, TO, i0, i1, i2] := by
    have e0 : i0 < g₇.objs.size := Heap.lt_size h0₇
    have e1 : i1 < g₇.objs.size := by obtain ⟨_, e, _⟩ := h1₇; exact Heap.lt_size e
    have e2 : i2 < g₇.objs.size := by obtain ⟨_, e, _⟩ := h2₇; exact Heap.lt_size e
    have e3 : TO < g₇.objs.size := Heap.lt_size hTO₇
    simp only [List.mem_cons, List.not_mem_nil, or_false, not_or]
    exact ⟨Nat.ne_of_gt hzlt, Nat.ne_of_gt e3, Nat.ne_of_gt e0, Nat.ne_of_gt e1, Nat.ne_of_gt e2⟩
  refine wpAny_pure ⟨_, rfl, ?_⟩
  exact hQ g₁₀ g₇.objs.size s.toks _ _ _ hz₁₀ ⟨_, _, rfl, hT, hout⟩ ⟨_, _, _, up _ _ (Ne.symm n2) hTO₇⟩ (up _ _ (Ne.symm n3) h0₇) (h1₇.at fun o e => up _ o (Ne.symm n4) e) (h2₇.at fun o e => up _ o (Ne.symm n5) e)
    (by rw [hsz]; exact size_none s.heap (Nat.le_refl _)) hT fun b o hb e => up b o (fun h => hb (by simp [h])) (hk b o hb e)
end
end MI.Zp
end TMS55
section TMS56
open PySem PySem.Spec PySem.Calls PyProof.Rows PySem.W
set_option linter.unusedVariables false
namespace MI.Zp
open PySem.Builtin PySem.Builtin.SmallTypes

section
variable {prog : Program} {w : World} {A : Around} {E : Value → Shared → Prop} {s : Shared}

/-- the owned tuple is handed out and lives -/
theorem z_busy {z TI TO T : Addr} {o : Obj} {f1 : Value} {Q : Bool → Shared → Prop} (hz : ZAt s.heap z (rawInt (T : Nat)) f1 TI TO) (hT : s.heap.get? T = some o)
    (hQ : ∀ h' f1, ZAt h' z (rawInt (T : Nat)) f1 TI TO → Heap.SameBut z s.heap h' → Q false { s with heap := h' }) : wpAny (model prog w) A (ownedTupleIsFree (.ref z)) Q E s := by
  unfold ownedTupleIsFree
  refine wpAny_bind (wpAny_field hz rfl (x := rawInt (T : Nat)) rfl ?_)
  show wpAny _ _ (loadIfAlive ((T : Int)).toNat >>= _) _ _ _
  refine wpAny_bind (wpAny_loadIfAlive ?_)
  rw [Int.toNat_natCast, hT]
  show wpAny _ _ (field (.ref z) 1 >>= _) _ _ _
  refine wpAny_bind (wpAny_field hz rfl (x := f1) rfl ?_)
  split
  · refine wpAny_bind (wpAny_setField_rec hz (by simp) fun h' hz' hs' => wpAny_pure (hQ h' _ hz' hs'))
  · exact wpAny_bind (wpAny_pure (wpAny_pure (hQ s.heap f1 hz ⟨rfl, fun _ _ => rfl⟩)))

theorem z_item2 {z TI TO i0 i1 i2 l1 l2 T : Addr} {o : Obj} {k : Nat} {x left : Int} {xs ys : Array Value} {u v f1 : Value} {Q : Value → Shared → Prop} (D : Apart3 z TI TO i0 i1 i2 l1 l2)
    (hz : ZAt s.heap z (rawInt (T : Nat)) f1 TI TO) (hT : s.heap.get? T = some o) (nT : T ∉ [z, TO, i0, i1, i2]) (hTI : Trip s.heap TI (.ref i0) (.ref i1) (.ref i2)) (hTO : ∃ a b c, Trip s.heap TO a b c) (h0 : IsRangeIter s.heap i0 x left 1) (hlt : 0 < left)
    (h1 : s.heap.IsListIter i1 l1 k) (h2 : s.heap.IsListIter i2 l2 k) (hl1 : s.heap.IsList l1 xs) (hl2 : s.heap.IsList l2 ys) (hx : xs[k]? = some u) (hy : ys[k]? = some v)
    (hQ : ∀ h' T t tk f0 f1, ZAt h' z f0 f1 TI TO → (∃ T o, f0 = rawInt (T : Nat) ∧ h'.get? T = some o ∧ T ∉ [z, TO, i0, i1, i2]) → (∃ a b c, Trip h' TO a b c) → IsRangeIter h' i0 (x + 1) (left - 1) 1 → h'.IsListIter i1 l1 (k + 1) → h'.IsListIter i2 l2 (k + 1) → s.heap.get? T = none → Trip h' T (.int x t) u v →
      Keep [z, TO, i0, i1, i2] s.heap h' → Q (.ref T) { s with heap := h', toks := tk }) :
    wpAny (model prog w) A (Builtin.«zip.__next__» ⟨[.ref z], []⟩) (fun fin s' => ∃ v, fin = .done (.ret v) ∧ Q v s') E s := by
  obtain ⟨nd, dl1, dl2⟩ := D
  obtain ⟨a, b, c, hTO⟩ := hTO
  simp only [List.nodup_cons, List.mem_cons, List.not_mem_nil, or_false, not_or, List.nodup_nil, and_true, not_false_eq_true] at nd dl1 dl2
  have nT' := nT
  simp only [List.mem_cons, List.not_mem_nil, or_false, not_or] at nT'
  obtain ⟨t1, t2, t3, t4, t5⟩ := nT'
  obtain ⟨⟨n1, n2, n3, n4, n5⟩, ⟨n6, n7, n8, n9⟩, ⟨n10, n11, n12⟩, ⟨n13, n14⟩, n15⟩ := nd
  obtain ⟨p1, p2, p3, p4, p5⟩ := dl1
  obtain ⟨q1, q2, q3, q4, q5⟩ := dl2
  show wpAny _ _ (field (.ref z) 2 >>= _) _ _ _
  refine wpAny_bind (wpAny_field hz rfl (x := .bool false) rfl ?_)
  show wpAny _ _ (field (.ref z) 3 >>= _) _ _ _
  refine wpAny_bind (wpAny_field hz rfl (x := .ref TI) rfl ?_)
  refine wpAny_bind (wpAny_seqItems hTI rfl ?_)
  show wpAny _ _ (ownedTupleIsFree (.ref z) >>= _) _ _ _
  refine wpAny_bind (z_busy hz hT fun g₁ f1' hz₁ hs₁ => ?_)
  simp only [Bool.false_eq_true, if_false]
  refine wpAny_bind ?_
  simp only [List.forIn_toArray, List.forIn_cons, List.forIn_nil]
  refine wpAny_bind (wpAny_bind (wpAny_holding ?_))
  show wpAny _ _ (nextOf (.ref i0) >>= _) _ _ _
  have h0₁ : IsRangeIter g₁ i0 x left 1 := hs₁.extBut _ _ (Ne.symm n3) h0
  refine wpAny_bind (nextOf_range h0₁ hlt fun g₂ h0₂ hs₂ => wpAny_pure ?_)
  refine wpAny_pure ?_
  dsimp only
  refine wpAny_bind (wpAny_bind (wpAny_holding ?_))
  show wpAny _ _ (nextOf (.ref i1) >>= _) _ _ _
  have h1₂ : g₂.IsListIter i1 l1 k := (h1.extBut hs₁.extBut (Ne.symm n4)).extBut hs₂.extBut (Ne.symm n13)
  have hl1₂ : g₂.IsList l1 xs := (hl1.extBut hs₁.extBut p1).extBut hs₂.extBut p3
  refine wpAny_bind (wpAny_nextOf_list_item h1₂ hl1₂ hx fun g₃ h1₃ hs₃ => wpAny_pure ?_)
  refine wpAny_pure ?_
  dsimp only
  refine wpAny_bind (wpAny_bind (wpAny_holding ?_))
  show wpAny _ _ (nextOf (.ref i2) >>= _) _ _ _
  have h2₃ : g₃.IsListIter i2 l2 k := ((h2.extBut hs₁.extBut (Ne.symm n5)).extBut hs₂.extBut (Ne.symm n14)).extBut hs₃.extBut (Ne.symm n15)
  have hl2₃ : g₃.IsList l2 ys := ((hl2.extBut hs₁.extBut q1).extBut hs₂.extBut q3).extBut hs₃.extBut q4
  refine wpAny_bind (wpAny_nextOf_list_item h2₃ hl2₃ hy fun g₄ h2₄ hs₄ => wpAny_pure ?_)
  refine wpAny_pure ?_
  dsimp only
  refine wpAny_pure ?_
  dsimp only
  refine wpAny_bind (wpAny_newTuple ?_ (show 3 ≤ sizeLine by decide))
  have hsz : g₄.objs.size = s.heap.objs.size := by rw [hs₄.1, hs₃.1, hs₂.1, hs₁.1]
  have hk : Keep [z, TO, i0, i1, i2] s.heap g₄ := fun b o hb e => by
    simp only [List.mem_cons, List.not_mem_nil, or_false, not_or] at hb
    obtain ⟨b1, b2, b3, b4, b5⟩ := hb
    exact hs₄.extBut _ _ b5 (hs₃.extBut _ _ b4 (hs₂.extBut _ _ b3 (hs₁.extBut _ _ b1 e)))
  have up : ∀ c o, g₄.get? c = some o → (g₄.push { cls := .type "tuple", data := .seq #[.int x s.toks, u, v] }).get? c = some o := fun c o e => Heap.get?_push_of_some _ e
  have hz₄ : ZAt g₄ z (rawInt (T : Nat)) f1' TI TO := hs₄.extBut _ _ n5 (hs₃.extBut _ _ n4 (hs₂.extBut _ _ n3 hz₁))
  have hTO₄ : Trip g₄ TO a b c := hs₄.extBut _ _ n12 (hs₃.extBut _ _ n11 (hs₂.extBut _ _ n10 (hs₁.extBut _ _ (Ne.symm n2) hTO)))
  have h0₄ : IsRangeIter g₄ i0 (x + 1) (left - 1) 1 := hs₄.extBut _ _ n14 (hs₃.extBut _ _ n13 h0₂)
  have h1₄ : g₄.IsListIter i1 l1 (k + 1) := h1₃.extBut hs₄.extBut n15
  refine wpAny_pure ⟨_, rfl, ?_⟩
  exact hQ _ g₄.objs.size s.toks _ _ _ (up _ _ hz₄) ⟨T, _, rfl, up _ _ (hk _ _ nT hT), nT⟩ ⟨_, _, _, up _ _ hTO₄⟩ (up _ _ h0₄) (h1₄.at fun o e => up _ o e) (h2₄.at fun o e => up _ o e)
    (by rw [hsz]; exact size_none s.heap (Nat.le_refl _)) (Heap.get?_push_size _ rfl) fun b o hb e => up b o (hk b o hb e)

theorem z_end {z TI TO i0 i1 i2 : Addr} {x left : Int} {f0 f1 : Value} {Q : Fin → Shared → Prop} (hh : A.handled = none) (nd : [z, TI, TO, i0, i1, i2].Nodup)
    (hz : ZAt s.heap z f0 f1 TI TO) (hf : f0 = .none ∨ ∃ T o, f0 = rawInt (T : Nat) ∧ s.heap.get? T = some o) (hTI : Trip s.heap TI (.ref i0) (.ref i1) (.ref i2)) (h0 : IsRangeIter s.heap i0 x left 1) (hlt : left ≤ 0)
    (hE : ∀ h' e, Keep [z, i0] s.heap h' → (∃ o, h'.get? e = some o ∧ o.cls = .type "StopIteration") → E (.ref e) { s with heap := h' }) :
    wpAny (model prog w) A (Builtin.«zip.__next__» ⟨[.ref z], []⟩) Q E s := by
  simp only [List.nodup_cons, List.mem_cons, List.not_mem_nil, or_false, not_or, List.nodup_nil, and_true, not_false_eq_true] at nd
  obtain ⟨⟨n1, n2, n3, n4, n5⟩, ⟨n6, n7, n8, n9⟩, ⟨n10, n11, n12⟩, ⟨n13, n14⟩, n15⟩ := nd
  show wpAny _ _ (field (.ref z) 2 >>= _) _ _ _
  refine wpAny_bind (wpAny_field hz rfl (x := .bool false) rfl ?_)
  show wpAny _ _ (field (.ref z) 3 >>= _) _ _ _
  refine wpAny_bind (wpAny_field hz rfl (x := .ref TI) rfl ?_)
  refine wpAny_bind (wpAny_seqItems hTI rfl ?_)
  show wpAny _ _ (ownedTupleIsFree (.ref z) >>= _) _ _ _
  rcases hf with rfl | ⟨T, o, rfl, hT⟩
  · refine wpAny_bind ?_
    unfold ownedTupleIsFree
    refine wpAny_bind (wpAny_field hz rfl (x := .none) rfl (wpAny_pure ?_))
    simp only [if_true]
    refine wpAny_bind (wpAny_rule ?_)
    refine wpAny_bind (wpAny_field hz rfl (x := .ref TO) rfl ?_)
    refine wpAny_bind (wpAny_setField_rec hz (by simp) fun g₁ hz₁ hs₁ => ?_)
    replace hz₁ : ZAt g₁ z .ellipsis f1 TI TO := hz₁
    refine wpAny_bind ?_
    simp only [List.zipIdx_cons, List.zipIdx_nil, List.forIn_cons, List.forIn_nil]
    refine wpAny_bind (wpAny_bind (wpAny_onRaise ?_))
    show wpAny _ _ (nextOf (.ref i0) >>= _) _ _ _
    have h0₁ : IsRangeIter g₁ i0 x left 1 := hs₁.extBut _ _ (Ne.symm n3) h0
    refine wpAny_bind (nextOf_range_end hh h0₁ hlt fun g₂ e hs₂ he => ?_)
    refine k12 he fun oe hoe hce => ?_; clear he
    have hz₂ : ZAt g₂ z .ellipsis f1 TI TO := hs₂ _ _ n3 hz₁
    have hez : e ≠ z := fun x => by subst x; rw [hz₂] at hoe; (refine si hoe fun q1 => ?_; subst q1; clear hoe); simp at hce
    refine wpAny_setField_rec hz₂ (by simp) fun g₃ hz₃ hs₃ => ?_
    exact hE g₃ e (fun b o hb x => hs₃.extBut _ _ (fun q => hb (by simp [q])) (hs₂ _ _ (fun q => hb (by simp [q])) (hs₁.extBut _ _ (fun q => hb (by simp [q])) x))) ⟨oe, hs₃.extBut _ _ hez hoe, hce⟩
  · refine wpAny_bind (z_busy hz hT fun g₁ f1' hz₁ hs₁ => ?_)
    simp only [Bool.false_eq_true, if_false]
    refine wpAny_bind ?_
    simp only [List.forIn_toArray, List.forIn_cons, List.forIn_nil]
    refine wpAny_bind (wpAny_bind (wpAny_holding ?_))
    show wpAny _ _ (nextOf (.ref i0) >>= _) _ _ _
    have h0₁ : IsRangeIter g₁ i0 x left 1 := hs₁.extBut _ _ (Ne.symm n3) h0
    refine wpAny_bind (nextOf_range_end hh h0₁ hlt fun g₂ e hs₂ he => ?_)
    exact hE g₂ e (fun b o hb x => hs₂ _ _ (fun q => hb (by simp [q])) (hs₁.extBut _ _ (fun q => hb (by simp [q])) x)) he
end
end MI.Zp
end TMS56
section TMS57
open PySem PySem.Spec PySem.Calls PyProof.Rows PySem.W
set_option linter.unusedVariables false
set_option maxRecDepth 100000
namespace MI.Zp
open PySem.Builtin PySem.Builtin.SmallTypes

theorem typeCall_zip_3 (a b c : Value) : checkTypeCall "zip" ⟨[a, b, c], []⟩ = pure () := by kernel_rfl
theorem newCall_zip_3 (a b c : Value) : checkBuiltinCall "zip.__new__" ⟨[.type "zip", a, b, c], []⟩ = pure () := by kernel_rfl
theorem args_object_init_4 (a b c d : Value) : argsOk "object.__init__" ⟨[a, b, c, d], []⟩ := by
  unfold argsOk; rw [signature?_of (id := "object.__init__") (n := ['_', '_', 't', 'i', 'n', 'i', '_', '_']) (o := ['t', 'c', 'e', 'j', 'b', 'o']) (by kernel_rfl) F.owner_object]; kernel_rfl

noncomputable abbrev K1 (h : Heap) (a n : Int) : Heap := h.push { cls := .type "range_iterator", data := .fields #[rawInt a, rawInt n, rawInt 1] }
noncomputable abbrev K2 (h : Heap) (a n : Int) (l1 : Addr) : Heap := (K1 h a n).push { cls := .type "list_iterator", data := .fields #[.ref l1, .int 0 0] }
noncomputable abbrev K3 (h : Heap) (a n : Int) (l1 l2 : Addr) : Heap := (K2 h a n l1).push { cls := .type "list_iterator", data := .fields #[.ref l2, .int 0 0] }
noncomputable abbrev K4 (h : Heap) (a n : Int) (l1 l2 : Addr) : Heap := (K3 h a n l1 l2).push { cls := .type "tuple", data := .seq #[.ref h.objs.size, .ref (K1 h a n).objs.size, .ref (K2 h a n l1).objs.size] }
noncomputable abbrev K5 (h : Heap) (a n : Int) (l1 l2 : Addr) : Heap := (K4 h a n l1 l2).push { cls := .type "tuple", data := .seq #[.none, .none, .none] }
noncomputable abbrev K6 (h : Heap) (a n : Int) (l1 l2 : Addr) : Heap := (K5 h a n l1 l2).push { cls := .type "zip", data := .fields #[.none, .bool false, .bool false, .ref (K3 h a n l1 l2).objs.size, .ref (K4 h a n l1 l2).objs.size] }

theorem meets_zip3 (r l1 l2 : Addr) (a b : Int) (t u v : Tok) (xs ys : Array Value) (hsmall : Builtin.Range.small a b 1 = true) :
    Meets (Builtin.«zip.__new__» ⟨[.type "zip", .ref r, .ref l1, .ref l2], []⟩) (fun _ R s => IsRange s.heap r a b 1 t u v ∧ s.heap.IsList l1 xs ∧ s.heap.IsList l2 ys ∧
      R (.ok (.ret (.ref (K5 s.heap a (Builtin.Range.rangeSize a b 1) l1 l2).objs.size))) { s with heap := K6 s.heap a (Builtin.Range.rangeSize a b 1) l1 l2 }) :=
  .of_wp fun prog w A R s h => by
    obtain ⟨hp, g, d, tk, os⟩ := s; obtain ⟨hr, hl1, hl2, h⟩ := h
    have hR : IsRange (Shared.heap ⟨hp, g, d, tk, os⟩) r a b 1 t u v := hr
    have hL1 : Heap.IsList (Shared.heap ⟨K1 hp a (Builtin.Range.rangeSize a b 1), g, d, tk, os⟩) l1 xs := Heap.IsList.push hl1 _
    have hL2 : Heap.IsList (Shared.heap ⟨K2 hp a (Builtin.Range.rangeSize a b 1) l1, g, d, tk, os⟩) l2 ys := (Heap.IsList.push hl2 _).push _
    unfold Builtin.«zip.__new__»
    refine wpAny_bind (m := newClass "zip" _) ?_
    · unfold newClass
      dsimp only
      refine wpAny_bind (wpAny_of_eq (show isType (.type "zip") = pure true from rfl) ?_)
      simp only [Bool.not_true, Bool.false_eq_true, if_false]
      refine wpAny_bind (wpAny_of_eq sub_zip ?_)
      simp only [Bool.not_true, Bool.false_eq_true, if_false]
      refine wpAny_pure ?_
      dsimp only
      simp only [List.length_nil, gt_iff_lt, Nat.not_lt_zero, if_false]
      unfold iterAll
      refine wpAny_bind (wpAny_bind ?_)
      simp only [List.forIn_cons, List.forIn_nil]
      refine wpAny_bind (wpAny_bind (wpAny_holding (wpAny_pyIter_range hR hsmall (wpAny_pure ?_))))
      dsimp only
      refine wpAny_bind (wpAny_bind (wpAny_holding (wpAny_pyIter_list hL1 (wpAny_pure ?_))))
      dsimp only
      refine wpAny_bind (wpAny_bind (wpAny_holding (wpAny_pyIter_list hL2 (wpAny_pure ?_))))
      dsimp only
      refine wpAny_pure (wpAny_pure ?_)
      refine wpAny_bind (wpAny_newTuple ?_ (show 3 ≤ sizeLine by decide))
      refine wpAny_bind (wpAny_newTuple ?_ (show 3 ≤ sizeLine by decide))
      refine wpAny_bind ?_
      unfold newRecord
      exact wpAny_newObj_type (wpAny_pure ⟨_, rfl, h⟩) (show 5 ≤ sizeLine + 2 by decide)

section
variable {prog : Program} {w : World} {A : Around} {E : Value → Shared → Prop} {s : Shared}
/-- the zip at its start -/
structure ZSt (h : Heap) (z TI TO i0 i1 i2 l1 l2 : Addr) (f0 : Value) (k : Nat) (x left : Int) : Prop where
  z : ∃ f1, ZAt h z f0 f1 TI TO
  TI : Trip h TI (.ref i0) (.ref i1) (.ref i2)
  TO : ∃ a b c, Trip h TO a b c
  r : IsRangeIter h i0 x left 1
  l1 : h.IsListIter i1 l1 k
  l2 : h.IsListIter i2 l2 k

theorem nd6 (n : Nat) : [n + 5, n + 3, n + 4, n, n + 1, n + 2].Nodup := by
  simp only [List.nodup_cons, List.mem_cons, List.not_mem_nil, or_false, not_or, List.nodup_nil, and_true, not_false_eq_true]
  omega
theorem out6 {n l : Nat} (h : l < n) : l ∉ [n + 5, n + 4, n, n + 1, n + 2] := by
  simp only [List.mem_cons, List.not_mem_nil, or_false, not_or]
  omega
theorem mem6 {n b : Nat} (h : b ∈ [n + 5, n + 3, n + 4, n, n + 1, n + 2]) : n ≤ b := by
  simp only [List.mem_cons, List.not_mem_nil, or_false] at h
  omega
theorem call_zip3 {r l1 l2 : Addr} {a b : Int} {t u v : Tok} {n : Nat} {xs ys : Array Value} {Q : Value → Shared → Prop} (hsmall : Builtin.Range.small a b 1 = true) (hn : Builtin.Range.rangeSize a b 1 = n) (hr : IsRange s.heap r a b 1 t u v) (hl1 : s.heap.IsList l1 xs) (hl2 : s.heap.IsList l2 ys)
    (h : ∀ h' z TI TO i0 i1 i2, Apart3 z TI TO i0 i1 i2 l1 l2 → ZSt h' z TI TO i0 i1 i2 l1 l2 .none 0 a n → (∀ b ∈ [z, TI, TO, i0, i1, i2], s.heap.get? b = none) → (∀ c o, s.heap.get? c = some o → h'.get? c = some o) → Q (.ref z) { s with heap := h' }) :
    wpAny (model prog w) A (call (.type "zip") [.ref r, .ref l1, .ref l2]) Q E s := by
  refine callType_new F.called_zip (by decide) (typeCall_zip_3 _ _ _) (newCall_zip_3 _ _ _) (fun obj => args_object_init_4 obj _ _ _) F.entry_zip_new
    (meets_zip3 r l1 l2 a b t u v xs ys hsmall) ⟨hr, hl1, hl2, ?_⟩
  rw [hn]
  have z1 : (K1 s.heap a n).objs.size = s.heap.objs.size + 1 := Heap.size_push ..
  have z2 : (K2 s.heap a n l1).objs.size = s.heap.objs.size + 2 := by rw [Heap.size_push, z1]
  have z3 : (K3 s.heap a n l1 l2).objs.size = s.heap.objs.size + 3 := by rw [Heap.size_push, z2]
  have z4 : (K4 s.heap a n l1 l2).objs.size = s.heap.objs.size + 4 := by rw [Heap.size_push, z3]
  have z5 : (K5 s.heap a n l1 l2).objs.size = s.heap.objs.size + 5 := by rw [Heap.size_push, z4]
  have g6 : (K6 s.heap a n l1 l2).get? (K5 s.heap a n l1 l2).objs.size = some _ := Heap.get?_push_size _ rfl
  have g5 : (K6 s.heap a n l1 l2).get? (K4 s.heap a n l1 l2).objs.size = some _ := Heap.get?_push_of_some _ (Heap.get?_push_size _ rfl)
  have g4 : (K6 s.heap a n l1 l2).get? (K3 s.heap a n l1 l2).objs.size = some _ := Heap.get?_push_of_some _ (Heap.get?_push_of_some _ (Heap.get?_push_size _ rfl))
  have g3 : (K6 s.heap a n l1 l2).get? (K2 s.heap a n l1).objs.size = some _ := Heap.get?_push_of_some _ (Heap.get?_push_of_some _ (Heap.get?_push_of_some _ (Heap.get?_push_size _ rfl)))
  have g2 : (K6 s.heap a n l1 l2).get? (K1 s.heap a n).objs.size = some _ := Heap.get?_push_of_some _ (Heap.get?_push_of_some _ (Heap.get?_push_of_some _ (Heap.get?_push_of_some _ (Heap.get?_push_size _ rfl))))
  have g1 : (K6 s.heap a n l1 l2).get? s.heap.objs.size = some _ := Heap.get?_push_of_some _ (Heap.get?_push_of_some _ (Heap.get?_push_of_some _ (Heap.get?_push_of_some _ (Heap.get?_push_of_some _ (Heap.get?_push_size _ rfl)))))
  show _ ∧ _
  rw [z3, z4, z5] at g6
  rw [z4] at g5
  rw [z1, z2, z3] at g4
  rw [z2] at g3
  rw [z1] at g2
  rw [z5]
  have old : ∀ i, s.heap.objs.size ≤ i → s.heap.get? i = none := fun i hi => size_none s.heap hi
  have lt1 : l1 < s.heap.objs.size := by obtain ⟨o, e, _⟩ := hl1; exact Heap.lt_size e
  have lt2 : l2 < s.heap.objs.size := by obtain ⟨o, e, _⟩ := hl2; exact Heap.lt_size e
  refine ⟨⟨_, g6, rfl⟩, h _ (s.heap.objs.size + 5) (s.heap.objs.size + 3) (s.heap.objs.size + 4) s.heap.objs.size (s.heap.objs.size + 1) (s.heap.objs.size + 2) ⟨?_, ?_, ?_⟩ ⟨⟨_, g6⟩, g4, ⟨_, _, _, g5⟩, g1, ⟨_, g2, rfl, rfl⟩, ⟨_, g3, rfl, rfl⟩⟩ ?_ fun c o e => ?_⟩
  · exact nd6 _
  · exact out6 lt1
  · exact out6 lt2
  · intro b hb
    exact old b (mem6 hb)
  · exact Heap.get?_push_of_some _ (Heap.get?_push_of_some _ (Heap.get?_push_of_some _ (Heap.get?_push_of_some _ (Heap.get?_push_of_some _ (Heap.get?_push_of_some _ e)))))
end
end MI.Zp
end TMS57
section TMS58
open PySem PySem.Spec PySem.Calls PyProof.Rows PySem.W
set_option linter.unusedVariables false
set_option maxRecDepth 100000
namespace MI.Zp
open PySem.Builtin PySem.Builtin.SmallTypes

theorem zip_no_len : typeLookup (.type "zip") "__len__" = pure none := by rw [typeLookup_type, builtinLookup_eq_fast]; kernel_rfl
theorem zip_no_hint : typeLookup (.type "zip") "__length_hint__" = pure none := by rw [typeLookup_type, builtinLookup_eq_fast]; kernel_rfl

inductive Row3 (P : Params) (r : Rh) (H0 h : Heap) (bad : List Addr) : List V → List Value → Prop
  | nil : Row3 P r H0 h bad [] []
  | cons {T : Addr} {x : Int} {t : Tok} {xv yv : V} {u v : Value} {rows acc} : Trip h T (.int x t) u v → T ∉ bad → H0.get? T = none → VR P r H0 xv u → VR P r H0 yv v → Row3 P r H0 h bad rows acc → Row3 P r H0 h bad (.tup [.int x, xv, yv] :: rows) (.ref T :: acc)
theorem Row3.snoc {P : Params} {r : Rh} {H0 h : Heap} {bad : List Addr} {T : Addr} {x : Int} {t : Tok} {xv yv : V} {u v : Value} (a1 : Trip h T (.int x t) u v) (a2 : T ∉ bad) (a3 : H0.get? T = none) (a4 : VR P r H0 xv u) (a5 : VR P r H0 yv v) {rows acc} (R : Row3 P r H0 h bad rows acc) :
    Row3 P r H0 h bad (rows ++ [.tup [.int x, xv, yv]]) (acc ++ [.ref T]) := by
  induction R with
  | nil => exact .cons a1 a2 a3 a4 a5 .nil
  | cons b1 b2 b3 b4 b5 _ ih => exact .cons b1 b2 b3 b4 b5 ih
theorem Row3.keep {P : Params} {r : Rh} {H0 h h' : Heap} {bad : List Addr} (k : ∀ b o, b ∉ bad → h.get? b = some o → h'.get? b = some o) {rows acc} (R : Row3 P r H0 h bad rows acc) : Row3 P r H0 h' bad rows acc := by
  induction R with
  | nil => exact .nil
  | cons b1 b2 b3 b4 b5 _ ih => exact .cons (k _ _ b2 b1) b2 b3 b4 b5 ih
theorem in2 {b z i0 TO : Addr} {l : List Addr} (h : b ∈ [z, i0]) : b ∈ z :: TO :: i0 :: l := (List.mem_cons.mp h).elim (fun e => e ▸ .head _) fun h => List.mem_singleton.mp h ▸ .tail _ (.tail _ (.head _))
theorem inTI {b z TI : Addr} {l : List Addr} (h : b ∈ z :: l) : b ∈ z :: TI :: l := (List.mem_cons.mp h).elim (fun e => e ▸ .head _) fun h => .tail _ (.tail _ h)
theorem inS {b S : Addr} {l : List Addr} (h : b ∈ l) : b ∈ l ++ [S] := List.mem_append_left _ h

noncomputable abbrev FOk (h : Heap) (z TO i0 i1 i2 : Addr) (f0 : Value) : Prop := f0 = .none ∨ ∃ T o, f0 = rawInt (T : Nat) ∧ h.get? T = some o ∧ T ∉ [z, TO, i0, i1, i2]

section
variable {prog : Program} {w : World} {A : Around} {E : Value → Shared → Prop} {s : Shared}
theorem zip_item {z TI TO i0 i1 i2 l1 l2 : Addr} {k : Nat} {x left : Int} {xs ys : Array Value} {u v f0 : Value} {Q : Value → Shared → Prop} (D : Apart3 z TI TO i0 i1 i2 l1 l2) (Z : ZSt s.heap z TI TO i0 i1 i2 l1 l2 f0 k x left) (hf : FOk s.heap z TO i0 i1 i2 f0) (hlt : 0 < left)
    (hl1 : s.heap.IsList l1 xs) (hl2 : s.heap.IsList l2 ys) (hx : xs[k]? = some u) (hy : ys[k]? = some v)
    (hQ : ∀ h' T t tk f0, ZSt h' z TI TO i0 i1 i2 l1 l2 f0 (k + 1) (x + 1) (left - 1) → FOk h' z TO i0 i1 i2 f0 → s.heap.get? T = none → Trip h' T (.int x t) u v → Keep [z, TO, i0, i1, i2] s.heap h' → Q (.ref T) { s with heap := h', toks := tk }) :
    wpAny (model prog w) A (Builtin.«zip.__next__» ⟨[.ref z], []⟩) (fun fin s' => ∃ v, fin = .done (.ret v) ∧ Q v s') E s := by
  have nTI : TI ∉ [z, TO, i0, i1, i2] := by
    have nd := D.nd
    simp only [List.nodup_cons, List.mem_cons, List.not_mem_nil, or_false, not_or, List.nodup_nil, and_true, not_false_eq_true] at nd ⊢
    obtain ⟨⟨n1, n2, n3, n4, n5⟩, ⟨n6, n7, n8, n9⟩, _⟩ := nd
    exact ⟨Ne.symm n1, n6, n7, n8, n9⟩
  refine k11 (Z.z) fun f1 hz => ?_
  refine k31 (Z.TO) fun a b c hTO => ?_
  rcases hf with rfl | ⟨T, o, rfl, hT, nT⟩
  · exact z_item1 D hz Z.TI hTO Z.r hlt Z.l1 Z.l2 hl1 hl2 hx hy fun h' T t tk f0 f1 q1 q2 q3 q4 q5 q6 q7 q8 q9 => hQ h' T t tk f0 ⟨⟨_, q1⟩, q9 _ _ nTI Z.TI, q3, q4, q5, q6⟩ (.inr q2) q7 q8 q9
  · exact z_item2 D hz hT nT Z.TI ⟨a, b, c, hTO⟩ Z.r hlt Z.l1 Z.l2 hl1 hl2 hx hy fun h' T t tk f0 f1 q1 q2 q3 q4 q5 q6 q7 q8 q9 => hQ h' T t tk f0 ⟨⟨_, q1⟩, q9 _ _ nTI Z.TI, q3, q4, q5, q6⟩ (.inr q2) q7 q8 q9

theorem zip_loop {P : Params} {r : Rh} {H0 : Heap} {z TI TO i0 i1 i2 l1 l2 S : Addr} (hh : A.handled = none) (D : Apart3 z TI TO i0 i1 i2 l1 l2) (hS : S ∉ [z, TI, TO, i0, i1, i2]) (res : Value) {xs ys : List V} {us vs : List Value} {n1 n2 : Nat} (h1 : H0.get? l1 = some (lstO us n1)) (h2 : H0.get? l2 = some (lstO vs n2)) (hx : VRs P r H0 xs us) (hy : VRs P r H0 ys vs) (bad0 : ∀ b ∈ [z, TI, TO, i0, i1, i2, S], H0.get? b = none) {R : Result → Shared → Prop} (a : Int) :
    ∀ (m k : Nat) (h : Heap) (tk : Nat) (f0 : Value) (rows : List V) (acc : List Value) (cN : Nat), k + m ≤ us.length → k + m ≤ vs.length → k + m ≤ 2000 → acc.length = k → ZSt h z TI TO i0 i1 i2 l1 l2 f0 k (a + k) m → FOk h z TO i0 i1 i2 f0 → (∀ b o, H0.get? b = some o → h.get? b = some o) → h.get? S = some (lstO acc cN) → Row3 P r H0 h [z, TO, i0, i1, i2, S] rows acc →
      (∀ h' tk acc' c', (∀ b o, H0.get? b = some o → h'.get? b = some o) → h'.get? S = some (lstO acc' c') → Row3 P r H0 h' [z, TO, i0, i1, i2, S] (rows ++ zip3 (a + k) m (xs.drop k) (ys.drop k)) acc' → R (.ok (.ret res)) { s with heap := h', toks := tk }) →
      codeAny (model prog w) A (.builtin "list.extend.loop" ⟨[.ref S, .ref z, res], []⟩) R { s with heap := h, toks := tk } := by
  intro m
  induction m with
  | zero =>
    intro k h tk f0 rows acc cN e1 e2 e3 ea Z hf hk hSS hrow hR
    refine k11 Z.z fun f1 hz => ?_
    refine codeAny_builtin F.entry_extend_loop ?_
    rw [Around.under_plainId F.plain_extend_loop _]
    show wpAny _ A.in1 (pyNext (.ref z) >>= _) _ _ _
    refine wpAny_bind ?_
    unfold pyNext
    have hT : (Shared.TypeIs { s with heap := h, toks := tk } (.ref z) "zip") := ⟨_, hz, rfl⟩
    refine wpAny_bind (wpAny_attempt (wpAny_callSpecial?_slot (name := Str.ofString "__next__") hT F.slot_zip_next
      (wpAny_call_entry F.slot_zip_next hT F.entry_zip_next (z_end (s := { s with heap := h, toks := tk }) hh D.nd hz (hf.imp id fun ⟨T, o, q1, q2, q3⟩ => ⟨T, o, q1, q2⟩) Z.TI Z.r (by simp) fun h' e hkeep he => ?_) (F.args_zip_next_1 _))))
    obtain ⟨o, ho, hc⟩ := he
    refine wpAny_bind (wpAny_isInstance (T := "StopIteration") (b := true) ⟨o, ho, hc⟩ isSubtype_stop ?_)
    refine wpAny_pure (wpAny_pure ?_)
    have kk : ∀ b o, b ∉ [z, TO, i0, i1, i2, S] → h.get? b = some o → h'.get? b = some o := fun b o hb e => hkeep b o (fun q => hb (in2 q)) e
    have hz3 : rows ++ zip3 (a + k) 0 (xs.drop k) (ys.drop k) = rows := by
      exact List.append_nil _
    rw [hz3] at hR
    have hSz : S ∉ [z, i0] := fun q => hS (inTI (in2 q))
    refine hR h' tk acc cN (fun b o e => hkeep b o (fun q => ?_) (hk b o e)) (hkeep _ _ hSz hSS) (hrow.keep kk)
    have := bad0 b (inTI (in2 q))
    rw [this] at e; cases e
  | succ m ih =>
    intro k h tk f0 rows acc cN e1 e2 e3 ea Z hf hk hSS hrow hR
    refine k11 Z.z fun f1 hz => ?_
    have hkx : k < xs.length := by have := hx.length; omega
    have hky : k < ys.length := by have := hy.length; omega
    obtain ⟨u, hu, hru⟩ := hx.get (List.getElem?_eq_getElem hkx)
    obtain ⟨v, hv, hrv⟩ := hy.get (List.getElem?_eq_getElem hky)
    refine codeAny_builtin F.entry_extend_loop ?_
    rw [Around.under_plainId F.plain_extend_loop _]
    show wpAny _ A.in1 (pyNext (.ref z) >>= _) _ _ _
    refine wpAny_bind ?_
    unfold pyNext
    have hT : (Shared.TypeIs { s with heap := h, toks := tk } (.ref z) "zip") := ⟨_, hz, rfl⟩
    refine wpAny_bind (wpAny_attempt (wpAny_callSpecial?_slot (name := Str.ofString "__next__") hT F.slot_zip_next
      (wpAny_call_entry F.slot_zip_next hT F.entry_zip_next (zip_item (s := { s with heap := h, toks := tk }) D Z hf (by omega) (isList_of (hk _ _ h1)) (isList_of (hk _ _ h2)) (u := u) (v := v) (by simpa using hu) (by simpa using hv) fun h' T t tk' f0' Z' hf' hTn hTr hkeep => ?_) (F.args_zip_next_1 _))))
    refine wpAny_pure ?_
    have hSz : S ∉ [z, TO, i0, i1, i2] := fun q => hS (inTI q)
    have hSS' := hkeep _ _ hSz hSS
    show wpAny _ A.in1 (updateSeq S (·.push (.ref T)) >>= _) _ _ _
    refine wpAny_bind ?_
    have hline := sizeLine_ge
    have hT0 : H0.get? T = none := by
      cases q : H0.get? T with
      | none => rfl
      | some o => have := hk _ _ q; exact absurd (hTn.symm.trans this) (by simp)
    have hTb : T ∉ [z, TO, i0, i1, i2, S] := fun q => by
      have live : ∃ o, h.get? T = some o := by
        obtain ⟨_, _, _, hTO⟩ := Z.TO
        simp only [List.mem_cons, List.not_mem_nil, or_false] at q
        rcases q with q | q | q | q | q | q
        · exact ⟨_, q ▸ hz⟩
        · exact ⟨_, q ▸ hTO⟩
        · exact ⟨_, q ▸ Z.r⟩
        · obtain ⟨o, e, _⟩ := Z.l1; exact ⟨o, q ▸ e⟩
        · obtain ⟨o, e, _⟩ := Z.l2; exact ⟨o, q ▸ e⟩
        · exact ⟨_, q ▸ hSS⟩
      obtain ⟨o, e⟩ := live
      exact absurd (hTn.symm.trans e) (by simp)
    obtain ⟨c2, hSS2⟩ : ∃ c2, (h'.update S (Obj.mapSeq (·.push (.ref T)))).get? S = some (lstO (acc ++ [.ref T]) c2) := by
      have := get?_update_seq (c := "list") hSS' (·.push (.ref T))
      rw [this]
      exact ⟨_, by simp [lstO]; rfl⟩
    have oth : ∀ b o, b ≠ S → h'.get? b = some o → (h'.update S (Obj.mapSeq (·.push (.ref T)))).get? b = some o := fun b o hb e => (Heap.get?_update_other _ _ (Ne.symm hb)).trans e
    refine wpAny_updateSeq hSS' rfl (wpAny_pure ⟨plainId_quiet F.plain_extend_loop _, ?_⟩) (by simp only [List.size_toArray]; omega) (by show (acc.toArray.push (.ref T)).size ≤ _; simp only [Array.size_push, List.size_toArray]; omega)
    have kk : ∀ b o, b ∉ [z, TO, i0, i1, i2, S] → h.get? b = some o → (h'.update S (Obj.mapSeq (·.push (.ref T)))).get? b = some o := fun b o hb e =>
      oth b o (fun q => hb (by simp [q])) (hkeep b o (fun q => hb (inS q)) e)
    have nS : ∀ b, b ∈ [z, TI, TO, i0, i1, i2] → b ≠ S := fun b hb q => hS (q ▸ hb)
    have Z2 : ZSt (h'.update S (Obj.mapSeq (·.push (.ref T)))) z TI TO i0 i1 i2 l1 l2 f0' (k + 1) (a + ((k + 1 : Nat) : Int)) m := by
      have e1 : a + (k : Int) + 1 = a + ((k + 1 : Nat) : Int) := by push_cast; omega
      have e2 : ((m + 1 : Nat) : Int) - 1 = (m : Int) := by push_cast; omega
      rw [e1, e2] at Z'
      obtain ⟨g1, hz'⟩ := Z'.z
      obtain ⟨a1, a2, a3, hTO'⟩ := Z'.TO
      exact ⟨⟨g1, oth _ _ (nS z (.head _)) hz'⟩, oth _ _ (nS TI (.tail _ (.head _))) Z'.TI, ⟨a1, a2, a3, oth _ _ (nS TO (.tail _ (.tail _ (.head _)))) hTO'⟩, oth _ _ (nS i0 (.tail _ (.tail _ (.tail _ (.head _))))) Z'.r, Z'.l1.at fun o e => oth _ o (nS i1 (.tail _ (.tail _ (.tail _ (.tail _ (.head _)))))) e, Z'.l2.at fun o e => oth _ o (nS i2 (.tail _ (.tail _ (.tail _ (.tail _ (.tail _ (.head _))))))) e⟩
    have row2 : Row3 P r H0 (h'.update S (Obj.mapSeq (·.push (.ref T)))) [z, TO, i0, i1, i2, S] (rows ++ [.tup [.int (a + k), xs[k], ys[k]]]) (acc ++ [.ref T]) :=
      (hrow.keep kk).snoc (oth _ _ (fun q => hTb (by simp [q])) hTr) hTb hT0 hru hrv
    refine ih (k + 1) _ tk' f0' _ _ c2 (by omega) (by omega) (by omega) (by simp [ea]) Z2 ?_ (fun b o e => ?_) hSS2 row2 fun h'' tk'' acc' c' k2 g2 r2 => hR h'' tk'' acc' c' k2 g2 ?_
    · refine hf'.imp id ?_
      rintro ⟨T', o', q1, q2, q3⟩
      by_cases hTS : T' = S
      · subst hTS; exact ⟨T', _, q1, hSS2, q3⟩
      · exact ⟨T', o', q1, oth _ _ hTS q2, q3⟩
    · have nb : b ∉ [z, TO, i0, i1, i2, S] := fun q => by
        have := bad0 b (inTI q)
        rw [this] at e; cases e
      exact kk b o nb (hk b o e)
    · have e1 : xs.drop k = xs[k] :: xs.drop (k + 1) := List.drop_eq_getElem_cons hkx
      have e2 : ys.drop k = ys[k] :: ys.drop (k + 1) := List.drop_eq_getElem_cons hky
      rw [e1, e2]
      show Row3 _ _ _ _ _ (rows ++ (.tup [.int (a + k), xs[k], ys[k]] :: zip3 (a + k + 1) m (xs.drop (k + 1)) (ys.drop (k + 1)))) _
      have e3 : a + (k : Int) + 1 = a + ((k + 1 : Nat) : Int) := by push_cast; omega
      rw [e3]
      rw [List.append_assoc] at r2
      exact r2
end
end MI.Zp
end TMS58
section TMS59
open PySem PySem.Spec PySem.Calls PyProof.Rows PySem.W
set_option linter.unusedVariables false
set_option maxRecDepth 100000
namespace MI.Zp
open PySem.Builtin PySem.Builtin.SmallTypes

section
variable {prog : Program} {w : World} {A : Around} {E : Value → Shared → Prop} {s : Shared}

theorem zip_self {z TI TO : Addr} {f0 f1 : Value} {Q : Value → Shared → Prop} (hz : ZAt s.heap z f0 f1 TI TO) (h : Q (.ref z) s) : wpAny (model prog w) A (pyIter (.ref z)) Q E s := by
  have hT : s.TypeIs (.ref z) "zip" := ⟨_, hz, rfl⟩
  refine wpAny_pyIter_slot hT F.slot_zip_iter (wpAny_call_entry F.slot_zip_iter hT F.entry_zip_iter ?_ (F.args_zip_iter_1 _))
  show wpAny _ _ (ret (.ref z)) _ _ s
  exact wpAny_pure ⟨_, rfl, "zip", _, hT, F.slot_zip_next.lookup, h⟩

theorem call_list_zip {P : Params} {r : Rh} {H0 : Heap} {z TI TO i0 i1 i2 l1 l2 : Addr} (hh : A.handled = none) (D : Apart3 z TI TO i0 i1 i2 l1 l2) {xs ys : List V} {us vs : List Value} {n1 n2 n : Nat} {a : Int} (h1 : H0.get? l1 = some (lstO us n1)) (h2 : H0.get? l2 = some (lstO vs n2)) (hx : VRs P r H0 xs us) (hy : VRs P r H0 ys vs)
    (bad0 : ∀ b ∈ [z, TI, TO, i0, i1, i2], H0.get? b = none) (e1 : n ≤ us.length) (e2 : n ≤ vs.length) (e3 : n ≤ 2000) (Z : ZSt s.heap z TI TO i0 i1 i2 l1 l2 .none 0 a n) (hk : ∀ b o, H0.get? b = some o → s.heap.get? b = some o) {Q : Value → Shared → Prop}
    (hQ : ∀ h' tk acc c S, (∀ b o, H0.get? b = some o → h'.get? b = some o) → H0.get? S = none → h'.get? S = some (lstO acc c) → Row3 P r H0 h' [z, TO, i0, i1, i2, S] (zip3 a n xs ys) acc → Q (.ref S) { s with heap := h', toks := tk }) :
    wpAny (model prog w) A (call (.type "list") [.ref z]) Q E s := by
  refine callType_codes (Q₁ := fun obj s₁ => obj = .ref s.heap.objs.size ∧ s₁ = { s with heap := s.heap.push { cls := .type "list", data := .seq #[] } }) F.called_list (F.typeCall_list_1 _) F.entry_list_init
    (code_list_new _ ⟨rfl, rfl⟩) fun obj s₁ h₁ => ?_
  obtain ⟨rfl, rfl⟩ := h₁
  have hS : (s.heap.push { cls := .type "list", data := .seq #[] }).get? s.heap.objs.size = some { cls := .type "list", data := .seq #[] } := Heap.get?_push_size _ rfl
  refine ⟨⟨_, hS, rfl⟩, F.args_list_init_2 _ _, ?_⟩
  have nS : s.heap.get? s.heap.objs.size = none := size_none s.heap (Nat.le_refl _)
  have nS0 : H0.get? s.heap.objs.size = none := by
    cases q : H0.get? s.heap.objs.size with
    | none => rfl
    | some o => have := hk _ _ q; rw [nS] at this; cases this
  obtain ⟨f1, hz⟩ := Z.z
  obtain ⟨b1, b2, b3, hTO⟩ := Z.TO
  have ltz : ∀ {b o}, s.heap.get? b = some o → b ≠ s.heap.objs.size := fun e => Nat.ne_of_lt (Heap.lt_size e)
  have hSout : s.heap.objs.size ∉ [z, TI, TO, i0, i1, i2] := fun q => by
    simp only [List.mem_cons, List.not_mem_nil, or_false] at q
    rcases q with q | q | q | q | q | q
    · exact ltz hz q.symm
    · exact ltz Z.TI q.symm
    · exact ltz hTO q.symm
    · exact ltz Z.r q.symm
    · obtain ⟨o, e, _⟩ := Z.l1; exact ltz e q.symm
    · obtain ⟨o, e, _⟩ := Z.l2; exact ltz e q.symm
  generalize hSd : s.heap.objs.size = S at *
  show wpAny _ _ (do let old ← Builtin.List.listItems (.ref S); Builtin.List.listUpdate (.ref S) (fun _ => #[]); letGo old.toList.reverse; Builtin.List.listExtendWith (.ref S) (.ref z) .none) _ _ _
  refine wpAny_bind ?_
  unfold Builtin.List.listItems
  refine wpAny_bind (wpAny_seqItems hS rfl (wpAny_pure ?_))
  show wpAny _ _ (updateSeq S (fun _ => #[]) >>= fun _ => letGo (#[] : Array Value).toList.reverse >>= fun _ => Builtin.List.listExtendWith (.ref S) (.ref z) .none) _ _ _
  refine wpAny_bind (wpAny_updateSeq hS rfl ?_)
  have hS₂ := Heap.get?_update_self (Obj.mapSeq (fun _ => (#[] : Array Value))) hS rfl
  refine wpAny_bind (wpAny_letGo ?_)
  have hSz : S ≠ z := fun q => hSout (by simp [q])
  have up1 : ∀ b o, b ≠ S → s.heap.get? b = some o → ((s.heap.push { cls := .type "list", data := .seq #[] }).update S (Obj.mapSeq (fun _ => (#[] : Array Value)))).get? b = some o := fun b o hb e =>
    (Heap.get?_update_other _ _ (Ne.symm hb)).trans (Heap.get?_push_of_some _ e)
  have hz₂ := up1 _ _ (Ne.symm hSz) hz
  unfold Builtin.List.listExtendWith
  have hT : Shared.TypeIs { s with heap := (s.heap.push { cls := .type "list", data := .seq #[] }).update S (Obj.mapSeq (fun _ => (#[] : Array Value))) } (.ref z) "zip" := ⟨_, hz₂, rfl⟩
  refine wpAny_bind (wpAny_typeOf hT ?_)
  have q1 : Builtin.List.listSameRef (.ref S) (.ref z) = false := by simp [Builtin.List.listSameRef, hSz]
  have q2 : (Value.type "zip" == Value.type "list") = false := by decide
  have q3 : (Value.type "zip" == Value.type "tuple") = false := by decide
  simp only [q1, q2, q3, Bool.or_false, Bool.false_eq_true, if_false]
  refine wpAny_bind (zip_self hz₂ ?_)
  refine wpAny_bind (wpAny_holding ?_)
  unfold Builtin.List.listLengthHint
  refine wpAny_bind (wpAny_specialOf hT zip_no_len ?_)
  show wpAny _ _ (specialOf (Value.ref z) (Str.ofString "__length_hint__") >>= _) _ _ _
  refine wpAny_bind (wpAny_specialOf hT zip_no_hint ?_)
  refine wpAny_pure ?_
  show wpAny _ _ (rule "list.extend.makes-room" >>= fun _ => Builtin.List.listTouch (.ref S) >>= fun _ => again (.builtin "list.extend.loop" ⟨[.ref S, .ref z, .none], []⟩)) _ _ _
  refine wpAny_bind (wpAny_rule ?_)
  refine wpAny_bind ?_
  show wpAny _ _ (updateSeq S (·.push .none) >>= fun _ => updateSeq S (·.pop)) _ _ _
  refine wpAny_bind (wpAny_updateSeq hS₂ rfl ?_)
  have hS₃ := Heap.get?_update_self (Obj.mapSeq (·.push Value.none)) hS₂ rfl
  refine wpAny_updateSeq hS₃ rfl ?_
  have hS₄ := Heap.get?_update_self (Obj.mapSeq (·.pop)) hS₃ rfl
  have up : ∀ b o, b ≠ S → s.heap.get? b = some o → ((((s.heap.push { cls := .type "list", data := .seq #[] }).update S (Obj.mapSeq (fun _ => (#[] : Array Value)))).update S (Obj.mapSeq (·.push Value.none))).update S (Obj.mapSeq (·.pop))).get? b = some o := fun b o hb e =>
    (Heap.get?_update_other _ _ (Ne.symm hb)).trans ((Heap.get?_update_other _ _ (Ne.symm hb)).trans (up1 b o hb e))
  have nS' : ∀ b, b ∈ [z, TI, TO, i0, i1, i2] → b ≠ S := fun b hb q => hSout (q ▸ hb)
  refine wpAny_pure ⟨plainId_quiet F.plain_extend_loop _, zip_loop (A := A.in1) hh D hSout .none h1 h2 hx hy (fun b hb => ?_) a n 0 _ s.toks .none [] [] _ (by omega) (by omega) (by omega) rfl (by
      have e0 : a + ((0 : Nat) : Int) = a := by simp
      rw [e0]
      exact ⟨⟨f1, up _ _ (nS' z (by simp)) hz⟩, up _ _ (nS' TI (by simp)) Z.TI, ⟨b1, b2, b3, up _ _ (nS' TO (by simp)) hTO⟩, up _ _ (nS' i0 (by simp)) Z.r, Z.l1.at fun o e => up _ o (nS' i1 (by simp)) e, Z.l2.at fun o e => up _ o (nS' i2 (by simp)) e⟩) (.inl rfl) (fun b o e => up b o (fun q => by rw [q, nS0] at e; cases e) (hk b o e)) hS₄ .nil fun h' tk acc' c' k2 g2 r2 => ⟨rfl, ?_⟩⟩
  · have : b ∈ [z, TI, TO, i0, i1, i2] ∨ b = S := by
      simp only [List.mem_cons, List.not_mem_nil, or_false] at hb ⊢
      rcases hb with h | h | h | h | h | h | h <;> simp [h]
    rcases this with h | h
    · exact bad0 b h
    · rw [h]; exact nS0
  · have e0 : a + ((0 : Nat) : Int) = a := by simp
    rw [List.nil_append, e0, List.drop_zero, List.drop_zero] at r2
    exact hQ h' tk acc' c' S k2 nS0 g2 r2
end
end MI.Zp
end TMS59
section TMS60
open PySem PySem.Spec PySem.Calls PyProof.Rows PySem.W
set_option linter.unusedVariables false
set_option maxRecDepth 100000
namespace MI

theorem listZip_inv {vs : List V} {σ σ' : H} {v : V} (e : listZip vs σ = some (v, σ')) : ∃ a b i j xs ys, vs = [.rng a b, .ref i, .ref j] ∧ σ[i]? = some (.list xs) ∧ σ[j]? = some (.list ys) ∧ b - a < 1000 ∧ fit a = true ∧ fit b = true ∧ (b - a).toNat ≤ xs.length ∧ (b - a).toNat ≤ ys.length ∧ mkL (zip3 a (b - a).toNat xs ys) σ = some (v, σ') := by
  cases vs with
  | nil => exact ns e
  | cons x r => cases r with
    | nil => exact ns e
    | cons y r => cases r with
      | nil => exact ns e
      | cons z r => cases r with
        | cons => exact ns e
        | nil => cases x with
          | rng a b =>
            refine k12 (Option.bind_eq_some_iff.mp e) fun xs h1 e2 => ?_
            refine k12 (Option.bind_eq_some_iff.mp e2) fun ys h2 e3 => ?_
            refine k12 (lstOf_i h1) fun i q hi => ?_; subst q
            refine k12 (lstOf_i h2) fun j q hj => ?_; subst q
            refine k02 (if_i e3) fun hc e4 => ?_
            refine k02 (and_i hc) fun c1 h1 => ?_
            refine k02 (and_i h1) fun c2 h2 => ?_
            refine k02 (and_i h2) fun c3 h3 => ?_
            refine k02 (and_i h3) fun c4 c5 => ?_
            exact ⟨a, b, i, j, xs, ys, rfl, hi, hj, of_decide_eq_true c1, c2, c3, Nat.le_of_ble_eq_true c4, Nat.le_of_ble_eq_true c5, e4⟩
          | _ => exact ns e

theorem VR.rng_inv {P : Params} {r : Rh} {h : Heap} {a b : Int} {u : Value} (x : VR P r h (.rng a b) u) : ∃ t u' v' y, u = Value.ref y ∧ h.get? y = some (rngO a b t u' v') ∧ ¬ r.mut y := x.inv
theorem Zp.Row3.rel2 {P : Params} {r r' : Rh} {H0 h : Heap} {bad : List Addr} (M : Mv r H0 r' h) (nm : ∀ T, H0.get? T = none → T ∉ bad → ¬ r'.mut T) {rows acc} (x : Zp.Row3 P r H0 h bad rows acc) : VRs P r' h rows acc := by
  induction x with
  | nil => exact .nil
  | @cons T x t xv yv u v _ _ b1 b2 b3 b4 b5 b6 ih => exact .cons (.tup _ [.int x t, u, v] 0 _ b1 (nm _ b3 b2) (.cons (.int _ _) (.cons (b4.mv M) (.cons (b5.mv M) .nil))) (by decide : 3 ≤ 4000000)) ih

section
variable {c : Cx} {A : Around} {E' : Value → Shared → Prop} {s : Shared} {sc : Scope} {env : Env} {r : Rh} {σ σ' σ₁ : H} {vars : Vars} {v : V} {ev : Ev}

theorem listZip_sound (hOk : c.Ok) (hh : A.handled = none) (ih : EvOk c A ev) {f z : Str} {fp zp q p : Pos} {es : List Expr} {us : List E} (hf : builtinIs c.t sc f (.type "list") = true) (hz : builtinIs c.t sc z (.type "zip") = true) (tas : TrL c.t sc es us) (eo : EnvOk c sc env r.pv) (vo : VarsOk c sc env r s.heap vars) (R : c.R r σ s.heap)
    {vs : List V} (e1 : evAll ev us vars σ = some (vs, σ₁)) (e2 : listZip vs σ₁ = some (v, σ')) {Q : Value → Shared → Prop} (O : Out c r s σ' v Q) : wpAny c.M A (eval (.Call (.Name f fp) [.Call (.Name z zp) es [] q] [] p) env) Q E' s := by
  refine k03 (builtinIs_inv hf) fun hv hg hd => ?_
  refine k03 (builtinIs_inv hz) fun hv2 hg2 hd2 => ?_
  rw [show eval (.Call (.Name f fp) [.Call (.Name z zp) es [] q] [] p) env = (do callWith p (← eval (.Name f fp) env) [] (backTo p (starEach [.Call (.Name z zp) es [] q] env)) (backToKw p (keywordEach [] env))) from rfl]
  refine wpAny_bind (eval_glob hOk.glob hd hv hg eo R fun uf r₁ h₁ tk₁ R₁ S₁ xf => ?_)
  cases xf.inv
  refine callWith_of (P := fun h => ∀ b o, c.h₀.get? b = some o → h.get? b = some o) rfl KeepF.type ?_
  refine evalArgs_kw2 (TrK.nil (t := c.t) (sc := sc)).names.1 ?_ rfl
  refine wpAny_items_cons ?_ rfl
  rw [show eval (.Call (.Name z zp) es [] q) env = (do callWith q (← eval (.Name z zp) env) [] (backTo q (starEach es env)) (backToKw q (keywordEach [] env))) from rfl]
  refine wpAny_bind (eval_glob (s := { s with heap := h₁, toks := tk₁ }) hOk.glob hd2 hv2 hg2 (eo.step S₁) R₁ fun uz r₂ h₂ tk₂ R₂ S₂ xz => ?_)
  cases xz.inv
  have S12 := S₁.trans S₂
  refine callWith_sound (s := { s with heap := h₂, toks := tk₂ }) ih .type tas (.nil (t := c.t) (sc := sc)) (eo.step S12) (vo.step eo R S12) (r := r₂) (σ := σ) R₂ (kvs := []) e1 rfl fun items kit r₃ h₃ tk₃ R₃ S₃ x₃ y₃ => ?_
  cases y₃
  obtain ⟨a, b, i, j, xs, ys, rfl, hi, hj, hc, fa, fb, l1, l2, e3⟩ := listZip_inv e2
  refine k23 x₃.inv fun u0 us0 qq x0 x₄ => ?_; subst qq
  refine k23 (x₄.two) fun u1 u2 q1 x1 x2 => ?_; subst q1
  refine k43 (VR.rng_inv x0) fun t u' v' y q2 hgr hm => ?_; subst q2
  refine k35 (R₃.listAt hi x1) fun a1 us1 n1 q3 hp1 hg1 hxs1 hl1 => ?_; subst q3
  refine k35 (R₃.listAt hj x2) fun a2 us2 n2 q4 hp2 hg2' hxs2 hl2 => ?_; subst q4
  have f1 := fit_iff.mp fa
  have f2 := fit_iff.mp fb
  have k1 := hxs1.length
  have k2 := hxs2.length
  refine Zp.call_zip3 (s := { s with heap := h₃, toks := tk₃ }) (n := (b - a).toNat) (small_one (by omega) (by omega) (by omega) (by omega)) (rangeSize_nat a b) hgr (isList_of hg1) (isList_of hg2') fun h' z' TI TO i0 i1 i2 D Z fr kk => ?_
  refine wpAny_items_nil ?_
  refine wpAny_pure ⟨fun b o e => kk b o (R₃.base b o e), ?_⟩
  refine Zp.call_list_zip (s := { s with heap := h', toks := tk₃ }) (P := c.w.params) (r := r₃) (H0 := h₃) hh D hg1 hg2' hxs1 hxs2 fr (by omega) (by omega) (by omega) Z kk fun h'' tk'' acc cN S q1 q2 q3 q4 => ?_
  refine k03 (mkL_eq e3) fun hlen q5 q6 => ?_; subst q5; subst q6
  have mv : Mv r₃ h₃ { r₃ with ob := r₃.ob ++ [(S, S)] } h'' := Step.mv ⟨⟨_, rfl, fun q hq => by rw [List.mem_singleton.mp hq]; exact ⟨q2, q2⟩⟩, rfl, fun b ob e _ => q1 b ob e, fun b ob e => ⟨ob, q1 b ob e⟩⟩
  have rows := q4.rel2 mv fun T hT hb hm => by
    rcases hm with ⟨p', hp', hbp⟩ | hm
    · rcases List.mem_append.mp hp' with hp' | hp'
      · refine k11 (R₃.mutLive (.inl ⟨p', hp', hbp⟩)) fun o e => ?_
        rw [hT] at e; exact ns e
      · rw [List.mem_singleton.mp hp'] at hbp
        have : T = S := hbp.elim id id
        exact hb (by simp [this])
    · refine k11 (R₃.mutLive (.inr hm)) fun o e => ?_
      rw [hT] at e; exact ns e
  refine k02 (R₃.push (p := (S, S)) q1 q2 q2 (.list _ acc cN S q3 rows (by rw [rows.length]; omega))) fun R' S' => ?_
  refine (O.after (tk := tk₃) (S12.trans S₃)) _ _ h'' tk'' R' S' (.ref _ (S, S) ?_)
  show (r₃.ob ++ [_])[σ₁.length]? = _
  rw [← R₃.len, List.getElem?_append_right (Nat.le_refl _), Nat.sub_self]; rfl
end
end MI
end TMS60
section TMS61
open PySem PySem.Spec PySem.Calls PyProof.Rows PySem.W
set_option linter.unusedVariables false
namespace MI
theorem far_node {c : Cx} {A : Around} {n : Nat} {cf : Cf} (hOk : c.Ok) (hA : FitsB A n) (m : Nat) (IH : ∀ k, k ≤ m → EvOk c A (ev c.Γ cf k)) : NodeOk c A (m + 1) cf farE := by
  intro sc e u env r σ σ' s vars v hf tr eo vo R eq Q E' O
  refine k13 tr fun a q1 q2 h => ?_; clear tr; subst q1; subst q2
  cases a <;> first | (cases hf; done) | skip
  rename_i f fp z zp zs q p
  refine k02 (and_i h) fun h1 h => ?_
  refine k02 (and_i h) fun h2 h3 => ?_
  refine k22 (vs_i (o := evAll (ev c.Γ cf m) (erL zs) vars σ) (f := fun vs σ => listZip vs σ) eq) fun vs σ₁ e1 e => ?_
  exact listZip_sound hOk hA.hd (@IH m (Nat.le_refl _)) h1 h2 (.mk h3) eo vo R e1 e O
end MI
end TMS61
section TMS62
open PySem PySem.Spec PySem.Calls PyProof.Rows PySem.W
set_option linter.unusedVariables false
namespace MI

theorem lookup_rev {α : Type} {l : List (Str × α)} (nd : (l.map (·.1)).Nodup) (x : Str) : l.reverse.lookup x = l.lookup x := by
  induction l with
  | nil => rfl
  | cons p r ih =>
    cases p with
    | mk y v =>
      refine k02 (List.nodup_cons.mp nd) fun n1 n2 => ?_
      rw [List.reverse_cons, lookup_app, ih n2, List.lookup_cons, List.lookup_cons]
      cases h : x == y with
      | false => cases r.lookup x <;> rfl
      | true =>
        cases eq_of_beq h
        cases q : r.lookup x with
        | none => rfl
        | some w => exact absurd (List.mem_map.mpr ⟨_, mem_of_lookup q, rfl⟩) n1

theorem zip_look {c : Cx} {r : Rh} {h : Heap} {names : List Str} {ids : List Nat} {as : List V} {us : List Value} (e : names.map c.t.id = ids.map some) (R : VRs c.w.params r h as us) (hl : names.length = us.length) (nd : names.Nodup) (x : Str) (i : Nat) (v : V) (hx : c.t.id x = some i)
    (hv : Vars.get i ((ids.zip as).map fun p => (p.1, some p.2)) = some v) : ∃ u, (names.zip us).lookup x = some u ∧ c.V r h v u := by
  induction names generalizing ids as us with
  | nil => cases ids with
    | nil => exact ns hv
    | cons a b => exact nomatch e
  | cons n names ih => cases ids with
    | nil => exact nomatch e
    | cons j ids => cases as with
      | nil => exact ns hv
      | cons a as =>
        refine k23 R.inv fun u us' q ra rb => ?_; subst q
        refine k02 (List.nodup_cons.mp nd) fun n1 n2 => ?_
        have e1 : c.t.id n = some j := List.head_eq_of_cons_eq e
        replace hv : (if (j == i) = true then some a else Vars.get i ((ids.zip as).map fun p => (p.1, some p.2))) = some v := hv
        by_cases hij : j = i
        · subst hij
          rw [if_pos (beq_self_eq_true j)] at hv
          cases Option.some.inj ((Tx.id_get hx).symm.trans (Tx.id_get e1))
          exact ⟨u, by rw [List.zip_cons_cons, List.lookup_cons, beq_self_eq_true], Option.some.inj hv ▸ ra⟩
        · rw [if_neg (mt eq_of_beq hij)] at hv
          have hnx : (x == n) = false := beq_eq_false_iff_ne.mpr fun q => hij (Option.some.inj (e1.symm.trans (q ▸ hx)))
          rw [List.zip_cons_cons, List.lookup_cons, hnx]
          exact ih (List.tail_eq_of_cons_eq e) rb (Nat.succ.inj hl) n2 hv
theorem bindFn_inv {Γ : G} {F : Fn} {as : List V} {ks : List (Nat × V)} {vars : Vars} (hkw : F.kwarg = none) (e : bindFn Γ F as ks = some vars) :
    as.length ≤ F.params.length ∧ F.params.length ≤ as.length + F.dflts.length ∧ ks.map (·.1) = F.kwonly ∧ vars = ((F.params.zip (as ++ F.dflts.drop (F.dflts.length - (F.params.length - as.length)))).map fun p => (p.1, some p.2)) ++ ks.map fun p => (p.1, some p.2) := by
  unfold bindFn at e
  dsimp only at e
  split at e
  · exact ns e
  · rename_i h1
    split at e
    · exact ns e
    · rename_i h2
      have h1' : as.length ≤ F.params.length := by
        simp only [Nat.blt, Nat.ble_eq] at h1; omega
      have h2' : F.params.length ≤ as.length + F.dflts.length := by
        simp only [Nat.blt, Nat.ble_eq] at h2; omega
      refine ⟨h1', h2', ?_⟩
      rw [hkw] at e
      cases hk : F.kwonly with
      | nil =>
        rw [hk] at e
        dsimp only at e
        split at e
        · rename_i he
          (refine si e fun q15 => ?_; subst q15; clear e)
          have : ks = [] := List.isEmpty_iff.mp he
          subst this
          exact ⟨rfl, by simp⟩
        · exact ns e
      | cons a b =>
        rw [hk] at e
        dsimp only at e
        split at e
        · rename_i he
          (refine si e fun q19 => ?_; subst q19; clear e)
          exact ⟨by simpa using he, rfl⟩
        · exact ns e

theorem KwR.rel {c : Cx} {r : Rh} {h : Heap} {ks : List (Nat × V)} {kus : List (Str × Value)} {ko : List Str} (k : KwR c r h ks kus) (e : ko.map c.t.id = (ks.map (·.1)).map some) : kus.map (·.1) = ko ∧ VRs c.w.params r h (ks.map (·.2)) (kus.map (·.2)) := by
  induction k generalizing ko with
  | nil => exact ⟨(List.map_eq_nil_iff.mp e).symm, .nil⟩
  | cons a b _ ih => cases ko with
    | nil => exact nomatch e
    | cons k ko =>
      refine k02 (ih (List.tail_eq_of_cons_eq e)) fun h1 h2 => ?_
      cases Option.some.inj (a.symm.trans (Tx.id_get (List.head_eq_of_cons_eq e)))
      exact ⟨congrArg (_ :: ·) h1, .cons b h2⟩
theorem zip_fst_snd {α β : Type} : ∀ l : List (α × β), (l.map (·.1)).zip (l.map (·.2)) = l
  | [] => rfl
  | (a, b) :: r => by simp [zip_fst_snd r]

/-- a function's facts from what K holds -/
theorem drop_len {n u d : Nat} (h1 : u ≤ n) (h2 : n ≤ u + d) : n = u + (d - (d - (n - u))) := by omega
theorem FnFact.of {c : Cx} {f : Addr} {F : Fn} {oc : Value} {od : Option Addr} {sl : Array (Option Value)} {name qual : Str} {params : Arguments} {body : List Stmt} {scope : Scope} {dV kV doc pm : Value} {an : Option Addr} {cdv ct : Value}
    (hl : c.K.lookup f = some ⟨oc, od, .func (fnOf name qual params body scope dV kV doc pm an cdv ct), sl⟩) (hcd : codeIn c.K cdv qual = true) (hco : scope.isCoroutine = false) (hge : scope.isGenerator = false) (hk : scope.kind = .function)
    (hn : (scope.names.all fun x => scope.names.lookup x.1 == some x.2) = true) (hfr : (scope.names.all fun x => x.2 != .free) = true) (tb : TrSs c.t scope body F.body)
    (names ko : List Str) (hnames : names.map c.t.id = F.params.map some) (hko : ko.map c.t.id = F.kwonly.map some) (hkw : F.kwarg = none) (nd : (names ++ ko).Nodup) (ds : List Value) (hds : VRs c.w.params ⟨[], []⟩ c.h₀ F.dflts ds)
    (hloc : (names ++ ko).all (fun x => scope.names.lookup x == some .local || scope.names.lookup x == some .cell) = true)
    (hpk : ∀ us kus S, us.length ≤ names.length → names.length ≤ us.length + ds.length → kus.map (·.1) = ko → peek c.K S (bindArgs (fnOf name qual params body scope dV kV doc pm an cdv ct) ⟨us, kus⟩) = some (names.zip (us ++ ds.drop (ds.length - (names.length - us.length))) ++ kus)) : FnFact c f F := by
  refine ⟨oc, od, sl, name, qual, params, body, scope, dV, kV, doc, pm, an, cdv, ct, hl, hcd, hco, hge, hk, hn, hfr, tb, ?_⟩
  intro as ks vars hb A r σ s us kus Q E' R x y go
  refine k04 (bindFn_inv hkw hb) fun h1 h2 h3 q1 => ?_; subst q1
  have lnames : names.length = F.params.length := by simpa using congrArg List.length hnames
  have lus := x.length
  have lds := hds.length
  have a1 : us.length ≤ names.length := by rw [lus, lnames]; exact h1
  have a2 : names.length ≤ us.length + ds.length := by rw [lus, lnames, lds]; exact h2
  rw [← h3] at hko
  refine k02 (y.rel hko) fun hkn hkv => ?_
  have X := c.X.keeps R.base
  have b := kp_binds X fun S => hpk us kus S a1 a2 hkn
  refine b c.M A E' Q (go _ s.heap s.toks (fun _ _ e => e) ?_ ?_)
  · intro z u hz
    have hz' : z ∈ names ++ ko := by
      rcases List.mem_append.mp hz with hz | hz
      · exact List.mem_append_left _ (List.of_mem_zip hz).1
      · refine List.mem_append_right _ ?_
        rw [← hkn]; exact List.mem_map.mpr ⟨_, hz, rfl⟩
    have := List.all_eq_true.mp hloc z hz'
    simpa using this
  · intro z i v hz hv
    have hds' : VRs c.w.params r s.heap F.dflts ds := hds.mv ⟨fun i p e => by simp at e, fun a o e _ => ⟨R.base a o e, fun hm => by have := R.fresh a hm; rw [this] at e; cases e⟩⟩
    have hall : VRs c.w.params r s.heap ((as ++ F.dflts.drop (F.dflts.length - (F.params.length - as.length))) ++ ks.map (·.2)) ((us ++ ds.drop (ds.length - (names.length - us.length))) ++ kus.map (·.2)) := by
      refine (x.append ?_).append hkv
      rw [lds, lnames, lus]
      exact hds'.drop _
    have e1 : names.zip (us ++ ds.drop (ds.length - (names.length - us.length))) ++ kus = (names ++ ko).zip ((us ++ ds.drop (ds.length - (names.length - us.length))) ++ kus.map (·.2)) := by
      rw [List.zip_append (by rw [List.length_append, List.length_drop]; exact drop_len a1 a2), ← hkn, zip_fst_snd]
    have e2 : ((F.params.zip (as ++ F.dflts.drop (F.dflts.length - (F.params.length - as.length)))).map fun p => (p.1, some p.2)) ++ (ks.map fun p => (p.1, some p.2)) = (((F.params ++ ks.map (·.1)).zip ((as ++ F.dflts.drop (F.dflts.length - (F.params.length - as.length))) ++ ks.map (·.2))).map fun p => (p.1, some p.2)) := by
      rw [List.zip_append (by rw [List.length_append, List.length_drop]; exact drop_len h1 h2), zip_fst_snd, List.map_append]
    rw [e2] at hv
    rw [e1]
    have hidn : (names ++ ko).map c.t.id = (F.params ++ ks.map (·.1)).map some := by rw [List.map_append, List.map_append, hnames, hko]
    have hlen : (names ++ ko).length = ((us ++ ds.drop (ds.length - (names.length - us.length))) ++ kus.map (·.2)).length := by
      rw [List.length_append, List.length_append, List.length_append, List.length_drop, List.length_map, ← drop_len a1 a2, ← hkn, List.length_map]
    refine k12 (zip_look hidn hall hlen nd z i v hz hv) fun u hu hr => ?_
    refine ⟨u, ?_, hr⟩
    rw [lookup_rev]
    · exact hu
    · rw [List.map_fst_zip (Nat.le_of_eq hlen)]
      exact nd
end MI
end TMS62
section TMS63
open PySem PySem.Spec PySem.Calls PyProof.Rows PySem.W
set_option linter.unusedVariables false
namespace MI

noncomputable def objAt (K : Frag) (f : Addr) : Obj := (K.lookup f).getD default
noncomputable def fdAt (K : Frag) (f : Addr) : FuncData := match (objAt K f).data with
  | .func fd => fd
  | _ => default
noncomputable def bodyAt (K : Frag) (f : Addr) : List Stmt := match (fdAt K f).body with
  | .stmts b => b
  | _ => []

/-- what is looked up of a function in K -/
structure FnLook (K : Frag) (t : Tx) (f : Addr) (F : Fn) (names ko : List Str) (ds : List Value) : Prop where
  hl : K.lookup f = some (objAt K f)
  hd : (objAt K f).data = .func (fdAt K f)
  hb : (fdAt K f).body = .stmts (bodyAt K f)
  hg : (fdAt K f).globals = mainGlobals
  hc : (fdAt K f).closure = []
  hbi : (fdAt K f).builtins = builtinsNs
  hcd : codeIn K (fdAt K f).code (fdAt K f).qualname = true
  sc : ((fdAt K f).scope.isCoroutine || (fdAt K f).scope.isGenerator || !((fdAt K f).scope.kind == .function) || !((fdAt K f).scope.names.all fun x => (fdAt K f).scope.names.lookup x.1 == some x.2) || !((fdAt K f).scope.names.all fun x => x.2 != .free)) = false
  tb : bodyAt K f = unSs (toSs t (fdAt K f).scope (bodyAt K f)) ∧ F.body = erSs (toSs t (fdAt K f).scope (bodyAt K f)) ∧ okSs t (fdAt K f).scope (toSs t (fdAt K f).scope (bodyAt K f)) = true
  hnames : names.map t.id = F.params.map some
  hko : ko.map t.id = F.kwonly.map some
  hkw : F.kwarg = none
  nd : (names ++ ko).Nodup
  hloc : (names ++ ko).all (fun x => (fdAt K f).scope.names.lookup x == some .local || (fdAt K f).scope.names.lookup x == some .cell) = true
  hpk : ∀ us kus S, us.length ≤ names.length → names.length ≤ us.length + ds.length → kus.map (·.1) = ko → peek K S (bindArgs (fdAt K f) ⟨us, kus⟩) = some (names.zip (us ++ ds.drop (ds.length - (names.length - us.length))) ++ kus)

/-- the part of it that a test tells -/
noncomputable def fnB (K : Frag) (t : Tx) (f : Addr) (F : Fn) (names ko : List Str) : Bool :=
  (K.lookup f).isSome && ((match (objAt K f).data with
    | .func _ => true
    | _ => false) && ((match (fdAt K f).body with
    | .stmts _ => true
    | _ => false) && (decide ((fdAt K f).globals = mainGlobals) && ((fdAt K f).closure.isEmpty && (decide ((fdAt K f).builtins = builtinsNs) && (codeIn K (fdAt K f).code (fdAt K f).qualname &&
  (!((fdAt K f).scope.isCoroutine || (fdAt K f).scope.isGenerator || !((fdAt K f).scope.kind == .function) || !((fdAt K f).scope.names.all fun x => (fdAt K f).scope.names.lookup x.1 == some x.2) || !((fdAt K f).scope.names.all fun x => x.2 != .free)) &&
  (decide (names.map t.id = F.params.map some) && (decide (ko.map t.id = F.kwonly.map some) && (F.kwarg.isNone && (decide (names ++ ko).Nodup && (names ++ ko).all (fun x => (fdAt K f).scope.names.lookup x == some .local || (fdAt K f).scope.names.lookup x == some .cell))))))))))))
theorem data_i {o : Obj} (h : (match o.data with
    | .func _ => true
    | _ => false) = true) : o.data = .func (match o.data with
    | .func fd => fd
    | _ => default) := by
  generalize o.data = d at h ⊢
  cases d with
  | func fd => rfl
  | _ => exact ft h
theorem body_i {o : FuncData} (h : (match o.body with
    | .stmts _ => true
    | _ => false) = true) : o.body = .stmts (match o.body with
    | .stmts b => b
    | _ => []) := by
  generalize o.body = d at h ⊢
  cases d with
  | stmts fd => rfl
  | _ => exact ft h
theorem FnLook.of {K : Frag} {t : Tx} {f : Addr} {F : Fn} {names ko : List Str} {ds : List Value} (h : fnB K t f F names ko = true) (tb : bodyAt K f = unSs (toSs t (fdAt K f).scope (bodyAt K f)) ∧ F.body = erSs (toSs t (fdAt K f).scope (bodyAt K f)) ∧ okSs t (fdAt K f).scope (toSs t (fdAt K f).scope (bodyAt K f)) = true)
    (hpk : ∀ us kus S, us.length ≤ names.length → names.length ≤ us.length + ds.length → kus.map (·.1) = ko → peek K S (bindArgs (fdAt K f) ⟨us, kus⟩) = some (names.zip (us ++ ds.drop (ds.length - (names.length - us.length))) ++ kus)) : FnLook K t f F names ko ds := by
  refine k02 (and_i h) fun h1 h => ?_
  refine k02 (and_i h) fun h2 h => ?_
  refine k02 (and_i h) fun h3 h => ?_
  refine k02 (and_i h) fun h4 h => ?_
  refine k02 (and_i h) fun h5 h => ?_
  refine k02 (and_i h) fun h6 h => ?_
  refine k02 (and_i h) fun h7 h => ?_
  refine k02 (and_i h) fun h8 h => ?_
  refine k02 (and_i h) fun h9 h => ?_
  refine k02 (and_i h) fun h10 h => ?_
  refine k02 (and_i h) fun h11 h => ?_
  refine k02 (and_i h) fun h12 h13 => ?_
  refine ⟨(Option.isSome_iff_exists.mp h1).elim fun o e => e.trans (congrArg some (show o = (K.lookup f).getD default from e ▸ rfl)), data_i h2, body_i h3, of_decide_eq_true h4, List.isEmpty_iff.mp h5, of_decide_eq_true h6, h7, not_i h8, tb, of_decide_eq_true h9, of_decide_eq_true h10, Option.isNone_iff_eq_none.mp h11, of_decide_eq_true h12, h13, hpk⟩
inductive AllL {α : Type} (P : α → Prop) : List α → Prop
  | nil : AllL P []
  | cons {x l} : P x → AllL P l → AllL P (x :: l)
theorem AllL.get {α : Type} {P : α → Prop} {L : List α} (h : AllL P L) : ∀ x ∈ L, P x := by
  induction h with
  | nil => exact fun x hx => nomatch hx
  | cons a b ih => exact fun x hx => (List.mem_cons.mp hx).elim (fun e => e ▸ a) (ih x)
theorem FnLook.fact {c : Cx} {f : Addr} {F : Fn} {names ko : List Str} {ds : List Value} (L : FnLook c.K c.t f F names ko ds) (hds : VRs c.w.params ⟨[], []⟩ c.h₀ F.dflts ds) : FnFact c f F := by
  have e : fdAt c.K f = fnOf (fdAt c.K f).name (fdAt c.K f).qualname (fdAt c.K f).params (bodyAt c.K f) (fdAt c.K f).scope (fdAt c.K f).defaults (fdAt c.K f).kwdefaults (fdAt c.K f).doc (fdAt c.K f).pyModule (fdAt c.K f).annotations (fdAt c.K f).code (fdAt c.K f).closureTuple := by
    have h1 := L.hb
    have h2 := L.hg
    have h3 := L.hc
    have h4 := L.hbi
    generalize bodyAt c.K f = b at h1 ⊢
    generalize fdAt c.K f = fd at h1 h2 h3 h4 ⊢
    cases fd
    dsimp only at h1 h2 h3 h4
    subst h1 h2 h3 h4
    rfl
  have sc := L.sc
  simp only [Bool.or_eq_false_iff, Bool.not_eq_false'] at sc
  obtain ⟨⟨⟨⟨s1, s2⟩, s3⟩, s4⟩, s5⟩ := sc
  have hl : c.K.lookup f = some ⟨(objAt c.K f).cls, (objAt c.K f).dict, .func (fnOf (fdAt c.K f).name (fdAt c.K f).qualname (fdAt c.K f).params (bodyAt c.K f) (fdAt c.K f).scope (fdAt c.K f).defaults (fdAt c.K f).kwdefaults (fdAt c.K f).doc (fdAt c.K f).pyModule (fdAt c.K f).annotations (fdAt c.K f).code (fdAt c.K f).closureTuple), (objAt c.K f).slots⟩ := by
    rw [← e, ← L.hd]
    exact L.hl
  exact FnFact.of hl L.hcd s1 s2 (by simpa using s3) s4 s5 ⟨_, L.tb⟩ names ko L.hnames L.hko L.hkw L.nd ds hds L.hloc fun us kus S a1 a2 a3 => by rw [← e]; exact L.hpk us kus S a1 a2 a3

/-! classes, names, tables -/
noncomputable def fldChk (K : Frag) (C : Addr) (t : Tx) (i : Nat) : Bool := (t.ids[i]?).any fun x => (findIn K (.ref C) x).any (noGet K) && (takerIn K C x).any Option.isNone
noncomputable def methChk (K : Frag) (C : Addr) (t : Tx) (p : Nat × Addr) : Bool := (t.ids[p.1]?).any fun x => decide (findIn K (.ref C) x = some (some (.ref p.2))) && (decide (typeIn K (.ref p.2) = some (.type "function")) && keepIn K (.ref p.2))
theorem mem_of_lookup' {α β : Type} [BEq α] [LawfulBEq α] {l : List (α × β)} {i f} (e : l.lookup i = some f) : (i, f) ∈ l := by
  obtain ⟨l₁, l₂, rfl, _⟩ := List.lookup_eq_some_iff.mp e
  exact List.mem_append_right _ (.head _)
theorem lookup_all {α β : Type} [BEq α] [LawfulBEq α] {p : α × β → Bool} {l : List (α × β)} (h : l.all p = true) {i f} (e : l.lookup i = some f) : p (i, f) = true := List.all_eq_true.mp h _ (mem_of_lookup' e)
theorem ClsFact.of {c : Cx} {C : Addr} {k : Cls} (pg : plainGet c.K C "" = true) (hd : hasDictIn c.K C = true) (po : plainOver c.K C = true) (sa : findIn c.K (.ref C) "__setattr__" = some (some (.builtin "object.__setattr__"))) (mks : makesIn c.K C = true)
    (ini : findIn c.K (.ref C) "__init__" = some (some (.ref k.init))) (ini2 : typeIn c.K (.ref k.init) = some (.type "function")) (kp : keepIn c.K (.ref C) = true) (fl : k.flds.all (fldChk c.K C c.t) = true) (me : k.meths.all (methChk c.K C c.t) = true) : ClsFact c C k where
  pg := pg
  hd := hd
  po := po
  sa := sa
  mks := mks
  ini := ⟨ini, ini2⟩
  kp := kp
  fl := fun i hi => by
    refine k12 (any_i (List.all_eq_true.mp fl i (List.contains_iff_mem.mp hi))) fun x hx h => ?_
    refine k02 (and_i h) fun h1 h2 => ?_
    refine ⟨x, hx, any_i h1, ?_⟩
    refine k12 (any_i h2) fun y hy h3 => ?_
    cases y with
    | none => exact hy
    | some _ => exact ft h3
  me := fun i f hi => by
    refine k12 (any_i (lookup_all me hi)) fun x hx h => ?_
    refine k02 (and_i h) fun h1 h => ?_
    refine k02 (and_i h) fun h2 h3 => ?_
    exact ⟨x, hx, of_decide_eq_true h1, of_decide_eq_true h2, h3⟩

noncomputable def vMatch : V → Value → Bool
  | .cst c, u => decide (c = u)
  | .int i, .int j _ => decide (i = j)
  | .str s, .str x _ => decide (stO s = x)
  | .none, .none => true
  | .bool a, .bool b => a == b
  | _, _ => false
theorem vMatch_rel {P : Params} {r : Rh} {h : Heap} {v : V} {u : Value} (e : vMatch v u = true) : VR P r h v u := by
  cases v with
  | cst c => cases of_decide_eq_true (show decide (c = u) = true from e); exact .cst _
  | int i => cases u with
    | int j t => cases of_decide_eq_true (show decide (i = j) = true from e); exact .int _ _
    | _ => exact ft e
  | str s => cases u with
    | str x t => cases of_decide_eq_true (show decide (stO s = x) = true from e); exact .str _ _
    | _ => exact ft e
  | none => cases u with
    | none => exact .none
    | _ => exact ft e
  | bool a => cases u with
    | bool b => cases eq_of_beq (show (a == b) = true from e); exact .bool _
    | _ => exact ft e
  | _ => exact ft e
noncomputable def globChk (K : Frag) (p : Str × V) : Bool := match nsIn K mainGlobals p.1 with
  | some o => match o with
    | some u => vMatch p.2 u
    | .none => (bootBuiltins p.1).any fun u => vMatch p.2 u && decide (p.1 ≠ ("__name__" : Str))
  | none => false
theorem glob_i {o : Option (Option Value)} {q : Option Value} {f g : Value → Bool} (h : (match o with
    | some o => match o with
      | some u => f u
      | .none => q.any g
    | none => false) = true) : (∃ u, o = some (some u) ∧ f u = true) ∨ (o = some .none ∧ ∃ u, q = some u ∧ g u = true) := by
  cases o with
  | none => exact ft h
  | some o => cases o with
    | none => exact .inr ⟨rfl, any_i h⟩
    | some u => exact .inl ⟨u, rfl, h⟩
theorem GlobOk.of {c : Cx} {l : List (Str × V)} (hg : ∀ x, c.t.glob x = l.lookup x) (h : l.all (globChk c.K) = true) : c.GlobOk := fun x v e => by
  rcases glob_i (lookup_all h ((hg x).symm.trans e)) with ⟨u, hu, hv⟩ | ⟨hu, u, hb, hv⟩
  · exact ⟨u, vMatch_rel hv, .inl hu⟩
  · refine k02 (and_i hv) fun h1 h2 => ?_
    exact ⟨u, vMatch_rel h1, .inr ⟨hu, hb, of_decide_eq_true h2⟩⟩

/-- the entries of a written table of ints -/
noncomputable def tabEs (P : Params) (l : List (Txt × Int × Tok × Tok)) : List DictEntry := l.map fun p => { hash := PyData.keyHash P (stO p.1), key := .str (stO p.1) p.2.2.1, val := .int p.2.1 p.2.2.2 }
theorem tabRel {P : Params} {r : Rh} {h : Heap} : ∀ l : List (Txt × Int × Tok × Tok), TabRel P r h (tabKv l) (tabEs P l)
  | [] => .nil
  | p :: l => .cons (t := p.2.2.1) rfl rfl (.int _ _) (tabRel l)
theorem PatAt.of {c : Cx} {a cd : Addr} {p f g x y kd : Value} {sl sl2 : Array (Option Value)} {items : Array Value} {n : Nat} {cls : Value} {code : Array Nat} (h1 : c.K.lookup a = some { cls := .type "re.Pattern", dict := none, data := .fields #[p, f, g, x, y, .ref cd, kd], slots := sl }) (h2 : c.K.lookup cd = some { cls := cls, dict := none, data := .seq items n, slots := sl2 })
    (hg : Builtin.Re.reRawNat g = 0) (hk : Builtin.Re.reRawNat kd = 0) (hi : ((items.map Builtin.Re.reRawOf).map (·.toNat)) = code) (ok : CodeOk code) : PatAt c.h₀ a :=
  ⟨p, f, g, x, y, cd, _, kd, sl, hg, hk, c.X _ _ h1, _, items, n, c.X _ _ h2, rfl, rfl, hi ▸ ok⟩
theorem nodup_get {l : List Str} (h : l.Nodup) : ∀ (i j : Nat) (x : Str), l[i]? = some x → l[j]? = some x → i = j := by
  intro i j x e1 e2
  obtain ⟨h1, e1⟩ := List.getElem?_eq_some_iff.mp e1
  obtain ⟨h2, e2⟩ := List.getElem?_eq_some_iff.mp e2
  exact (List.getElem_inj h).mp (e1.trans e2.symm)
end MI
namespace MI
theorem lex0 {α : Type} {us : List α} (h : us.length = 0) : us = [] := List.length_eq_zero_iff.mp h
theorem lexS {α : Type} {us : List α} {n : Nat} (h : us.length = n + 1) : ∃ a r, us = a :: r ∧ r.length = n := by
  cases us with
  | nil => exact absurd h (Nat.succ_ne_zero n).symm
  | cons a r => exact ⟨a, r, rfl, Nat.succ.inj h⟩
theorem lex1 {α : Type} {us : List α} (h : us.length = 1) : ∃ a, us = [a] := by
  refine k22 (lexS h) fun a r q hr => ?_; subst q
  cases lex0 hr; exact ⟨a, rfl⟩
theorem lex2 {α : Type} {us : List α} (h : us.length = 2) : ∃ a b, us = [a, b] := by
  refine k22 (lexS h) fun a r q hr => ?_; subst q
  refine k11 (lex1 hr) fun b q => ?_; subst q
  exact ⟨a, b, rfl⟩
theorem lex3 {α : Type} {us : List α} (h : us.length = 3) : ∃ a b d, us = [a, b, d] := by
  refine k22 (lexS h) fun a r q hr => ?_; subst q
  refine k21 (lex2 hr) fun b d q => ?_; subst q
  exact ⟨a, b, d, rfl⟩
theorem kex0 {kus : List (Str × Value)} (h : kus.map (·.1) = []) : kus = [] := List.map_eq_nil_iff.mp h
theorem kex1 {x : Str} {kus : List (Str × Value)} (h : kus.map (·.1) = [x]) : ∃ v, kus = [(x, v)] := by
  refine k11 (lex1 (us := kus) ((List.length_map ..).symm.trans (congrArg List.length h))) fun p q => ?_; subst q
  cases p with
  | mk y v => cases List.head_eq_of_cons_eq h; exact ⟨v, rfl⟩
end MI
end TMS63
section TMS64
open PySem PySem.Spec PySem.Calls PyProof.Rows PySem.W
set_option linter.unusedVariables false
namespace MI

/-! a run in a small heap tells of a run in a great one -/
mutual
noncomputable def V.ren (ρ : Nat → Option Nat) : V → Option V
  | .ref i => (ρ i).map .ref
  | .tup vs => (renL ρ vs).map .tup
  | .flist vs => (renL ρ vs).map .flist
  | .none => some .none
  | .bool b => some (.bool b)
  | .int i => some (.int i)
  | .str s => some (.str s)
  | .cst c => some (.cst c)
  | .rng a b => some (.rng a b)
noncomputable def renL (ρ : Nat → Option Nat) : List V → Option (List V)
  | [] => some []
  | v :: r => (V.ren ρ v).bind fun v' => (renL ρ r).map (v' :: ·)
end
noncomputable def renF (ρ : Nat → Option Nat) : List (Nat × V) → Option (List (Nat × V))
  | [] => some []
  | p :: r => (V.ren ρ p.2).bind fun v' => (renF ρ r).map ((p.1, v') :: ·)
noncomputable def O.ren (ρ : Nat → Option Nat) : O → Option O
  | .list vs => (renL ρ vs).map .list
  | .inst C fs => (renF ρ fs).map (.inst C)

section
variable {P : Params} {r₀ r : Rh} {h : Heap} {ρ : Nat → Option Nat}
theorem renL_i {v : V} {l : List V} {vs : List V} (e : renL ρ (v :: l) = some vs) : ∃ v' l', V.ren ρ v = some v' ∧ renL ρ l = some l' ∧ vs = v' :: l' := by
  refine k12 (Option.bind_eq_some_iff.mp e) fun v' h1 e2 => ?_
  refine k12 (Option.map_eq_some_iff.mp e2) fun l' h2 q => ?_
  exact ⟨v', l', h1, h2, q.symm⟩
theorem renF_i {p : Nat × V} {l : List (Nat × V)} {vs : List (Nat × V)} (e : renF ρ (p :: l) = some vs) : ∃ v' l', V.ren ρ p.2 = some v' ∧ renF ρ l = some l' ∧ vs = (p.1, v') :: l' := by
  refine k12 (Option.bind_eq_some_iff.mp e) fun v' h1 e2 => ?_
  refine k12 (Option.map_eq_some_iff.mp e2) fun l' h2 q => ?_
  exact ⟨v', l', h1, h2, q.symm⟩
theorem VRs.out_of (H : ∀ {v₀ : V} {u : Value}, VR P r₀ h v₀ u → ∀ v, V.ren ρ v₀ = some v → VR P r h v u) {vs₀ : List V} {us : List Value} (x : VRs P r₀ h vs₀ us) : ∀ vs, renL ρ vs₀ = some vs → VRs P r h vs us :=
  x.ind (M := fun vs₀ us => ∀ vs, renL ρ vs₀ = some vs → VRs P r h vs us) (fun vs e => Option.some.inj e ▸ .nil) fun a _ ih vs e => by
    refine k23 (renL_i e) fun v' l' h1 h2 q => ?_; subst q
    exact .cons (H a v' h1) (ih l' h2)
/-- out of the small into the great -/
theorem VR.out (hob : ∀ i j p, ρ i = some j → r₀.ob[i]? = some p → r.ob[j]? = some p) (hm : ∀ a, ¬ r₀.mut a → ¬ r.mut a) {v₀ v : V} {u : Value} (x : VR P r₀ h v₀ u) (e : V.ren ρ v₀ = some v) : VR P r h v u :=
  VR.rec (motive_1 := fun v₀ u _ => ∀ v, V.ren ρ v₀ = some v → VR P r h v u) (motive_2 := fun vs₀ us _ => ∀ vs, renL ρ vs₀ = some vs → VRs P r h vs us)
    (fun _ e => Option.some.inj e ▸ .none) (fun b _ e => Option.some.inj e ▸ .bool b) (fun i t _ e => Option.some.inj e ▸ .int i t) (fun s t _ e => Option.some.inj e ▸ .str s t)
    (fun i p hp _ e => (Option.map_eq_some_iff.mp e).elim fun j q => q.2 ▸ .ref j p (hob i j p q.1 hp)) (fun c _ e => Option.some.inj e ▸ .cst c)
    (fun _ items n a h1 h2 _ h4 ih _ e => (Option.map_eq_some_iff.mp e).elim fun ws q => q.2 ▸ .tup ws items n a h1 (hm a h2) (ih ws q.1) h4)
    (fun _ items a h1 h2 _ h4 ih _ e => (Option.map_eq_some_iff.mp e).elim fun ws q => q.2 ▸ .flist ws items a h1 (hm a h2) (ih ws q.1) h4)
    (fun a b t u' v' x h1 h2 _ e => Option.some.inj e ▸ .rng a b t u' v' x h1 (hm x h2)) (fun _ e => Option.some.inj e ▸ .nil)
    (fun _ _ ia ib _ e => k23 (renL_i e) fun v' l' h1 h2 q => q ▸ .cons (ia v' h1) (ib l' h2)) x v e
theorem VRs.out (hob : ∀ i j p, ρ i = some j → r₀.ob[i]? = some p → r.ob[j]? = some p) (hm : ∀ a, ¬ r₀.mut a → ¬ r.mut a) {vs₀ vs : List V} {us : List Value} (x : VRs P r₀ h vs₀ us) (e : renL ρ vs₀ = some vs) : VRs P r h vs us := x.out_of (fun a _ q => a.out hob hm q) vs e
mutual
/-- out of the great into the small -/
theorem VR.into (hob : ∀ i j p, ρ i = some j → r.ob[j]? = some p → r₀.ob[i]? = some p) (hm : ∀ a, ¬ r.mut a → ¬ r₀.mut a) : ∀ (v₀ : V) {v : V} {u : Value}, V.ren ρ v₀ = some v → VR P r h v u → VR P r₀ h v₀ u
  | .none, _, _, e, x => by cases Option.some.inj e; cases x.inv; exact .none
  | .bool b, _, _, e, x => by cases Option.some.inj e; cases x.inv; exact .bool b
  | .int i, _, _, e, x => by cases Option.some.inj e; exact k11 x.inv fun t q => q ▸ .int i t
  | .str s, _, _, e, x => by cases Option.some.inj e; exact k11 x.inv fun t q => q ▸ .str s t
  | .cst c, _, _, e, x => by cases Option.some.inj e; cases x.inv; exact .cst c
  | .ref i, _, _, e, x => by
    refine k12 (Option.map_eq_some_iff.mp e) fun j hj q4 => ?_; subst q4
    exact k12 x.inv fun p q hp => q ▸ .ref i p (hob i j p hj hp)
  | .tup vs, _, _, e, x => by
    refine k12 (Option.map_eq_some_iff.mp e) fun ws hw q5 => ?_; subst q5
    exact k35 x.inv fun items n a q h1 h2 h3 h4 => q ▸ .tup vs items n a h1 (hm a h2) (VRs.into hob hm vs hw h3) h4
  | .flist vs, _, _, e, x => by
    refine k12 (Option.map_eq_some_iff.mp e) fun ws hw q6 => ?_; subst q6
    exact k25 x.inv fun items a q h1 h2 h3 h4 => q ▸ .flist vs items a h1 (hm a h2) (VRs.into hob hm vs hw h3) h4
  | .rng a b, _, _, e, x => by
    cases Option.some.inj e
    exact k43 x.inv fun t u' v' y q h1 h2 => q ▸ .rng a b t u' v' y h1 (hm y h2)
theorem VRs.into (hob : ∀ i j p, ρ i = some j → r.ob[j]? = some p → r₀.ob[i]? = some p) (hm : ∀ a, ¬ r.mut a → ¬ r₀.mut a) : ∀ (vs₀ : List V) {vs : List V} {us : List Value}, renL ρ vs₀ = some vs → VRs P r h vs us → VRs P r₀ h vs₀ us
  | [], _, _, e, x => by cases Option.some.inj e; cases x.inv; exact .nil
  | v :: r, _, _, e, x => by
    refine k23 (renL_i e) fun v' l' h1 h2 q => ?_; subst q
    exact k23 x.inv fun u us' q a b => q ▸ .cons (VR.into hob hm v h1 a) (VRs.into hob hm r h2 b)
end
theorem renF_look {x : Nat} {fs fs' : List (Nat × V)} (e : renF ρ fs = some fs') : (∀ v, look x fs = some v → ∃ v', V.ren ρ v = some v' ∧ look x fs' = some v') ∧ (look x fs = .none → look x fs' = .none) := by
  induction fs generalizing fs' with
  | nil => cases Option.some.inj e; exact ⟨fun v q => ns q, fun _ => rfl⟩
  | cons p fs ih =>
    refine k23 (renF_i e) fun w' r' hw hr q => ?_; subst q
    cases p with
    | mk y w =>
      rw [look_cons, look_cons]
      by_cases h : (y == x) = true
      · rw [if_pos h, if_pos h]
        exact ⟨fun v q => ⟨w', Option.some.inj q ▸ hw, rfl⟩, fun q => sn q⟩
      · rw [if_neg h, if_neg h]
        exact ih hr
theorem renF_length {fs fs' : List (Nat × V)} (e : renF ρ fs = some fs') : fs'.length = fs.length := by
  induction fs generalizing fs' with
  | nil => cases Option.some.inj e; rfl
  | cons p fs ih =>
    refine k23 (renF_i e) fun w' r' hw hr q => ?_; subst q
    exact congrArg Nat.succ (ih hr)
theorem OR.out {ids : List Str} (hob : ∀ i j p, ρ i = some j → r₀.ob[i]? = some p → r.ob[j]? = some p) (hm : ∀ a, ¬ r₀.mut a → ¬ r.mut a) {o₀ o : O} {p : Addr × Addr} (x : OR P ids r₀ h o₀ p) (e : O.ren ρ o₀ = some o) : OR P ids r h o p := by
  cases x with
  | list vs items n a h1 h2 h3 =>
    refine k12 (Option.map_eq_some_iff.mp (show (renL ρ vs).map O.list = some o from e)) fun ws hw q7 => ?_; subst q7
    exact .list ws items n a h1 (h2.out hob hm hw) h3
  | inst C fs a d es n ne e1 e2 le nr hv hn =>
    refine k12 (Option.map_eq_some_iff.mp (show (renF ρ fs).map (O.inst C) = some o from e)) fun fs' hf q8 => ?_; subst q8
    refine .inst C fs' a d es n ne e1 e2 (by rw [renF_length hf]; exact le) nr (fun i x v hi hl => ?_) fun i x hi hl => ?_
    · have L := renF_look (x := i) hf
      cases q : look i fs with
      | none => rw [L.2 q] at hl; exact ns hl
      | some w =>
        refine k12 (L.1 w q) fun v' h1 h2 => ?_
        rw [h2] at hl; (refine si hl fun q69 => ?_; subst q69; clear hl)
        refine k12 (hv i x w hi q) fun u hu hr => ?_
        exact ⟨u, hu, hr.out hob hm h1⟩
    · have L := renF_look (x := i) hf
      cases q : look i fs with
      | none => exact hn i x hi q
      | some w =>
        refine k12 (L.1 w q) fun v' h1 h2 => ?_
        rw [h2] at hl; exact sn hl
theorem OR.into {ids : List Str} (hob : ∀ i j p, ρ i = some j → r.ob[j]? = some p → r₀.ob[i]? = some p) (hm : ∀ a, ¬ r.mut a → ¬ r₀.mut a) {o₀ o : O} {p : Addr × Addr} (e : O.ren ρ o₀ = some o) (x : OR P ids r h o p) : OR P ids r₀ h o₀ p := by
  cases o₀ with
  | list vs =>
    refine k12 (Option.map_eq_some_iff.mp (show (renL ρ vs).map O.list = some o from e)) fun ws hw q9 => ?_; subst q9
    cases x with
    | list ws items n a h1 h2 h3 => exact .list vs items n a h1 (VRs.into hob hm vs hw h2) h3
  | inst C fs =>
    refine k12 (Option.map_eq_some_iff.mp (show (renF ρ fs).map (O.inst C) = some o from e)) fun fs' hf q10 => ?_; subst q10
    cases x with
    | inst C fs' a d es n ne e1 e2 le nr hv hn =>
      refine .inst C fs a d es n ne e1 e2 (by rw [← renF_length hf]; exact le) nr (fun i x v hi hl => ?_) fun i x hi hl => ?_
      · refine k12 ((renF_look (x := i) hf).1 v hl) fun v' h1 h2 => ?_
        refine k12 (hv i x v' hi h2) fun u hu hr => ?_
        exact ⟨u, hu, VR.into hob hm v h1 hr⟩
      · exact hn i x hi ((renF_look (x := i) hf).2 hl)
end
end MI
end TMS64
section TMS65
open PySem PySem.Spec PySem.Calls PyProof.Rows PySem.W
set_option linter.unusedVariables false
namespace MI

noncomputable def posOf (i : Nat) : List Nat → Option Nat
  | [] => none
  | x :: r => if x == i then some 0 else (posOf i r).map (· + 1)
theorem posOf_get {i : Nat} : ∀ {κ : List Nat} {m : Nat}, posOf i κ = some m → κ[m]? = some i
  | x :: r, m, e => by
    unfold posOf at e
    split at e
    · rename_i h; (refine si e fun q1 => ?_; subst q1; clear e); simp at h; simp [h]
    · refine k12 (Option.map_eq_some_iff.mp e) fun m' h q1 => ?_; subst q1
      rw [List.getElem?_cons_succ]; exact posOf_get h
noncomputable def newRen (ι κ : List Nat) (n₀ n : Nat) (i : Nat) : Option Nat := if i < n₀ then ι[i]? else (posOf i κ).map (n + ·)

structure Framed (σ σ' σ₀ σ₀' : H) (ι κ : List Nat) : Prop where
  nd : ι.Nodup
  lt : ∀ j ∈ ι, j < σ.length
  len : ι.length = σ₀.length
  pre : ∀ (k : Nat) o₀, σ₀[k]? = some o₀ → ∃ (j : Nat) (o : O), ι[k]? = some j ∧ O.ren (fun i => ι[i]?) o₀ = some o ∧ σ[j]? = some o
  ndk : κ.Nodup
  gek : ∀ i ∈ κ, σ₀.length ≤ i
  len' : σ'.length = σ.length + κ.length
  post : ∀ (k j : Nat) o₀, ι[k]? = some j → σ₀'[k]? = some o₀ → ∃ o, O.ren (newRen ι κ σ₀.length σ.length) o₀ = some o ∧ σ'[j]? = some o
  rest : ∀ (j : Nat), j < σ.length → j ∉ ι → σ'[j]? = σ[j]?
  new : ∀ (m i : Nat), κ[m]? = some i → ∃ o₀ o, σ₀'[i]? = some o₀ ∧ O.ren (newRen ι κ σ₀.length σ.length) o₀ = some o ∧ σ'[σ.length + m]? = some o

noncomputable def smallOb (r : Rh) (ι : List Nat) : List (Addr × Addr) := ι.map fun j => r.ob.getD j (0, 0)
noncomputable def smallPv (r : Rh) (ι : List Nat) : List Addr := r.pv ++ (List.range r.ob.length).flatMap fun j => if j ∈ ι then [] else [(r.ob.getD j (0, 0)).1, (r.ob.getD j (0, 0)).2]
noncomputable def smallR (r : Rh) (ι : List Nat) : Rh := ⟨smallOb r ι, smallPv r ι⟩

section
variable {r : Rh} {ι : List Nat}
theorem getD_get {j : Nat} (h : j < r.ob.length) : r.ob[j]? = some (r.ob.getD j (0, 0)) := by
  rw [List.getD_eq_getElem?_getD, List.getElem?_eq_getElem h]; rfl
theorem small_ob (hlt : ∀ j ∈ ι, j < r.ob.length) {k : Nat} {p : Addr × Addr} (e : (smallOb r ι)[k]? = some p) : ∃ j, ι[k]? = some j ∧ r.ob[j]? = some p := by
  unfold smallOb at e
  rw [List.getElem?_map] at e
  refine k12 (Option.map_eq_some_iff.mp e) fun j hj q2 => ?_; subst q2
  exact ⟨j, hj, getD_get (hlt j (List.mem_of_getElem? hj))⟩
theorem small_pv {b : Addr} (h : b ∈ smallPv r ι) : b ∈ r.pv ∨ ∃ (j : Nat) (p : Addr × Addr), j ∉ ι ∧ r.ob[j]? = some p ∧ (b = p.1 ∨ b = p.2) := by
  rcases List.mem_append.mp h with h | h
  · exact .inl h
  · refine k12 (List.mem_flatMap.mp h) fun j hj h => ?_
    split at h
    · cases h
    · rename_i hn
      have hlt : j < r.ob.length := List.mem_range.mp hj
      refine .inr ⟨j, _, hn, getD_get hlt, ?_⟩
      simpa using h
theorem small_own (hlt : ∀ j ∈ ι, j < r.ob.length) {b : Addr} (h : (smallR r ι).own b) : ∃ (j : Nat) (p : Addr × Addr), j ∈ ι ∧ r.ob[j]? = some p ∧ (b = p.1 ∨ b = p.2) := by
  refine k12 h fun p hp hb => ?_; clear h
  refine k11 (List.getElem?_of_mem hp) fun k hk => ?_
  refine k12 (small_ob hlt hk) fun j hj e => ?_
  exact ⟨j, p, List.mem_of_getElem? hj, e, hb⟩
theorem small_mut_old (hlt : ∀ j ∈ ι, j < r.ob.length) {b : Addr} (h : (smallR r ι).mut b) : r.mut b := by
  rcases h with h | h
  · refine k23 (small_own hlt h) fun j p _ e hb => ?_
    exact .inl ⟨p, List.mem_of_getElem? e, hb⟩
  · rcases small_pv h with h | ⟨j, p, _, e, hb⟩
    · exact .inr h
    · exact .inl ⟨p, List.mem_of_getElem? e, hb⟩
theorem mut_small {b : Addr} (h : r.mut b) : (smallR r ι).mut b := by
  rcases h with ⟨p, hp, hb⟩ | h
  · refine k11 (List.getElem?_of_mem hp) fun j hj => ?_
    have hlt : j < r.ob.length := by have h := lt_of_get hj; exact h
    have hg := getD_get (r := r) hlt
    rw [hj] at hg
    have hpe : p = r.ob.getD j (0, 0) := Option.some.inj hg
    by_cases hi : j ∈ ι
    · refine .inl ⟨p, ?_, hb⟩
      show p ∈ ι.map _
      exact List.mem_map.mpr ⟨j, hi, hpe.symm⟩
    · refine .inr (List.mem_append_right _ (List.mem_flatMap.mpr ⟨j, List.mem_range.mpr hlt, ?_⟩))
      rw [if_neg hi, ← hpe]
      rcases hb with rfl | rfl <;> simp
  · exact .inr (List.mem_append_left _ h)

theorem ob_apart {P : Params} {ids : List Str} {h₀ h : Heap} {σ : H} (R : Rel P ids h₀ r σ h) {i j : Nat} {p q : Addr × Addr} (e1 : r.ob[i]? = some p) (e2 : r.ob[j]? = some q) (ne : i ≠ j) : p.1 ≠ q.1 ∧ p.1 ≠ q.2 ∧ p.2 ≠ q.1 ∧ p.2 ≠ q.2 := by
  have A := List.pairwise_iff_getElem.mp R.apart
  obtain ⟨li, ei⟩ := List.getElem?_eq_some_iff.mp e1
  obtain ⟨lj, ej⟩ := List.getElem?_eq_some_iff.mp e2
  rcases Nat.lt_or_gt_of_ne ne with lt | lt
  · have := A i j li lj lt
    rw [ei, ej] at this; exact this
  · have := A j i lj li lt
    rw [ei, ej] at this
    exact ⟨Ne.symm this.1, Ne.symm this.2.2.1, Ne.symm this.2.1, Ne.symm this.2.2.2⟩

theorem small_rel {P : Params} {ids : List Str} {h₀ h : Heap} {σ σ' σ₀ σ₀' : H} {κ : List Nat} (R : Rel P ids h₀ r σ h) (F : Framed σ σ' σ₀ σ₀' ι κ) : Rel P ids h₀ (smallR r ι) σ₀ h := by
  have hlt : ∀ j ∈ ι, j < r.ob.length := fun j hj => by rw [R.len]; exact F.lt j hj
  have hob : ∀ (i j : Nat) (p : Addr × Addr), ι[i]? = some j → r.ob[j]? = some p → (smallR r ι).ob[i]? = some p := fun i j p e1 e2 => by
    show (ι.map _)[i]? = _
    rw [List.getElem?_map, e1]
    obtain ⟨hl, e⟩ := List.getElem?_eq_some_iff.mp e2
    simp [hl, e]
  have hm : ∀ a, ¬ r.mut a → ¬ (smallR r ι).mut a := fun a h q => h (small_mut_old hlt q)
  refine ⟨R.base, ?_, fun i o p e1 e2 => ?_, fun b hb => R.fresh b (small_mut_old hlt hb), ?_, fun b hb hown => ?_, fun b hb => ?_⟩
  · show (ι.map _).length = _
    rw [List.length_map, F.len]
  · refine k23 (F.pre i o e1) fun j o' hj ho hs => ?_
    refine k12 (small_ob hlt e2) fun j' hj' hp => ?_
    rw [hj] at hj'; (refine si hj' fun q7 => ?_; subst q7; clear hj')
    exact OR.into hob hm ho (R.obj j o' p hs hp)
  · show (ι.map _).Pairwise _
    rw [List.pairwise_map]
    refine List.Pairwise.imp_of_mem ?_ F.nd
    intro a b ha hb hab
    exact ob_apart R (getD_get (hlt a ha)) (getD_get (hlt b hb)) hab
  · refine k23 (small_own hlt hown) fun j p hj e hp => ?_
    rcases small_pv hb with h | ⟨j', p', hn, e', hp'⟩
    · exact R.pvo b h ⟨p, List.mem_of_getElem? e, hp⟩
    · have ne : j ≠ j' := fun q => hn (q ▸ hj)
      have A := ob_apart R e e' ne
      rcases hp with rfl | rfl <;> rcases hp' with q | q
      · exact A.1 q
      · exact A.2.1 q
      · exact A.2.2.1 q
      · exact A.2.2.2 q
  · rcases small_pv hb with h | ⟨j, p, _, e, hp⟩
    · exact R.pvl b h
    · exact R.ownLive ⟨p, List.mem_of_getElem? e, hp⟩
end

theorem nodup_get_inj {κ : List Nat} (nd : κ.Nodup) {m m' i : Nat} (e1 : κ[m]? = some i) (e2 : κ[m']? = some i) : m = m' := by
  obtain ⟨h1, e1⟩ := List.getElem?_eq_some_iff.mp e1
  obtain ⟨h2, e2⟩ := List.getElem?_eq_some_iff.mp e2
  exact (List.getElem_inj nd).mp (e1.trans e2.symm)

/-- the end in the small heap tells of an end in the great one -/
theorem Out.small {c : Cx} {r : Rh} {s : Shared} {σ σ' σ₀ σ₀' : H} {v v₀ : V} {ι κ : List Nat} {Q : Value → Shared → Prop} (R : c.R r σ s.heap) (F : Framed σ σ' σ₀ σ₀' ι κ) (hv : V.ren (newRen ι κ σ₀.length σ.length) v₀ = some v) (O : Out c r s σ' v Q) : Out c (smallR r ι) s σ₀' v₀ Q := by
  intro u r₁ h' tk R₁ S₁ x
  have hlt : ∀ j ∈ ι, j < r.ob.length := fun j hj => by rw [R.len]; exact F.lt j hj
  obtain ⟨τ, hτ, hfr⟩ := S₁.ext
  have hpv : r₁.pv = smallPv r ι := S₁.pv
  have hlen0 : (smallOb r ι).length = σ₀.length := by unfold smallOb; rw [List.length_map, F.len]
  -- the new objects
  have newAt : ∀ i ∈ κ, ∃ p, r₁.ob[i]? = some p ∧ p ∈ τ := fun i hi => by
    obtain ⟨m, hm⟩ := List.getElem?_of_mem hi
    obtain ⟨o₀, o, e1, _, _⟩ := F.new m i hm
    obtain ⟨p, hp, _⟩ := R₁.there e1
    refine ⟨p, hp, ?_⟩
    have hp' := hp
    rw [hτ] at hp'
    have : (smallR r ι).ob.length ≤ i := by show (smallOb r ι).length ≤ i; rw [hlen0]; exact F.gek i hi
    rw [List.getElem?_append_right this] at hp'
    exact List.mem_of_getElem? hp'
  let nob : List (Addr × Addr) := κ.map fun i => r₁.ob.getD i (0, 0)
  let r' : Rh := ⟨r.ob ++ nob, r.pv⟩
  have nobAt : ∀ {m : Nat} {p : Addr × Addr}, nob[m]? = some p → ∃ i, κ[m]? = some i ∧ r₁.ob[i]? = some p ∧ p ∈ τ := fun {m p} e => by
    show ∃ i, κ[m]? = some i ∧ _
    have e' : (κ.map fun i => r₁.ob.getD i (0, 0))[m]? = some p := e
    rw [List.getElem?_map] at e'
    obtain ⟨i, hi, rfl⟩ := Option.map_eq_some_iff.mp e'
    obtain ⟨p, hp, hpt⟩ := newAt i (List.mem_of_getElem? hi)
    have : r₁.ob.getD i (0, 0) = p := by rw [List.getD_eq_getElem?_getD, hp]; rfl
    rw [this]
    exact ⟨i, hi, hp, hpt⟩
  have memNob : ∀ {p : Addr × Addr}, p ∈ nob → p ∈ τ ∧ p ∈ r₁.ob := fun {p} hp => by
    obtain ⟨m, hm⟩ := List.getElem?_of_mem hp
    obtain ⟨i, _, h1, h2⟩ := nobAt hm
    exact ⟨h2, List.mem_of_getElem? h1⟩
  have obOld : ∀ {k j : Nat} {p : Addr × Addr}, ι[k]? = some j → r₁.ob[k]? = some p → r.ob[j]? = some p := fun {k j p} hk hp => by
    have hkl : k < (smallR r ι).ob.length := by
      show k < (smallOb r ι).length
      rw [hlen0, ← F.len]
      have h := lt_of_get hk; exact h
    rw [hτ, List.getElem?_append_left hkl] at hp
    obtain ⟨j', hj', e⟩ := small_ob hlt hp
    rw [hk] at hj'; cases hj'
    exact e
  have hob : ∀ (i j : Nat) (p : Addr × Addr), newRen ι κ σ₀.length σ.length i = some j → r₁.ob[i]? = some p → r'.ob[j]? = some p := fun i j p e1 e2 => by
    unfold newRen at e1
    split at e1
    · have := obOld e1 e2
      have hl := lt_of_get this
      show (r.ob ++ nob)[j]? = _
      rw [List.getElem?_append_left hl]; exact this
    · obtain ⟨m, hm, rfl⟩ := Option.map_eq_some_iff.mp e1
      have hκ := posOf_get hm
      show (r.ob ++ nob)[σ.length + m]? = _
      rw [List.getElem?_append_right (by rw [R.len]; omega), R.len, Nat.add_sub_cancel_left]
      show (κ.map _)[m]? = _
      rw [List.getElem?_map, hκ]
      show some (r₁.ob.getD i (0, 0)) = _
      rw [List.getD_eq_getElem?_getD, e2]; rfl
  have hm : ∀ a, ¬ r₁.mut a → ¬ r'.mut a := fun a h q => by
    refine h ?_
    rcases q with ⟨p, hp, hb⟩ | q
    · rcases List.mem_append.mp hp with hp | hp
      · have : (smallR r ι).mut a := mut_small (.inl ⟨p, hp, hb⟩)
        rcases this with h2 | h2
        · exact .inl (S₁.own_new h2)
        · exact .inr (hpv ▸ h2)
      · exact .inl ⟨p, (memNob hp).2, hb⟩
    · exact .inr (hpv ▸ List.mem_append_left _ q)
  have oldLive : ∀ {p : Addr × Addr}, p ∈ r.ob → (∃ o, s.heap.get? p.1 = some o) ∧ ∃ o, s.heap.get? p.2 = some o := fun {p} hp => ⟨R.ownLive ⟨p, hp, .inl rfl⟩, R.ownLive ⟨p, hp, .inr rfl⟩⟩
  have M : Mv r s.heap r' h' := ⟨fun i p e => by
      have hl := lt_of_get e
      show (r.ob ++ nob)[i]? = _
      rw [List.getElem?_append_left hl]; exact e, fun a o e f => by
      refine ⟨S₁.keep a o e fun q => f (small_mut_old hlt (.inl q)), fun q => ?_⟩
      rcases q with ⟨p, hp, hb⟩ | q
      · rcases List.mem_append.mp hp with hp | hp
        · exact f (.inl ⟨p, hp, hb⟩)
        · obtain ⟨h1, h2⟩ := hfr p (memNob hp).1
          rcases hb with rfl | rfl
          · rw [h1] at e; cases e
          · rw [h2] at e; cases e
      · exact f (.inr q)⟩
  refine O u r' h' tk ?_ ?_ (x.out hob hm hv)
  · refine ⟨R₁.base, ?_, fun j o p e1 e2 => ?_, fun b hb => ?_, ?_, fun b hb hown => ?_, fun b hb => ?_⟩
    · show (r.ob ++ nob).length = _
      rw [List.length_append, R.len, F.len']
      show _ + (κ.map _).length = _
      rw [List.length_map]
    · by_cases hj : j < σ.length
      · have e2' : r.ob[j]? = some p := by
          have : (r.ob ++ nob)[j]? = some p := e2
          rw [List.getElem?_append_left (by rw [R.len]; exact hj)] at this; exact this
        by_cases hi : j ∈ ι
        · obtain ⟨k, hk⟩ := List.getElem?_of_mem hi
          have hk0 : k < σ₀.length := by
            rw [← F.len]
            have h := lt_of_get hk; exact h
          have hob1 : r₁.ob[k]? = some p := by
            rw [hτ, List.getElem?_append_left (by show k < (smallOb r ι).length; rw [hlen0]; exact hk0)]
            show (ι.map _)[k]? = _
            rw [List.getElem?_map, hk]
            show some (r.ob.getD j (0, 0)) = _
            rw [List.getD_eq_getElem?_getD, e2']; rfl
          have hk1 : k < σ₀'.length := by
            rw [← R₁.len]
            have h := lt_of_get hob1; exact h
          obtain ⟨o', h1, h2⟩ := F.post k j _ hk (List.getElem?_eq_getElem hk1)
          rw [h2] at e1; cases e1
          exact (R₁.obj k _ p (List.getElem?_eq_getElem hk1) hob1).out hob hm h1
        · rw [F.rest j hj hi] at e1
          refine (R.obj j o p e1 e2').mv M (fun ob e => S₁.keep _ ob e fun q => ?_) fun ob e => S₁.keep _ ob e fun q => ?_
          · obtain ⟨j', p', hj', e', hb⟩ := small_own hlt q
            have A := ob_apart R e2' e' fun z => hi (z ▸ hj')
            rcases hb with z | z
            · exact A.1 z
            · exact A.2.1 z
          · obtain ⟨j', p', hj', e', hb⟩ := small_own hlt q
            have A := ob_apart R e2' e' fun z => hi (z ▸ hj')
            rcases hb with z | z
            · exact A.2.2.1 z
            · exact A.2.2.2 z
      · have hj' : j < σ'.length := by have h := lt_of_get e1; exact h
        rw [F.len'] at hj'
        obtain ⟨m, rfl⟩ : ∃ m, j = σ.length + m := ⟨j - σ.length, by omega⟩
        have e2' : nob[m]? = some p := by
          have : (r.ob ++ nob)[σ.length + m]? = some p := e2
          rw [List.getElem?_append_right (by rw [R.len]; omega), R.len, Nat.add_sub_cancel_left] at this; exact this
        obtain ⟨i, hi, hp, _⟩ := nobAt e2'
        obtain ⟨o₀, o', h1, h2, h3⟩ := F.new m i hi
        rw [h3] at e1; cases e1
        exact (R₁.obj i o₀ p h1 hp).out hob hm h2
    · refine Classical.byContradiction fun q => ?_
      have : ¬ ¬ r₁.mut b := fun z => hm b z hb
      exact q (R₁.fresh b (Classical.not_not.mp this))
    · refine List.pairwise_append.mpr ⟨R.apart, ?_, fun p hp q hq => ?_⟩
      · show (κ.map _).Pairwise _
        rw [List.pairwise_map]
        refine List.Pairwise.imp_of_mem ?_ F.ndk
        intro a b ha hb hab
        obtain ⟨p, hp, _⟩ := newAt a ha
        obtain ⟨q, hq, _⟩ := newAt b hb
        have e1 : r₁.ob.getD a (0, 0) = p := by rw [List.getD_eq_getElem?_getD, hp]; rfl
        have e2 : r₁.ob.getD b (0, 0) = q := by rw [List.getD_eq_getElem?_getD, hq]; rfl
        rw [e1, e2]
        exact ob_apart R₁ hp hq hab
      · obtain ⟨⟨o1, l1⟩, ⟨o2, l2⟩⟩ := oldLive hp
        obtain ⟨f1, f2⟩ := hfr q (memNob hq).1
        have no : ∀ {a b : Addr} {ob}, s.heap.get? b = .none → s.heap.get? a = some ob → a ≠ b := fun n e z => ns (n.symm.trans (z ▸ e))
        exact ⟨no f1 l1, no f2 l1, no f1 l2, no f2 l2⟩
    · rcases hown with ⟨p, hp, hb'⟩
      rcases List.mem_append.mp hp with hp | hp
      · exact R.pvo b hb ⟨p, hp, hb'⟩
      · obtain ⟨o, e⟩ := R.pvl b hb
        obtain ⟨f1, f2⟩ := hfr p (memNob hp).1
        rcases hb' with rfl | rfl
        · rw [f1] at e; cases e
        · rw [f2] at e; cases e
    · obtain ⟨o, e⟩ := R.pvl b hb
      exact S₁.live b o e
  · refine ⟨⟨nob, rfl, fun p hp => hfr p (memNob hp).1⟩, rfl, fun b o e hb => S₁.keep b o e fun q => ?_, S₁.live⟩
    obtain ⟨j, p, _, e', hp⟩ := small_own hlt q
    exact hb ⟨p, List.mem_of_getElem? e', hp⟩
end MI
end TMS65
section TMS66
open PySem PySem.Spec PySem.Calls PyProof.Rows PySem.W
set_option linter.unusedVariables false
namespace MI
theorem FitsN.le {A : Around} {m n : Nat} (F : FitsN A n) (h : m ≤ n) : FitsN A m := ⟨F.hd, by have := F.dp; omega, by have := F.un; omega⟩

theorem callX_sound {c : Cx} (hOk : c.Ok) (hFn : c.FnOk) (hP : c.PatsOk) {n₀ : Nat} {over : Cf} (H : CfOk c n₀ over) (fe fs : Nat) : ∀ n, CfOk c (n₀ + n) (callX c.Γ over fe fs n)
  | 0 => H
  | n + 1 => by
    have IH := callX_sound hOk hFn hP H fe fs n
    refine ⟨fun f as ks σ x e => ?_, fun {A f as ks σ σ' v r s us kus Rr} hA e R x y O => ?_⟩
    · unfold callX at e
      cases q : over f as ks σ with
      | some y => exact H.keep _ _ _ _ _ q
      | none =>
        rw [q] at e
        cases hF : c.Γ.fns.lookup f with
        | none => rw [hF] at e; exact ns e
        | some F => exact fn_keep (hFn f F hF)
    · unfold callX at e
      cases q : over f as ks σ with
      | some y' =>
        rw [q] at e
        (refine sp e fun q3 q4 => ?_; subst q3; subst q4; clear e)
        exact H.run (hA.le (Nat.le_add_right _ _)) q R x y O
      | none =>
        rw [q] at e
        cases hF : c.Γ.fns.lookup f with
        | none => rw [hF] at e; exact ns e
        | some F =>
          rw [hF] at e
          have hA' : FitsN A (n₀ + n + 1) := hA
          refine call_sound (fe := fe) (fs := fs) (cf := callX c.Γ over fe fs n) hOk hA' (fun env => ?_) (hFn f F hF) R x y e O
          have hB := hA'.deeper env
          have room : c.HasRoom (A.deeper env) := ⟨hB.hd, by have := hB.un; omega, by have := hB.dp; omega⟩
          have E : ∀ m, ∀ k, k ≤ m → EvOk c (A.deeper env) (ev c.Γ (callX c.Γ over fe fs n) k) := ev_sound hOk hB IH (bi_ok room.hd sort_sound) (me_ok hOk hP) (fun m IHm => far_node hOk hB m IHm)
          have X := exs_sound (fe := fe) hOk hB.hd (by have := hB.un; omega) (fun m => @E m m (Nat.le_refl _)) fs
          exact @And.right _ _ X
theorem run_sound {c : Cx} (hOk : c.Ok) (hFn : c.FnOk) (hP : c.PatsOk) (fe fs n : Nat) : CfOk c n (callN c.Γ fe fs n) := by
  have := callX_sound (n₀ := 0) (over := fun _ _ _ _ => .none) hOk hFn hP ⟨fun _ _ _ _ _ e => (by cases e), fun _ e => (by cases e)⟩ fe fs n
  rw [Nat.zero_add] at this
  exact this

/-- what is told ahead is told by a run in a small heap -/
structure Told (cf : Cf) (f : Addr) (as : List V) (σ : H) (v : V) (σ' : H) : Prop where
  small : ∃ σ₀ σ₀' as₀ v₀ ι κ, cf f as₀ [] σ₀ = some (v₀, σ₀') ∧ Framed σ σ' σ₀ σ₀' ι κ ∧ renL (fun i => ι[i]?) as₀ = some as ∧ V.ren (newRen ι κ σ₀.length σ.length) v₀ = some v

theorem over_ok {c : Cx} {n : Nat} {cf : Cf} (CF : CfOk c n cf) {over : Cf} (h : ∀ f as ks σ v σ', over f as ks σ = some (v, σ') → ks = [] ∧ Told cf f as σ v σ') : CfOk c n over where
  keep := fun f as ks σ x e => by
    obtain ⟨v, σ'⟩ := x
    obtain ⟨σ₀, σ₀', as₀, v₀, ι, κ, e0, _⟩ := (h f as ks σ v σ' e).2.small
    exact CF.keep _ _ _ _ _ e0
  run := fun {A f as ks σ σ' v r s us kus Rr} hA e R x y O => by
    obtain ⟨rfl, T⟩ := h f as ks σ v σ' e
    obtain ⟨σ₀, σ₀', as₀, v₀, ι, κ, e0, F, ha, hv⟩ := T.small
    have R₀ : c.R (smallR r ι) σ₀ s.heap := small_rel R F
    have hlt : ∀ j ∈ ι, j < r.ob.length := fun j hj => by rw [R.len]; exact F.lt j hj
    have x₀ : VRs c.w.params (smallR r ι) s.heap as₀ us := VRs.into (r := r) (ρ := fun i => ι[i]?) (fun i j p e1 e2 => by
      show (ι.map _)[i]? = _
      rw [List.getElem?_map, e1]
      obtain ⟨hl, e⟩ := List.getElem?_eq_some_iff.mp e2
      simp [hl, e]) (fun a h q => h (small_mut_old hlt q)) as₀ ha x
    have hk : kus = [] := y.none_inv
    subst hk
    exact CF.run hA e0 R₀ x₀ .nil (Out.small R F hv O)
end MI
end TMS66
section TMS67
open PySem PySem.Spec PySem.Calls PyProof.Rows PySem.W
set_option linter.unusedVariables false
namespace MI
/-- what `spec` tells ahead, wherever a run in a small heap bears it out -/
noncomputable def overT (cf : Cf) (spec : Addr → List V → H → Option (V × H)) : Cf := fun f as ks σ => match spec f as σ with
  | .none => .none
  | some x => @ite _ (ks = [] ∧ Told cf f as σ x.1 x.2) (Classical.propDecidable _) (some x) .none
theorem overT_ok {c : Cx} {n : Nat} {cf : Cf} (CF : CfOk c n cf) (spec : Addr → List V → H → Option (V × H)) : CfOk c n (overT cf spec) :=
  over_ok CF (fun f as ks σ v σ' e => by
    unfold overT at e
    split at e
    · exact ns e
    · split at e
      · rename_i h; (refine sp e fun q3 q4 => ?_; subst q3; subst q4; clear e); exact h
      · cases e)
theorem overT_told {cf : Cf} {spec : Addr → List V → H → Option (V × H)} {f : Addr} {as : List V} {σ σ' : H} {v : V} (h : spec f as σ = some (v, σ')) (T : Told cf f as σ v σ') : overT cf spec f as [] σ = some (v, σ') := by
  unfold overT
  rw [h]
  exact if_pos ⟨rfl, T⟩
theorem callX_told {Γ : G} {cf : Cf} {spec : Addr → List V → H → Option (V × H)} {fe fs n : Nat} {f : Addr} {as : List V} {σ σ' : H} {v : V} (h : spec f as σ = some (v, σ')) (T : Told cf f as σ v σ') : callX Γ (overT cf spec) fe fs n f as [] σ = some (v, σ') := by
  cases n with
  | zero => exact overT_told h T
  | succ n => unfold callX; rw [overT_told h T]
theorem callX_run {Γ : G} {cf : Cf} {spec : Addr → List V → H → Option (V × H)} {fe fs n : Nat} {f : Addr} {F : Fn} {as : List V} {ks : List (Nat × V)} {σ : H} (h : spec f as σ = none) (hF : Γ.fns.lookup f = some F) : callX Γ (overT cf spec) fe fs (n + 1) f as ks σ = runBody Γ (callX Γ (overT cf spec) fe fs n) fe fs F as ks σ := by
  conv => lhs; unfold callX
  have : overT cf spec f as ks σ = none := by unfold overT; rw [h]
  rw [this, hF]
theorem callN_run {Γ : G} {fe fs n : Nat} {f : Addr} {F : Fn} {as : List V} {ks : List (Nat × V)} {σ : H} (hF : Γ.fns.lookup f = some F) : callN Γ fe fs (n + 1) f as ks σ = runBody Γ (callN Γ fe fs n) fe fs F as ks σ := by
  show callX Γ (fun _ _ _ _ => .none) fe fs (n + 1) f as ks σ = _
  conv => lhs; unfold callX
  rw [hF]; rfl
end MI
end TMS67
section TG2
open PySem
set_option maxRecDepth 100000
namespace MI.L2
noncomputable def ids : List Str := (["self", "headers", "_headers", "k", "v", "_convert_string_type", "name", "__init__", "value", "regex", "search", "format", "default", "lower", "get", "items", "result", "append", "setdefault", "ws", "raw", "count", "b", "n", "nt", "ch", "norm", "is_simple", "S", "T", "trailing", "longest_run_of_spaces", "tabsize", "il", "i", "indent_level", "other", "ts", "less", "a", "not_less_witness", "x", "script", "leads", "base", "y", "join", "share", "whites", "ends", "at", "end", "lead", "size", "column", "sign", "columns", "longs", "late", "pairs", "j", "part", "pair", "row", "split", "table", "standing", "told", "others", "upper", "one", "worth", "behind", "parts", "inner", "text", "symbols", "find", "symbol", "pile", "whole", "pop", "above", "page", "pages", "due", "h", "worths", "due_ends"] : List String).map Str.ofString
noncomputable def idsT : List Txt := [[115, 101, 108, 102], [104, 101, 97, 100, 101, 114, 115], [95, 104, 101, 97, 100, 101, 114, 115], [107], [118], [95, 99, 111, 110, 118, 101, 114, 116, 95, 115, 116, 114, 105, 110, 103, 95, 116, 121, 112, 101], [110, 97, 109, 101], [95, 95, 105, 110, 105, 116, 95, 95], [118, 97, 108, 117, 101], [114, 101, 103, 101, 120], [115, 101, 97, 114, 99, 104], [102, 111, 114, 109, 97, 116], [100, 101, 102, 97, 117, 108, 116], [108, 111, 119, 101, 114], [103, 101, 116], [105, 116, 101, 109, 115], [114, 101, 115, 117, 108, 116], [97, 112, 112, 101, 110, 100], [115, 101, 116, 100, 101, 102, 97, 117, 108, 116], [119, 115], [114, 97, 119], [99, 111, 117, 110, 116], [98], [110], [110, 116], [99, 104], [110, 111, 114, 109], [105, 115, 95, 115, 105, 109, 112, 108, 101], [83], [84], [116, 114, 97, 105, 108, 105, 110, 103], [108, 111, 110, 103, 101, 115, 116, 95, 114, 117, 110, 95, 111, 102, 95, 115, 112, 97, 99, 101, 115], [116, 97, 98, 115, 105, 122, 101], [105, 108], [105], [105, 110, 100, 101, 110, 116, 95, 108, 101, 118, 101, 108], [111, 116, 104, 101, 114], [116, 115], [108, 101, 115, 115], [97], [110, 111, 116, 95, 108, 101, 115, 115, 95, 119, 105, 116, 110, 101, 115, 115], [120], [115, 99, 114, 105, 112, 116], [108, 101, 97, 100, 115], [98, 97, 115, 101], [121], [106, 111, 105, 110], [115, 104, 97, 114, 101], [119, 104, 105, 116, 101, 115], [101, 110, 100, 115], [97, 116], [101, 110, 100], [108, 101, 97, 100], [115, 105, 122, 101], [99, 111, 108, 117, 109, 110], [115, 105, 103, 110], [99, 111, 108, 117, 109, 110, 115], [108, 111, 110, 103, 115], [108, 97, 116, 101], [112, 97, 105, 114, 115], [106], [112, 97, 114, 116], [112, 97, 105, 114], [114, 111, 119], [115, 112, 108, 105, 116], [116, 97, 98, 108, 101], [115, 116, 97, 110, 100, 105, 110, 103], [116, 111, 108, 100], [111, 116, 104, 101, 114, 115], [117, 112, 112, 101, 114], [111, 110, 101], [119, 111, 114, 116, 104], [98, 101, 104, 105, 110, 100], [112, 97, 114, 116, 115], [105, 110, 110, 101, 114], [116, 101, 120, 116], [115, 121, 109, 98, 111, 108, 115], [102, 105, 110, 100], [115, 121, 109, 98, 111, 108], [112, 105, 108, 101], [119, 104, 111, 108, 101], [112, 111, 112], [97, 98, 111, 118, 101], [112, 97, 103, 101], [112, 97, 103, 101, 115], [100, 117, 101], [104], [119, 111, 114, 116, 104, 115], [100, 117, 101, 95, 101, 110, 100, 115]]
noncomputable def globL : List (Str × V) := [(Str.ofString "_name_disallowed_re", .cst (.ref 43)), (Str.ofString "_value_disallowed_re", .cst (.ref 48)), (Str.ofString "Headers", .cst (.ref 171)), (Str.ofString "Whitespace", .cst (.ref 237)), (Str.ofString "ENDMARKER", .int 0), (Str.ofString "NT_OFFSET", .int 256), (Str.ofString "EXACT_TOKEN_TYPES", .cst (.ref 242)), (Str.ofString "ISTERMINAL", .cst (.ref 251)), (Str.ofString "ISNONTERMINAL", .cst (.ref 258)), (Str.ofString "ISEOF", .cst (.ref 265)), (Str.ofString "_law_leads", .cst (.ref 270)), (Str.ofString "_law_ends", .cst (.ref 277)), (Str.ofString "_law_column", .cst (.ref 284)), (Str.ofString "_law_late", .cst (.ref 289)), (Str.ofString "_law_search", .cst (.ref 294)), (Str.ofString "_law_parts", .cst (.ref 301)), (Str.ofString "_law_cut", .cst (.ref 306)), (Str.ofString "_law_value", .cst (.ref 313)), (Str.ofString "_law_due", .cst (.ref 318)), (Str.ofString "law", .cst (.ref 323)), (Str.ofString "len", .cst (.builtin "len")), (Str.ofString "max", .cst (.builtin "max")), (Str.ofString "min", .cst (.builtin "min")), (Str.ofString "sum", .cst (.builtin "sum")), (Str.ofString "sorted", .cst (.builtin "sorted")), (Str.ofString "range", .cst (.type "range")), (Str.ofString "list", .cst (.type "list")), (Str.ofString "tuple", .cst (.type "tuple")), (Str.ofString "int", .cst (.type "int")), (Str.ofString "str", .cst (.type "str")), (Str.ofString "type", .cst (.type "type")), (Str.ofString "zip", .cst (.type "zip")), (Str.ofString "enumerate", .cst (.type "enumerate"))]
noncomputable def tx : Tx := ⟨ids, fun x => globL.lookup x, fun a x => if a == 237 && x == Str.ofString "S" then some (.str [32]) else if a == 237 && x == Str.ofString "T" then some (.str [9]) else none⟩
noncomputable def F_law : Fn := ⟨[42], [], [], .none,
   [(.names [43] (.call (.lit (.cst (.ref 270))) [(.var 42)])),
    (.names [48] (.comp (.call (.lit (.cst (.ref 237))) [(.bin .add (.var 52) (.lit (.str [120, 32, 9])))]) [(.mk (.name 52) (.plain (.var 43)) [])] [52])),
    (.names [49] (.call (.lit (.cst (.ref 277))) [(.var 48)])),
    (.names [65] (.call (.lit (.cst (.ref 171))) [])),
    (.names [71] (.call (.lit (.cst (.ref 294))) [(.var 65), (.var 49), (.call (.lit (.cst (.type "list"))) [(.call (.lit (.cst (.type "range"))) [(.call (.lit (.cst (.builtin "len"))) [(.var 43)])])])])),
    (.names [58] (.call (.lit (.cst (.ref 289))) [(.var 43)])),
    (.names [88] (.comp (.call (.lit (.cst (.builtin "min"))) [(.bin .add (.comp (.bin .add (.bin .add (.var 34) (.lit (.int 1))) (.var 3)) [(.mk (.tup [(.name 3), (.name 63)]) (.enum (.sub (.var 58) (.var 34))) [(.cmp .ne (.var 63) (.list []))])] [3, 63]) (.list [(.call (.lit (.cst (.builtin "len"))) [(.var 43)])]))]) [(.mk (.name 34) (.plain (.call (.lit (.cst (.type "range"))) [(.call (.lit (.cst (.builtin "len"))) [(.var 43)])])) [])] [34])),
    (.ite (.or (.cmp .ne (.var 49) (.var 88)) (.cmp .ne (.comp (.comp (.callM (.sub (.var 48) (.var 34)) 40 [(.var 36)] []) [(.mk (.name 36) (.plain (.slice (.var 48) (some (.bin .add (.var 34) (.lit (.int 1)))) .none .none)) [])] [36]) [(.mk (.name 34) (.plain (.call (.lit (.cst (.type "range"))) [(.call (.lit (.cst (.builtin "len"))) [(.var 48)])])) [])] [34]) (.var 58))) [(.ret (some (.lit (.bool false))))] []),
    (.names [85] (.call (.lit (.cst (.ref 318))) [(.var 88)])),
    (.expr (.callM (.callM (.var 65) 15 [] []) 17 [(.tup [(.lit (.str [97])), (.lit (.str [110, 111, 110, 101]))])] [])),
    (.ite (.or (.cmp .ne (.comp (.tup [(.var 6), (.callM (.var 65) 18 [(.callM (.var 6) 13 [] []), (.lit (.str [110, 111, 110, 101]))] [])]) [(.mk (.tup [(.name 6), (.name 80)]) (.plain (.var 85)) [])] [6, 80]) (.var 85)) (.cmp .ne (.call (.lit (.cst (.builtin "sorted"))) [(.callM (.var 65) 15 [] [])]) (.var 85))) [(.ret (some (.lit (.bool false))))] []),
    (.ret (some (.cmp .eq (.call (.lit (.cst (.ref 313))) [(.call (.lit (.cst (.ref 306))) [(.callM (.lit (.str [94])) 46 [(.call (.lit (.cst (.ref 301))) [(.var 49), (.lit (.int 0)), (.call (.lit (.cst (.builtin "len"))) [(.var 49)])])] [])])]) (.tup [(.var 71), (.list [])]))))]⟩
noncomputable def F_law_leads : Fn := ⟨[42], [], [], .none,
   [(.names [43] (.list [])),
    (.for_ (.tup [(.name 3), (.name 44)]) (.enum (.list [(.lit (.int 0)), (.lit (.int 2)), (.lit (.int 5)), (.lit (.int 7))])) [(.names [45] (.bin .add (.var 44) (.call (.lit (.cst (.builtin "sum"))) [(.comp (.bin .mod (.var 41) (.lit (.int 81))) [(.mk (.name 41) (.plain (.slice (.var 42) (some (.var 3)) (some (.lit (.int 60))) (some (.lit (.int 4))))) [])] [41])]))),
    (.expr (.callM (.var 43) 17 [(.callM (.lit (.str [])) 46 [(.comp (.sub (.tup [(.lit (.str [])), (.lit (.str [32])), (.lit (.str [9]))]) (.bin .mod (.bin .fdiv (.var 45) (.var 47)) (.lit (.int 3)))) [(.mk (.name 47) (.plain (.tup [(.lit (.int 1)), (.lit (.int 3)), (.lit (.int 9)), (.lit (.int 27))])) [])] [47])] [])] []))]),
    (.ret (some (.var 43)))]⟩
noncomputable def F_law_ends : Fn := ⟨[48], [], [], .none,
   [(.names [49] (.list [])),
    (.for_ (.name 50) (.plain (.call (.lit (.cst (.type "range"))) [(.call (.lit (.cst (.builtin "len"))) [(.var 48)])])) [(.names [51] (.bin .add (.var 50) (.lit (.int 1)))),
    (.whil (.and (.cmp .lt (.var 51) (.call (.lit (.cst (.builtin "len"))) [(.var 48)])) (.callM (.sub (.var 48) (.var 50)) 38 [(.sub (.var 48) (.var 51))] [])) [(.names [51] (.bin .add (.var 51) (.lit (.int 1))))]),
    (.expr (.callM (.var 49) 17 [(.var 51)] []))]),
    (.ret (some (.var 49)))]⟩
noncomputable def F_law_column : Fn := ⟨[52, 53], [], [], .none,
   [(.names [54] (.lit (.int 0))),
    (.for_ (.name 55) (.plain (.var 52)) [(.names [54] (.ite (.cmp .eq (.var 55) (.lit (.str [32]))) (.bin .add (.var 54) (.lit (.int 1))) (.bin .mul (.bin .add (.bin .fdiv (.var 54) (.var 53)) (.lit (.int 1))) (.var 53))))]),
    (.ret (some (.var 54)))]⟩
noncomputable def F_law_late : Fn := ⟨[43], [], [], .none,
   [(.names [56] (.comp (.comp (.call (.lit (.cst (.ref 284))) [(.var 52), (.var 53)]) [(.mk (.name 53) (.plain (.call (.lit (.cst (.type "range"))) [(.lit (.int 1)), (.lit (.int 6))])) [])] [53]) [(.mk (.name 52) (.plain (.var 43)) [])] [52])),
    (.names [57] (.comp (.call (.lit (.cst (.builtin "max"))) [(.comp (.call (.lit (.cst (.builtin "len"))) [(.var 61)]) [(.mk (.name 61) (.plain (.callM (.var 52) 64 [(.lit (.str [9]))] [])) [])] [61])]) [(.mk (.name 52) (.plain (.var 43)) [])] [52])),
    (.names [58] (.list [])),
    (.for_ (.name 34) (.plain (.call (.lit (.cst (.type "range"))) [(.call (.lit (.cst (.builtin "len"))) [(.var 43)])])) [(.names [59] (.comp (.listZip [(.call (.lit (.cst (.type "range"))) [(.lit (.int 1)), (.bin .add (.call (.lit (.cst (.builtin "max"))) [(.sub (.var 57) (.var 34)), (.sub (.var 57) (.var 60))]) (.lit (.int 2)))]), (.sub (.var 56) (.var 34)), (.sub (.var 56) (.var 60))]) [(.mk (.name 60) (.plain (.call (.lit (.cst (.type "range"))) [(.bin .add (.var 34) (.lit (.int 1))), (.call (.lit (.cst (.builtin "len"))) [(.var 43)])])) [])] [60])),
    (.expr (.callM (.var 58) 17 [(.comp (.comp (.var 62) [(.mk (.name 62) (.plain (.var 63)) [(.cmp .ge (.sub (.var 62) (.lit (.int 1))) (.sub (.var 62) (.lit (.int 2))))])] [62]) [(.mk (.name 63) (.plain (.var 59)) [])] [63])] []))]),
    (.ret (some (.var 58)))]⟩
noncomputable def F_law_search : Fn := ⟨[65, 49, 66], [], [], .none,
   [(.names [6] (.callM (.lit (.str [])) 46 [(.comp (.sub (.lit (.str [97, 66, 99, 68])) (.var 3)) [(.mk (.name 3) (.plain (.var 66)) [])] [3])] [])),
    (.names [67] (.callM (.var 65) 14 [(.callM (.var 6) 69 [] []), (.lit (.str [110, 111, 110, 101]))] [])),
    (.ite (.cmp .eq (.var 67) (.lit (.str [110, 111, 110, 101]))) [(.names [68] (.comp (.call (.lit (.cst (.ref 294))) [(.var 65), (.var 49), (.comp (.var 3) [(.mk (.name 3) (.plain (.var 66)) [(.or (.cmp .lt (.var 3) (.var 70)) (.cmp .ge (.var 3) (.sub (.var 49) (.var 70))))])] [3])]) [(.mk (.name 70) (.plain (.var 66)) [])] [70])),
    (.names [67] (.callM (.var 65) 18 [(.var 6), (.call (.lit (.cst (.type "str"))) [(.call (.lit (.cst (.builtin "min"))) [(.comp (.var 71) [(.mk (.name 71) (.plain (.call (.lit (.cst (.type "range"))) [(.bin .add (.call (.lit (.cst (.builtin "len"))) [(.var 68)]) (.lit (.int 1)))])) [(.cmp .notIn (.var 71) (.var 68))])] [71])])])] []))] []),
    (.ret (some (.call (.lit (.cst (.type "int"))) [(.var 67)])))]⟩
noncomputable def F_law_parts : Fn := ⟨[49, 50, 72], [], [], .none,
   [(.names [73] (.list [])),
    (.whil (.cmp .lt (.var 50) (.var 72)) [(.names [74] (.call (.lit (.cst (.ref 301))) [(.var 49), (.bin .add (.var 50) (.lit (.int 1))), (.sub (.var 49) (.var 50))])),
    (.expr (.callM (.var 73) 17 [(.bin .add (.lit (.str [49, 43])) (.ite (.cmp .eq (.var 74) (.list [])) (.lit (.str [48])) (.ite (.cmp .eq (.call (.lit (.cst (.builtin "len"))) [(.var 74)]) (.lit (.int 1))) (.sub (.var 74) (.lit (.int 0))) (.bin .add (.bin .add (.lit (.str [40])) (.callM (.lit (.str [94])) 46 [(.var 74)] [])) (.lit (.str [41]))))))] [])),
    (.names [50] (.sub (.var 49) (.var 50)))]),
    (.ret (some (.var 73)))]⟩
noncomputable def F_law_cut : Fn := ⟨[75], [], [], .none,
   [(.unpack [(.name 76), (.name 50)] (.tup [(.list []), (.lit (.int 0))])),
    (.whil (.cmp .lt (.var 50) (.call (.lit (.cst (.builtin "len"))) [(.var 75)])) [(.names [53] (.call (.lit (.cst (.builtin "max"))) [(.bin .add (.list [(.lit (.int 1))]) (.comp (.var 3) [(.mk (.name 3) (.plain (.tup [(.lit (.int 2)), (.lit (.int 3))])) [(.cmp .isIn (.slice (.var 75) (some (.var 50)) (some (.bin .add (.var 50) (.var 3))) .none) (.lit (.cst (.ref 242))))])] [3]))])),
    (.expr (.callM (.var 76) 17 [(.callM (.lit (.cst (.ref 242))) 14 [(.slice (.var 75) (some (.var 50)) (some (.bin .add (.var 50) (.var 53))) .none), (.bin .add (.lit (.int 256)) (.callM (.lit (.str [48, 49])) 77 [(.sub (.var 75) (.var 50))] []))] [])] [])),
    (.names [50] (.bin .add (.var 50) (.var 53)))]),
    (.ret (some (.bin .add (.var 76) (.list [(.lit (.int 0))]))))]⟩
noncomputable def F_law_value : Fn := ⟨[76], [], [], .none,
   [(.unpack [(.name 79), (.name 80), (.name 61)] (.tup [(.list []), (.lit (.int 0)), (.lit (.int 0))])),
    (.for_ (.name 78) (.plain (.var 76)) [(.ite (.call (.lit (.cst (.ref 265))) [(.var 78)]) [(.ret (some (.tup [(.bin .bxor (.var 80) (.var 61)), (.var 79)])))] [(.ite (.cmp .eq (.call (.lit (.cst (.ref 258))) [(.var 78)]) (.call (.lit (.cst (.ref 251))) [(.var 78)])) [(.ret (some (.tup [(.neg (.lit (.int 1))), (.var 79)])))] [(.ite (.call (.lit (.cst (.ref 258))) [(.var 78)]) [(.names [61] (.bin .sub (.bin .add (.var 61) (.var 78)) (.lit (.int 256))))] [(.ite (.cmp .eq (.var 78) (.lit (.int 32))) [(.unpack [(.name 80), (.name 61)] (.tup [(.bin .bxor (.var 80) (.var 61)), (.lit (.int 0))]))] [(.ite (.cmp .eq (.var 78) (.lit (.int 7))) [(.expr (.callM (.var 79) 17 [(.tup [(.var 80), (.var 61)])] [])),
    (.unpack [(.name 80), (.name 61)] (.tup [(.lit (.int 0)), (.lit (.int 0))]))] [(.ite (.cmp .eq (.var 78) (.lit (.int 8))) [(.names [74] (.bin .bxor (.var 80) (.var 61))),
    (.unpack [(.name 80), (.name 61)] (.callM (.var 79) 81 [] [])),
    (.names [61] (.bin .add (.var 61) (.var 74)))] [(.ite (.cmp .ne (.var 78) (.lit (.int 14))) [(.ret (some (.tup [(.neg (.lit (.int 1))), (.var 79)])))] [])])])])])])])])]⟩
noncomputable def F_law_due : Fn := ⟨[49], [], [], .none,
   [(.names [82] (.comp (.comp (.var 86) [(.mk (.name 86) (.plain (.call (.lit (.cst (.type "range"))) [(.var 3)])) [(.cmp .gt (.sub (.var 49) (.var 86)) (.var 3))])] [86]) [(.mk (.name 3) (.plain (.call (.lit (.cst (.type "range"))) [(.call (.lit (.cst (.builtin "len"))) [(.var 49)])])) [])] [3])),
    (.unpack [(.name 84), (.name 85)] (.tup [(.list [(.list [])]), (.list [])])),
    (.for_ (.name 3) (.plain (.call (.lit (.cst (.type "range"))) [(.call (.lit (.cst (.builtin "len"))) [(.var 49)])])) [(.names [84] (.bin .add (.var 84) (.comp (.bin .add (.var 83) (.list [(.var 3)])) [(.mk (.name 83) (.plain (.var 84)) [(.cmp .eq (.comp (.var 86) [(.mk (.name 86) (.plain (.sub (.var 82) (.var 3))) [(.cmp .notIn (.var 86) (.var 83))])] [86]) (.list []))])] [83])))]),
    (.for_ (.name 83) (.plain (.var 84)) [(.unpack [(.name 87), (.name 80)] (.tup [(.bin .mul (.list [(.lit (.int 0))]) (.call (.lit (.cst (.builtin "len"))) [(.var 49)])), (.lit (.int 0))])),
    (.for_ (.name 3) (.plain (.slice (.var 83) .none .none (some (.neg (.lit (.int 1)))))) [(.ite (.cmp .eq (.sub (.var 82) (.var 3)) (.list [])) [(.names [80] (.bin .bxor (.var 80) (.bin .add (.lit (.int 1)) (.sub (.var 87) (.var 3)))))] [(.setSub (.var 87) (.sub (.sub (.var 82) (.var 3)) (.neg (.lit (.int 1)))) (.bin .bxor (.sub (.var 87) (.sub (.sub (.var 82) (.var 3)) (.neg (.lit (.int 1))))) (.bin .add (.lit (.int 1)) (.sub (.var 87) (.var 3)))))])]),
    (.expr (.callM (.var 85) 17 [(.tup [(.callM (.lit (.str [])) 46 [(.comp (.sub (.lit (.str [97, 66, 99, 68])) (.var 3)) [(.mk (.name 3) (.plain (.var 83)) [])] [3])] []), (.call (.lit (.cst (.type "str"))) [(.var 80)])])] []))]),
    (.ret (some (.call (.lit (.cst (.builtin "sorted"))) [(.var 85)])))]⟩
noncomputable def F_ISTERMINAL : Fn := ⟨[41], [], [], .none,
   [(.ret (some (.cmp .lt (.var 41) (.lit (.int 256)))))]⟩
noncomputable def F_ISNONTERMINAL : Fn := ⟨[41], [], [], .none,
   [(.ret (some (.cmp .ge (.var 41) (.lit (.int 256)))))]⟩
noncomputable def F_ISEOF : Fn := ⟨[41], [], [], .none,
   [(.ret (some (.cmp .eq (.var 41) (.lit (.int 0)))))]⟩
noncomputable def F_WhitespaceU_initU : Fn := ⟨[0, 19], [], [], .none,
   [(.setAttr (.var 0) 20 (.var 19)),
    (.unpack [(.name 28), (.name 29)] (.tup [(.lit (.str [32])), (.lit (.str [9]))])),
    (.names [21] (.list [])),
    (.names [22, 23, 24] (.lit (.int 0))),
    (.for_ (.name 25) (.plain (.attr (.var 0) 20)) [(.ite (.cmp .eq (.var 25) (.var 28)) [(.names [23] (.bin .add (.var 23) (.lit (.int 1)))),
    (.names [22] (.bin .add (.var 22) (.lit (.int 1))))] [(.ite (.cmp .eq (.var 25) (.var 29)) [(.names [23] (.bin .add (.var 23) (.lit (.int 1)))),
    (.names [24] (.bin .add (.var 24) (.lit (.int 1)))),
    (.ite (.cmp .ge (.var 22) (.call (.lit (.cst (.builtin "len"))) [(.var 21)])) [(.names [21] (.bin .add (.var 21) (.bin .mul (.list [(.lit (.int 0))]) (.bin .add (.bin .sub (.var 22) (.call (.lit (.cst (.builtin "len"))) [(.var 21)])) (.lit (.int 1))))))] []),
    (.setSub (.var 21) (.var 22) (.bin .add (.sub (.var 21) (.var 22)) (.lit (.int 1)))),
    (.names [22] (.lit (.int 0)))] [.brk])])]),
    (.setAttr (.var 0) 23 (.var 23)),
    (.setAttr (.var 0) 24 (.var 24)),
    (.setAttr (.var 0) 26 (.tup [(.call (.lit (.cst (.type "tuple"))) [(.var 21)]), (.var 22)])),
    (.setAttr (.var 0) 27 (.cmp .le (.call (.lit (.cst (.builtin "len"))) [(.var 21)]) (.lit (.int 1))))]⟩
noncomputable def F_Whitespace_longest_run_of_spaces : Fn := ⟨[0], [], [], .none,
   [(.unpack [(.name 21), (.name 30)] (.attr (.var 0) 26)),
    (.ret (some (.call (.lit (.cst (.builtin "max"))) [(.bin .sub (.call (.lit (.cst (.builtin "len"))) [(.var 21)]) (.lit (.int 1))), (.var 30)])))]⟩
noncomputable def F_Whitespace_indent_level : Fn := ⟨[0, 32], [], [], .none,
   [(.unpack [(.name 21), (.name 30)] (.attr (.var 0) 26)),
    (.names [33] (.lit (.int 0))),
    (.for_ (.name 34) (.plain (.call (.lit (.cst (.type "range"))) [(.var 32), (.call (.lit (.cst (.builtin "len"))) [(.var 21)])])) [(.names [33] (.bin .add (.var 33) (.bin .mul (.bin .fdiv (.var 34) (.var 32)) (.sub (.var 21) (.var 34)))))]),
    (.ret (some (.bin .add (.var 30) (.bin .mul (.var 32) (.bin .add (.var 33) (.attr (.var 0) 24))))))]⟩
noncomputable def F_Whitespace_less : Fn := ⟨[0, 36], [], [], .none,
   [(.ite (.cmp .ge (.attr (.var 0) 23) (.attr (.var 36) 23)) [(.ret (some (.lit (.bool false))))] []),
    (.ite (.and (.attr (.var 0) 27) (.attr (.var 36) 27)) [(.ret (some (.cmp .le (.attr (.var 0) 24) (.attr (.var 36) 24))))] []),
    (.names [23] (.bin .add (.call (.lit (.cst (.builtin "max"))) [(.callM (.var 0) 31 [] []), (.callM (.var 36) 31 [] [])]) (.lit (.int 1)))),
    (.for_ (.name 37) (.plain (.call (.lit (.cst (.type "range"))) [(.lit (.int 2)), (.bin .add (.var 23) (.lit (.int 1)))])) [(.ite (.cmp .ge (.callM (.var 0) 35 [(.var 37)] []) (.callM (.var 36) 35 [(.var 37)] [])) [(.ret (some (.lit (.bool false))))] [])]),
    (.ret (some (.lit (.bool true))))]⟩
noncomputable def F_Whitespace_not_less_witness : Fn := ⟨[0, 36], [], [], .none,
   [(.names [23] (.bin .add (.call (.lit (.cst (.builtin "max"))) [(.callM (.var 0) 31 [] []), (.callM (.var 36) 31 [] [])]) (.lit (.int 1)))),
    (.names [39] (.list [])),
    (.for_ (.name 37) (.plain (.call (.lit (.cst (.type "range"))) [(.lit (.int 1)), (.bin .add (.var 23) (.lit (.int 1)))])) [(.ite (.cmp .ge (.callM (.var 0) 35 [(.var 37)] []) (.callM (.var 36) 35 [(.var 37)] [])) [(.expr (.callM (.var 39) 17 [(.tup [(.var 37), (.callM (.var 0) 35 [(.var 37)] []), (.callM (.var 36) 35 [(.var 37)] [])])] []))] [])]),
    (.ret (some (.var 39)))]⟩
noncomputable def F_HeadersU_initU : Fn := ⟨[0, 1], [.none], [], .none,
   [(.names [1] (.ite (.cmp .isNot (.var 1) (.lit .none)) (.var 1) (.list []))),
    (.ite (.cmp .isNot (.call (.lit (.cst (.type "type"))) [(.var 1)]) (.lit (.cst (.type "list")))) [.bad] []),
    (.setAttr (.var 0) 2 (.var 1)),
    (.ite (.lit (.bool true)) [(.for_ (.tup [(.name 3), (.name 4)]) (.plain (.var 1)) [(.expr (.callM (.var 0) 5 [(.var 3)] [(6, (.lit (.bool true)))])),
    (.expr (.callM (.var 0) 5 [(.var 4)] [(6, (.lit (.bool false)))]))])] [])]⟩
noncomputable def F_HeadersUconvert_string_type : Fn := ⟨[0, 8], [], [6], .none,
   [(.ite (.cmp .is_ (.call (.lit (.cst (.type "type"))) [(.var 8)]) (.lit (.cst (.type "str")))) [(.names [9] (.ite (.var 6) (.lit (.cst (.ref 43))) (.lit (.cst (.ref 48))))),
    (.ite (.callM (.var 9) 10 [(.var 8)] []) [.bad] []),
    (.ret (some (.var 8)))] []),
    .bad]⟩
noncomputable def F_Headers_get : Fn := ⟨[0, 6, 12], [.none], [], .none,
   [(.names [6] (.callM (.var 0) 5 [(.callM (.var 6) 13 [] [])] [(6, (.lit (.bool true)))])),
    (.for_ (.tup [(.name 3), (.name 4)]) (.plain (.attr (.var 0) 2)) [(.ite (.cmp .eq (.callM (.var 3) 13 [] []) (.var 6)) [(.ret (some (.var 4)))] [])]),
    (.ret (some (.var 12)))]⟩
noncomputable def F_Headers_items : Fn := ⟨[0], [], [], .none,
   [(.ret (some (.slice (.attr (.var 0) 2) .none .none .none)))]⟩
noncomputable def F_Headers_setdefault : Fn := ⟨[0, 6, 8], [], [], .none,
   [(.names [16] (.callM (.var 0) 14 [(.var 6)] [])),
    (.ite (.cmp .is_ (.var 16) (.lit .none)) [(.expr (.callM (.attr (.var 0) 2) 17 [(.tup [(.callM (.var 0) 5 [(.var 6)] [(6, (.lit (.bool true)))]), (.callM (.var 0) 5 [(.var 8)] [(6, (.lit (.bool false)))])])] [])),
    (.ret (some (.var 8)))] [(.ret (some (.var 16)))])]⟩
noncomputable def fns : List (Addr × Fn) := [(323, F_law), (270, F_law_leads), (277, F_law_ends), (284, F_law_column), (289, F_law_late), (294, F_law_search), (301, F_law_parts), (306, F_law_cut), (313, F_law_value), (318, F_law_due), (251, F_ISTERMINAL), (258, F_ISNONTERMINAL), (265, F_ISEOF), (192, F_WhitespaceU_initU), (199, F_Whitespace_longest_run_of_spaces), (206, F_Whitespace_indent_level), (227, F_Whitespace_less), (234, F_Whitespace_not_less_witness), (63, F_HeadersU_initU), (70, F_HeadersUconvert_string_type), (118, F_Headers_get), (135, F_Headers_items), (161, F_Headers_setdefault)]
noncomputable def C_Headers : Cls := ⟨[(5, 70), (14, 118), (15, 135), (18, 161)], 63, [2]⟩
noncomputable def C_Whitespace : Cls := ⟨[(31, 199), (35, 206), (38, 227), (40, 234)], 192, [20, 23, 24, 26, 27]⟩
noncomputable def clss : List (Addr × Cls) := [(171, C_Headers), (237, C_Whitespace)]
noncomputable def tab : List (Txt × Int × Tok × Tok) := [([33], 54, 715, 711), ([33, 61], 28, 717, 659), ([37], 24, 719, 651), ([37, 61], 40, 721, 683), ([38], 19, 723, 641), ([38, 61], 41, 725, 685), ([40], 7, 727, 617), ([41], 8, 729, 619), ([42], 16, 731, 635), ([42, 42], 35, 733, 673), ([42, 42, 61], 46, 735, 695), ([42, 61], 38, 737, 679), ([43], 14, 739, 631), ([43, 61], 36, 741, 675), ([44], 12, 743, 627), ([45], 15, 745, 633), ([45, 61], 37, 747, 677), ([45, 62], 51, 749, 705), ([46], 23, 751, 649), ([46, 46, 46], 52, 753, 707), ([47], 17, 755, 637), ([47, 47], 47, 757, 697), ([47, 47, 61], 48, 759, 699), ([47, 61], 39, 761, 681), ([58], 11, 763, 625), ([58, 61], 53, 765, 709), ([59], 13, 767, 629), ([60], 20, 769, 643), ([60, 60], 33, 771, 669), ([60, 60, 61], 44, 773, 691), ([60, 61], 29, 775, 661), ([61], 22, 777, 647), ([61, 61], 27, 779, 657), ([62], 21, 781, 645), ([62, 61], 30, 783, 663), ([62, 62], 34, 784, 671), ([62, 62, 61], 45, 785, 693), ([64], 49, 786, 701), ([64, 61], 50, 787, 703), ([91], 9, 788, 621), ([93], 10, 789, 623), ([94], 32, 790, 667), ([94, 61], 43, 791, 689), ([123], 25, 792, 653), ([124], 18, 793, 639), ([124, 61], 42, 794, 687), ([125], 26, 795, 655), ([126], 31, 796, 665)]
noncomputable def Γ : G := ⟨fns, clss, [(242, tabKv tab)], [43, 48], idsT, 9999, 9999⟩
end MI.L2
end TG2
section TC2
open PySem PySem.Spec PySem.Calls PyProof.Rows PySem.W
set_option linter.unusedVariables false
set_option maxRecDepth 100000
set_option maxHeartbeats 4000000
namespace MI
structure ClsLook (K : Frag) (t : Tx) (C : Addr) (k : Cls) : Prop where
  pg : plainGet K C "" = true
  hd : hasDictIn K C = true
  po : plainOver K C = true
  sa : findIn K (.ref C) "__setattr__" = some (some (.builtin "object.__setattr__"))
  mks : makesIn K C = true
  ini : findIn K (.ref C) "__init__" = some (some (.ref k.init))
  ini2 : typeIn K (.ref k.init) = some (.type "function")
  kp : keepIn K (.ref C) = true
  fl : k.flds.all (fldChk K C t) = true
  me : k.meths.all (methChk K C t) = true
structure CatLook (K : Frag) (C : Addr) (x : Str) (u : Value) : Prop where
  rd : readsIn K C (.type "type") = true
  fi : findCls K (.ref C) (.type "type") x = some (.val u)
namespace L2
/-- what the head's heap must bear -/
structure Facts (hp : Params → Frag) : Prop where
  tab : ∀ P, (hp P).lookup 242 = some (dctO (tabEs P tab) 48)
  glob : ∀ P, globL.all (globChk (hp P)) = true
  look_F_law : ∀ P, FnLook (hp P) tx 323 F_law [Str.ofString "script"] [] []
  look_F_law_leads : ∀ P, FnLook (hp P) tx 270 F_law_leads [Str.ofString "script"] [] []
  look_F_law_ends : ∀ P, FnLook (hp P) tx 277 F_law_ends [Str.ofString "whites"] [] []
  look_F_law_column : ∀ P, FnLook (hp P) tx 284 F_law_column [Str.ofString "lead", Str.ofString "size"] [] []
  look_F_law_late : ∀ P, FnLook (hp P) tx 289 F_law_late [Str.ofString "leads"] [] []
  look_F_law_search : ∀ P, FnLook (hp P) tx 294 F_law_search [Str.ofString "table", Str.ofString "ends", Str.ofString "standing"] [] []
  look_F_law_parts : ∀ P, FnLook (hp P) tx 301 F_law_parts [Str.ofString "ends", Str.ofString "at", Str.ofString "behind"] [] []
  look_F_law_cut : ∀ P, FnLook (hp P) tx 306 F_law_cut [Str.ofString "text"] [] []
  look_F_law_value : ∀ P, FnLook (hp P) tx 313 F_law_value [Str.ofString "symbols"] [] []
  look_F_law_due : ∀ P, FnLook (hp P) tx 318 F_law_due [Str.ofString "ends"] [] []
  look_F_ISTERMINAL : ∀ P, FnLook (hp P) tx 251 F_ISTERMINAL [Str.ofString "x"] [] []
  look_F_ISNONTERMINAL : ∀ P, FnLook (hp P) tx 258 F_ISNONTERMINAL [Str.ofString "x"] [] []
  look_F_ISEOF : ∀ P, FnLook (hp P) tx 265 F_ISEOF [Str.ofString "x"] [] []
  look_F_WhitespaceU_initU : ∀ P, FnLook (hp P) tx 192 F_WhitespaceU_initU [Str.ofString "self", Str.ofString "ws"] [] []
  look_F_Whitespace_longest_run_of_spaces : ∀ P, FnLook (hp P) tx 199 F_Whitespace_longest_run_of_spaces [Str.ofString "self"] [] []
  look_F_Whitespace_indent_level : ∀ P, FnLook (hp P) tx 206 F_Whitespace_indent_level [Str.ofString "self", Str.ofString "tabsize"] [] []
  look_F_Whitespace_less : ∀ P, FnLook (hp P) tx 227 F_Whitespace_less [Str.ofString "self", Str.ofString "other"] [] []
  look_F_Whitespace_not_less_witness : ∀ P, FnLook (hp P) tx 234 F_Whitespace_not_less_witness [Str.ofString "self", Str.ofString "other"] [] []
  look_F_HeadersU_initU : ∀ P, FnLook (hp P) tx 63 F_HeadersU_initU [Str.ofString "self", Str.ofString "headers"] [] [Value.none]
  look_F_HeadersUconvert_string_type : ∀ P, FnLook (hp P) tx 70 F_HeadersUconvert_string_type [Str.ofString "self", Str.ofString "value"] [Str.ofString "name"] []
  look_F_Headers_get : ∀ P, FnLook (hp P) tx 118 F_Headers_get [Str.ofString "self", Str.ofString "name", Str.ofString "default"] [] [Value.none]
  look_F_Headers_items : ∀ P, FnLook (hp P) tx 135 F_Headers_items [Str.ofString "self"] [] []
  look_F_Headers_setdefault : ∀ P, FnLook (hp P) tx 161 F_Headers_setdefault [Str.ofString "self", Str.ofString "name", Str.ofString "value"] [] []
  clsH : ∀ P, ClsLook (hp P) tx 171 C_Headers
  clsW : ∀ P, ClsLook (hp P) tx 237 C_Whitespace
  pat0 : ∀ P, (hp P).lookup 43 = some { cls := .type "re.Pattern", dict := none, data := .fields #[Value.str (Str.ofString "[\\x00-\\x1F\\x7F]") 292, Value.int 32 315, Value.int 0 0, .none, .none, .ref 42, Value.int 0 0], slots := #[] }
  pit0 : ∀ P, (hp P).lookup 42 = some { cls := .type "tuple", dict := none, data := .seq #[Value.int 14 0, Value.int 10 0, Value.int 4 0, Value.int 1 0, Value.int 1 0, Value.int 22 0, Value.int 0 0, Value.int 31 0, Value.int 16 0, Value.int 127 0, Value.int 0 0, Value.int 13 0, Value.int 7 0, Value.int 22 0, Value.int 0 0, Value.int 31 0, Value.int 16 0, Value.int 127 0, Value.int 0 0, Value.int 1 0] 0, slots := #[] }
  pat1 : ∀ P, (hp P).lookup 48 = some { cls := .type "re.Pattern", dict := none, data := .fields #[Value.str (Str.ofString "[\\x00-\\x08\\x0A-\\x1F\\x7F]") 318, Value.int 32 349, Value.int 0 0, .none, .none, .ref 47, Value.int 0 0], slots := #[] }
  pit1 : ∀ P, (hp P).lookup 47 = some { cls := .type "tuple", dict := none, data := .seq #[Value.int 14 0, Value.int 14 0, Value.int 4 0, Value.int 1 0, Value.int 1 0, Value.int 9 0, Value.int 4294966783 0, Value.int 0 0, Value.int 0 0, Value.int 2147483648 0, Value.int 0 0, Value.int 0 0, Value.int 0 0, Value.int 0 0, Value.int 0 0, Value.int 13 0, Value.int 11 0, Value.int 9 0, Value.int 4294966783 0, Value.int 0 0, Value.int 0 0, Value.int 2147483648 0, Value.int 0 0, Value.int 0 0, Value.int 0 0, Value.int 0 0, Value.int 0 0, Value.int 1 0] 0, slots := #[] }
  catS : ∀ P, CatLook (hp P) 237 (Str.ofString "S") (.str (Str.ofString " ") 523)
  catT : ∀ P, CatLook (hp P) 237 (Str.ofString "T") (.str (Str.ofString "\t") 524)
  law : ∀ P, nsIn (hp P) mainGlobals (Str.ofString "law") = some (some (.ref 323))
noncomputable def cx (hp : Params → Frag) (vw : Program) (loose : List Str) (w : World) (h₀ : Heap) (mg mb : Str → Option Value) (X : (hp w.params).In h₀) (T : TopRead vw loose mg mb h₀) : Cx := ⟨PySem.Challenge.rw_rs0232_02.row.prog, w, hp w.params, h₀, mg, mb, vw, loose, X, T, Γ, tx⟩
section
variable {hp : Params → Frag} (FX : Facts hp) {vw : Program} {loose : List Str} {w : World} {h₀ : Heap} {mg mb : Str → Option Value} {X : (hp w.params).In h₀} {T : TopRead vw loose mg mb h₀}
include FX
theorem fn_ok : (cx hp vw loose w h₀ mg mb X T).FnOk := fun f F e =>
  AllL.get (P := fun p : Addr × Fn => FnFact (cx hp vw loose w h₀ mg mb X T) p.1 p.2) (L := fns) (
    .cons ((FX.look_F_law w.params).fact (c := cx hp vw loose w h₀ mg mb X T) .nil) (
    .cons ((FX.look_F_law_leads w.params).fact (c := cx hp vw loose w h₀ mg mb X T) .nil) (
    .cons ((FX.look_F_law_ends w.params).fact (c := cx hp vw loose w h₀ mg mb X T) .nil) (
    .cons ((FX.look_F_law_column w.params).fact (c := cx hp vw loose w h₀ mg mb X T) .nil) (
    .cons ((FX.look_F_law_late w.params).fact (c := cx hp vw loose w h₀ mg mb X T) .nil) (
    .cons ((FX.look_F_law_search w.params).fact (c := cx hp vw loose w h₀ mg mb X T) .nil) (
    .cons ((FX.look_F_law_parts w.params).fact (c := cx hp vw loose w h₀ mg mb X T) .nil) (
    .cons ((FX.look_F_law_cut w.params).fact (c := cx hp vw loose w h₀ mg mb X T) .nil) (
    .cons ((FX.look_F_law_value w.params).fact (c := cx hp vw loose w h₀ mg mb X T) .nil) (
    .cons ((FX.look_F_law_due w.params).fact (c := cx hp vw loose w h₀ mg mb X T) .nil) (
    .cons ((FX.look_F_ISTERMINAL w.params).fact (c := cx hp vw loose w h₀ mg mb X T) .nil) (
    .cons ((FX.look_F_ISNONTERMINAL w.params).fact (c := cx hp vw loose w h₀ mg mb X T) .nil) (
    .cons ((FX.look_F_ISEOF w.params).fact (c := cx hp vw loose w h₀ mg mb X T) .nil) (
    .cons ((FX.look_F_WhitespaceU_initU w.params).fact (c := cx hp vw loose w h₀ mg mb X T) .nil) (
    .cons ((FX.look_F_Whitespace_longest_run_of_spaces w.params).fact (c := cx hp vw loose w h₀ mg mb X T) .nil) (
    .cons ((FX.look_F_Whitespace_indent_level w.params).fact (c := cx hp vw loose w h₀ mg mb X T) .nil) (
    .cons ((FX.look_F_Whitespace_less w.params).fact (c := cx hp vw loose w h₀ mg mb X T) .nil) (
    .cons ((FX.look_F_Whitespace_not_less_witness w.params).fact (c := cx hp vw loose w h₀ mg mb X T) .nil) (
    .cons ((FX.look_F_HeadersU_initU w.params).fact (c := cx hp vw loose w h₀ mg mb X T) (.cons .none .nil)) (
    .cons ((FX.look_F_HeadersUconvert_string_type w.params).fact (c := cx hp vw loose w h₀ mg mb X T) .nil) (
    .cons ((FX.look_F_Headers_get w.params).fact (c := cx hp vw loose w h₀ mg mb X T) (.cons .none .nil)) (
    .cons ((FX.look_F_Headers_items w.params).fact (c := cx hp vw loose w h₀ mg mb X T) .nil) (
    .cons ((FX.look_F_Headers_setdefault w.params).fact (c := cx hp vw loose w h₀ mg mb X T) .nil) (
    .nil)))))))))))))))))))))))) (f, F) (mem_of_lookup' e)
theorem tab_ok : (cx hp vw loose w h₀ mg mb X T).TabOk := by
  intro a kvs e
  have e' : (a, kvs) ∈ [(242, tabKv tab)] := mem_of_lookup' e
  simp only [List.mem_cons, Prod.mk.injEq, List.not_mem_nil, or_false] at e'
  refine k02 e' fun q1 q2 => ?_; clear e'; subst q1; subst q2
  exact ⟨by decide, _, _, FX.tab w.params, tabRel tab⟩
theorem glob_ok : (cx hp vw loose w h₀ mg mb X T).GlobOk := GlobOk.of (l := globL) (fun _ => rfl) (FX.glob w.params)
theorem cls_Headers : ClsFact (cx hp vw loose w h₀ mg mb X T) 171 C_Headers :=
  have L := FX.clsH w.params
  ClsFact.of L.pg L.hd L.po L.sa L.mks L.ini L.ini2 L.kp L.fl L.me
theorem cls_Whitespace : ClsFact (cx hp vw loose w h₀ mg mb X T) 237 C_Whitespace :=
  have L := FX.clsW w.params
  ClsFact.of L.pg L.hd L.po L.sa L.mks L.ini L.ini2 L.kp L.fl L.me
theorem cls_ok : (cx hp vw loose w h₀ mg mb X T).ClsOk := by
  intro C k e
  have e' : (C, k) ∈ clss := mem_of_lookup' e
  unfold clss at e'
  simp only [List.mem_cons, Prod.mk.injEq, List.not_mem_nil, or_false] at e'
  rcases e' with ⟨rfl, rfl⟩ | ⟨rfl, rfl⟩
  · exact cls_Headers FX
  · exact cls_Whitespace FX
theorem pats_ok : (cx hp vw loose w h₀ mg mb X T).PatsOk := by
  intro a e
  have e' : a ∈ ([43, 48] : List Addr) := List.elem_iff.mp e
  simp only [List.mem_cons, List.not_mem_nil, or_false] at e'
  rcases e' with rfl | rfl
  · exact PatAt.of (c := cx hp vw loose w h₀ mg mb X T) (FX.pat0 w.params) (FX.pit0 w.params) rfl rfl (by kernel_rfl) code_name
  · exact PatAt.of (c := cx hp vw loose w h₀ mg mb X T) (FX.pat1 w.params) (FX.pit1 w.params) rfl rfl (by kernel_rfl) code_value
theorem cat_ok : (cx hp vw loose w h₀ mg mb X T).CatOk := by
  intro ad x v e
  change (if ad == 237 && x == Str.ofString "S" then some (V.str [32]) else if ad == 237 && x == Str.ofString "T" then some (V.str [9]) else none) = some v at e
  split at e
  · rename_i h
    rw [Bool.and_eq_true] at h
    have h1 : ad = 237 := by simpa using h.1
    have h2 : x = Str.ofString "S" := by simpa using h.2
    subst h1 h2
    (refine si e fun q3 => ?_; subst q3; clear e)
    exact ⟨.type "type", .str (Str.ofString " ") 523, (FX.catS w.params).rd, (FX.catS w.params).fi, rfl, vMatch_rel (by decide +kernel)⟩
  · split at e
    · rename_i h
      rw [Bool.and_eq_true] at h
      have h1 : ad = 237 := by simpa using h.1
      have h2 : x = Str.ofString "T" := by simpa using h.2
      subst h1 h2
      (refine si e fun q5 => ?_; subst q5; clear e)
      exact ⟨.type "type", .str (Str.ofString "\t") 524, (FX.catT w.params).rd, (FX.catT w.params).fi, rfl, vMatch_rel (by decide +kernel)⟩
    · exact ns e
theorem cx_ok : (cx hp vw loose w h₀ mg mb X T).Ok where
  tab := tab_ok FX
  glob := glob_ok FX
  cls := cls_ok FX
  cat := cat_ok FX
  ids := by show idsT = ids.map fun x => x.cps.toList; decide +kernel
  uniq := nodup_get (show ids.Nodup by decide +kernel)
  dot := by show tx.id _ = none; decide +kernel
end
end MI.L2
end TC2
section TH2
open PySem PySem.Spec PySem.Calls PyProof.Rows PySem.W
set_option linter.unusedVariables false
set_option maxRecDepth 100000
set_option maxHeartbeats 4000000
namespace MI.L2
theorem ints_rel {P : Params} {r : Rh} {h : Heap}  {vs : List Value} {ns : List Int} (x : IntsAre vs ns) : VRs P r h (ns.map V.int) vs := by
  induction x with
  | nil => exact .nil
  | cons i t _ ih => exact .cons (.int i t) ih
theorem rel0 {P : Params} {ids : List Str} {h : Heap} : Rel P ids h ⟨[], []⟩ [] h where
  base := fun _ _ e => e
  len := rfl
  obj := fun i o p e => by simp at e
  fresh := fun b hb => by
    rcases hb with ⟨p, hp, _⟩ | hb
    · cases hp
    · cases hb
  apart := .nil
  pvo := fun b hb => by cases hb
  pvl := fun b hb => by cases hb

/-- what is left to show of the program alone -/
noncomputable def Run : Prop := ∀ ns : List Int, ns.length ≤ 63 → ∃ spec σ', callX Γ (overT (callN Γ 60 60 20) spec) 60 60 19 323 [.flist (ns.map .int)] [] [] = some (.bool true, σ')

theorem law_name {w : World} {h₀ : Heap} {mg mb : Str → Option Value} {hp : Params → Frag} (FX : Facts hp) {vw : Program} {loose : List Str} {X : (hp w.params).In h₀} {T : TopRead vw loose mg mb h₀} {fa : Addr} (hmg : mg (Str.ofString "law") = some (.ref fa)) : fa = 323 := by
  have e := FX.law w.params
  have := mg_of X T.g e
  rw [hmg] at this
  cases this; rfl

theorem fin2 (H : Run) {hp : Params → Frag} (FX : Facts hp) {vw : Program} {loose : List Str} {w : World} {s₀ s₁ : Shared} {mg mb : Str → Option Value} {fa l : Addr} {vs : List Value} {ns : List Int} (X : (hp w.params).In s₁.heap) (T : TopRead vw loose mg mb s₁.heap) (hmg : mg (Str.ofString "law") = some (.ref fa))
    (hL : s₁.heap.IsList l vs.toArray) (hI : IntsAre vs ns) (hlen : ¬ ((63 : Nat) : Int) < (ns.length : Int)) (hg : s₁.gens = #[]) :
    wpAny (model PySem.Challenge.rw_rs0232_02.row.prog w) callerA (call (.ref fa) [.ref l])
      (fun v s' => GoodWG PySem.Challenge.rw_rs0232_02.row.claim (classAt s₀.heap) (ExcName.means s₀.heap) [ofPy (PyData.list (List.map PyData.int ns))] s₁ (Except.ok (Flow.ret v)) s')
      (fun e s' => GoodWG PySem.Challenge.rw_rs0232_02.row.claim (classAt s₀.heap) (ExcName.means s₀.heap) [ofPy (PyData.list (List.map PyData.int ns))] s₁ (Except.error e) s') s₁ := by
  have hfa : fa = 323 := law_name FX (X := X) (T := T) hmg
  subst hfa
  refine k21 (H ns (by omega)) fun spec σ' e => ?_
  have CF := callX_sound (c := cx hp vw loose w s₁.heap mg mb X T) (cx_ok FX) (fn_ok FX) (pats_ok FX) (overT_ok (run_sound (c := cx hp vw loose w s₁.heap mg mb X T) (cx_ok FX) (fn_ok FX) (pats_ok FX) 60 60 20) spec) 60 60 19
  have hlv : vs.length = ns.length := by
    have := (ints_rel (P := w.params) (r := ⟨[], []⟩) (h := s₁.heap) hI).length
    simpa using this
  refine wpAny_call (CF.run (A := callerA) (r := ⟨[], []⟩) ⟨rfl, by decide +kernel, by decide +kernel⟩ e rel0 (.cons (.flist _ vs l hL (fun hm => ?_) (ints_rel hI) (by omega)) .nil) .nil fun u r' h' tk R' S' x => ?_)
  · rcases hm with ⟨p, hp, _⟩ | hb
    · cases hp
    · cases hb
  · cases x
    refine ⟨.inl ⟨.bool true, .bool true, [], rfl, fun cls => rfl, .bool true, by kernel_rfl, fun _ => ⟨.nil, fun _ h => by cases h⟩⟩, .of_keep R'.base, rfl, .of_eq hg⟩
end MI.L2
end TH2
section TPS2
open PySem
set_option linter.unusedVariables false
set_option linter.unusedSimpArgs false
namespace MI
section
variable (Γ : G) (cf : Cf) (σ : H)
theorem callV_builtin (s : String) (as : List V) : callV Γ cf (.cst (.builtin s)) as σ = builtin (.builtin s) as σ := rfl
theorem callV_type (s : String) (as : List V) : callV Γ cf (.cst (.type s)) as σ = builtin (.type s) as σ := rfl
theorem b_len_str (s : Txt) : builtin (.builtin "len") [.str s] σ = (if szOk s.length then some (.int (s.length : Int), σ) else .none) := rfl
theorem b_len_tup (xs : List V) : builtin (.builtin "len") [.tup xs] σ = some (.int (xs.length : Int), σ) := rfl
theorem b_len_ref {i : Nat} {xs : List V} (h : σ[i]? = some (.list xs)) : builtin (.builtin "len") [.ref i] σ = some (.int (xs.length : Int), σ) := by
  show (match σ[i]? with | some (.list xs) => some (V.int (xs.length : Int), σ) | _ => .none) = _
  rw [h]
theorem b_max2 (a b : Int) : builtin (.builtin "max") [.int a, .int b] σ = some (.int (if decide (a < b) then b else a), σ) := rfl
theorem b_range1 (b : Int) : builtin (.type "range") [.int b] σ = (if fit b then some (.rng 0 b, σ) else .none) := rfl
theorem b_range2 (a b : Int) : builtin (.type "range") [.int a, .int b] σ = (if fit a && fit b then some (.rng a b, σ) else .none) := rfl
theorem bin_add (a b : Int) : binop .add (.int a) (.int b) σ = (mkI (a + b)).map (·, σ) := rfl
theorem bin_sub (a b : Int) : binop .sub (.int a) (.int b) σ = (mkI (a - b)).map (·, σ) := rfl
theorem bin_mul (a b : Int) : binop .mul (.int a) (.int b) σ = (if fit a then (mkI (a * b)).map (·, σ) else .none) := rfl
theorem bin_fdiv (a b : Int) : binop .fdiv (.int a) (.int b) σ = (if decide (0 < b) && decide (b < 1000000000) then (mkI (Int.fdiv a b)).map (·, σ) else .none) := rfl
theorem bin_mod (a b : Int) : binop .mod (.int a) (.int b) σ = (if decide (0 < b) then (mkI (Int.fmod a b)).map (·, σ) else .none) := rfl
theorem bin_adds (a b : Txt) : binop .add (.str a) (.str b) σ = mkS (a ++ b) σ := rfl
theorem mkI_ok {i : Int} (h : fit i = true) : mkI i = some (.int i) := by unfold mkI; rw [h]; rfl
theorem fit_of {i : Int} (h1 : -4611686018427387904 < i) (h2 : i < 4611686018427387904) : fit i = true := by unfold fit; simp [h1, h2]
theorem szOk_of {n : Nat} (h : n ≤ 1000000) : szOk n = true := Nat.ble_eq_true_of_le h
theorem mkS_ok {s : Txt} (h : s.length ≤ 1000000) : mkS s σ = some (.str s, σ) := by unfold mkS; rw [szOk_of h]; rfl
theorem mkL_ok {vs : List V} (h : vs.length ≤ 1000000) : mkL vs σ = some (.ref σ.length, σ ++ [.list vs]) := by unfold mkL; rw [szOk_of h]; rfl
theorem cmp_lt (a b : Int) : cmpop Γ .lt (.int a) (.int b) σ = some (decide (a < b)) := rfl
theorem cmp_le (a b : Int) : cmpop Γ .le (.int a) (.int b) σ = some (decide (a ≤ b)) := rfl
theorem cmp_gt (a b : Int) : cmpop Γ .gt (.int a) (.int b) σ = some (decide (b < a)) := rfl
theorem cmp_ge (a b : Int) : cmpop Γ .ge (.int a) (.int b) σ = some (decide (b ≤ a)) := rfl
theorem eq_int (a b : Int) : eqV σ (.int a) (.int b) = some (a == b) := rfl
theorem eq_str {a b : Txt} (ha : okS a = true) (hb : okS b = true) : eqV σ (.str a) (.str b) = some (txtEq a b) := by
  unfold eqV
  have e : ∀ {a : Txt}, okS a = true → flat σ 12 (.str a) = some (.str a) := fun {a} h => by
    show (if okS a then some (V.str a) else .none) = _
    rw [h]; rfl
  rw [e ha, e hb]; rfl
theorem fields_ok {i x : Nat} {C : Addr} {fs : List (Nat × V)} {v : V} (h : σ[i]? = some (.inst C fs)) (hf : hasFld Γ C x = true) (hl : look x fs = some v) (hc : notCst (some v) = some v) : fields Γ σ i x = some v := by
  unfold fields
  rw [h]
  dsimp only
  rw [hf, hl]
  exact hc
theorem meth_ok {i x : Nat} {C f : Addr} {fs : List (Nat × V)} (h : σ[i]? = some (.inst C fs)) (hl : look x fs = none) (hm : clsMeth Γ C x = some f) : methOf Γ (.ref i) x σ = some (.fn f (.ref i)) := by
  unfold methOf
  dsimp only
  rw [h]
  dsimp only
  rw [hl, hm]; rfl
theorem apply_fn (f : Addr) (self : V) (as : List V) (ks : List (Nat × V)) : applyMeth Γ cf (.fn f self) as ks σ = cf f (self :: as) ks σ := rfl
noncomputable def T_append : Txt := [97, 112, 112, 101, 110, 100]
theorem meth_append {k x : Nat} {xs : List V} (h : σ[k]? = some (.list xs)) (hid : Γ.ids[x]? = some T_append) : methOf Γ (.ref k) x σ = some (.lst k T_append) := by
  unfold methOf
  dsimp only
  rw [h]
  dsimp only
  rw [hid]
  rfl
theorem lstOf_ref {k : Nat} {xs : List V} (h : σ[k]? = some (.list xs)) : lstOf σ (.ref k) = some xs := by
  show (match σ[k]? with
    | some (.list xs) => some xs
    | _ => .none) = _
  rw [h]
theorem apply_append {k : Nat} {xs : List V} {v : V} (h : σ[k]? = some (.list xs)) (hl : xs.length < 1000000) : applyMeth Γ cf (.lst k T_append) [v] [] σ = some (.none, σ.set k (.list (xs ++ [v]))) := by
  show ((lstOf σ (.ref k)).bind fun xs => listMeth k xs T_append [v] σ) = _
  rw [lstOf_ref σ h]
  show setL σ k (xs ++ [v]) .none = _
  unfold setL
  rw [szOk_of (by simp; omega)]; rfl
theorem set_last (x y : O) : (σ ++ [x]).set σ.length y = σ ++ [y] := by
  rw [List.set_append_right _ _ (Nat.le_refl _), Nat.sub_self]; rfl
theorem get_last (x : O) : (σ ++ [x])[σ.length]? = some x := by
  rw [List.getElem?_append_right (Nat.le_refl _), Nat.sub_self]; rfl
theorem get_app {i : Nat} {o : O} (τ : H) (h : σ[i]? = some o) : (σ ++ τ)[i]? = some o := by
  have hl := lt_of_get h
  rw [List.getElem?_append_left hl]; exact h
end
end MI
end TPS2
section TPS3
open PySem
set_option linter.unusedVariables false
set_option linter.unusedSimpArgs false
namespace MI
theorem get_set (x y : Nat) (v : V) : ∀ vars : Vars, Vars.get y (Vars.set x v vars) = if x == y then some v else Vars.get y vars
  | [] => by
    unfold Vars.set Vars.get
    split
    · rfl
    · unfold Vars.get; rfl
  | (z, u) :: r => by
    unfold Vars.set
    by_cases h : (z == x) = true
    · rw [if_pos h]
      have hz : z = x := by simpa using h
      subst hz
      unfold Vars.get
      split <;> rfl
    · rw [if_neg h]
      unfold Vars.get
      have ih := get_set x y v r
      by_cases h2 : (z == y) = true
      · rw [if_pos h2, if_pos h2]
        have hz : z = y := by simpa using h2
        subst hz
        have : (x == z) = false := by
          refine Bool.eq_false_iff.mpr fun q => h ?_
          have : x = z := by simpa using q
          simp [this]
        rw [this]; rfl
      · rw [if_neg h2, if_neg h2, ih]
theorem gs_ne {x y : Nat} (h : (x == y) = false) (v : V) (vars : Vars) : Vars.get y (Vars.set x v vars) = Vars.get y vars := by rw [get_set, h]; rfl
theorem gs_self (x : Nat) (v : V) (vars : Vars) : Vars.get x (Vars.set x v vars) = some v := by rw [get_set]; simp

/-- a for over written items -/
noncomputable def runL (body : V → Vars → H → Option (Fl × Vars × H)) : List V → Vars → H → Option (Fl × Vars × H)
  | [], vars, σ => some (.next, vars, σ)
  | v :: r, vars, σ => match body v vars σ with
    | some (fl, vars', σ') => match fl with
      | .next => runL body r vars' σ'
      | .brk => some (.next, vars', σ')
      | .ret w => some (.ret w, vars', σ')
    | .none => .none
theorem runL_cons (body : V → Vars → H → Option (Fl × Vars × H)) (v : V) (r : List V) (vars : Vars) (σ : H) : runL body (v :: r) vars σ = (match body v vars σ with
    | some (fl, vars', σ') => match fl with
      | .next => runL body r vars' σ'
      | .brk => some (.next, vars', σ')
      | .ret w => some (.ret w, vars', σ')
    | .none => .none) := rfl
theorem zcOf_ref {σ : H} {i : Nat} {xs : List V} (h : σ[i]? = some (.list xs)) : zcOf (.ref i) σ = some (.ls i 0) := by
  show (match σ[i]? with
    | some (.list _) => some (Zc.ls i 0)
    | _ => .none) = _
  rw [h]
theorem loopF_runL (body : V → Vars → H → Option (Fl × Vars × H)) : ∀ (l : List V) (k : Nat) (vars : Vars) (σ : H), l.length < k → loopF (fun σ it => it.next σ) body k (.one (.vs l)) vars σ = runL body l vars σ
  | [], k + 1, vars, σ, _ => rfl
  | v :: r, k + 1, vars, σ, h => by
    show (match body v vars σ with
      | some (fl, vars', σ') => match fl with
        | .next => loopF (fun σ it => it.next σ) body k (.one (.vs r)) vars' σ'
        | .brk => some (.next, vars', σ')
        | .ret v => some (.ret v, vars', σ')
      | .none => .none) = (match body v vars σ with
      | some (fl, vars', σ') => match fl with
        | .next => runL body r vars' σ'
        | .brk => some (.next, vars', σ')
        | .ret w => some (.ret w, vars', σ')
      | .none => .none)
    cases body v vars σ with
    | none => rfl
    | some x =>
      obtain ⟨fl, vars', σ'⟩ := x
      cases fl with
      | next => exact loopF_runL body r k vars' σ' (by simpa using h)
      | _ => rfl
theorem rngItems_length (a b : Int) : (rngItems a b).length = (b - a).toNat := by
  unfold rngItems
  generalize (b - a).toNat = n
  induction n generalizing a with
  | zero => rfl
  | succ n ih => simp [rangeL, ih]
/-- a for over a range -/
theorem ex_for_rng (Γ : G) (cf : Cf) (fe n x : Nat) (e : E) (b : List S) {vars : Vars} {σ σ₁ : H} {lo hi : Int} (he : ev Γ cf fe e vars σ = some (.rng lo hi, σ₁)) (h1 : hi - lo < 1000) (h2 : fit lo = true) (h3 : fit hi = true) :
    ex Γ cf fe (n + 1) (.for_ (.name x) (.plain e) b) vars σ = runL (fun v vars σ => exs Γ cf fe n b (vars.set x v) σ) (rngItems lo hi) vars σ₁ := by
  have : ex Γ cf fe (n + 1) (.for_ (.name x) (.plain e) b) vars σ = (match evIt (ev Γ cf fe) (.plain e) vars σ with
      | some (itr, σ) => if okT (.name x) itr then loopF (fun σ it => it.next σ) (fun v vars σ => match bindT (.name x) v σ vars with
          | some vars => exs Γ cf fe n b vars σ
          | .none => .none) loopFuel itr vars σ else .none
      | .none => .none) := rfl
  rw [this]
  unfold evIt
  dsimp only
  rw [he]
  dsimp only
  have hz : zcOf (.rng lo hi) σ₁ = some (.vs (rngItems lo hi)) := by
    show (if decide (hi - lo < 1000) && fit lo && fit hi then some (Zc.vs (rngItems lo hi)) else .none) = _
    rw [h2, h3, decide_eq_true h1]; rfl
  rw [hz]
  dsimp only [Option.map_some]
  rw [if_pos (by rfl)]
  exact loopF_runL _ _ _ _ _ (by rw [rngItems_length]; unfold loopFuel; omega)

/-- indentation levels -/
noncomputable def ilS (cnt : List Int) (ts : Int) : Nat → Int → Int → Int
  | 0, _, acc => acc
  | k + 1, i, acc => ilS cnt ts k (i + 1) (acc + Int.fdiv i ts * cnt.getD i.toNat 0)
noncomputable def ilP (nt : Int) (cnt : List Int) (b ts : Int) : Int := b + ts * (ilS cnt ts ((cnt.length : Int) - ts).toNat ts 0 + nt)
noncomputable def lrP (cnt : List Int) (b : Int) : Int := if (cnt.length : Int) - 1 < b then b else (cnt.length : Int) - 1
end MI
end TPS3
section TPW2
open PySem
set_option linter.unusedVariables false
set_option linter.unusedSimpArgs false
namespace MI
open L2
set_option maxRecDepth 100000
noncomputable def wsFs (raw : Txt) (n nt : Int) (cnt : List Int) (b : Int) : List (Nat × V) := [(20, .str raw), (23, .int n), (24, .int nt), (26, .tup [.tup (cnt.map .int), .int b]), (27, .bool (decide (cnt.length ≤ 1)))]
noncomputable def mx (a b : Int) : Int := if a < b then b else a
noncomputable def lessLoop (f g : Int → Int) : Nat → Int → Bool
  | 0, _ => true
  | k + 1, ts => if g ts ≤ f ts then false else lessLoop f g k (ts + 1)
noncomputable def witLoop (f g : Int → Int) : Nat → Int → List (Int × Int × Int)
  | 0, _ => []
  | k + 1, ts => if g ts ≤ f ts then (ts, f ts, g ts) :: witLoop f g k (ts + 1) else witLoop f g k (ts + 1)
noncomputable def row3 (p : Int × Int × Int) : V := .tup [.int p.1, .int p.2.1, .int p.2.2]
/-- what less tells -/
noncomputable def lessP (n nt : Int) (cnt : List Int) (b : Int) (n' nt' : Int) (cnt' : List Int) (b' : Int) : Bool :=
  if n' ≤ n then false
  else if cnt.length ≤ 1 ∧ cnt'.length ≤ 1 then decide (nt ≤ nt')
  else lessLoop (ilP nt cnt b) (ilP nt' cnt' b') (mx (lrP cnt b) (lrP cnt' b') + 1 + 1 - 2).toNat 2
section
variable {cf : Cf} {σ : H} {i j : Nat} {raw raw' : Txt} {n nt n' nt' : Int} {cnt cnt' : List Int} {b b' : Int}
noncomputable abbrev witBody : List S := [(.ite (.cmp .ge (.callM (.var 0) 35 [(.var 37)] []) (.callM (.var 36) 35 [(.var 37)] [])) [(.expr (.callM (.var 39) 17 [(.tup [(.var 37), (.callM (.var 0) 35 [(.var 37)] []), (.callM (.var 36) 35 [(.var 37)] [])])] []))] [])]
theorem wit_step {f g : Int → Int} {ts : Int} {vars : Vars} {m : Nat} {acc : List V} (h : σ[i]? = some (.inst 237 (wsFs raw n nt cnt b))) (h' : σ[j]? = some (.inst 237 (wsFs raw' n' nt' cnt' b'))) (hl : acc.length < 1000000) (g0 : vars.get 0 = some (.ref i)) (g36 : vars.get 36 = some (.ref j)) (g39 : vars.get 39 = some (.ref σ.length))
    (hf : cf 206 [.ref i, .int ts] [] (σ ++ [.list acc]) = some (.int (f ts), σ ++ [.list acc])) (hg : cf 206 [.ref j, .int ts] [] (σ ++ [.list acc]) = some (.int (g ts), σ ++ [.list acc])) :
    exs Γ cf 60 (m + 4) witBody (vars.set 37 (.int ts)) (σ ++ [.list acc]) = some (.next, vars.set 37 (.int ts), σ ++ [.list (if g ts ≤ f ts then acc ++ [row3 (ts, f ts, g ts)] else acc)]) := by
  have m1 : methOf Γ (.ref i) 35 (σ ++ [.list acc]) = some (.fn 206 (.ref i)) := meth_ok Γ _ (get_app σ _ h) rfl rfl
  have m2 : methOf Γ (.ref j) 35 (σ ++ [.list acc]) = some (.fn 206 (.ref j)) := meth_ok Γ _ (get_app σ _ h') rfl rfl
  have m3 : methOf Γ (.ref σ.length) 17 (σ ++ [.list acc]) = some (.lst σ.length T_append) := meth_append Γ _ (get_last σ _) rfl
  have ap : applyMeth Γ cf (.lst σ.length T_append) [.tup [.int ts, .int (f ts), .int (g ts)]] [] (σ ++ [.list acc]) = some (.none, (σ ++ [O.list acc]).set σ.length (O.list (acc ++ [V.tup [.int ts, .int (f ts), .int (g ts)]]))) := apply_append Γ cf _ (get_last σ _) hl
  have z3 : szOk ([V.int ts, V.int (f ts), V.int (g ts)]).length = true := rfl
  by_cases hc : g ts ≤ f ts
  · have hd : decide (g ts ≤ f ts) = true := decide_eq_true hc
    rw [if_pos hc]
    simp only [witBody, exs_cons, exs_nil, ex_ite, ex_expr, ev_lit, evB_cmp, ev_cmp, ev_callM, ev_tup, ev_var, evAll_cons, evAll_nil, evKw_nil, apply_fn, gs_self, gs_ne (show (37 == 0) = false from rfl), gs_ne (show (37 == 36) = false from rfl), gs_ne (show (37 == 39) = false from rfl), g0, g36, g39, m1, m2, m3, hf, hg, Option.map_some, cmp_ge, truthy_bool, hd, z3, if_true, ap, set_last, row3]
  · have hd : decide (g ts ≤ f ts) = false := decide_eq_false hc
    rw [if_neg hc]
    simp only [witBody, exs_cons, exs_nil, ex_ite, ex_expr, ev_lit, evB_cmp, ev_cmp, ev_callM, ev_var, evAll_cons, evAll_nil, evKw_nil, apply_fn, gs_self, gs_ne (show (37 == 0) = false from rfl), gs_ne (show (37 == 36) = false from rfl), g0, g36, m1, m2, hf, hg, Option.map_some, cmp_ge, truthy_bool, hd]
theorem wit_loop {f g : Int → Int} {m : Nat} (h : σ[i]? = some (.inst 237 (wsFs raw n nt cnt b))) (h' : σ[j]? = some (.inst 237 (wsFs raw' n' nt' cnt' b'))) : ∀ (k : Nat) (ts : Int) (acc : List V) (vars : Vars), acc.length + k < 1000000 → (∀ t x, ts ≤ t → t < ts + k → cf 206 [.ref i, .int t] [] (σ ++ [x]) = some (.int (f t), σ ++ [x]) ∧ cf 206 [.ref j, .int t] [] (σ ++ [x]) = some (.int (g t), σ ++ [x])) → vars.get 0 = some (.ref i) → vars.get 36 = some (.ref j) → vars.get 39 = some (.ref σ.length) →
    ∃ vars', runL (fun v vars σ => exs Γ cf 60 (m + 4) witBody (vars.set 37 v) σ) (rangeL ts k) vars (σ ++ [.list acc]) = some (.next, vars', σ ++ [.list (acc ++ (witLoop f g k ts).map row3)]) ∧ vars'.get 39 = some (.ref σ.length) := by
  intro k
  induction k with
  | zero =>
    intro ts acc vars hl hc g0 g36 g39
    exact ⟨vars, (congrArg (fun l => some (Fl.next, vars, σ ++ [O.list l])) (List.append_nil acc).symm), g39⟩
  | succ k ih =>
    intro ts acc vars hl hc g0 g36 g39
    have h0 := hc ts (.list acc) (by omega) (by push_cast; omega)
    have hst := wit_step (m := m) (f := f) (g := g) h h' (by omega) g0 g36 g39 h0.1 h0.2
    rw [show rangeL ts (k + 1) = .int ts :: rangeL (ts + 1) k from rfl, runL_cons, hst]
    rw [show witLoop f g (k + 1) ts = (if g ts ≤ f ts then (ts, f ts, g ts) :: witLoop f g k (ts + 1) else witLoop f g k (ts + 1)) from rfl]
    by_cases q : g ts ≤ f ts
    · rw [if_pos q, if_pos q]
      refine k12 (ih (ts + 1) (acc ++ [row3 (ts, f ts, g ts)]) (vars.set 37 (.int ts)) (by simp; omega) (fun t x t1 t2 => hc t x (by omega) (by push_cast; omega)) (by rw [gs_ne rfl, g0]) (by rw [gs_ne rfl, g36]) (by rw [gs_ne rfl, g39])) fun vars' e e2 => ?_
      refine ⟨vars', ?_, e2⟩
      rw [List.map_cons]
      rw [List.append_assoc] at e
      exact e
    · rw [if_neg q, if_neg q]
      exact ih (ts + 1) acc _ (by omega) (fun t x t1 t2 => hc t x (by omega) (by push_cast; omega)) (by rw [gs_ne rfl, g0]) (by rw [gs_ne rfl, g36]) (by rw [gs_ne rfl, g39])
/-- what not_less_witness tells -/
noncomputable def witP (nt : Int) (cnt : List Int) (b : Int) (nt' : Int) (cnt' : List Int) (b' : Int) : List (Int × Int × Int) :=
  witLoop (ilP nt cnt b) (ilP nt' cnt' b') (mx (lrP cnt b) (lrP cnt' b') + 1 + 1 - 1).toNat 1
theorem w_wit (h : σ[i]? = some (.inst 237 (wsFs raw n nt cnt b))) (h' : σ[j]? = some (.inst 237 (wsFs raw' n' nt' cnt' b'))) (hm : 0 ≤ mx (lrP cnt b) (lrP cnt' b') ∧ mx (lrP cnt b) (lrP cnt' b') ≤ 10)
    (l1 : cf 199 [.ref i] [] σ = some (.int (lrP cnt b), σ)) (l2 : cf 199 [.ref j] [] σ = some (.int (lrP cnt' b'), σ)) (hc : ∀ t x, 0 < t → t ≤ 11 → cf 206 [.ref i, .int t] [] (σ ++ [x]) = some (.int (ilP nt cnt b t), σ ++ [x]) ∧ cf 206 [.ref j, .int t] [] (σ ++ [x]) = some (.int (ilP nt' cnt' b' t), σ ++ [x])) :
    runBody Γ cf 60 60 F_Whitespace_not_less_witness [.ref i, .ref j] [] σ = some (.ref σ.length, σ ++ [.list ((witP nt cnt b nt' cnt' b').map row3)]) := by
  unfold runBody
  have hb : bindFn Γ F_Whitespace_not_less_witness [.ref i, .ref j] [] = some [(0, some (.ref i)), (36, some (.ref j))] := rfl
  rw [hb]
  have m1 : methOf Γ (.ref i) 31 σ = some (.fn 199 (.ref i)) := meth_ok Γ σ h rfl rfl
  have m2 : methOf Γ (.ref j) 31 σ = some (.fn 199 (.ref j)) := meth_ok Γ σ h' rfl rfl
  have i1 : mkI (mx (lrP cnt b) (lrP cnt' b') + 1) = some (.int (mx (lrP cnt b) (lrP cnt' b') + 1)) := mkI_ok (fit_of (by omega) (by omega))
  have i2 : mkI (mx (lrP cnt b) (lrP cnt' b') + 1 + 1) = some (.int (mx (lrP cnt b) (lrP cnt' b') + 1 + 1)) := mkI_ok (fit_of (by omega) (by omega))
  have q1 : fit (1 : Int) = true := rfl
  have q2 : fit (mx (lrP cnt b) (lrP cnt' b') + 1 + 1) = true := fit_of (by omega) (by omega)
  have hmx : (if decide (lrP cnt b < lrP cnt' b') = true then lrP cnt' b' else lrP cnt b) = mx (lrP cnt b) (lrP cnt' b') := by unfold mx; simp
  have ml : mkL [] σ = some (.ref σ.length, σ ++ [.list []]) := mkL_ok σ (by simp)
  refine k12 (wit_loop (cf := cf) (m := 52) (f := ilP nt cnt b) (g := ilP nt' cnt' b') h h' (mx (lrP cnt b) (lrP cnt' b') + 1 + 1 - 1).toNat 1 [] [(0, some (.ref i)), (36, some (.ref j)), (23, some (.int (mx (lrP cnt b) (lrP cnt' b') + 1))), (39, some (.ref σ.length))] (by simp; omega) (fun t x t1 t2 => hc t x (by omega) (by omega)) rfl rfl rfl) fun vars' e e2 => ?_
  have hfor : ex Γ cf 60 57 _ _ _ = _ := ex_for_rng Γ cf 60 56 37 (.call (.lit (.cst (.type "range"))) [(.lit (.int 1)), (.bin .add (.var 23) (.lit (.int 1)))]) witBody (vars := [(0, some (.ref i)), (36, some (.ref j)), (23, some (.int (mx (lrP cnt b) (lrP cnt' b') + 1))), (39, some (.ref σ.length))]) (σ := σ ++ [.list []]) (σ₁ := σ ++ [.list []]) (lo := 1) (hi := mx (lrP cnt b) (lrP cnt' b') + 1 + 1) (by
    simp only [ev_call, ev_lit, ev_var, ev_bin, evAll_cons, evAll_nil, callV_type, b_range2, bin_add, i2, Vars.get, Option.map_some, Nat.reduceBEq, beq_self_eq_true, if_true, if_false, Bool.false_eq_true, q1, q2, Bool.and_self]) (by omega) q1 q2
  rw [show runL _ (rngItems 1 (mx (lrP cnt b) (lrP cnt' b') + 1 + 1)) _ _ = _ from e, List.nil_append] at hfor
  simp only [F_Whitespace_not_less_witness, exs_cons, exs_nil, ex_ret, ex_names, ev_lit, ev_list, ev_var, ev_bin, ev_call, ev_callM, evAll_cons, evAll_nil, evKw_nil, m1, m2, apply_fn, l1, l2, callV_builtin, b_max2, hmx, bin_add, i1, ml, Vars.get, Vars.set, List.foldl, Option.map_some, Nat.reduceBEq, beq_self_eq_true, if_true, if_false, Bool.false_eq_true, hfor, e2, witP]
end
end MI
end TPW2
section TPS4
open PySem
set_option linter.unusedVariables false
namespace MI

/-- a comprehension over items that are handed in turn -/
noncomputable def cFold (p : V → Bool) (g : V → List O → V) (δi δ : V → List O → List O) : List V → List V → List O → List V × List O
  | [], acc, τ => (acc, τ)
  | v :: r, acc, τ => if p v then cFold p g δi δ r (acc ++ [g v τ]) (τ ++ δi v τ ++ δ v τ) else cFold p g δi δ r acc (τ ++ δi v τ)

/-- the items of an iterator, the heap growing behind σb -/
structure Hands (σb : H) (it : Nat → Itr) (xs : List V) : Prop where
  item : ∀ (k : Nat) v τ, xs[k]? = some v → (it k).next (σb ++ τ) = some (some (v, it (k + 1)))
  done : ∀ τ, (it xs.length).next (σb ++ τ) = some .none
theorem hands_ls {σb : H} {i : Nat} {xs : List V} (h : σb[i]? = some (.list xs)) : Hands σb (fun k => .one (.ls i k)) xs where
  item := fun k v τ hv => by
    show (match (Zc.ls i k).next (σb ++ τ) with
      | some (some (v, z')) => some (some (v, Itr.one z'))
      | some .none => some .none
      | .none => .none) = _
    unfold Zc.next
    dsimp only
    rw [get_app _ τ h]
    dsimp only
    rw [hv]
  done := fun τ => by
    show (match (Zc.ls i xs.length).next (σb ++ τ) with
      | some (some (v, z')) => some (some (v, Itr.one z'))
      | some .none => some .none
      | .none => .none) = _
    unfold Zc.next
    dsimp only
    rw [get_app _ τ h]
    dsimp only
    rw [List.getElem?_eq_none (Nat.le_refl _)]
theorem hands_vs {σb : H} (xs : List V) : Hands σb (fun k => .one (.vs (xs.drop k))) xs where
  item := fun k v τ hv => by
    obtain ⟨hk, e⟩ := List.getElem?_eq_some_iff.mp hv
    have : xs.drop k = v :: xs.drop (k + 1) := by rw [List.drop_eq_getElem_cons hk, e]
    show (Itr.one (.vs (xs.drop k))).next _ = _
    rw [this]; rfl
  done := fun τ => by
    show (Itr.one (.vs (xs.drop xs.length))).next _ = _
    rw [List.drop_length]; rfl
noncomputable def enumL : Nat → List V → List V
  | _, [] => []
  | k, v :: r => .tup [.int (k : Int), v] :: enumL (k + 1) r
theorem enumL_get : ∀ (xs : List V) (j k : Nat), (enumL j xs)[k]? = (xs[k]?).map fun v => .tup [.int ((j + k : Nat) : Int), v]
  | [], j, k => by simp [enumL]
  | v :: r, j, 0 => by simp [enumL]
  | v :: r, j, k + 1 => by
    show (enumL (j + 1) r)[k]? = _
    rw [enumL_get r (j + 1) k, List.getElem?_cons_succ]
    congr 1
    funext w
    rw [show j + 1 + k = j + (k + 1) by omega]
theorem enumL_length : ∀ (xs : List V) (j : Nat), (enumL j xs).length = xs.length
  | [], _ => rfl
  | v :: r, j => by simp [enumL, enumL_length r]
theorem hands_enum {σb : H} {i : Nat} {xs : List V} (h : σb[i]? = some (.list xs)) : Hands σb (fun k => .enum i k) (enumL 0 xs) where
  item := fun k v τ hv => by
    rw [enumL_get] at hv
    refine k12 (Option.map_eq_some_iff.mp hv) fun w hw q1 => ?_; subst q1
    show (match (σb ++ τ)[i]? with
      | some (.list xs) => match xs[k]? with
        | some v => some (some (V.tup [.int (k : Int), v], Itr.enum i (k + 1)))
        | .none => some .none
      | _ => .none) = _
    rw [get_app _ τ h]
    dsimp only
    rw [hw]
    simp
  done := fun τ => by
    show (match (σb ++ τ)[i]? with
      | some (.list ys) => match ys[(enumL 0 xs).length]? with
        | some v => some (some (V.tup [.int ((enumL 0 xs).length : Int), v], Itr.enum i ((enumL 0 xs).length + 1)))
        | .none => some .none
      | _ => .none) = _
    rw [get_app _ τ h, enumL_length]
    dsimp only
    rw [List.getElem?_eq_none (Nat.le_refl _)]

/-- one turn of a comprehension -/
noncomputable def compTurn (ev1 : Ev) (elt : E) (t : T) (ifs : List E) : V → Vars → List V → H → Option (Vars × List V × H) := fun v vars acc σ =>
      match bindT t v σ vars with
      | some vars => match evIfs ev1 ifs vars σ with
        | some (x, σ) => match x with
          | false => some (vars, acc, σ)
          | true => match ev1 elt vars σ with
            | some (v, σ) => if szOk acc.length then some (vars, acc ++ [v], σ) else .none
            | .none => .none
        | .none => .none
      | .none => .none
theorem compTurn_eq (ev1 : Ev) (elt : E) (t : T) (ifs : List E) (itr : Itr) (vars : Vars) (acc : List V) (σ : H) : compGo ev1 elt t ifs itr vars acc σ = loopC (fun σ it => it.next σ) (compTurn ev1 elt t ifs) loopFuel itr vars acc σ := rfl

theorem comp_go {ev1 : Ev} {elt : E} {t : T} {ifs : List E} {σb : H} {it : Nat → Itr} {xs : List V} (Hd : Hands σb it xs) (P : Vars → Prop) (bnd : V → Vars → Vars) (p : V → Bool) (g : V → List O → V) (δi δ : V → List O → List O)
    (hb : ∀ v ∈ xs, ∀ σ vars, bindT t v σ vars = some (bnd v vars)) (hP : ∀ v ∈ xs, ∀ vars, P vars → P (bnd v vars))
    (hi : ∀ v ∈ xs, ∀ vars τ, P vars → evIfs ev1 ifs (bnd v vars) (σb ++ τ) = some (p v, σb ++ (τ ++ δi v τ)))
    (he : ∀ v ∈ xs, ∀ vars τ, P vars → p v = true → ev1 elt (bnd v vars) (σb ++ (τ ++ δi v τ)) = some (g v τ, σb ++ (τ ++ δi v τ ++ δ v τ))) :
    ∀ (k j : Nat) (vars : Vars) (acc : List V) (τ : List O), P vars → xs.length < 2000 → j ≤ xs.length → j + k = xs.length + 1 → acc.length ≤ j → ∃ vars', loopC (fun σ it => it.next σ) (compTurn ev1 elt t ifs) (k + n) (it j) vars acc (σb ++ τ) = some (vars', (cFold p g δi δ (xs.drop j) acc τ).1, σb ++ (cFold p g δi δ (xs.drop j) acc τ).2)
  | 0, j, vars, acc, τ, hp, hl, hjl, hj, ha => by omega
  | k + 1, j, vars, acc, τ, hp, hl, hjx, hj, ha => by
    rw [show k + 1 + n = (k + n) + 1 by omega]
    by_cases hjl : j = xs.length
    · subst hjl
      unfold loopC
      rw [Hd.done τ, List.drop_length]
      exact ⟨vars, rfl⟩
    · have hlt : j < xs.length := by omega
      have hmem := List.getElem_mem hlt
      unfold loopC
      rw [Hd.item j xs[j] τ (List.getElem?_eq_getElem hlt)]
      dsimp only [compTurn]
      rw [hb _ hmem]
      dsimp only
      rw [hi _ hmem vars τ hp]
      have hd : xs.drop j = xs[j] :: xs.drop (j + 1) := List.drop_eq_getElem_cons hlt
      rw [hd]
      unfold cFold
      cases hpv : p xs[j]
      · dsimp only
        rw [if_neg (by simp)]
        exact comp_go Hd P bnd p g δi δ hb hP hi he k (j + 1) _ acc _ (hP _ hmem _ hp) hl hlt (by omega) (by omega)
      · dsimp only
        rw [he _ hmem vars τ hp hpv, if_pos rfl]
        dsimp only
        rw [szOk_of (by omega), if_pos rfl]
        exact comp_go Hd P bnd p g δi δ hb hP hi he k (j + 1) _ _ _ (hP _ hmem _ hp) hl hlt (by omega) (by simp; omega)

theorem ev_comp (Γ : G) (cf : Cf) (n : Nat) (elt : E) (t : T) (iter : It) (ifs : List E) (own : List Nat) (vars : Vars) (σ : H) : ev Γ cf (n + 1) (.comp elt [.mk t iter ifs] own) vars σ = (match evIt (ev Γ cf n) iter vars σ with
        | some (itr, σ) => if okT t itr then match compGo (ev Γ cf n) elt t ifs itr (own.map (·, .none) ++ vars) [] σ with
          | some (_, acc, σ) => mkL acc σ
          | .none => .none else .none
        | .none => .none) := rfl
/-- a comprehension whose items are handed in turn -/
theorem comp_ev {Γ : G} {cf : Cf} {n : Nat} {elt : E} {t : T} {iter : It} {ifs : List E} {own : List Nat} {vars : Vars} {σ σb : H} {it : Nat → Itr} {xs : List V} (h0 : evIt (ev Γ cf n) iter vars σ = some (it 0, σb)) (hok : okT t (it 0) = true) (hx : xs.length < 1999) (Hd : Hands σb it xs) (P : Vars → Prop) (bnd : V → Vars → Vars) (p : V → Bool) (g : V → List O → V) (δi δ : V → List O → List O)
    (hb : ∀ v ∈ xs, ∀ σ vars, bindT t v σ vars = some (bnd v vars)) (hP : ∀ v ∈ xs, ∀ vars, P vars → P (bnd v vars)) (hp : P (own.map (·, .none) ++ vars))
    (hi : ∀ v ∈ xs, ∀ vars τ, P vars → evIfs (ev Γ cf n) ifs (bnd v vars) (σb ++ τ) = some (p v, σb ++ (τ ++ δi v τ)))
    (he : ∀ v ∈ xs, ∀ vars τ, P vars → p v = true → ev Γ cf n elt (bnd v vars) (σb ++ (τ ++ δi v τ)) = some (g v τ, σb ++ (τ ++ δi v τ ++ δ v τ))) :
    ev Γ cf (n + 1) (.comp elt [.mk t iter ifs] own) vars σ = mkL (cFold p g δi δ xs [] []).1 (σb ++ (cFold p g δi δ xs [] []).2) := by
  rw [ev_comp, h0]
  dsimp only
  rw [if_pos hok]
  refine k11 (comp_go (n := loopFuel - (xs.length + 1)) Hd P bnd p g δi δ hb hP hi he (xs.length + 1) 0 (own.map (·, .none) ++ vars) [] [] hp (by omega) (Nat.zero_le _) (by omega) (Nat.le_refl _)) fun vars' e => ?_
  rw [show xs.length + 1 + (loopFuel - (xs.length + 1)) = loopFuel by unfold loopFuel; omega, List.append_nil] at e
  rw [compTurn_eq, e, List.drop_zero]
theorem cFold_acc (p : V → Bool) (g : V → V) : ∀ (xs acc : List V) (τ : List O), cFold p (fun v _ => g v) (fun _ _ => []) (fun _ _ => []) xs acc τ = (acc ++ (xs.filter p).map g, τ)
  | [], acc, τ => by simp [cFold]
  | v :: r, acc, τ => by
    unfold cFold
    cases h : p v
    · rw [if_neg (by simp), cFold_acc p g r, List.filter_cons_of_neg (by simp [h]), List.append_nil]
    · rw [if_pos rfl, cFold_acc p g r, List.filter_cons_of_pos h, List.append_nil]
      simp
end MI
end TPS4
section TPW3
open PySem PySem.Spec PySem.Calls PyProof.Rows PySem.W
set_option linter.unusedVariables false
set_option maxRecDepth 100000
namespace MI.L2

noncomputable def P3 : List Txt := [[], [32], [9]]
/-- the leads that the law can make -/
noncomputable def L31 : List Txt := [[], [32], [9], [32, 32], [32, 9], [9, 32], [9, 9], [32, 32, 32], [32, 32, 9], [32, 9, 32], [32, 9, 9], [9, 32, 32], [9, 32, 9], [9, 9, 32], [9, 9, 9], [32, 32, 32, 32], [32, 32, 32, 9], [32, 32, 9, 32], [32, 32, 9, 9], [32, 9, 32, 32], [32, 9, 32, 9], [32, 9, 9, 32], [32, 9, 9, 9], [9, 32, 32, 32], [9, 32, 32, 9], [9, 32, 9, 32], [9, 32, 9, 9], [9, 9, 32, 32], [9, 9, 32, 9], [9, 9, 9, 32], [9, 9, 9, 9]]
theorem in_L31 : ∀ a ∈ P3, ∀ b ∈ P3, ∀ c ∈ P3, ∀ d ∈ P3, a ++ b ++ c ++ d ∈ L31 := by decide +kernel

noncomputable def bump (cnt : List Int) (b : Nat) : List Int := let c := if b < cnt.length then cnt else cnt ++ List.replicate (b - cnt.length + 1) 0; c.set b (c.getD b 0 + 1)
noncomputable def nrm : Txt → List Int → Nat → List Int × Nat
  | [], cnt, b => (cnt, b)
  | c :: r, cnt, b => if c == 32 then nrm r cnt (b + 1) else nrm r (bump cnt b) 0
noncomputable def wN (l : Txt) : Int := (l.length : Int)
noncomputable def wT (l : Txt) : Int := ((l.filter (· == 9)).length : Int)
noncomputable def wC (l : Txt) : List Int := (nrm l [] 0).1
noncomputable def wB (l : Txt) : Int := ((nrm l [] 0).2 : Int)
noncomputable def wRaw (l : Txt) : Txt := l ++ [120, 32, 9]
/-- the object that stands for a lead -/
noncomputable def wO (l : Txt) : O := .inst 237 (wsFs (wRaw l) (wN l) (wT l) (wC l) (wB l))

noncomputable def wRun (l : Txt) : Option (V × H) := callN Γ 60 60 20 192 [.ref 0, .str (wRaw l)] [] [.inst 237 []]
/-- a table by the kernel: the two sides have different heads, so they are not unified under the binder -/
noncomputable def tabA {α β : Type} (f : α → β) (L : List α) : List β := L.foldr (fun x r => f x :: r) []
theorem tabA_eq {α β : Type} (f : α → β) : ∀ L : List α, tabA f L = L.map f
  | [] => rfl
  | x :: r => congrArg (f x :: ·) (tabA_eq f r)
theorem tabA_get {α β : Type} {f g : α → β} {L : List α} (h : tabA f L = L.map g) : ∀ x ∈ L, f x = g x := List.map_inj_left.mp ((tabA_eq f L).symm.trans h)
theorem tail_get {α : Type} {o : Option (α × H)} {v : α} {x : O} (h : o.map (fun y => (y.1, y.2.head?)) = some (v, some x)) : ∃ τ, o = some (v, x :: τ) := by
  cases o with
  | none => exact ns h
  | some y =>
    obtain ⟨w, l⟩ := y
    cases l with
    | nil => exact absurd (congrArg Prod.snd (Option.some.inj h)) (by simp)
    | cons z l => refine ⟨l, ?_⟩; simpa using h
theorem w_run (l : Txt) (h : l ∈ L31) : ∃ τ, wRun l = some (.none, wO l :: τ) := tail_get (tabA_get (f := fun l => (wRun l).map fun y => (y.1, y.2.head?)) (g := fun l => some (V.none, some (wO l))) (by kernel_rfl) l h)
end MI.L2
end TPW3
section TPW4
open PySem PySem.Spec PySem.Calls PyProof.Rows PySem.W
set_option linter.unusedVariables false
set_option maxRecDepth 100000
namespace MI.L2
/-- the column at which a lead ends -/
noncomputable def col : Txt → Int → Int → Int
  | [], ts, c => c
  | x :: r, ts, c => col r ts (if x == 32 then c + 1 else (Int.fdiv c ts + 1) * ts)
noncomputable def splitT : Txt → Txt → List Txt
  | [], acc => [acc]
  | x :: r, acc => if x == 9 then acc :: splitT r [] else splitT r (acc ++ [x])
noncomputable def maxN : List Nat → Nat := List.foldl Nat.max 0
noncomputable def longN (l : Txt) : Nat := maxN ((splitT l []).map List.length)
noncomputable def lessL (a b : Txt) : Bool := lessP (wN a) (wT a) (wC a) (wB a) (wN b) (wT b) (wC b) (wB b)
noncomputable def rowsL (a b : Txt) : List (Int × Int × Int) := witP (wT a) (wC a) (wB a) (wT b) (wC b) (wB b)
noncomputable def pairsL (a b : Txt) : List (Int × Int × Int) := (List.range (Nat.max (longN a) (longN b) + 1)).map fun (k : Nat) => ((k : Int) + 1, col a ((k : Int) + 1) 0, col b ((k : Int) + 1) 0)
noncomputable def ltAll (a b : Txt) : Bool := (List.range 5).all fun (k : Nat) => decide (col a ((k : Int) + 1) 0 < col b ((k : Int) + 1) 0)
theorem less_L : ∀ a ∈ L31, ∀ b ∈ L31, lessL a b = ltAll a b ∧ rowsL a b = (pairsL a b).filter (fun p => decide (p.2.2 ≤ p.2.1)) ∧ (rowsL a b).isEmpty = lessL a b := by decide +kernel
theorem long_L : ∀ a ∈ L31, longN a ≤ 4 := by decide +kernel
theorem lt_trans {a b c : Txt} (h1 : ltAll a b = true) (h2 : ltAll b c = true) : ltAll a c = true := by
  unfold ltAll at *
  rw [List.all_eq_true] at *
  intro k hk
  have := h1 k hk
  have := h2 k hk
  simp only [decide_eq_true_eq] at *
  omega
theorem lr_L : ∀ l ∈ L31, 0 ≤ lrP (wC l) (wB l) ∧ lrP (wC l) (wB l) ≤ 10 := by decide +kernel
theorem mx_L {a b : Txt} (ha : a ∈ L31) (hb : b ∈ L31) : 0 ≤ mx (lrP (wC a) (wB a)) (lrP (wC b) (wB b)) ∧ mx (lrP (wC a) (wB a)) (lrP (wC b) (wB b)) ≤ 10 := by
  unfold mx
  by_cases h : lrP (wC a) (wB a) < lrP (wC b) (wB b)
  · rw [if_pos h]; exact lr_L b hb
  · rw [if_neg h]; exact lr_L a ha
theorem lrs_run : ∀ l ∈ L31, callN Γ 60 60 20 199 [.ref 0] [] [wO l] = some (.int (lrP (wC l) (wB l)), [wO l]) := tabA_get (by kernel_rfl)
noncomputable def T11 : List Int := (List.range 11).map fun (k : Nat) => (k : Int) + 1
theorem in_T11 {t : Int} (h : 0 < t ∧ t ≤ 11) : t ∈ T11 := List.mem_map.mpr ⟨(t - 1).toNat, List.mem_range.mpr (by omega), by omega⟩
theorem il_run (l : Txt) (h : l ∈ L31) : ∀ t ∈ T11, callN Γ 60 60 20 206 [.ref 0, .int t] [] [wO l] = some (.int (ilP (wT l) (wC l) (wB l) t), [wO l]) :=
  List.map_inj_left.mp ((tabA_eq _ T11).symm.trans (tabA_get (f := fun l => tabA (fun t => callN Γ 60 60 20 206 [.ref 0, .int t] [] [wO l]) T11) (g := fun l => T11.map fun t => some (V.int (ilP (wT l) (wC l) (wB l) t), [wO l])) (by kernel_rfl) l h))
noncomputable def lessT (a : Txt) : Prop := tabA (fun b => callN Γ 60 60 20 227 [.ref 0, .ref 1] [] [wO a, wO b]) L31 = L31.map fun b => some (.bool (lessL a b), [wO a, wO b])
theorem less_t0 : lessT [] := by unfold lessT; kernel_rfl
theorem less_t1 : lessT [32] := by unfold lessT; kernel_rfl
theorem less_t2 : lessT [9] := by unfold lessT; kernel_rfl
theorem less_t3 : lessT [32, 32] := by unfold lessT; kernel_rfl
theorem less_t4 : lessT [32, 9] := by unfold lessT; kernel_rfl
theorem less_t5 : lessT [9, 32] := by unfold lessT; kernel_rfl
theorem less_t6 : lessT [9, 9] := by unfold lessT; kernel_rfl
theorem less_t7 : lessT [32, 32, 32] := by unfold lessT; kernel_rfl
theorem less_t8 : lessT [32, 32, 9] := by unfold lessT; kernel_rfl
theorem less_t9 : lessT [32, 9, 32] := by unfold lessT; kernel_rfl
theorem less_t10 : lessT [32, 9, 9] := by unfold lessT; kernel_rfl
theorem less_t11 : lessT [9, 32, 32] := by unfold lessT; kernel_rfl
theorem less_t12 : lessT [9, 32, 9] := by unfold lessT; kernel_rfl
theorem less_t13 : lessT [9, 9, 32] := by unfold lessT; kernel_rfl
theorem less_t14 : lessT [9, 9, 9] := by unfold lessT; kernel_rfl
theorem less_t15 : lessT [32, 32, 32, 32] := by unfold lessT; kernel_rfl
theorem less_t16 : lessT [32, 32, 32, 9] := by unfold lessT; kernel_rfl
theorem less_t17 : lessT [32, 32, 9, 32] := by unfold lessT; kernel_rfl
theorem less_t18 : lessT [32, 32, 9, 9] := by unfold lessT; kernel_rfl
theorem less_t19 : lessT [32, 9, 32, 32] := by unfold lessT; kernel_rfl
theorem less_t20 : lessT [32, 9, 32, 9] := by unfold lessT; kernel_rfl
theorem less_t21 : lessT [32, 9, 9, 32] := by unfold lessT; kernel_rfl
theorem less_t22 : lessT [32, 9, 9, 9] := by unfold lessT; kernel_rfl
theorem less_t23 : lessT [9, 32, 32, 32] := by unfold lessT; kernel_rfl
theorem less_t24 : lessT [9, 32, 32, 9] := by unfold lessT; kernel_rfl
theorem less_t25 : lessT [9, 32, 9, 32] := by unfold lessT; kernel_rfl
theorem less_t26 : lessT [9, 32, 9, 9] := by unfold lessT; kernel_rfl
theorem less_t27 : lessT [9, 9, 32, 32] := by unfold lessT; kernel_rfl
theorem less_t28 : lessT [9, 9, 32, 9] := by unfold lessT; kernel_rfl
theorem less_t29 : lessT [9, 9, 9, 32] := by unfold lessT; kernel_rfl
theorem less_t30 : lessT [9, 9, 9, 9] := by unfold lessT; kernel_rfl
theorem less_all : AllL lessT L31 := .cons less_t0 (.cons less_t1 (.cons less_t2 (.cons less_t3 (.cons less_t4 (.cons less_t5 (.cons less_t6 (.cons less_t7 (.cons less_t8 (.cons less_t9 (.cons less_t10 (.cons less_t11 (.cons less_t12 (.cons less_t13 (.cons less_t14 (.cons less_t15 (.cons less_t16 (.cons less_t17 (.cons less_t18 (.cons less_t19 (.cons less_t20 (.cons less_t21 (.cons less_t22 (.cons less_t23 (.cons less_t24 (.cons less_t25 (.cons less_t26 (.cons less_t27 (.cons less_t28 (.cons less_t29 (.cons less_t30 (.nil)))))))))))))))))))))))))))))))
theorem less_run (a : Txt) (ha : a ∈ L31) : ∀ b ∈ L31, callN Γ 60 60 20 227 [.ref 0, .ref 1] [] [wO a, wO b] = some (.bool (lessL a b), [wO a, wO b]) := tabA_get (less_all.get a ha)
end MI.L2
end TPW4
section TPS5
open PySem
set_option linter.unusedVariables false
namespace MI
/-- the plain case: neither test nor item allots anything -/
theorem comp_plain {Γ : G} {cf : Cf} {n : Nat} {elt : E} {t : T} {iter : It} {ifs : List E} {own : List Nat} {vars : Vars} {σ σb : H} {it : Nat → Itr} {xs : List V} (h0 : evIt (ev Γ cf n) iter vars σ = some (it 0, σb)) (hok : okT t (it 0) = true) (hx : xs.length < 1999) (Hd : Hands σb it xs) (P : Vars → Prop) (bnd : V → Vars → Vars) (p : V → Bool) (g : V → V)
    (hb : ∀ v ∈ xs, ∀ σ vars, bindT t v σ vars = some (bnd v vars)) (hP : ∀ v ∈ xs, ∀ vars, P vars → P (bnd v vars)) (hp : P (own.map (·, .none) ++ vars))
    (hi : ∀ v ∈ xs, ∀ vars, P vars → evIfs (ev Γ cf n) ifs (bnd v vars) σb = some (p v, σb))
    (he : ∀ v ∈ xs, ∀ vars, P vars → p v = true → ev Γ cf n elt (bnd v vars) σb = some (g v, σb)) :
    ev Γ cf (n + 1) (.comp elt [.mk t iter ifs] own) vars σ = mkL ((xs.filter p).map g) σb := by
  rw [ev_comp, h0]
  dsimp only
  rw [if_pos hok]
  have key : ∀ (k j : Nat) (vars : Vars) (acc : List V), P vars → j ≤ xs.length → j + k = xs.length + 1 → acc.length ≤ j → ∃ vars', loopC (fun σ it => it.next σ) (compTurn (ev Γ cf n) elt t ifs) (k + (loopFuel - (xs.length + 1))) (it j) vars acc σb = some (vars', acc ++ ((xs.drop j).filter p).map g, σb) := by
    intro k
    induction k with
    | zero => intro j vars acc hp hj hk; omega
    | succ k ih =>
      intro j vars acc hp hj hk ha
      rw [show k + 1 + (loopFuel - (xs.length + 1)) = (k + (loopFuel - (xs.length + 1))) + 1 by omega]
      by_cases hjl : j = xs.length
      · subst hjl
        unfold loopC
        have := Hd.done []
        rw [List.append_nil] at this
        rw [this, List.drop_length]
        exact ⟨vars, by simp⟩
      · have hlt : j < xs.length := by omega
        have hmem := List.getElem_mem hlt
        unfold loopC
        have := Hd.item j xs[j] [] (List.getElem?_eq_getElem hlt)
        rw [List.append_nil] at this
        rw [this]
        dsimp only [compTurn]
        rw [hb _ hmem]
        dsimp only
        rw [hi _ hmem vars hp]
        rw [List.drop_eq_getElem_cons hlt]
        cases hpv : p xs[j]
        · dsimp only
          refine k11 (ih (j + 1) _ acc (hP _ hmem _ hp) hlt (by omega) (by omega)) fun vars' e => ?_
          exact ⟨vars', by rw [e, List.filter_cons_of_neg (by simp [hpv])]⟩
        · dsimp only
          rw [he _ hmem vars hp hpv]
          dsimp only
          rw [szOk_of (by omega), if_pos rfl]
          refine k11 (ih (j + 1) _ (acc ++ [g xs[j]]) (hP _ hmem _ hp) hlt (by omega) (by simp; omega)) fun vars' e => ?_
          exact ⟨vars', by dsimp only; rw [e, List.filter_cons_of_pos hpv, List.map_cons, List.append_assoc]; rfl⟩
  refine k11 (key (xs.length + 1) 0 (own.map (·, .none) ++ vars) [] hp (Nat.zero_le _) (by omega) (Nat.zero_le _)) fun vars' e => ?_
  rw [show xs.length + 1 + (loopFuel - (xs.length + 1)) = loopFuel by unfold loopFuel; omega] at e
  rw [compTurn_eq, e, List.drop_zero, List.nil_append]
theorem evIfs_nil (e1 : Ev) (vars : Vars) (σ : H) : evIfs e1 [] vars σ = some (true, σ) := rfl
theorem filter_true (p : V → Bool) (h : ∀ v, p v = true) (xs : List V) : xs.filter p = xs := List.filter_eq_self.mpr fun v _ => h v
theorem loopF_turn {body : V → Vars → H → Option (Fl × Vars × H)} {it it' : Itr} {v : V} {vars vars' : Vars} {σ σ' : H} {k : Nat} (h1 : it.next σ = some (some (v, it'))) (h2 : body v vars σ = some (.next, vars', σ')) : loopF (fun σ it => it.next σ) body (k + 1) it vars σ = loopF (fun σ it => it.next σ) body k it' vars' σ' := by
  conv => lhs; unfold loopF
  rw [h1]; dsimp only; rw [h2]
theorem loopF_end {body : V → Vars → H → Option (Fl × Vars × H)} {it : Itr} {vars : Vars} {σ : H} {k : Nat} (h1 : it.next σ = some .none) : loopF (fun σ it => it.next σ) body (k + 1) it vars σ = some (.next, vars, σ) := by
  conv => lhs; unfold loopF
  rw [h1]
theorem ex_for (Γ : G) (cf : Cf) (fe n : Nat) (t : T) (iter : It) (b : List S) (vars : Vars) (σ : H) : ex Γ cf fe (n + 1) (.for_ t iter b) vars σ = (match evIt (ev Γ cf fe) iter vars σ with
      | some (itr, σ) => if okT t itr then loopF (fun σ it => it.next σ) (fun v vars σ => match bindT t v σ vars with
          | some vars => exs Γ cf fe n b vars σ
          | .none => .none) loopFuel itr vars σ else .none
      | .none => .none) := rfl
theorem evOpt_some (e1 : Ev) (e : E) (vars : Vars) (σ : H) : evOpt e1 (some e) vars σ = e1 e vars σ := rfl
theorem evOpt_none (e1 : Ev) (vars : Vars) (σ : H) : evOpt e1 .none vars σ = some (.none, σ) := rfl
end MI
end TPS5
section TPW5
open PySem
set_option linter.unusedVariables false
set_option linter.unusedSimpArgs false
set_option maxRecDepth 100000
namespace MI.L2
/-- the digits that one lead is made of -/
noncomputable def modsOf (ns : List Int) (k : Int) : List V := (cutAt (ns.map .int) (some k) (some 60) (some 4)).map fun v => match v with | .int i => .int (Int.fmod i 81) | _ => .none
theorem cut_ints (ns : List Int) (k : Int) : ∀ v ∈ cutAt (ns.map V.int) (some k) (some 60) (some 4), ∃ i, v = .int i := by
  intro v hv
  unfold cutAt at hv
  refine k12 (List.mem_filterMap.mp hv) fun j _ hj => ?_
  rw [List.getElem?_map] at hj
  refine k12 (Option.map_eq_some_iff.mp hj) fun i _ q1 => ?_; subst q1
  exact ⟨i, rfl⟩
theorem cut_len (ns : List Int) (k : Int) (hk : 0 ≤ k) : (cutAt (ns.map V.int) (some k) (some 60) (some 4)).length ≤ 100 := by
  unfold cutAt
  refine Nat.le_trans (List.length_filterMap_le _ _) ?_
  unfold sliceRange sliceBounds
  simp only [List.length_map, List.length_range, Option.getD_some]
  have h4 : (4 : Int) > 0 := by decide
  rw [if_pos h4, if_pos h4, if_pos h4]
  have a0 : ¬ k < 0 := by omega
  have a1 : ¬ (60 : Int) < 0 := by decide
  rw [if_neg a0, if_neg a1]
  split <;> omega
/-- sums of what is left over 81 stay small -/
theorem sum_small : ∀ (xs : List V), (∀ v ∈ xs, ∃ i, v = .int i) → ∀ a : Int, 0 ≤ a → a + 81 * xs.length ≤ 100000 → ∃ l r, intsOf (xs.map fun v => match v with | .int i => V.int (Int.fmod i 81) | _ => .none) = some l ∧ sumI a l = some r ∧ a ≤ r ∧ r ≤ a + 81 * xs.length
  | [], _, a, h0, h1 => ⟨[], a, rfl, rfl, Int.le_refl _, by simp⟩
  | v :: r, hv, a, h0, h1 => by
    refine k11 (hv v (List.mem_cons_self ..)) fun i q2 => ?_; subst q2
    have b0 : 0 ≤ Int.fmod i 81 := Int.fmod_nonneg_of_pos i (by decide)
    have b1 : Int.fmod i 81 < 81 := Int.fmod_lt_of_pos i (by decide)
    have hl : ((V.int i :: r).length : Int) = (r.length : Int) + 1 := by simp
    rw [hl] at h1 ⊢
    refine k24 (sum_small r (fun w hw => hv w (List.mem_cons_of_mem _ hw)) (a + Int.fmod i 81) (by omega) (by omega)) fun l q e1 e2 e3 e4 => ?_
    refine ⟨Int.fmod i 81 :: l, q, ?_, ?_, by omega, by omega⟩
    · show (intsOf (List.map _ r)).map _ = _
      rw [e1]; rfl
    · show (if fit (Int.fmod i 81) && fit (a + Int.fmod i 81) then _ else _) = _
      rw [fit_of (by omega) (by omega), fit_of (by omega) (by omega)]
      exact e2
noncomputable def pickP (y s : Int) : Txt := ([[], [32], [9]] : List Txt).getD (Int.fmod (Int.fdiv y s) 3).toNat []
noncomputable def joinP (ps : List Txt) : Txt := tsT (PySem.Txt.join (stT []) (ps.map stT))
noncomputable def leadY (y : Int) : Txt := joinP ([1, 3, 9, 27].map (pickP y))
theorem join_L : ∀ a ∈ P3, ∀ b ∈ P3, ∀ c ∈ P3, ∀ d ∈ P3, joinP [a, b, c, d] ∈ L31 := by decide +kernel
theorem pick_P (y s : Int) : pickP y s ∈ P3 := by
  unfold pickP
  generalize (Int.fmod (Int.fdiv y s) 3).toNat = m
  match m with
  | 0 => exact .head _
  | 1 => exact .tail _ (.head _)
  | 2 => exact .tail _ (.tail _ (.head _))
  | m + 3 => exact .head _
theorem lead_L (y : Int) : leadY y ∈ L31 := join_L _ (pick_P ..) _ (pick_P ..) _ (pick_P ..) _ (pick_P ..)
end MI.L2
end TPW5
section TPW6
open PySem
set_option linter.unusedVariables false
set_option linter.unusedSimpArgs false
set_option maxRecDepth 100000
namespace MI.L2
noncomputable def leadsBody : List S := [(.names [45] (.bin .add (.var 44) (.call (.lit (.cst (.builtin "sum"))) [(.comp (.bin .mod (.var 41) (.lit (.int 81))) [(.mk (.name 41) (.plain (.slice (.var 42) (some (.var 3)) (some (.lit (.int 60))) (some (.lit (.int 4))))) [])] [41])]))),
    (.expr (.callM (.var 43) 17 [(.callM (.lit (.str [])) 46 [(.comp (.sub (.tup [(.lit (.str [])), (.lit (.str [32])), (.lit (.str [9]))]) (.bin .mod (.bin .fdiv (.var 45) (.var 47)) (.lit (.int 3)))) [(.mk (.name 47) (.plain (.tup [(.lit (.int 1)), (.lit (.int 3)), (.lit (.int 9)), (.lit (.int 27))])) [])] [47])] [])] []))]
theorem leads_body : F_law_leads = ⟨[42], [], [], .none, [.names [43] (.list []), .for_ (.tup [(.name 3), (.name 44)]) (.enum (.list [(.lit (.int 0)), (.lit (.int 2)), (.lit (.int 5)), (.lit (.int 7))])) leadsBody, .ret (some (.var 43))]⟩ := rfl
section
variable {cf : Cf} {σ : H} {vars : Vars}
theorem ev_pick {n : Nat} {y s : Int} (hs : 0 < s ∧ s ≤ 27) (hy : 0 ≤ y ∧ y ≤ 100000) (g45 : vars.get 45 = some (.int y)) (g47 : vars.get 47 = some (.int s)) :
    ev Γ cf (n + 6) (.sub (.tup [(.lit (.str [])), (.lit (.str [32])), (.lit (.str [9]))]) (.bin .mod (.bin .fdiv (.var 45) (.var 47)) (.lit (.int 3)))) vars σ = some (.str (pickP y s), σ) := by
  have hd : Int.fdiv y s = y / s := Int.fdiv_eq_ediv_of_nonneg _ (by omega)
  have h0 : 0 ≤ y / s := Int.ediv_nonneg hy.1 (by omega)
  have h1 : y / s ≤ y := Int.ediv_le_self _ hy.1
  have hm : Int.fmod (Int.fdiv y s) 3 = (y / s) % 3 := by rw [hd, Int.fmod_eq_emod_of_nonneg _ (by decide)]
  have i1 : mkI (Int.fdiv y s) = some (.int (Int.fdiv y s)) := mkI_ok (fit_of (by omega) (by omega))
  have i2 : mkI (Int.fmod (Int.fdiv y s) 3) = some (.int (Int.fmod (Int.fdiv y s) 3)) := mkI_ok (fit_of (by omega) (by omega))
  have c1 : (decide (0 < s) && decide (s < 1000000000)) = true := by simp; omega
  have key : getSub Γ (.tup [.str [], .str [32], .str [9]]) (.int (Int.fmod (Int.fdiv y s) 3)) σ = some (.str (pickP y s)) := by
    unfold pickP
    have : Int.fmod (Int.fdiv y s) 3 = 0 ∨ Int.fmod (Int.fdiv y s) 3 = 1 ∨ Int.fmod (Int.fdiv y s) 3 = 2 := by omega
    rcases this with h | h | h <;> rw [h] <;> rfl
  simp only [ev_sub, ev_tup, ev_lit, ev_var, ev_bin, evAll_cons, evAll_nil, bin_fdiv, bin_mod, g45, g47, Option.map_some, c1, if_true, i1, i2, show decide ((0 : Int) < 3) = true from rfl, show szOk [V.str [], V.str [32], V.str [9]].length = true from rfl, key]

theorem leads_step {m : Nat} {k b : Int} {ls : List V} {ns : List Int} (hk : 0 ≤ k ∧ k ≤ 3) (hb : 0 ≤ b ∧ b ≤ 7) (hl : ls.length ≤ 10) (h0 : σ[0]? = some (.list ls)) (g42 : vars.get 42 = some (.flist (ns.map .int))) (g43 : vars.get 43 = some (.ref 0)) (g3 : vars.get 3 = some (.int k)) (g44 : vars.get 44 = some (.int b)) :
    ∃ y τ, exs Γ cf 60 (m + 3) leadsBody vars σ = some (.next, vars.set 45 (.int y), (σ ++ τ).set 0 (.list (ls ++ [.str (leadY y)]))) ∧ τ.length = 3 := by
  let C := cutAt (ns.map V.int) (some k) (some 60) (some 4)
  let D : List V := C.map fun v => match v with | .int i => .int (Int.fmod i 81) | _ => .none
  have hC := cut_ints ns k
  have hCl := cut_len ns k hk.1
  refine k24 (sum_small C hC 0 (Int.le_refl _) (by show (0 : Int) + 81 * (C.length : Int) ≤ 100000; have : C.length ≤ 100 := hCl; omega)) fun l q e1 e2 e3 e4 => ?_
  have hC' : C.length ≤ 100 := hCl
  let y := b + q
  have hy : 0 ≤ y ∧ y ≤ 100000 := by show 0 ≤ b + q ∧ b + q ≤ 100000; omega
  have mC : mkL C σ = some (.ref σ.length, σ ++ [.list C]) := mkL_ok σ (by omega)
  have s1 : evIt (ev Γ cf 57) (.plain (.slice (.var 42) (some (.var 3)) (some (.lit (.int 60))) (some (.lit (.int 4))))) vars σ = some (.one (.ls σ.length 0), σ ++ [.list C]) := by
    have : getSlice (.flist (ns.map .int)) (.int k) (.int 60) (.int 4) σ = mkL C σ := rfl
    unfold evIt
    simp only [ev_slice, ev_var, ev_lit, evOpt_some, g42, g3, Option.map_some, this, mC, zcOf_ref (get_last σ _)]
  have mD : mkL D (σ ++ [.list C]) = some (.ref (σ.length + 1), σ ++ [.list C, .list D]) := by
    rw [mkL_ok _ (by show (C.map _).length ≤ _; rw [List.length_map]; omega)]
    simp
  have c1 : ev Γ cf 58 (.comp (.bin .mod (.var 41) (.lit (.int 81))) [(.mk (.name 41) (.plain (.slice (.var 42) (some (.var 3)) (some (.lit (.int 60))) (some (.lit (.int 4))))) [])] [41]) vars σ = some (.ref (σ.length + 1), σ ++ [.list C, .list D]) := by
    refine (comp_plain (P := fun _ => True) (bnd := fun v vars => vars.set 41 v) (p := fun _ => true) (g := fun v => match v with | .int i => .int (Int.fmod i 81) | _ => .none) s1 rfl (by show C.length < 1999; omega) (hands_ls (get_last σ (.list C))) (fun v hv σ vars => rfl) (fun _ _ _ _ => trivial) trivial (fun _ _ _ _ => rfl) (fun v hv vars _ _ => ?_)).trans ?_
    · refine k11 (hC v hv) fun i q1 => ?_; subst q1
      have b0 : 0 ≤ Int.fmod i 81 := Int.fmod_nonneg_of_pos i (by decide)
      have b1 : Int.fmod i 81 < 81 := Int.fmod_lt_of_pos i (by decide)
      simp only [ev_bin, ev_var, ev_lit, gs_self, Option.map_some, bin_mod, mkI_ok (fit_of (i := Int.fmod i 81) (by omega) (by omega)), show decide ((0 : Int) < 81) = true from rfl, if_true]
    · rw [filter_true _ (fun _ => rfl)]
      exact mD
  have sm : builtin (.builtin "sum") [.ref (σ.length + 1)] (σ ++ [.list C, .list D]) = some (.int q, σ ++ [.list C, .list D]) := by
    have hg : (σ ++ ([.list C, .list D] : H))[σ.length + 1]? = some (.list D) := by
      rw [List.getElem?_append_right (by omega)]
      simp
    show ((lstOf (σ ++ ([.list C, .list D] : H)) (.ref (σ.length + 1))).bind fun xs => bSum xs (σ ++ ([.list C, .list D] : H))) = _
    rw [lstOf_ref _ hg]
    show (intsOf D).bind _ = _
    rw [show intsOf D = some l from e1]
    show (sumI 0 l).map _ = _
    rw [e2]; rfl
  have iy : mkI (b + q) = some (.int y) := mkI_ok (fit_of (by omega) (by omega))
  let Q : List V := [.str (pickP y 1), .str (pickP y 3), .str (pickP y 9), .str (pickP y 27)]
  have mQ : mkL Q (σ ++ [.list C, .list D]) = some (.ref (σ.length + 2), σ ++ [.list C, .list D, .list Q]) := by
    rw [mkL_ok _ (by show 4 ≤ _; omega)]
    simp
  have c2 : ev Γ cf 58 (.comp (.sub (.tup [(.lit (.str [])), (.lit (.str [32])), (.lit (.str [9]))]) (.bin .mod (.bin .fdiv (.var 45) (.var 47)) (.lit (.int 3)))) [(.mk (.name 47) (.plain (.tup [(.lit (.int 1)), (.lit (.int 3)), (.lit (.int 9)), (.lit (.int 27))])) [])] [47]) (vars.set 45 (.int y)) (σ ++ [.list C, .list D]) = some (.ref (σ.length + 2), σ ++ [.list C, .list D, .list Q]) := by
    refine (comp_plain (it := fun k => .one (.vs (([.int 1, .int 3, .int 9, .int 27] : List V).drop k))) (xs := [.int 1, .int 3, .int 9, .int 27]) (P := fun vars => vars.get 45 = some (.int y)) (bnd := fun v vars => vars.set 47 v) (p := fun _ => true) (g := fun v => match v with | .int s => .str (pickP y s) | _ => .none) rfl rfl (by decide) (hands_vs _) (fun v hv σ vars => rfl) (fun v _ vars h => by rw [gs_ne rfl, h]) ?_ (fun _ _ _ _ => rfl) (fun v hv vars h _ => ?_)).trans ?_
    · exact gs_self 45 (.int y) vars
    · have : ∃ s, v = .int s ∧ 0 < s ∧ s ≤ 27 := by
        simp only [List.mem_cons, List.not_mem_nil, or_false] at hv
        rcases hv with h | h | h | h <;> exact ⟨_, h, by decide, by decide⟩
      refine k13 this fun s q2 h1 h2 => ?_; clear this; subst q2
      exact ev_pick (n := 51) ⟨h1, h2⟩ hy (by rw [gs_ne rfl, h]) (gs_self _ _ _)
    · rw [filter_true _ (fun _ => rfl)]
      exact mQ
  have mj : methOf Γ (.str []) 46 (σ ++ [.list C, .list D]) = some (.str [] [106, 111, 105, 110]) := rfl
  have mj2 : applyMeth Γ cf (.str [] [106, 111, 105, 110]) [.ref (σ.length + 2)] [] (σ ++ [.list C, .list D, .list Q]) = some (.str (leadY y), σ ++ [.list C, .list D, .list Q]) := by
    have hg : (σ ++ ([.list C, .list D, .list Q] : H))[σ.length + 2]? = some (.list Q) := by
      rw [List.getElem?_append_right (by omega)]
      simp
    show ((lstOf (σ ++ ([.list C, .list D, .list Q] : H)) (.ref (σ.length + 2))).bind fun xs => (strsOf xs).bind fun l => if joinOk [] l then some (V.str (tsT (PySem.Txt.join (stT []) (l.map stT))), σ ++ ([.list C, .list D, .list Q] : H)) else .none) = _
    rw [lstOf_ref _ hg]
    have hj : joinOk [] [pickP y 1, pickP y 3, pickP y 9, pickP y 27] = true := by
      have H : ∀ a ∈ P3, ∀ b ∈ P3, ∀ c ∈ P3, ∀ d ∈ P3, joinOk [] [a, b, c, d] = true := by decide +kernel
      exact H _ (pick_P ..) _ (pick_P ..) _ (pick_P ..) _ (pick_P ..)
    show (if joinOk [] [pickP y 1, pickP y 3, pickP y 9, pickP y 27] then _ else _) = _
    rw [hj, if_pos rfl]
    rfl
  have hlt : 0 < σ.length := by
    have h := lt_of_get h0
    exact h
  have h0' : (σ ++ ([.list C, .list D] : H))[0]? = some (.list ls) := get_app σ _ h0
  have h0'' : (σ ++ ([.list C, .list D, .list Q] : H))[0]? = some (.list ls) := get_app σ _ h0
  have ma : methOf Γ (.ref 0) 17 (σ ++ [.list C, .list D]) = some (.lst 0 T_append) := meth_append Γ _ h0' rfl
  refine ⟨y, [.list C, .list D, .list Q], ?_, rfl⟩
  have gg : (vars.set 45 (.int y)).get 43 = some (.ref 0) := by rw [gs_ne rfl, g43]
  simp only [leadsBody, exs_cons, exs_nil, ex_names, ex_expr, ev_bin, ev_var, ev_lit, ev_call, ev_callM, evAll_cons, evAll_nil, evKw_nil, g44, g43, gg, Option.map_some, c1, callV_builtin, sm, bin_add, iy, List.foldl, c2, mj, mj2, ma, apply_append Γ _ _ h0'' (show ls.length < 1000000 by omega)]
end
end MI.L2
end TPW6
section TPW7
open PySem
set_option linter.unusedVariables false
set_option linter.unusedSimpArgs false
set_option maxRecDepth 100000
namespace MI.L2
section
variable {cf : Cf}
structure LInv (ns : List Int) (ls : List V) (vars : Vars) (σ : H) : Prop where
  a : σ[0]? = some (.list ls)
  b : σ[1]? = some (.list [.int 0, .int 2, .int 5, .int 7])
  c : vars.get 42 = some (.flist (ns.map .int))
  d : vars.get 43 = some (.ref 0)
noncomputable def leadsTurn (cf : Cf) : V → Vars → H → Option (Fl × Vars × H) := fun v vars σ => match bindT (.tup [(.name 3), (.name 44)]) v σ vars with
          | some vars => exs Γ cf 60 57 leadsBody vars σ
          | .none => .none
theorem leads_turn {ns : List Int} {ls : List V} {vars : Vars} {σ : H} {k n : Nat} {b : Int} (I : LInv ns ls vars σ) (hk : k ≤ 3) (hb : ([.int 0, .int 2, .int 5, .int 7] : List V)[k]? = some (.int b)) (h7 : 0 ≤ b ∧ b ≤ 7) (hl : ls.length ≤ 10) :
    ∃ y vars' σ', loopF (fun σ it => it.next σ) (leadsTurn cf) (n + 1) (.enum 1 k) vars σ = loopF (fun σ it => it.next σ) (leadsTurn cf) n (.enum 1 (k + 1)) vars' σ' ∧ LInv ns (ls ++ [.str (leadY y)]) vars' σ' := by
  refine k22 (leads_step (cf := cf) (σ := σ) (vars := (vars.set 3 (.int (k : Int))).set 44 (.int b)) (m := 54) (k := (k : Int)) (b := b) (ls := ls) (ns := ns) (by omega) h7 hl I.a (by rw [gs_ne rfl, gs_ne rfl, I.c]) (by rw [gs_ne rfl, gs_ne rfl, I.d]) (by rw [gs_ne rfl, gs_self]) (gs_self _ _ _)) fun y τ e ht => ?_
  refine ⟨y, _, _, loopF_turn (v := .tup [.int (k : Int), .int b]) ?_ e, ?_, ?_, ?_, ?_⟩
  · show (match σ[1]? with
      | some (.list xs) => match xs[k]? with
        | some v => some (some (V.tup [.int (k : Int), v], Itr.enum 1 (k + 1)))
        | .none => some .none
      | _ => .none) = _
    rw [I.b]
    dsimp only
    rw [hb]
  · have h0 := get_app σ τ I.a
    have h := lt_of_get h0
    rw [List.getElem?_set_self h]
  · rw [List.getElem?_set_ne (by decide)]
    exact get_app σ τ I.b
  · rw [gs_ne rfl, gs_ne rfl, gs_ne rfl, I.c]
  · rw [gs_ne rfl, gs_ne rfl, gs_ne rfl, I.d]
theorem leads_run (ns : List Int) : ∃ y0 y1 y2 y3 τ, runBody Γ cf 60 60 F_law_leads [.flist (ns.map .int)] [] [] = some (.ref 0, .list [.str (leadY y0), .str (leadY y1), .str (leadY y2), .str (leadY y3)] :: τ) := by
  have I0 : LInv ns [] [(42, some (.flist (ns.map .int))), (43, some (.ref 0))] [.list [], .list [.int 0, .int 2, .int 5, .int 7]] := ⟨rfl, rfl, rfl, rfl⟩
  refine k32 (leads_turn (cf := cf) (n := 1999) (k := 0) (b := 0) I0 (by decide) rfl (by decide) (by decide)) fun y0 v1 σ1 e1 I1 => ?_
  refine k32 (leads_turn (cf := cf) (n := 1998) (k := 1) (b := 2) I1 (by decide) rfl (by decide) (by simp)) fun y1 v2 σ2 e2 I2 => ?_
  refine k32 (leads_turn (cf := cf) (n := 1997) (k := 2) (b := 5) I2 (by decide) rfl (by decide) (by simp)) fun y2 v3 σ3 e3 I3 => ?_
  refine k32 (leads_turn (cf := cf) (n := 1996) (k := 3) (b := 7) I3 (by decide) rfl (by decide) (by simp)) fun y3 v4 σ4 e4 I4 => ?_
  have e5 : loopF (fun σ it => it.next σ) (leadsTurn cf) 1996 (.enum 1 4) v4 σ4 = some (.next, v4, σ4) := loopF_end (k := 1995) (by
    show (match σ4[1]? with
      | some (.list xs) => match xs[4]? with
        | some v => some (some (V.tup [.int ((4 : Nat) : Int), v], Itr.enum 1 (4 + 1)))
        | .none => some .none
      | _ => .none) = _
    rw [I4.b]; rfl)
  have a4 := I4.a
  cases σ4 with
  | nil => cases a4
  | cons o τ =>
    have : o = .list [.str (leadY y0), .str (leadY y1), .str (leadY y2), .str (leadY y3)] := by simpa using a4
    subst this
    refine ⟨y0, y1, y2, y3, τ, ?_⟩
    have hfor : ex Γ cf 60 58 (.for_ (.tup [(.name 3), (.name 44)]) (.enum (.list [(.lit (.int 0)), (.lit (.int 2)), (.lit (.int 5)), (.lit (.int 7))])) leadsBody) [(42, some (.flist (ns.map .int))), (43, some (.ref 0))] [.list []] = some (.next, v4, .list [.str (leadY y0), .str (leadY y1), .str (leadY y2), .str (leadY y3)] :: τ) := by
      rw [ex_for]
      exact e1.trans (e2.trans (e3.trans (e4.trans e5)))
    unfold runBody
    have hb : bindFn Γ F_law_leads [.flist (ns.map .int)] [] = some [(42, some (.flist (ns.map .int)))] := rfl
    have ml : ev Γ cf 60 (.list []) [(42, some (.flist (ns.map .int)))] [] = some (.ref 0, [.list []]) := rfl
    rw [hb, leads_body]
    simp only [exs_cons, exs_nil, ex_names, ml, List.foldl, Vars.set, Nat.reduceBEq, Bool.false_eq_true, if_false, hfor, ex_ret, ev_var, I4.d, Option.map_some]
end
end MI.L2
end TPW7
section TPW8
open PySem
set_option linter.unusedVariables false
set_option linter.unusedSimpArgs false
set_option maxRecDepth 100000
namespace MI.L2
noncomputable def colsV (a : Txt) : List V := [.int (col a 1 0), .int (col a 2 0), .int (col a 3 0), .int (col a 4 0), .int (col a 5 0)]
noncomputable def colAt (a : Txt) (v : V) : V := match v with | .int t => .int (col a t 0) | _ => .none
noncomputable def lenV (v : V) : V := match v with | .str t => .int (t.length : Int) | _ => .none
noncomputable def splV (a : Txt) : List V := (splitT a []).map .str
/-- calls of _law_column are known -/
noncomputable def ColOk (cf : Cf) : Prop := ∀ a ∈ L31, ∀ t : Int, 1 ≤ t → t ≤ 5 → ∀ σ, cf 284 [.str a, .int t] [] σ = some (.int (col a t 0), σ)
noncomputable def T5 : List Int := (List.range 5).map fun (k : Nat) => (k : Int) + 1
theorem col_run (a : Txt) (h : a ∈ L31) (t : Int) (h1 : 1 ≤ t) (h2 : t ≤ 5) (σ : H) : callN Γ 60 60 19 284 [.str a, .int t] [] σ = some (.int (col a t 0), σ) := by
  have m : t ∈ T5 := List.mem_map.mpr ⟨(t - 1).toNat, List.mem_range.mpr (by omega), by omega⟩
  exact List.map_inj_left.mp ((tabA_eq _ T5).symm.trans (tabA_get (f := fun a => tabA (fun t => callN Γ 60 60 19 284 [.str a, .int t] [] σ) T5) (g := fun a => T5.map fun t => some (V.int (col a t 0), σ)) (by kernel_rfl) a h)) t m
theorem split_run (a : Txt) (h : a ∈ L31) (cf : Cf) (σ : H) : applyMeth Γ cf (.str a [115, 112, 108, 105, 116]) [.str [9]] [] σ = mkL (splV a) σ := tabA_get (f := fun a => applyMeth Γ cf (.str a [115, 112, 108, 105, 116]) [.str [9]] [] σ) (g := fun a => mkL (splV a) σ) (by kernel_rfl) a h
theorem split_max : ∀ a ∈ L31, ∃ x r, ((splitT a []).map fun t => (t.length : Int)) = x :: r ∧ maxI x r = (longN a : Int) := by
  intro a h
  have : ∀ a ∈ L31, (match ((splitT a []).map fun t => (t.length : Int)) with | x :: r => maxI x r == (longN a : Int) | [] => false) = true := by decide +kernel
  have := this a h
  split at this
  · rename_i x r e
    exact ⟨x, r, e, by simpa using this⟩
  · exact ft this
theorem split_len : ∀ a ∈ L31, (splitT a []).length ≤ 10 ∧ ∀ t ∈ splitT a [], t.length ≤ 10 := by decide +kernel
theorem intsOf_ints : ∀ l : List Int, intsOf (l.map V.int) = some l
  | [] => rfl
  | x :: r => by show (intsOf (r.map V.int)).map _ = _; rw [intsOf_ints r]; rfl
section
variable {cf : Cf} {σ : H} {vars : Vars} {n : Nat}
noncomputable def colsE : E := (.comp (.call (.lit (.cst (.ref 284))) [(.var 52), (.var 53)]) [(.mk (.name 53) (.plain (.call (.lit (.cst (.type "range"))) [(.lit (.int 1)), (.lit (.int 6))])) [])] [53])
theorem ev_cols (hc : ColOk cf) {a : Txt} (h : a ∈ L31) (g : vars.get 52 = some (.str a)) : ev Γ cf (n + 6) colsE vars σ = some (.ref σ.length, σ ++ [.list (colsV a)]) := by
  unfold colsE
  refine (comp_plain (it := fun k => .one (.vs (([.int 1, .int 2, .int 3, .int 4, .int 5] : List V).drop k))) (xs := [.int 1, .int 2, .int 3, .int 4, .int 5]) (σb := σ) (P := fun vars => vars.get 52 = some (.str a)) (bnd := fun v vars => vars.set 53 v) (p := fun _ => true) (g := colAt a) rfl rfl (by decide) (hands_vs _) (fun v hv σ vars => rfl) (fun v _ vars h => by rw [gs_ne rfl, h]) ?_ (fun _ _ _ _ => rfl) (fun v hv vars g _ => ?_)).trans ?_
  · exact g
  · have : ∃ t : Int, v = .int t ∧ 1 ≤ t ∧ t ≤ 5 := by
      simp only [List.mem_cons, List.not_mem_nil, or_false] at hv
      rcases hv with h | h | h | h | h <;> exact ⟨_, h, by decide, by decide⟩
    refine k13 this fun t q1 h1 h2 => ?_; clear this; subst q1
    have gg : (vars.set 53 (.int t)).get 52 = some (.str a) := by rw [gs_ne rfl, g]
    have hc' := hc a h t h1 h2 σ
    have cc : callV Γ cf (.cst (.ref 284)) [.str a, .int t] σ = cf 284 [.str a, .int t] [] σ := rfl
    simp only [ev_call, ev_lit, ev_var, evAll_cons, evAll_nil, gg, gs_self, Option.map_some, cc, hc', colAt]
  · rw [filter_true _ (fun _ => rfl)]
    exact mkL_ok σ (show 5 ≤ 1000000 by decide)
noncomputable def longE : E := (.call (.lit (.cst (.builtin "max"))) [(.comp (.call (.lit (.cst (.builtin "len"))) [(.var 61)]) [(.mk (.name 61) (.plain (.callM (.var 52) 64 [(.lit (.str [9]))] [])) [])] [61])])
theorem ev_long {a : Txt} (h : a ∈ L31) (g : vars.get 52 = some (.str a)) : ev Γ cf (n + 9) longE vars σ = some (.int (longN a : Int), σ ++ [.list (splV a), .list ((splV a).map lenV)]) := by
  have hl := split_len a h
  have ms : methOf Γ (.str a) 64 σ = some (.str a [115, 112, 108, 105, 116]) := rfl
  have m1 : mkL (splV a) σ = some (.ref σ.length, σ ++ [.list (splV a)]) := mkL_ok σ (by unfold splV; rw [List.length_map]; omega)
  have s1 : ∀ m, evIt (ev Γ cf (m + 2)) (.plain (.callM (.var 52) 64 [(.lit (.str [9]))] [])) vars σ = some (.one (.ls σ.length 0), σ ++ [.list (splV a)]) := fun m => by
    unfold evIt
    simp only [ev_callM, ev_lit, ev_var, evAll_cons, evAll_nil, evKw_nil, g, Option.map_some, ms, split_run a h, m1, zcOf_ref (get_last σ _)]
  have c1 : ev Γ cf (n + 8) (.comp (.call (.lit (.cst (.builtin "len"))) [(.var 61)]) [(.mk (.name 61) (.plain (.callM (.var 52) 64 [(.lit (.str [9]))] [])) [])] [61]) vars σ = some (.ref (σ.length + 1), σ ++ [.list (splV a), .list ((splV a).map lenV)]) := by
    refine (comp_plain (P := fun _ => True) (bnd := fun v vars => vars.set 61 v) (p := fun _ => true) (g := lenV) (s1 (n + 5)) rfl (by unfold splV; rw [List.length_map]; omega) (hands_ls (get_last σ _)) (fun v hv σ vars => rfl) (fun _ _ _ _ => trivial) trivial (fun _ _ _ _ => rfl) (fun v hv vars _ _ => ?_)).trans ?_
    · refine k12 (List.mem_map.mp hv) fun t ht q2 => ?_; subst q2
      have := hl.2 t ht
      simp only [ev_call, ev_lit, ev_var, evAll_cons, evAll_nil, gs_self, Option.map_some, callV_builtin, b_len_str, szOk_of (show t.length ≤ 1000000 by omega), if_true, lenV]
    · rw [filter_true _ (fun _ => rfl), mkL_ok _ (by unfold splV; rw [List.length_map, List.length_map]; omega)]
      simp
  have hg : (σ ++ ([.list (splV a), .list ((splV a).map lenV)] : H))[σ.length + 1]? = some (.list ((splV a).map lenV)) := by
    rw [List.getElem?_append_right (by omega)]
    simp
  refine k22 (split_max a h) fun x r e em => ?_
  have hi : intsOf ((splV a).map lenV) = some (x :: r) := by
    rw [← e, ← intsOf_ints]
    unfold splV
    rw [List.map_map, List.map_map]; rfl
  have bm : builtin (.builtin "max") [.ref (σ.length + 1)] (σ ++ [.list (splV a), .list ((splV a).map lenV)]) = some (.int (longN a : Int), σ ++ [.list (splV a), .list ((splV a).map lenV)]) := by
    show ((lstOf (σ ++ ([.list (splV a), .list ((splV a).map lenV)] : H)) (.ref (σ.length + 1))).bind fun xs => bMax xs (σ ++ ([.list (splV a), .list ((splV a).map lenV)] : H))) = _
    rw [lstOf_ref _ hg]
    show ((intsOf ((splV a).map lenV)).bind fun l => match l with
      | [] => .none
      | x :: r => some (V.int (maxI x r), σ ++ ([.list (splV a), .list ((splV a).map lenV)] : H))) = _
    rw [hi]
    show some (V.int (maxI x r), _) = _
    rw [em]
  simp only [longE, ev_call, ev_lit, evAll_cons, evAll_nil, c1, callV_builtin, bm]
end
end MI.L2
end TPW8
section TPW9
open PySem
set_option linter.unusedVariables false
set_option linter.unusedSimpArgs false
set_option maxRecDepth 100000
namespace MI.L2
theorem zip_pairs {a b : Txt} : ∀ k : Nat, k ≤ 4 → zip3 1 (k + 1) (colsV a) (colsV b) = ((List.range (k + 1)).map fun (k : Nat) => (((k : Int) + 1, col a ((k : Int) + 1) 0, col b ((k : Int) + 1) 0) : Int × Int × Int)).map row3
  | 0, _ => rfl
  | 1, _ => rfl
  | 2, _ => rfl
  | 3, _ => rfl
  | 4, _ => rfl
  | k + 5, h => by omega
section
variable {cf : Cf} {σ : H} {vars : Vars} {n : Nat}
noncomputable def zipE : E := (.listZip [(.call (.lit (.cst (.type "range"))) [(.lit (.int 1)), (.bin .add (.call (.lit (.cst (.builtin "max"))) [(.sub (.var 57) (.var 34)), (.sub (.var 57) (.var 60))]) (.lit (.int 2)))]), (.sub (.var 56) (.var 34)), (.sub (.var 56) (.var 60))])
theorem ev_listZip (Γ : G) (es : List E) : ev Γ cf (n + 1) (.listZip es) vars σ = (match evAll (ev Γ cf n) es vars σ with
      | some (vs, σ) => listZip vs σ
      | .none => .none) := rfl
theorem lz_run {a b : Txt} {M ca cb : Nat} (hM : M ≤ 4) (x1 : σ[ca]? = some (.list (colsV a))) (x2 : σ[cb]? = some (.list (colsV b))) : listZip [.rng 1 ((M : Int) + 2), .ref ca, .ref cb] σ = some (.ref σ.length, σ ++ [.list (((List.range (M + 1)).map fun (k : Nat) => (((k : Int) + 1, col a ((k : Int) + 1) 0, col b ((k : Int) + 1) 0) : Int × Int × Int)).map row3)]) := by
  have f2 : fit ((M : Int) + 2) = true := fit_of (by omega) (by omega)
  have f0 : fit (1 : Int) = true := fit_of (by omega) (by omega)
  have e1 : ((M : Int) + 2 - 1).toNat = M + 1 := by omega
  have la : (colsV a).length = 5 := rfl
  have lb : (colsV b).length = 5 := rfl
  have t1 : Nat.ble (M + 1) 5 = true := Nat.ble_eq_true_of_le (by omega)
  have t2 : decide ((M : Int) + 2 - 1 < 1000) = true := decide_eq_true (by omega)
  show listZip3 (.rng 1 ((M : Int) + 2)) (.ref ca) (.ref cb) σ = _
  unfold listZip3
  dsimp only
  rw [lstOf_ref _ x1, Option.bind_some, lstOf_ref _ x2, Option.bind_some]
  rw [e1, la, lb, t1, t2, f0, f2, zip_pairs M hM]
  simp only [Bool.and_self, if_true]
  exact mkL_ok _ (by rw [List.length_map, List.length_map, List.length_range]; omega)
theorem max_if {x y : Nat} : (if decide ((x : Int) < (y : Int)) = true then (y : Int) else (x : Int)) = ((Nat.max x y : Nat) : Int) := by
  by_cases h : x < y
  · have h' : (x : Int) < (y : Int) := by omega
    rw [decide_eq_true h', if_pos rfl, show Nat.max x y = y from Nat.max_eq_right (by omega)]
  · have h' : ¬ (x : Int) < (y : Int) := by omega
    rw [decide_eq_false h', if_neg (by simp), show Nat.max x y = x from Nat.max_eq_left (by omega)]
theorem z_call {a b : E} {va vb : V} (e1 : ev Γ cf (n + 5) a vars σ = some (va, σ)) (e2 : ev Γ cf (n + 5) b vars σ = some (vb, σ)) : ev Γ cf (n + 6) (.call (.lit (.cst (.builtin "max"))) [a, b]) vars σ = callV Γ cf (.cst (.builtin "max")) [va, vb] σ := by
  rw [ev_call, ev_lit]
  dsimp only
  rw [evAll_cons, e1]
  dsimp only
  rw [evAll_cons, e2]
  dsimp only
  rw [evAll_nil]
theorem z_maxV {va vb : V} : callV Γ cf (.cst (.builtin "max")) [va, vb] σ = builtin (.builtin "max") [va, vb] σ := callV_builtin _ _ _ _ _
theorem z_max {la lb : Int} (e1 : ev Γ cf (n + 5) (.sub (.var 57) (.var 34)) vars σ = some (.int la, σ)) (e2 : ev Γ cf (n + 5) (.sub (.var 57) (.var 60)) vars σ = some (.int lb, σ)) : ev Γ cf (n + 6) (.call (.lit (.cst (.builtin "max"))) [(.sub (.var 57) (.var 34)), (.sub (.var 57) (.var 60))]) vars σ = some (.int (if decide (la < lb) then lb else la), σ) := by
  rw [z_call e1 e2, z_maxV, b_max2]
theorem z_sub {la : Int} {i : Int} {q : Nat} (g57 : vars.get 57 = some (.ref q)) (g34 : vars.get 34 = some (.int i)) (q1 : getSub Γ (.ref q) (.int i) σ = some (.int la)) : ev Γ cf (n + 5) (.sub (.var 57) (.var 34)) vars σ = some (.int la, σ) := by
  simp only [ev_var, ev_sub, g57, g34, Option.map_some, q1]
theorem z_rng {M : Nat} (hM : M ≤ 4) : callV Γ cf (.cst (.type "range")) [.int 1, .int ((M : Int) + 2)] σ = some (.rng 1 ((M : Int) + 2), σ) := by
  have f1 : (fit 1 && fit ((M : Int) + 2)) = true := by rw [fit_of (by omega) (by omega), fit_of (by omega) (by omega)]; rfl
  rw [callV_type, b_range2, f1, if_pos rfl]
theorem z_sub2 {la : Int} {i : Int} {q : Nat} (g57 : vars.get 57 = some (.ref q)) (g34 : vars.get 60 = some (.int i)) (q1 : getSub Γ (.ref q) (.int i) σ = some (.int la)) : ev Γ cf (n + 5) (.sub (.var 57) (.var 60)) vars σ = some (.int la, σ) := by
  simp only [ev_var, ev_sub, g57, g34, Option.map_some, q1]
theorem z_call2 {a b : E} {va vb : V} (e1 : ev Γ cf (n + 7) a vars σ = some (va, σ)) (e2 : ev Γ cf (n + 7) b vars σ = some (vb, σ)) : ev Γ cf (n + 8) (.call (.lit (.cst (.type "range"))) [a, b]) vars σ = callV Γ cf (.cst (.type "range")) [va, vb] σ := by
  rw [ev_call, ev_lit]
  dsimp only
  rw [evAll_cons, e1]
  dsimp only
  rw [evAll_cons, e2]
  dsimp only
  rw [evAll_nil]
theorem z_add2 {a : E} {i : Int} (hi : 0 ≤ i ∧ i ≤ 4) (e1 : ev Γ cf (n + 6) a vars σ = some (.int i, σ)) : ev Γ cf (n + 7) (.bin .add a (.lit (.int 2))) vars σ = some (.int (i + 2), σ) := by
  rw [ev_bin, e1]
  dsimp only
  rw [ev_lit]
  dsimp only
  rw [bin_add, mkI_ok (fit_of (by omega) (by omega))]; rfl
theorem ev_zip {a b : Txt} {i j : Int} {p q ca cb : Nat} (ha : a ∈ L31) (hb : b ∈ L31) (g57 : vars.get 57 = some (.ref q)) (g56 : vars.get 56 = some (.ref p)) (g34 : vars.get 34 = some (.int i)) (g60 : vars.get 60 = some (.int j))
    (q1 : getSub Γ (.ref q) (.int i) σ = some (.int (longN a : Int))) (q2 : getSub Γ (.ref q) (.int j) σ = some (.int (longN b : Int))) (p1 : getSub Γ (.ref p) (.int i) σ = some (.ref ca)) (p2 : getSub Γ (.ref p) (.int j) σ = some (.ref cb)) (x1 : σ[ca]? = some (.list (colsV a))) (x2 : σ[cb]? = some (.list (colsV b))) :
    ev Γ cf (n + 9) zipE vars σ = some (.ref σ.length, σ ++ [.list ((pairsL a b).map row3)]) := by
  have hM : Nat.max (longN a) (longN b) ≤ 4 := Nat.max_le.mpr ⟨long_L a ha, long_L b hb⟩
  have hm := @max_if (longN a) (longN b)
  unfold pairsL
  generalize Nat.max (longN a) (longN b) = M at hm hM
  generalize longN a = la at q1 hm
  generalize longN b = lb at q2 hm
  have i1 : mkI ((M : Int) + 2) = some (.int ((M : Int) + 2)) := mkI_ok (fit_of (by omega) (by omega))
  have f1 : (fit 1 && fit ((M : Int) + 2)) = true := by rw [fit_of (by omega) (by omega), fit_of (by omega) (by omega)]; rfl
  have lz := lz_run hM x1 x2
  have m1 : ev Γ cf (n + 6) (.call (.lit (.cst (.builtin "max"))) [(.sub (.var 57) (.var 34)), (.sub (.var 57) (.var 60))]) vars σ = some (.int (M : Int), σ) := (z_max (z_sub g57 g34 q1) (z_sub2 g57 g60 q2)).trans (by rw [hm])
  have r1 : ev Γ cf (n + 8) (.call (.lit (.cst (.type "range"))) [(.lit (.int 1)), (.bin .add (.call (.lit (.cst (.builtin "max"))) [(.sub (.var 57) (.var 34)), (.sub (.var 57) (.var 60))]) (.lit (.int 2)))]) vars σ = some (.rng 1 ((M : Int) + 2), σ) := (z_call2 (va := .int 1) (vb := .int ((M : Int) + 2)) rfl (z_add2 (i := (M : Int)) (by omega) m1)).trans (z_rng hM)
  have r2 : ev Γ cf (n + 8) (.sub (.var 56) (.var 34)) vars σ = some (.ref ca, σ) := by
    simp only [ev_var, ev_sub, g56, g34, Option.map_some, p1]
  have r3 : ev Γ cf (n + 8) (.sub (.var 56) (.var 60)) vars σ = some (.ref cb, σ) := by
    simp only [ev_var, ev_sub, g56, g60, Option.map_some, p2]
  rw [zipE, ev_listZip, evAll_cons, r1]
  dsimp only
  rw [evAll_cons, r2]
  dsimp only
  rw [evAll_cons, r3]
  dsimp only
  rw [evAll_nil]
  exact lz
noncomputable def rowP (v : V) : Bool := match v with | .tup [_, .int x, .int y] => decide (y ≤ x) | _ => false
noncomputable def rowsE : E := (.comp (.var 62) [(.mk (.name 62) (.plain (.var 63)) [(.cmp .ge (.sub (.var 62) (.lit (.int 1))) (.sub (.var 62) (.lit (.int 2))))])] [62])
theorem rows_row {a b : Txt} (ha : a ∈ L31) (hb : b ∈ L31) : (((pairsL a b).map row3).filter rowP) = (rowsL a b).map row3 := by
  rw [(less_L a ha b hb).2.1, List.filter_map]
  rfl
theorem ev_rows {k : Nat} {ps : List (Int × Int × Int)} (g63 : vars.get 63 = some (.ref k)) (hk : σ[k]? = some (.list (ps.map row3))) (hl : ps.length ≤ 100) : ev Γ cf (n + 6) rowsE vars σ = some (.ref σ.length, σ ++ [.list ((ps.map row3).filter rowP)]) := by
  unfold rowsE
  refine (comp_plain (it := fun j => .one (.ls k j)) (xs := ps.map row3) (σb := σ) (P := fun _ => True) (bnd := fun v vars => vars.set 62 v) (p := rowP) (g := fun v => v) ?_ rfl (by rw [List.length_map]; omega) (hands_ls hk) (fun v hv σ vars => rfl) (fun _ _ _ _ => trivial) trivial (fun v hv vars _ => ?_) (fun v hv vars _ _ => ?_)).trans ?_
  · unfold evIt
    have : Vars.get 63 (List.map (fun x => (x, none)) [62] ++ vars) = some (.ref k) := g63
    have z : zcOf (.ref k) σ = some (.ls k 0) := zcOf_ref hk
    simp only [ev_var, g63, Option.map_some, z]
  · obtain ⟨⟨x, y, z⟩, _, rfl⟩ := List.mem_map.mp hv
    have s1 : getSub Γ (row3 (x, y, z)) (.int 1) σ = some (.int y) := rfl
    have s2 : getSub Γ (row3 (x, y, z)) (.int 2) σ = some (.int z) := rfl
    show (match evB (ev Γ cf (n + 5)) (.cmp .ge (.sub (.var 62) (.lit (.int 1))) (.sub (.var 62) (.lit (.int 2)))) (vars.set 62 (row3 (x, y, z))) σ with
      | some (qb, σ) => match qb with
        | true => evIfs (ev Γ cf (n + 5)) [] (vars.set 62 (row3 (x, y, z))) σ
        | false => some (false, σ)
      | .none => .none) = _
    simp only [evB_cmp, ev_cmp, ev_sub, ev_var, ev_lit, gs_self, Option.map_some, s1, s2, cmp_ge, truthy_bool]
    show _ = some (decide (z ≤ y), σ)
    cases decide (z ≤ y) <;> rfl
  · simp only [ev_var, gs_self, Option.map_some]
  · rw [List.map_id', mkL_ok _ (by have := List.length_filter_le rowP (ps.map row3); rw [List.length_map] at this; omega)]
end
end MI.L2
end TPW9
section TPW10
open PySem
set_option linter.unusedVariables false
set_option linter.unusedSimpArgs false
set_option maxRecDepth 100000
namespace MI.L2
noncomputable def refsFrom : Nat → Nat → List V
  | _, 0 => []
  | n, k + 1 => .ref n :: refsFrom (n + 1) k
theorem refs_len : ∀ (k n : Nat), (refsFrom n k).length = k
  | 0, _ => rfl
  | k + 1, n => by simp [refsFrom, refs_len k]
theorem refs_mem {v : V} : ∀ {k n : Nat}, v ∈ refsFrom n k → ∃ m, m < k ∧ v = .ref (n + m)
  | 0, n, h => by cases h
  | k + 1, n, h => by
    rcases List.mem_cons.mp h with rfl | h
    · exact ⟨0, by omega, rfl⟩
    · refine k12 (refs_mem h) fun m hm e => ?_
      exact ⟨m + 1, by omega, by rw [e]; congr 1; omega⟩
theorem refs_map {d : V → O} {F : O → O} : ∀ (zs : List O) (n : Nat), (∀ m o, zs[m]? = some o → d (.ref (n + m)) = F o) → (refsFrom n zs.length).map d = zs.map F
  | [], n, h => rfl
  | z :: r, n, h => by
    show d (.ref n) :: (refsFrom (n + 1) r.length).map d = F z :: r.map F
    rw [show d (V.ref n) = F z from h 0 z rfl, refs_map r (n + 1) (fun m o e => by rw [show n + 1 + m = n + (m + 1) by omega]; exact h (m + 1) o e)]
theorem cFold_one (N : Nat) (d : V → O) : ∀ (xs : List V) (acc : List V) (τ : List O), cFold (fun _ => true) (fun _ τ => .ref (N + τ.length)) (fun _ _ => []) (fun v _ => [d v]) xs acc τ = (acc ++ refsFrom (N + τ.length) xs.length, τ ++ xs.map d)
  | [], acc, τ => by simp [cFold, refsFrom]
  | v :: r, acc, τ => by
    unfold cFold
    rw [if_pos rfl, cFold_one N d r]
    simp [refsFrom, Nat.add_assoc]
noncomputable def zipsOf (L : Int → Txt) (i : Int) (js : List Int) : List O := js.map fun j => .list ((pairsL (L i) (L j)).map row3)
noncomputable def rowsOf (L : Int → Txt) (i : Int) (js : List Int) : List O := js.map fun j => .list ((rowsL (L i) (L j)).map row3)
noncomputable def pairsE : E := (.comp zipE [(.mk (.name 60) (.plain (.call (.lit (.cst (.type "range"))) [(.bin .add (.var 34) (.lit (.int 1))), (.call (.lit (.cst (.builtin "len"))) [(.var 43)])])) [])] [60])
noncomputable def rows2E : E := (.comp rowsE [(.mk (.name 63) (.plain (.var 59)) [])] [63])
section
variable {cf : Cf} {σ : H} {vars : Vars} {n : Nat} {L : Int → Txt} {i : Int} {js : List Int}
/-- what the loop of _law_late finds -/
structure LateInv (L : Int → Txt) (σ : H) : Prop where
  hL : ∀ j, L j ∈ L31
  lon : ∀ (j : Int), 0 ≤ j → j ≤ 3 → ∀ τ, getSub Γ (.ref 14) (.int j) (σ ++ τ) = some (.int (longN (L j) : Int))
  col : ∀ (j : Int), 0 ≤ j → j ≤ 3 → ∃ c, (∀ τ, getSub Γ (.ref 5) (.int j) (σ ++ τ) = some (.ref c)) ∧ σ[c]? = some (.list (colsV (L j)))
theorem ev_pairs (I : LateInv L σ) (h0 : 0 ≤ i ∧ i ≤ 3) (hj : ∀ j ∈ js, 0 ≤ j ∧ j ≤ 3) (hjs : rngItems (i + 1) 4 = js.map V.int) (hjl : js.length ≤ 10) {ls : List V} (l0 : σ[0]? = some (.list ls)) (ll : ls.length = 4)
    (g43 : vars.get 43 = some (.ref 0)) (g57 : vars.get 57 = some (.ref 14)) (g56 : vars.get 56 = some (.ref 5)) (g34 : vars.get 34 = some (.int i)) :
    ev Γ cf (n + 10) pairsE vars σ = some (.ref (σ.length + js.length), σ ++ (zipsOf L i js ++ [.list (refsFrom σ.length js.length)])) := by
  have r1 : ev Γ cf (n + 9) (.call (.lit (.cst (.type "range"))) [(.bin .add (.var 34) (.lit (.int 1))), (.call (.lit (.cst (.builtin "len"))) [(.var 43)])]) vars σ = some (.rng (i + 1) 4, σ) := by
    have i1 : mkI (i + 1) = some (.int (i + 1)) := mkI_ok (fit_of (by omega) (by omega))
    have f1 : (fit (i + 1) && fit 4) = true := by rw [fit_of (by omega) (by omega)]; rfl
    have bl : builtin (.builtin "len") [.ref 0] σ = some (.int 4, σ) := by rw [b_len_ref _ l0, ll]; rfl
    have e1 : ev Γ cf (n + 8) (.bin .add (.var 34) (.lit (.int 1))) vars σ = some (.int (i + 1), σ) := by
      simp only [ev_bin, ev_var, ev_lit, g34, Option.map_some, bin_add, i1]
    have e2 : ev Γ cf (n + 8) (.call (.lit (.cst (.builtin "len"))) [(.var 43)]) vars σ = some (.int 4, σ) := by
      simp only [ev_call, ev_var, ev_lit, g43, Option.map_some, evAll_cons, evAll_nil, callV_builtin, bl]
    rw [z_call2 (n := n + 1) e1 e2, callV_type, b_range2, f1, if_pos rfl]
  have s1 : evIt (ev Γ cf (n + 9)) (.plain (.call (.lit (.cst (.type "range"))) [(.bin .add (.var 34) (.lit (.int 1))), (.call (.lit (.cst (.builtin "len"))) [(.var 43)])])) vars σ = some (.one (.vs ((js.map V.int).drop 0)), σ) := by
    have hz : zcOf (.rng (i + 1) 4) σ = some (.vs (rngItems (i + 1) 4)) := by
      show (if decide (4 - (i + 1) < 1000) && fit (i + 1) && fit 4 then some (Zc.vs (rngItems (i + 1) 4)) else .none) = _
      rw [fit_of (i := i + 1) (by omega) (by omega), decide_eq_true (show 4 - (i + 1) < 1000 by omega)]; rfl
    unfold evIt
    dsimp only
    rw [r1]
    dsimp only
    rw [hz, hjs]; rfl
  unfold pairsE
  refine (comp_ev (it := fun k => .one (.vs ((js.map V.int).drop k))) (xs := js.map V.int) (σb := σ) (P := fun vars => vars.get 57 = some (.ref 14) ∧ vars.get 56 = some (.ref 5) ∧ vars.get 34 = some (.int i)) (bnd := fun v vars => vars.set 60 v) (p := fun _ => true) (g := fun _ τ => .ref (σ.length + τ.length)) (δi := fun _ _ => []) (δ := fun v _ => [match v with | .int j => .list ((pairsL (L i) (L j)).map row3) | _ => .list []]) s1 rfl (by rw [List.length_map]; omega) (hands_vs _) (fun v hv σ vars => rfl) (fun v _ vars h => ⟨by rw [gs_ne rfl, h.1], by rw [gs_ne rfl, h.2.1], by rw [gs_ne rfl, h.2.2]⟩) ?_ (fun _ _ _ _ _ => by rw [List.append_nil]; rfl) (fun v hv vars τ h _ => ?_)).trans ?_
  · exact ⟨g57, g56, g34⟩
  · refine k12 (List.mem_map.mp hv) fun j hjm q1 => ?_; subst q1
    have hj' := hj j hjm
    refine k12 (I.col i h0.1 h0.2) fun c c1 c2 => ?_
    refine k12 (I.col j hj'.1 hj'.2) fun c' c1' c2' => ?_
    rw [List.append_nil, ev_zip (I.hL i) (I.hL j) (by rw [gs_ne rfl, h.1]) (by rw [gs_ne rfl, h.2.1]) (by rw [gs_ne rfl, h.2.2]) (gs_self _ _ _) (I.lon i h0.1 h0.2 τ) (I.lon j hj'.1 hj'.2 τ) (c1 τ) (c1' τ) (get_app σ τ c2) (get_app σ τ c2')]
    rw [List.length_append, List.append_assoc]
  · rw [cFold_one, mkL_ok _ (by rw [List.nil_append, refs_len, List.length_map]; omega)]
    simp [zipsOf, List.map_map, Function.comp_def]
end
end MI.L2
end TPW10
section TPW11
open PySem
set_option linter.unusedVariables false
set_option linter.unusedSimpArgs false
set_option maxRecDepth 100000
namespace MI.L2
/-- the rows that are told, of whatever list a reference names -/
noncomputable def rowD (σ : H) (v : V) : O := match v with | .ref r => (match σ[r]? with | some (.list ps) => .list (ps.filter rowP) | _ => .list []) | _ => .list []
section
variable {cf : Cf} {σ : H} {vars : Vars} {n : Nat} {L : Int → Txt} {i : Int} {js : List Int}
theorem pairs_small {a b : Txt} (ha : a ∈ L31) (hb : b ∈ L31) : (pairsL a b).length ≤ 100 := by
  have h1 := long_L a ha
  have h2 := long_L b hb
  unfold pairsL
  rw [List.length_map, List.length_range]
  have : Nat.max (longN a) (longN b) ≤ 4 := Nat.max_le.mpr ⟨h1, h2⟩
  omega
theorem ev_rows2 (hL : ∀ j, L j ∈ L31) {σ₀ : H} (hσ : σ = σ₀ ++ (zipsOf L i js ++ [O.list (refsFrom σ₀.length js.length)])) (hjl : js.length ≤ 10) (g59 : vars.get 59 = some (.ref (σ₀.length + js.length))) :
    ev Γ cf (n + 8) rows2E vars σ = some (.ref (σ.length + js.length), σ ++ (rowsOf L i js ++ [O.list (refsFrom σ.length js.length)])) := by
  have hzl : (zipsOf L i js).length = js.length := by simp [zipsOf]
  have hp : σ[σ₀.length + js.length]? = some (.list (refsFrom σ₀.length js.length)) := by
    rw [hσ, List.getElem?_append_right (by omega), List.getElem?_append_right (by omega)]
    simp [hzl]
  have hz : ∀ m o, (zipsOf L i js)[m]? = some o → σ[σ₀.length + m]? = some o := fun m o e => by
    rw [hσ, List.getElem?_append_right (by omega), show σ₀.length + m - σ₀.length = m by omega]
    exact get_app _ _ e
  have hzf : ∀ m o, (zipsOf L i js)[m]? = some o → ∃ j, o = O.list ((pairsL (L i) (L j)).map row3) := fun m o e => by
    unfold zipsOf at e
    rw [List.getElem?_map] at e
    refine k12 (Option.map_eq_some_iff.mp e) fun j _ q1 => ?_; subst q1
    exact ⟨j, rfl⟩
  have s1 : evIt (ev Γ cf (n + 7)) (.plain (.var 59)) vars σ = some (.one (.ls (σ₀.length + js.length) 0), σ) := by
    have z : zcOf (.ref (σ₀.length + js.length)) σ = some (.ls (σ₀.length + js.length) 0) := zcOf_ref hp
    unfold evIt
    simp only [ev_var, g59, Option.map_some, z]
  unfold rows2E
  refine (comp_ev (it := fun k => .one (.ls (σ₀.length + js.length) k)) (xs := refsFrom σ₀.length js.length) (σb := σ) (P := fun _ => True) (bnd := fun v vars => vars.set 63 v) (p := fun _ => true) (g := fun _ τ => .ref (σ.length + τ.length)) (δi := fun _ _ => []) (δ := fun v _ => [rowD σ v]) s1 rfl (by rw [refs_len]; omega) (hands_ls hp) (fun v hv σ vars => rfl) (fun v _ vars h => trivial) trivial (fun _ _ _ _ _ => by rw [List.append_nil]; rfl) (fun v hv vars τ h _ => ?_)).trans ?_
  · refine k12 (refs_mem hv) fun m hm q2 => ?_; subst q2
    have hlt : m < (zipsOf L i js).length := by omega
    have e := List.getElem?_eq_getElem hlt
    refine k11 (hzf m _ e) fun j ej => ?_
    have hs := hz m _ e
    rw [ej] at hs
    have hd : rowD σ (.ref (σ₀.length + m)) = .list (((pairsL (L i) (L j)).map row3).filter rowP) := by
      unfold rowD
      dsimp only
      rw [hs]
    rw [List.append_nil, ev_rows (n := n + 1) (gs_self _ _ _) (get_app σ τ hs) (pairs_small (hL i) (hL j)), hd]
    rw [List.length_append, List.append_assoc]
  · have hmap : (refsFrom σ₀.length js.length).map (rowD σ) = rowsOf L i js := by
      rw [← hzl, refs_map (F := fun o => match o with | .list ps => .list (ps.filter rowP) | _ => .list []) _ _ (fun m o e => by
        refine k11 (hzf m o e) fun j q3 => ?_; subst q3
        unfold rowD
        dsimp only
        rw [hz m _ e])]
      unfold zipsOf rowsOf
      rw [List.map_map]
      refine List.map_congr_left fun j _ => ?_
      show O.list (((pairsL (L i) (L j)).map row3).filter rowP) = _
      rw [rows_row (hL i) (hL j)]
    rw [cFold_one, hmap, mkL_ok _ (by rw [List.nil_append, refs_len, refs_len]; omega)]
    simp [rowsOf, refs_len]
noncomputable def lateBody : List S := [.names [59] pairsE, .expr (.callM (.var 58) 17 [rows2E] [])]
/-- what one turn of _law_late leaves -/
noncomputable def lateNext (L : Int → Txt) (i : Int) (js : List Int) (k : Nat) (ls : List V) (σ : H) : H :=
  let σ₁ := σ ++ (zipsOf L i js ++ [O.list (refsFrom σ.length js.length)])
  (σ₁ ++ (rowsOf L i js ++ [O.list (refsFrom σ₁.length js.length)])).set k (O.list (ls ++ [V.ref (σ₁.length + js.length)]))
theorem late_step {m k : Nat} (I : LateInv L σ) (h0 : 0 ≤ i ∧ i ≤ 3) (hj : ∀ j ∈ js, 0 ≤ j ∧ j ≤ 3) (hjs : rngItems (i + 1) 4 = js.map V.int) (hjl : js.length ≤ 10) {ls ks : List V} (l0 : σ[0]? = some (.list ls)) (ll : ls.length = 4) (lk : σ[k]? = some (.list ks)) (lkl : ks.length ≤ 10)
    (g43 : vars.get 43 = some (.ref 0)) (g57 : vars.get 57 = some (.ref 14)) (g56 : vars.get 56 = some (.ref 5)) (g58 : vars.get 58 = some (.ref k)) (g34 : vars.get 34 = some (.int i)) :
    exs Γ cf 60 (m + 3) lateBody vars σ = some (.next, vars.set 59 (.ref (σ.length + js.length)), lateNext L i js k ks σ) := by
  have e1 : ev Γ cf 60 pairsE vars σ = _ := ev_pairs (n := 50) I h0 hj hjs hjl l0 ll g43 g57 g56 g34
  have e2 : ev Γ cf 59 rows2E (vars.set 59 (.ref (σ.length + js.length))) (σ ++ (zipsOf L i js ++ [O.list (refsFrom σ.length js.length)])) = _ := ev_rows2 (n := 51) (σ₀ := σ) I.hL rfl hjl (gs_self _ _ _)
  have l1 : (σ ++ (zipsOf L i js ++ [O.list (refsFrom σ.length js.length)]))[k]? = some (.list ks) := get_app σ _ lk
  have l2 := get_app (σ ++ (zipsOf L i js ++ [O.list (refsFrom σ.length js.length)])) (rowsOf L i js ++ [O.list (refsFrom (σ ++ (zipsOf L i js ++ [O.list (refsFrom σ.length js.length)])).length js.length)]) l1
  have ma : methOf Γ (.ref k) 17 (σ ++ (zipsOf L i js ++ [O.list (refsFrom σ.length js.length)])) = some (.lst k T_append) := meth_append Γ _ l1 rfl
  have gg : (vars.set 59 (.ref (σ.length + js.length))).get 58 = some (.ref k) := by rw [gs_ne rfl, g58]
  rw [lateBody, exs_cons, ex_names, e1]
  dsimp only [List.foldl]
  rw [exs_cons, ex_expr, ev_callM, ev_var, gg]
  dsimp only [Option.map_some]
  rw [ma]
  dsimp only
  rw [evAll_cons, e2]
  dsimp only
  rw [evAll_nil]
  dsimp only
  rw [evKw_nil]
  dsimp only
  rw [apply_append Γ _ _ l2 (by omega)]
  dsimp only
  rw [exs_nil]
  rfl
end
end MI.L2
end TPW11
section TPW12
open PySem
set_option linter.unusedVariables false
set_option linter.unusedSimpArgs false
set_option maxRecDepth 100000
namespace MI.L2
noncomputable def quad (a b c d : Txt) (j : Int) : Txt := if j = 0 then a else if j = 1 then b else if j = 2 then c else d
section
variable {cf : Cf} {a b c d : Txt}
structure LateG (a b c d : Txt) (σ : H) : Prop where
  l0 : σ[0]? = some (.list [.str a, .str b, .str c, .str d])
  l1 : σ[1]? = some (.list (colsV a))
  l2 : σ[2]? = some (.list (colsV b))
  l3 : σ[3]? = some (.list (colsV c))
  l4 : σ[4]? = some (.list (colsV d))
  l5 : σ[5]? = some (.list [.ref 1, .ref 2, .ref 3, .ref 4])
  l14 : σ[14]? = some (.list [.int (longN a : Int), .int (longN b : Int), .int (longN c : Int), .int (longN d : Int)])
theorem four {j : Int} (h1 : 0 ≤ j) (h2 : j ≤ 3) : j = 0 ∨ j = 1 ∨ j = 2 ∨ j = 3 := by omega
theorem sub_list {σ : H} {k : Nat} {xs : List V} (j : Int) {v : V} (h : σ[k]? = some (.list xs)) (e : ((idx xs.length j).bind fun j => xs[j]?) = some v) : getSub Γ (.ref k) (.int j) σ = some v := by
  show (match σ[k]? with
    | some (.list xs) => (idx xs.length j).bind fun j => xs[j]?
    | _ => .none) = _
  rw [h]
  exact e
theorem LateG.inv {σ : H} (G : LateG a b c d σ) (ha : a ∈ L31) (hb : b ∈ L31) (hc : c ∈ L31) (hd : d ∈ L31) : LateInv (quad a b c d) σ where
  hL := fun j => by unfold quad; split; exact ha; split; exact hb; split; exact hc; exact hd
  lon := fun j h1 h2 τ => by
    have h := get_app σ τ G.l14
    rcases four h1 h2 with rfl | rfl | rfl | rfl <;> exact sub_list _ h rfl
  col := fun j h1 h2 => by
    rcases four h1 h2 with rfl | rfl | rfl | rfl
    · exact ⟨1, fun τ => sub_list _ (get_app σ τ G.l5) rfl, G.l1⟩
    · exact ⟨2, fun τ => sub_list _ (get_app σ τ G.l5) rfl, G.l2⟩
    · exact ⟨3, fun τ => sub_list _ (get_app σ τ G.l5) rfl, G.l3⟩
    · exact ⟨4, fun τ => sub_list _ (get_app σ τ G.l5) rfl, G.l4⟩
theorem next_ne {L : Int → Txt} {i : Int} {js : List Int} {ks : List V} {σ : H} {k : Nat} {o : O} (h : σ[k]? = some o) (hk : k ≠ 15) : (lateNext L i js 15 ks σ)[k]? = some o := by
  unfold lateNext
  dsimp only
  rw [List.getElem?_set_ne (Ne.symm hk)]
  exact get_app _ _ (get_app _ _ h)
theorem next_15 {L : Int → Txt} {i : Int} {js : List Int} {ks : List V} {σ : H} {o : O} (h : σ[15]? = some o) : (lateNext L i js 15 ks σ)[15]? = some (.list (ks ++ [.ref (σ.length + js.length + 1 + js.length)])) := by
  unfold lateNext
  dsimp only
  have h' := get_app (σ ++ (zipsOf L i js ++ [O.list (refsFrom σ.length js.length)])) (rowsOf L i js ++ [O.list (refsFrom (σ ++ (zipsOf L i js ++ [O.list (refsFrom σ.length js.length)])).length js.length)]) (get_app σ (zipsOf L i js ++ [O.list (refsFrom σ.length js.length)]) h)
  have hl := lt_of_get h'
  rw [List.getElem?_set_self hl]
  simp [zipsOf, Nat.add_assoc]
theorem next_len {L : Int → Txt} {i : Int} {js : List Int} {ks : List V} {σ : H} : (lateNext L i js 15 ks σ).length = σ.length + js.length + js.length + 2 := by
  unfold lateNext
  simp [zipsOf, rowsOf]
  omega
theorem LateG.next {σ : H} (G : LateG a b c d σ) (L : Int → Txt) (i : Int) (js : List Int) (ks : List V) : LateG a b c d (lateNext L i js 15 ks σ) :=
  ⟨next_ne G.l0 (by decide), next_ne G.l1 (by decide), next_ne G.l2 (by decide), next_ne G.l3 (by decide), next_ne G.l4 (by decide), next_ne G.l5 (by decide), next_ne G.l14 (by decide)⟩
noncomputable def h15 (a b c d : Txt) : H := [.list [.str a, .str b, .str c, .str d], .list (colsV a), .list (colsV b), .list (colsV c), .list (colsV d), .list [.ref 1, .ref 2, .ref 3, .ref 4],
  .list (splV a), .list ((splV a).map lenV), .list (splV b), .list ((splV b).map lenV), .list (splV c), .list ((splV c).map lenV), .list (splV d), .list ((splV d).map lenV), .list [.int (longN a : Int), .int (longN b : Int), .int (longN c : Int), .int (longN d : Int)], .list []]
noncomputable def lateH (a b c d : Txt) : H := lateNext (quad a b c d) 3 [] 15 [.ref 23, .ref 29, .ref 33] (lateNext (quad a b c d) 2 [3] 15 [.ref 23, .ref 29] (lateNext (quad a b c d) 1 [2, 3] 15 [.ref 23] (lateNext (quad a b c d) 0 [1, 2, 3] 15 [] (h15 a b c d))))
structure LateV (vars : Vars) : Prop where
  g43 : vars.get 43 = some (.ref 0)
  g57 : vars.get 57 = some (.ref 14)
  g56 : vars.get 56 = some (.ref 5)
  g58 : vars.get 58 = some (.ref 15)
theorem LateV.set {vars : Vars} (h : LateV vars) (v w : V) : LateV ((vars.set 34 v).set 59 w) :=
  ⟨by rw [gs_ne rfl, gs_ne rfl, h.g43], by rw [gs_ne rfl, gs_ne rfl, h.g57], by rw [gs_ne rfl, gs_ne rfl, h.g56], by rw [gs_ne rfl, gs_ne rfl, h.g58]⟩
theorem late_turn {σ : H} {vars : Vars} {ks : List V} {js : List Int} {i : Int} {r : List V} (ha : a ∈ L31) (hb : b ∈ L31) (hc : c ∈ L31) (hd : d ∈ L31) (G : LateG a b c d σ) (W : LateV vars) (h0 : 0 ≤ i ∧ i ≤ 3) (hj : ∀ j ∈ js, 0 ≤ j ∧ j ≤ 3) (hjs : rngItems (i + 1) 4 = js.map V.int) (hjl : js.length ≤ 10) (lk : σ[15]? = some (.list ks)) (lkl : ks.length ≤ 10) :
    ∃ vars', LateV vars' ∧ runL (fun v vars σ => exs Γ cf 60 55 lateBody (vars.set 34 v) σ) (.int i :: r) vars σ = runL (fun v vars σ => exs Γ cf 60 55 lateBody (vars.set 34 v) σ) r vars' (lateNext (quad a b c d) i js 15 ks σ) := by
  refine ⟨_, W.set (.int i) (.ref (σ.length + js.length)), ?_⟩
  rw [runL_cons, late_step (m := 52) (G.inv ha hb hc hd) h0 hj hjs hjl G.l0 rfl lk lkl (by rw [gs_ne rfl, W.g43]) (by rw [gs_ne rfl, W.g57]) (by rw [gs_ne rfl, W.g56]) (by rw [gs_ne rfl, W.g58]) (gs_self _ _ _)]
theorem late_loop {vars : Vars} (ha : a ∈ L31) (hb : b ∈ L31) (hc : c ∈ L31) (hd : d ∈ L31) (W : LateV vars) : ∃ vars', LateV vars' ∧ runL (fun v vars σ => exs Γ cf 60 55 lateBody (vars.set 34 v) σ) [.int 0, .int 1, .int 2, .int 3] vars (h15 a b c d) = some (.next, vars', lateH a b c d) := by
  have G0 : LateG a b c d (h15 a b c d) := ⟨rfl, rfl, rfl, rfl, rfl, rfl, rfl⟩
  have k0 : (h15 a b c d)[15]? = some (.list []) := rfl
  have n0 : (h15 a b c d).length = 16 := rfl
  refine k12 (late_turn (cf := cf) (i := 0) (js := [1, 2, 3]) (r := [.int 1, .int 2, .int 3]) ha hb hc hd G0 W (by decide) (by decide) rfl (by decide) k0 (by decide)) fun v1 W1 e1 => ?_
  have G1 := G0.next (quad a b c d) 0 [1, 2, 3] []
  have k1 := next_15 (L := quad a b c d) (i := 0) (js := [1, 2, 3]) (ks := []) k0
  have n1 := next_len (L := quad a b c d) (i := 0) (js := [1, 2, 3]) (ks := []) (σ := h15 a b c d)
  rw [n0] at n1 k1
  refine k12 (late_turn (cf := cf) (i := 1) (js := [2, 3]) (r := [.int 2, .int 3]) (ks := [.ref 23]) ha hb hc hd G1 W1 (by decide) (by decide) rfl (by decide) k1 (by decide)) fun v2 W2 e2 => ?_
  have G2 := G1.next (quad a b c d) 1 [2, 3] [.ref 23]
  have k2 := next_15 (L := quad a b c d) (i := 1) (js := [2, 3]) (ks := [.ref 23]) k1
  have n2 := next_len (L := quad a b c d) (i := 1) (js := [2, 3]) (ks := [.ref 23]) (σ := lateNext (quad a b c d) 0 [1, 2, 3] 15 [] (h15 a b c d))
  rw [n1] at n2 k2
  refine k12 (late_turn (cf := cf) (i := 2) (js := [3]) (r := [.int 3]) (ks := [.ref 23, .ref 29]) ha hb hc hd G2 W2 (by decide) (by decide) rfl (by decide) k2 (by decide)) fun v3 W3 e3 => ?_
  have G3 := G2.next (quad a b c d) 2 [3] [.ref 23, .ref 29]
  have k3 := next_15 (L := quad a b c d) (i := 2) (js := [3]) (ks := [.ref 23, .ref 29]) k2
  rw [n2] at k3
  refine k12 (late_turn (cf := cf) (i := 3) (js := []) (r := []) (ks := [.ref 23, .ref 29, .ref 33]) ha hb hc hd G3 W3 (by decide) (by decide) rfl (by decide) k3 (by decide)) fun v4 W4 e4 => ?_
  exact ⟨v4, W4, e1.trans (e2.trans (e3.trans (e4.trans rfl)))⟩
end
end MI.L2
end TPW12
section TPW13
open PySem
set_option linter.unusedVariables false
set_option linter.unusedSimpArgs false
set_option maxRecDepth 100000
namespace MI.L2
noncomputable def colsVV (v : V) : V × O := (.none, match v with | .str a => .list (colsV a) | _ => .list [])
section
variable {cf : Cf} {a b c d : Txt}
noncomputable def leadsO (a b c d : Txt) : O := .list [.str a, .str b, .str c, .str d]
noncomputable def s1E : E := (.comp colsE [(.mk (.name 52) (.plain (.var 43)) [])] [52])
noncomputable def s2E : E := (.comp longE [(.mk (.name 52) (.plain (.var 43)) [])] [52])
noncomputable def rngE : E := (.call (.lit (.cst (.type "range"))) [(.call (.lit (.cst (.builtin "len"))) [(.var 43)])])
theorem late_body : F_law_late = ⟨[43], [], [], .none, [.names [56] s1E, .names [57] s2E, .names [58] (.list []), .for_ (.name 34) (.plain rngE) lateBody, .ret (some (.var 58))]⟩ := rfl
theorem mem4 {v : V} (ha : a ∈ L31) (hb : b ∈ L31) (hc : c ∈ L31) (hd : d ∈ L31) (h : v ∈ ([.str a, .str b, .str c, .str d] : List V)) : ∃ x, v = .str x ∧ x ∈ L31 := by
  simp only [List.mem_cons, List.not_mem_nil, or_false] at h
  rcases h with rfl | rfl | rfl | rfl <;> exact ⟨_, rfl, by assumption⟩
theorem it43 {σ : H} {vars : Vars} {n : Nat} (g : vars.get 43 = some (.ref 0)) (h : σ[0]? = some (leadsO a b c d)) : evIt (ev Γ cf (n + 1)) (.plain (.var 43)) vars σ = some (.one (.ls 0 0), σ) := by
  have z : zcOf (.ref 0) σ = some (.ls 0 0) := zcOf_ref h
  unfold evIt
  simp only [ev_var, g, Option.map_some, z]
theorem late_s1 (hC : ColOk cf) (ha : a ∈ L31) (hb : b ∈ L31) (hc : c ∈ L31) (hd : d ∈ L31) : ev Γ cf 60 s1E [(43, some (.ref 0))] [leadsO a b c d] = some (.ref 5, [leadsO a b c d, .list (colsV a), .list (colsV b), .list (colsV c), .list (colsV d), .list [.ref 1, .ref 2, .ref 3, .ref 4]]) := by
  unfold s1E
  refine (comp_ev (n := 59) (it := fun k => .one (.ls 0 k)) (xs := [.str a, .str b, .str c, .str d]) (σb := [leadsO a b c d]) (P := fun _ => True) (bnd := fun v vars => vars.set 52 v) (p := fun _ => true) (g := fun _ τ => .ref (1 + τ.length)) (δi := fun _ _ => []) (δ := fun v _ => [match v with | .str a => .list (colsV a) | _ => .list []]) (it43 rfl rfl) rfl (show 4 < 1999 by decide) (hands_ls rfl) (fun v hv σ vars => rfl) (fun v _ vars h => trivial) trivial (fun _ _ _ _ _ => by rw [List.append_nil]; rfl) (fun v hv vars τ h _ => ?_)).trans rfl
  refine k12 (mem4 ha hb hc hd hv) fun x q1 hx => ?_; subst q1
  rw [List.append_nil, ev_cols (n := 53) hC hx (gs_self _ _ _)]
  rw [List.length_append, List.append_assoc]; rfl
theorem late_s2 {σ : H} (ha : a ∈ L31) (hb : b ∈ L31) (hc : c ∈ L31) (hd : d ∈ L31) (h : σ[0]? = some (leadsO a b c d)) (hl : σ.length = 6) {vars : Vars} (g : vars.get 43 = some (.ref 0)) : ev Γ cf 60 s2E vars σ = some (.ref 14, σ ++ [.list (splV a), .list ((splV a).map lenV), .list (splV b), .list ((splV b).map lenV), .list (splV c), .list ((splV c).map lenV), .list (splV d), .list ((splV d).map lenV), .list [.int (longN a : Int), .int (longN b : Int), .int (longN c : Int), .int (longN d : Int)]]) := by
  unfold s2E
  refine (comp_ev (n := 59) (it := fun k => .one (.ls 0 k)) (xs := [.str a, .str b, .str c, .str d]) (σb := σ) (P := fun _ => True) (bnd := fun v vars => vars.set 52 v) (p := fun _ => true) (g := fun v _ => match v with | .str a => .int (longN a : Int) | _ => .none) (δi := fun _ _ => []) (δ := fun v _ => match v with | .str a => [.list (splV a), .list ((splV a).map lenV)] | _ => []) (it43 g h) rfl (show 4 < 1999 by decide) (hands_ls h) (fun v hv σ vars => rfl) (fun v _ vars h => trivial) trivial (fun _ _ _ _ _ => by rw [List.append_nil]; rfl) (fun v hv vars τ h _ => ?_)).trans ?_
  · refine k12 (mem4 ha hb hc hd hv) fun x q2 hx => ?_; subst q2
    rw [List.append_nil, ev_long (n := 50) hx (gs_self _ _ _)]
    rw [List.append_assoc]
  · show mkL [.int (longN a : Int), .int (longN b : Int), .int (longN c : Int), .int (longN d : Int)] (σ ++ [.list (splV a), .list ((splV a).map lenV), .list (splV b), .list ((splV b).map lenV), .list (splV c), .list ((splV c).map lenV), .list (splV d), .list ((splV d).map lenV)]) = _
    rw [mkL_ok _ (by show 4 ≤ 1000000; decide), List.append_assoc, List.length_append, hl]; rfl
theorem late_run (hC : ColOk cf) (ha : a ∈ L31) (hb : b ∈ L31) (hc : c ∈ L31) (hd : d ∈ L31) : runBody Γ cf 60 60 F_law_late [.ref 0] [] [leadsO a b c d] = some (.ref 15, lateH a b c d) := by
  have hbn : bindFn Γ F_law_late [.ref 0] [] = some [(43, some (.ref 0))] := rfl
  have e1 := late_s1 (cf := cf) hC ha hb hc hd
  have e2 := late_s2 (cf := cf) (vars := [(43, some (.ref 0)), (56, some (.ref 5))]) (σ := [leadsO a b c d, .list (colsV a), .list (colsV b), .list (colsV c), .list (colsV d), .list [.ref 1, .ref 2, .ref 3, .ref 4]]) ha hb hc hd rfl rfl rfl
  have W : LateV [(43, some (.ref 0)), (56, some (.ref 5)), (57, some (.ref 14)), (58, some (.ref 15))] := ⟨rfl, rfl, rfl, rfl⟩
  refine k12 (late_loop (cf := cf) ha hb hc hd W) fun vars' W' e => ?_
  have r1 : ev Γ cf 60 rngE [(43, some (.ref 0)), (56, some (.ref 5)), (57, some (.ref 14)), (58, some (.ref 15))] (h15 a b c d) = some (.rng 0 4, h15 a b c d) := by
    kernel_rfl
  have hfor : ex Γ cf 60 56 _ _ _ = _ := ex_for_rng Γ cf 60 55 34 rngE lateBody r1 (by decide) rfl rfl
  rw [show rngItems 0 4 = [.int 0, .int 1, .int 2, .int 3] from rfl, e] at hfor
  have e3 : ex Γ cf 60 57 (.names [58] (.list [])) [(43, some (.ref 0)), (56, some (.ref 5)), (57, some (.ref 14))] ([leadsO a b c d, .list (colsV a), .list (colsV b), .list (colsV c), .list (colsV d), .list [.ref 1, .ref 2, .ref 3, .ref 4]] ++ [.list (splV a), .list ((splV a).map lenV), .list (splV b), .list ((splV b).map lenV), .list (splV c), .list ((splV c).map lenV), .list (splV d), .list ((splV d).map lenV), .list [.int (longN a : Int), .int (longN b : Int), .int (longN c : Int), .int (longN d : Int)]]) = some (.next, [(43, some (.ref 0)), (56, some (.ref 5)), (57, some (.ref 14)), (58, some (.ref 15))], h15 a b c d) := by kernel_rfl
  unfold runBody
  rw [hbn, late_body]
  dsimp only
  rw [exs_cons, ex_names, e1]
  simp only [List.foldl, Vars.set, Nat.reduceBEq, Bool.false_eq_true, if_false]
  rw [exs_cons, ex_names, show ev Γ cf 60 s2E _ _ = _ from e2]
  simp only [List.foldl, Vars.set, Nat.reduceBEq, Bool.false_eq_true, if_false]
  rw [exs_cons, show ex Γ cf 60 57 (.names [58] (.list [])) _ _ = _ from e3]
  dsimp only
  rw [exs_cons, hfor]
  dsimp only
  rw [exs_cons, ex_ret, ev_var, W'.g58]
  rfl
end
end MI.L2
end TPW13
section TPW14
open PySem
set_option linter.unusedVariables false
set_option linter.unusedSimpArgs false
set_option maxRecDepth 100000
namespace MI.L2
theorem ren_all (ρ : Nat → Option Nat) {α : Type} (f : α → V) (h : ∀ x, V.ren ρ (f x) = some (f x)) (xs : List α) : renL ρ (xs.map f) = some (xs.map f) := by
  induction xs with
  | nil => rfl
  | cons x r ih =>
    show (V.ren ρ (f x)).bind (fun v' => (renL ρ (r.map f)).map (v' :: ·)) = _
    rw [h x, ih]; rfl
theorem ren_ints (ρ : Nat → Option Nat) (xs : List Int) : renL ρ (xs.map V.int) = some (xs.map V.int) := ren_all ρ V.int (fun _ => rfl) xs
theorem ren_rows (ρ : Nat → Option Nat) (xs : List (Int × Int × Int)) : renL ρ (xs.map row3) = some (xs.map row3) := ren_all ρ row3 (fun _ => rfl) xs
theorem ren_rowsO (ρ : Nat → Option Nat) (xs : List (Int × Int × Int)) : O.ren ρ (.list (xs.map row3)) = some (.list (xs.map row3)) := by
  show (renL ρ (xs.map row3)).map O.list = _
  rw [ren_rows]; rfl
theorem renF_nil (ρ : Nat → Option Nat) : renF ρ [] = some [] := rfl
theorem renF_cons (ρ : Nat → Option Nat) (p : Nat × V) (r : List (Nat × V)) : renF ρ (p :: r) = (V.ren ρ p.2).bind fun v' => (renF ρ r).map ((p.1, v') :: ·) := rfl
theorem ren_wO (ρ : Nat → Option Nat) (l : Txt) : O.ren ρ (wO l) = some (wO l) := by
  have h : V.ren ρ (.tup [.tup ((wC l).map .int), .int (wB l)]) = some (.tup [.tup ((wC l).map .int), .int (wB l)]) := by
    show (((renL ρ ((wC l).map V.int)).map V.tup).bind fun v' => (some [V.int (wB l)]).map (v' :: ·)).map V.tup = _
    rw [ren_ints]; rfl
  show (renF ρ (wsFs (wRaw l) (wN l) (wT l) (wC l) (wB l))).map (O.inst 237) = _
  unfold wsFs
  rw [renF_cons, renF_cons, renF_cons, renF_cons, renF_cons, renF_nil, h]
  rfl
/-- two lists, place by place -/
inductive ZipR {α β : Type} (R : α → β → Prop) : List α → List β → Prop
  | nil : ZipR R [] []
  | cons {a b l l'} : R a b → ZipR R l l' → ZipR R (a :: l) (b :: l')
theorem ZipR.get {α β : Type} {R : α → β → Prop} {l : List α} {l' : List β} (h : ZipR R l l') {m : Nat} {a : α} (e : l[m]? = some a) : ∃ b, l'[m]? = some b ∧ R a b := by
  induction h generalizing m with
  | nil => exact ns e
  | cons h _ ih => cases m with
    | zero => exact ⟨_, rfl, Option.some.inj e ▸ h⟩
    | succ m => exact ih e
section
variable {σ : H} {a b c d : Txt}
theorem told_init {i : Nat} {l : Txt} (hl : l ∈ L31) (h : σ[i]? = some (.inst 237 [])) : Told (callN Γ 60 60 20) 192 [.ref i, .str (wRaw l)] σ .none (σ.set i (wO l)) := by
  refine k11 (w_run l hl) fun τ e => ?_
  have hi := lt_of_get h
  refine ⟨_, _, [.ref 0, .str (wRaw l)], .none, [i], [], e, ⟨by simp, by simpa using hi, rfl, ?_, .nil, fun _ h => (by cases h), by simp, ?_, ?_, fun m i h => (by simp at h)⟩, rfl, rfl⟩
  · intro k o₀ e
    cases k with
    | zero => (refine si e fun q1 => ?_; subst q1; clear e); exact ⟨i, _, rfl, rfl, h⟩
    | succ k => simp at e
  · intro k j o₀ e1 e2
    cases k with
    | zero => (refine si e1 fun q3 => ?_; subst q3; clear e1); cases e2; exact ⟨_, ren_wO _ l, by rw [List.getElem?_set_self hi]⟩
    | succ k => simp at e1
  · intro j hj hn
    rw [List.getElem?_set_ne (by intro e; exact hn (by simp [e]))]
theorem framed_same {σ σ₀ : H} {ι : List Nat} (nd : ι.Nodup) (len : ι.length = σ₀.length) (h : ∀ (k : Nat) o₀, σ₀[k]? = some o₀ → ∃ j : Nat, ι[k]? = some j ∧ σ[j]? = some o₀) (hr : ∀ o ∈ σ₀, ∀ ρ, O.ren ρ o = some o) : Framed σ σ σ₀ σ₀ ι [] := by
  have ho : ∀ {k : Nat} {o₀}, σ₀[k]? = some o₀ → o₀ ∈ σ₀ := fun e => List.mem_of_getElem? e
  refine ⟨nd, fun j hj => ?_, len, fun k o₀ e => (h k o₀ e).elim fun j q => ⟨j, o₀, q.1, hr o₀ (ho e) _, q.2⟩, .nil, fun _ h => (nomatch h), rfl, fun k j o₀ e1 e2 => ?_, fun _ _ _ => rfl, fun m i e => (nomatch e)⟩
  · refine k11 (List.getElem?_of_mem hj) fun k hk => ?_
    have hl : k < σ₀.length := len ▸ (List.getElem?_eq_some_iff.mp hk).1
    refine k12 (h k _ (List.getElem?_eq_getElem hl)) fun j' e1 e2 => ?_
    cases hk.symm.trans e1
    exact (List.getElem?_eq_some_iff.mp e2).1
  · refine k12 (h k o₀ e2) fun j' q1 q2 => ?_
    cases e1.symm.trans q1
    exact ⟨o₀, hr o₀ (ho e2) _, q2⟩
theorem framed_w {i : Nat} {l : Txt} (h : σ[i]? = some (wO l)) : Framed σ σ [wO l] [wO l] [i] [] :=
  framed_same (List.nodup_cons.mpr ⟨List.not_mem_nil, .nil⟩) rfl (fun k o₀ e => by
    cases k with
    | zero => cases e; exact ⟨i, rfl, h⟩
    | succ k => exact ns e) fun o ho ρ => List.mem_singleton.mp ho ▸ ren_wO ρ l
theorem told_lrs {i : Nat} {l : Txt} (hl : l ∈ L31) (h : σ[i]? = some (wO l)) : Told (callN Γ 60 60 20) 199 [.ref i] σ (.int (lrP (wC l) (wB l))) σ :=
  ⟨⟨_, _, [.ref 0], _, [i], [], lrs_run l hl, framed_w h, rfl, rfl⟩⟩
theorem told_il {i : Nat} {l : Txt} {t : Int} (hl : l ∈ L31) (h : σ[i]? = some (wO l)) (ht : 0 < t ∧ t ≤ 11) : Told (callN Γ 60 60 20) 206 [.ref i, .int t] σ (.int (ilP (wT l) (wC l) (wB l) t)) σ :=
  ⟨⟨_, _, [.ref 0, .int t], _, [i], [], il_run l hl t (in_T11 ht), framed_w h, rfl, rfl⟩⟩
theorem told_less {i j : Nat} {l m : Txt} (hl : l ∈ L31) (hm : m ∈ L31) (hn : i ≠ j) (h : σ[i]? = some (wO l)) (h' : σ[j]? = some (wO m)) : Told (callN Γ 60 60 20) 227 [.ref i, .ref j] σ (.bool (lessL l m)) σ := by
  refine ⟨⟨_, _, [.ref 0, .ref 1], _, [i, j], [], less_run l hl m hm, framed_same (by simp [hn]) rfl (fun k o₀ e => ?_) (fun o ho ρ => ?_), rfl, rfl⟩⟩
  · match k, e with
    | 0, e => cases e; exact ⟨i, rfl, h⟩
    | 1, e => cases e; exact ⟨j, rfl, h'⟩
    | k + 2, e => exact ns e
  · rcases List.mem_cons.mp ho with rfl | ho
    · exact ren_wO ρ l
    · exact List.mem_singleton.mp ho ▸ ren_wO ρ m
theorem told_leads {ns : List Int} (y0 y1 y2 y3 : Int) {τ : H} (e : callN Γ 60 60 20 270 [.flist (ns.map .int)] [] [] = some (.ref 0, leadsO (leadY y0) (leadY y1) (leadY y2) (leadY y3) :: τ)) : Told (callN Γ 60 60 20) 270 [.flist (ns.map .int)] σ (.ref σ.length) (σ ++ [leadsO (leadY y0) (leadY y1) (leadY y2) (leadY y3)]) := by
  refine ⟨_, _, [.flist (ns.map .int)], .ref 0, [], [0], e, ⟨.nil, fun _ h => (by cases h), rfl, fun k o₀ e => (by simp at e), by simp, fun _ _ => Nat.zero_le _, by simp, fun k j o₀ e => (by simp at e), fun j hj _ => by rw [List.getElem?_append_left hj], ?_⟩, ?_, rfl⟩
  · intro m i e
    cases m with
    | zero => (refine si e fun q5 => ?_; subst q5; clear e); exact ⟨_, _, rfl, rfl, get_last σ _⟩
    | succ m => simp at e
  · show ((renL _ (ns.map V.int)).map V.flist).bind (fun v' => (some []).map (v' :: ·)) = _
    rw [ren_ints]; rfl
noncomputable def lateO (a b c d : Txt) (N : Nat) : List O := [.list [.ref (N + 1), .ref (N + 2), .ref (N + 3), .ref (N + 4)], .list [.ref (N + 5), .ref (N + 6), .ref (N + 7)], .list [.ref (N + 8), .ref (N + 9)], .list [.ref (N + 10)], .list [],
  .list ((rowsL a b).map row3), .list ((rowsL a c).map row3), .list ((rowsL a d).map row3), .list ((rowsL b c).map row3), .list ((rowsL b d).map row3), .list ((rowsL c d).map row3)]
noncomputable def lateK : List Nat := [15, 23, 29, 33, 35, 20, 21, 22, 27, 28, 32]
theorem late_15 : (lateH a b c d)[15]? = some (.list [.ref 23, .ref 29, .ref 33, .ref 35]) := by kernel_rfl
theorem late_23 : (lateH a b c d)[23]? = some (.list [.ref 20, .ref 21, .ref 22]) := by kernel_rfl
theorem late_29 : (lateH a b c d)[29]? = some (.list [.ref 27, .ref 28]) := by kernel_rfl
theorem late_33 : (lateH a b c d)[33]? = some (.list [.ref 32]) := by kernel_rfl
theorem late_35 : (lateH a b c d)[35]? = some (.list []) := by kernel_rfl
theorem late_20 : (lateH a b c d)[20]? = some (.list ((rowsL a b).map row3)) := by kernel_rfl
theorem late_21 : (lateH a b c d)[21]? = some (.list ((rowsL a c).map row3)) := by kernel_rfl
theorem late_22 : (lateH a b c d)[22]? = some (.list ((rowsL a d).map row3)) := by kernel_rfl
theorem late_27 : (lateH a b c d)[27]? = some (.list ((rowsL b c).map row3)) := by kernel_rfl
theorem late_28 : (lateH a b c d)[28]? = some (.list ((rowsL b d).map row3)) := by kernel_rfl
theorem late_32 : (lateH a b c d)[32]? = some (.list ((rowsL c d).map row3)) := by kernel_rfl
theorem late_0 : (lateH a b c d)[0]? = some (leadsO a b c d) := by kernel_rfl
theorem told_late {i : Nat} (ha : a ∈ L31) (hb : b ∈ L31) (hc : c ∈ L31) (hd : d ∈ L31) (h : σ[i]? = some (leadsO a b c d)) : Told (callN Γ 60 60 20) 289 [.ref i] σ (.ref σ.length) (σ ++ lateO a b c d σ.length) := by
  have e : callN Γ 60 60 20 289 [.ref 0] [] [leadsO a b c d] = some (.ref 15, lateH a b c d) := by
    rw [callN_run (F := F_law_late) rfl]
    exact late_run (fun a ha t h1 h2 σ => col_run a ha t h1 h2 σ) ha hb hc hd
  have hi := lt_of_get h
  refine ⟨_, _, [.ref 0], .ref 15, [i], lateK, e, ⟨by simp, by simpa using hi, rfl, ?_, by decide, (by decide : ∀ i ∈ lateK, 1 ≤ i), by simp [lateO, lateK], ?_, fun j hj _ => by rw [List.getElem?_append_left hj], ?_⟩, rfl, rfl⟩
  · intro k o₀ e
    cases k with
    | zero => (refine si e fun q7 => ?_; subst q7; clear e); exact ⟨i, _, rfl, rfl, h⟩
    | succ k => simp at e
  · intro k j o₀ e1 e2
    cases k with
    | zero =>
      (refine si e1 fun q9 => ?_; subst q9; clear e1)
      have : o₀ = leadsO a b c d := by
        rw [late_0] at e2; (refine si e2 fun q11 => ?_; subst q11; clear e2); rfl
      subst this
      exact ⟨leadsO a b c d, rfl, get_app σ _ h⟩
    | succ k => simp at e1
  · intro m i' e
    refine k12 (ZipR.get (R := fun q o => ∃ o₀, (lateH a b c d)[q]? = some o₀ ∧ O.ren (newRen [i] lateK 1 σ.length) o₀ = some o) (l' := lateO a b c d σ.length) (.cons ⟨_, late_15, rfl⟩ (.cons ⟨_, late_23, rfl⟩ (.cons ⟨_, late_29, rfl⟩ (.cons ⟨_, late_33, rfl⟩ (.cons ⟨_, late_35, rfl⟩
      (.cons ⟨_, late_20, ren_rowsO _ _⟩ (.cons ⟨_, late_21, ren_rowsO _ _⟩ (.cons ⟨_, late_22, ren_rowsO _ _⟩ (.cons ⟨_, late_27, ren_rowsO _ _⟩ (.cons ⟨_, late_28, ren_rowsO _ _⟩ (.cons ⟨_, late_32, ren_rowsO _ _⟩ .nil))))))))))) e) fun o h1 h2 => ?_
    refine k12 h2 fun o₀ h2 h3 => ?_
    exact ⟨o₀, o, h2, h3, (List.getElem?_append_right (Nat.le_add_right ..)).trans (by rw [Nat.add_sub_cancel_left]; exact h1)⟩
end
end MI.L2
end TPW14
section TPW15
open PySem
set_option linter.unusedVariables false
set_option linter.unusedSimpArgs false
set_option maxRecDepth 100000
namespace MI.L2
/-- a forest of ends: the values that the search and the pages give -/
structure Fo where
  ends : List Int
  val : Int
  hd : List (Txt × Txt)
  due : List (Txt × Txt)
  dk : Nat
noncomputable def tup2 (p : Txt × Txt) : V := .tup [.str p.1, .str p.2]
noncomputable def F14 : List Fo := [
  ⟨[1, 2, 3, 4], 0, [([], [48]), ([68], [49]), ([99], [49]), ([99, 68], [48]), ([66], [49]), ([66, 68], [48]), ([66, 99], [48]), ([66, 99, 68], [49]), ([97], [49]), ([97, 68], [48]), ([97, 99], [48]), ([97, 99, 68], [49]), ([97, 66], [48]), ([97, 66, 68], [49]), ([97, 66, 99], [49]), ([97, 66, 99, 68], [48])], [([], [48]), ([66], [49]), ([66, 68], [48]), ([66, 99], [48]), ([66, 99, 68], [49]), ([68], [49]), ([97], [49]), ([97, 66], [48]), ([97, 66, 68], [49]), ([97, 66, 99], [49]), ([97, 66, 99, 68], [48]), ([97, 68], [48]), ([97, 99], [48]), ([97, 99, 68], [49]), ([99], [49]), ([99, 68], [48])], 172⟩,
  ⟨[1, 2, 4, 4], 2, [([], [48]), ([99], [49]), ([99, 68], [50]), ([66], [49]), ([66, 99], [48]), ([66, 99, 68], [51]), ([97], [49]), ([97, 99], [48]), ([97, 99, 68], [51]), ([97, 66], [48]), ([97, 66, 99], [49]), ([97, 66, 99, 68], [50])], [([], [48]), ([66], [49]), ([66, 99], [48]), ([66, 99, 68], [51]), ([97], [49]), ([97, 66], [48]), ([97, 66, 99], [49]), ([97, 66, 99, 68], [50]), ([97, 99], [48]), ([97, 99, 68], [51]), ([99], [49]), ([99, 68], [50])], 140⟩,
  ⟨[1, 3, 3, 4], 2, [([], [48]), ([68], [49]), ([66], [49]), ([66, 68], [48]), ([66, 99], [50]), ([66, 99, 68], [51]), ([97], [49]), ([97, 68], [48]), ([97, 66], [48]), ([97, 66, 68], [49]), ([97, 66, 99], [51]), ([97, 66, 99, 68], [50])], [([], [48]), ([66], [49]), ([66, 68], [48]), ([66, 99], [50]), ([66, 99, 68], [51]), ([68], [49]), ([97], [49]), ([97, 66], [48]), ([97, 66, 68], [49]), ([97, 66, 99], [51]), ([97, 66, 99, 68], [50]), ([97, 68], [48])], 136⟩,
  ⟨[1, 4, 3, 4], 0, [([], [48]), ([66], [49]), ([66, 68], [50]), ([66, 99], [50]), ([66, 99, 68], [49]), ([97], [49]), ([97, 66], [48]), ([97, 66, 68], [51]), ([97, 66, 99], [51]), ([97, 66, 99, 68], [48])], [([], [48]), ([66], [49]), ([66, 68], [50]), ([66, 99], [50]), ([66, 99, 68], [49]), ([97], [49]), ([97, 66], [48]), ([97, 66, 68], [51]), ([97, 66, 99], [51]), ([97, 66, 99, 68], [48])], 121⟩,
  ⟨[1, 4, 4, 4], 2, [([], [48]), ([66], [49]), ([66, 99], [50]), ([66, 99, 68], [51]), ([97], [49]), ([97, 66], [48]), ([97, 66, 99], [51]), ([97, 66, 99, 68], [50])], [([], [48]), ([66], [49]), ([66, 99], [50]), ([66, 99, 68], [51]), ([97], [49]), ([97, 66], [48]), ([97, 66, 99], [51]), ([97, 66, 99, 68], [50])], 104⟩,
  ⟨[2, 2, 3, 4], 2, [([], [48]), ([68], [49]), ([99], [49]), ([99, 68], [48]), ([97], [49]), ([97, 68], [48]), ([97, 99], [48]), ([97, 99, 68], [49]), ([97, 66], [50]), ([97, 66, 68], [51]), ([97, 66, 99], [51]), ([97, 66, 99, 68], [50])], [([], [48]), ([68], [49]), ([97], [49]), ([97, 66], [50]), ([97, 66, 68], [51]), ([97, 66, 99], [51]), ([97, 66, 99, 68], [50]), ([97, 68], [48]), ([97, 99], [48]), ([97, 99, 68], [49]), ([99], [49]), ([99, 68], [48])], 134⟩,
  ⟨[2, 2, 4, 4], 0, [([], [48]), ([99], [49]), ([99, 68], [50]), ([97], [49]), ([97, 99], [48]), ([97, 99, 68], [51]), ([97, 66], [50]), ([97, 66, 99], [51]), ([97, 66, 99, 68], [48])], [([], [48]), ([97], [49]), ([97, 66], [50]), ([97, 66, 99], [51]), ([97, 66, 99, 68], [48]), ([97, 99], [48]), ([97, 99, 68], [51]), ([99], [49]), ([99, 68], [50])], 110⟩,
  ⟨[3, 2, 3, 4], 0, [([], [48]), ([68], [49]), ([97], [49]), ([97, 68], [48]), ([97, 99], [50]), ([97, 99, 68], [51]), ([97, 66], [50]), ([97, 66, 68], [51]), ([97, 66, 99], [49]), ([97, 66, 99, 68], [48])], [([], [48]), ([68], [49]), ([97], [49]), ([97, 66], [50]), ([97, 66, 68], [51]), ([97, 66, 99], [49]), ([97, 66, 99, 68], [48]), ([97, 68], [48]), ([97, 99], [50]), ([97, 99, 68], [51])], 117⟩,
  ⟨[3, 3, 3, 4], 2, [([], [48]), ([68], [49]), ([97], [49]), ([97, 68], [48]), ([97, 66], [50]), ([97, 66, 68], [51]), ([97, 66, 99], [51]), ([97, 66, 99, 68], [50])], [([], [48]), ([68], [49]), ([97], [49]), ([97, 66], [50]), ([97, 66, 68], [51]), ([97, 66, 99], [51]), ([97, 66, 99, 68], [50]), ([97, 68], [48])], 98⟩,
  ⟨[4, 2, 3, 4], 2, [([], [48]), ([97], [49]), ([97, 68], [50]), ([97, 99], [50]), ([97, 99, 68], [49]), ([97, 66], [50]), ([97, 66, 68], [49]), ([97, 66, 99], [49]), ([97, 66, 99, 68], [50])], [([], [48]), ([97], [49]), ([97, 66], [50]), ([97, 66, 68], [49]), ([97, 66, 99], [49]), ([97, 66, 99, 68], [50]), ([97, 68], [50]), ([97, 99], [50]), ([97, 99, 68], [49])], 110⟩,
  ⟨[4, 2, 4, 4], 4, [([], [48]), ([97], [49]), ([97, 99], [50]), ([97, 99, 68], [51]), ([97, 66], [50]), ([97, 66, 99], [49]), ([97, 66, 99, 68], [52])], [([], [48]), ([97], [49]), ([97, 66], [50]), ([97, 66, 99], [49]), ([97, 66, 99, 68], [52]), ([97, 99], [50]), ([97, 99, 68], [51])], 93⟩,
  ⟨[4, 3, 3, 4], 4, [([], [48]), ([97], [49]), ([97, 68], [50]), ([97, 66], [50]), ([97, 66, 68], [49]), ([97, 66, 99], [51]), ([97, 66, 99, 68], [52])], [([], [48]), ([97], [49]), ([97, 66], [50]), ([97, 66, 68], [49]), ([97, 66, 99], [51]), ([97, 66, 99, 68], [52]), ([97, 68], [50])], 91⟩,
  ⟨[4, 4, 3, 4], 2, [([], [48]), ([97], [49]), ([97, 66], [50]), ([97, 66, 68], [51]), ([97, 66, 99], [51]), ([97, 66, 99, 68], [50])], [([], [48]), ([97], [49]), ([97, 66], [50]), ([97, 66, 68], [51]), ([97, 66, 99], [51]), ([97, 66, 99, 68], [50])], 83⟩,
  ⟨[4, 4, 4, 4], 4, [([], [48]), ([97], [49]), ([97, 66], [50]), ([97, 66, 99], [51]), ([97, 66, 99, 68], [52])], [([], [48]), ([97], [49]), ([97, 66], [50]), ([97, 66, 99], [51]), ([97, 66, 99, 68], [52])], 74⟩]
noncomputable def share4 : O := .list [.int 0, .int 1, .int 2, .int 3]
noncomputable def sH (f : Fo) : H := [.inst 171 [(2, .ref 3)], .list (f.ends.map .int), share4, .list []]
noncomputable def sRun (f : Fo) : Option (V × H) := callN Γ 60 60 20 294 [.ref 0, .ref 1, .ref 2] [] (sH f)
noncomputable def dRun (f : Fo) : Option (V × H) := callN Γ 60 60 20 318 [.ref 0] [] [.list (f.ends.map .int)]
theorem split14 {P : Fo → Prop} (a : ∀ f ∈ F14.take 5, P f) (b : ∀ f ∈ (F14.drop 5).take 5, P f) (c : ∀ f ∈ F14.drop 10, P f) (f : Fo) (h : f ∈ F14) : P f := by
  have e : F14 = F14.take 5 ++ ((F14.drop 5).take 5 ++ F14.drop 10) := rfl
  rw [e] at h
  exact (List.mem_append.mp h).elim (a f) fun h => (List.mem_append.mp h).elim (b f) (c f)
theorem search_runA (f : Fo) (h : f ∈ F14.take 5) : ∃ τ, sRun f = some (.int f.val, .inst 171 [(2, .ref 3)] :: .list (f.ends.map .int) :: share4 :: .list (f.hd.map tup2) :: τ) := by
  refine ⟨((sRun f).getD (.none, [])).2.drop 4, ?_⟩
  simp only [F14, List.take_succ_cons, List.take_zero, List.drop_succ_cons, List.drop_zero, List.mem_cons, List.not_mem_nil, or_false] at h
  rcases h with h | h | h | h | h <;> subst h <;> kernel_rfl
theorem search_runB (f : Fo) (h : f ∈ (F14.drop 5).take 5) : ∃ τ, sRun f = some (.int f.val, .inst 171 [(2, .ref 3)] :: .list (f.ends.map .int) :: share4 :: .list (f.hd.map tup2) :: τ) := by
  refine ⟨((sRun f).getD (.none, [])).2.drop 4, ?_⟩
  simp only [F14, List.take_succ_cons, List.take_zero, List.drop_succ_cons, List.drop_zero, List.mem_cons, List.not_mem_nil, or_false] at h
  rcases h with h | h | h | h | h <;> subst h <;> kernel_rfl
theorem search_runC (f : Fo) (h : f ∈ F14.drop 10) : ∃ τ, sRun f = some (.int f.val, .inst 171 [(2, .ref 3)] :: .list (f.ends.map .int) :: share4 :: .list (f.hd.map tup2) :: τ) := by
  refine ⟨((sRun f).getD (.none, [])).2.drop 4, ?_⟩
  simp only [F14, List.take_succ_cons, List.take_zero, List.drop_succ_cons, List.drop_zero, List.mem_cons, List.not_mem_nil, or_false] at h
  rcases h with h | h | h | h <;> subst h <;> kernel_rfl
theorem search_run (f : Fo) (h : f ∈ F14) : ∃ τ, sRun f = some (.int f.val, .inst 171 [(2, .ref 3)] :: .list (f.ends.map .int) :: share4 :: .list (f.hd.map tup2) :: τ) := split14 search_runA search_runB search_runC f h
theorem due_runA (f : Fo) (h : f ∈ F14.take 5) : ∃ τ, dRun f = some (.ref (f.dk + 1), .list (f.ends.map .int) :: τ) ∧ τ[f.dk]? = some (.list (f.due.map tup2)) := by
  refine ⟨((dRun f).getD (.none, [])).2.drop 1, ?_⟩
  simp only [F14, List.take_succ_cons, List.take_zero, List.drop_succ_cons, List.drop_zero, List.mem_cons, List.not_mem_nil, or_false] at h
  rcases h with h | h | h | h | h <;> subst h <;> constructor <;> kernel_rfl
theorem due_runB (f : Fo) (h : f ∈ (F14.drop 5).take 5) : ∃ τ, dRun f = some (.ref (f.dk + 1), .list (f.ends.map .int) :: τ) ∧ τ[f.dk]? = some (.list (f.due.map tup2)) := by
  refine ⟨((dRun f).getD (.none, [])).2.drop 1, ?_⟩
  simp only [F14, List.take_succ_cons, List.take_zero, List.drop_succ_cons, List.drop_zero, List.mem_cons, List.not_mem_nil, or_false] at h
  rcases h with h | h | h | h | h <;> subst h <;> constructor <;> kernel_rfl
theorem due_runC (f : Fo) (h : f ∈ F14.drop 10) : ∃ τ, dRun f = some (.ref (f.dk + 1), .list (f.ends.map .int) :: τ) ∧ τ[f.dk]? = some (.list (f.due.map tup2)) := by
  refine ⟨((dRun f).getD (.none, [])).2.drop 1, ?_⟩
  simp only [F14, List.take_succ_cons, List.take_zero, List.drop_succ_cons, List.drop_zero, List.mem_cons, List.not_mem_nil, or_false] at h
  rcases h with h | h | h | h <;> subst h <;> constructor <;> kernel_rfl
theorem due_run (f : Fo) (h : f ∈ F14) : ∃ τ, dRun f = some (.ref (f.dk + 1), .list (f.ends.map .int) :: τ) ∧ τ[f.dk]? = some (.list (f.due.map tup2)) := split14 due_runA due_runB due_runC f h
end MI.L2
end TPW15
section TPW16
open PySem
set_option linter.unusedVariables false
set_option linter.unusedSimpArgs false
set_option maxRecDepth 100000
namespace MI.L2
theorem ren_tup2 (ρ : Nat → Option Nat) (xs : List (Txt × Txt)) : renL ρ (xs.map tup2) = some (xs.map tup2) := ren_all ρ tup2 (fun _ => rfl) xs
theorem ren_tup2O (ρ : Nat → Option Nat) (xs : List (Txt × Txt)) : O.ren ρ (.list (xs.map tup2)) = some (.list (xs.map tup2)) := by
  show (renL ρ (xs.map tup2)).map O.list = _
  rw [ren_tup2]; rfl
theorem ren_intsO (ρ : Nat → Option Nat) (xs : List Int) : O.ren ρ (.list (xs.map .int)) = some (.list (xs.map .int)) := by
  show (renL ρ (xs.map V.int)).map O.list = _
  rw [ren_ints]; rfl
section
variable {σ : H}
theorem told_due {e : Nat} {f : Fo} (hf : f ∈ F14) (h : σ[e]? = some (.list (f.ends.map .int))) : Told (callN Γ 60 60 20) 318 [.ref e] σ (.ref σ.length) (σ ++ [.list (f.due.map tup2)]) := by
  refine k12 (due_run f hf) fun τ e1 e2 => ?_
  have hi := lt_of_get h
  refine ⟨_, _, [.ref 0], .ref (f.dk + 1), [e], [f.dk + 1], e1, ⟨by simp, by simpa using hi, rfl, ?_, by simp, by simp, by simp, ?_, fun j hj _ => by rw [List.getElem?_append_left hj], ?_⟩, rfl, ?_⟩
  · intro k o₀ q
    cases k with
    | zero => (refine si q fun q1 => ?_; subst q1; clear q); exact ⟨e, _, rfl, ren_intsO _ _, h⟩
    | succ k => simp at q
  · intro k j o₀ q1 q2
    cases k with
    | zero => (refine si q1 fun q3 => ?_; subst q3; clear q1); cases q2; exact ⟨_, ren_intsO _ _, get_app σ _ h⟩
    | succ k => simp at q1
  · intro m i q
    cases m with
    | zero => (refine si q fun q5 => ?_; subst q5; clear q); exact ⟨_, _, e2, ren_tup2O _ _, get_last σ _⟩
    | succ m => simp at q
  · show (newRen [e] [f.dk + 1] 1 σ.length (f.dk + 1)).map V.ref = _
    unfold newRen posOf
    rw [if_neg (by omega)]
    simp
theorem told_search {h e s k : Nat} {f : Fo} (hf : f ∈ F14) (nd : [h, e, s, k].Nodup) (g1 : σ[h]? = some (.inst 171 [(2, .ref k)])) (g2 : σ[e]? = some (.list (f.ends.map .int))) (g3 : σ[s]? = some share4) (g4 : σ[k]? = some (.list [])) : Told (callN Γ 60 60 20) 294 [.ref h, .ref e, .ref s] σ (.int f.val) (σ.set k (.list (f.hd.map tup2))) := by
  obtain ⟨τ, e1⟩ := search_run f hf
  have i1 := lt_of_get g1
  have i2 := lt_of_get g2
  have i3 := lt_of_get g3
  have i4 := lt_of_get g4
  have nd' := nd
  simp only [List.nodup_cons, List.mem_cons, List.not_mem_nil, or_false, not_or, not_false_eq_true, List.nodup_nil, and_true] at nd'
  obtain ⟨⟨n1, n2, n3⟩, ⟨n4, n5⟩, n6⟩ := nd'
  have pre : ZipR (fun o₀ j => ∃ o, O.ren (fun i => [h, e, s, k][i]?) o₀ = some o ∧ σ[j]? = some o) (sH f) [h, e, s, k] := .cons ⟨_, rfl, g1⟩ (.cons ⟨_, ren_intsO _ _, g2⟩ (.cons ⟨_, rfl, g3⟩ (.cons ⟨_, rfl, g4⟩ .nil)))
  have post : ZipR (fun j o₀ => ∃ o, O.ren (newRen [h, e, s, k] [] 4 σ.length) o₀ = some o ∧ (σ.set k (.list (f.hd.map tup2)))[j]? = some o) [h, e, s, k] [.inst 171 [(2, .ref 3)], .list (f.ends.map .int), share4, .list (f.hd.map tup2)] :=
    .cons ⟨_, rfl, (List.getElem?_set_ne (Ne.symm n3)).trans g1⟩ (.cons ⟨_, ren_intsO _ _, (List.getElem?_set_ne (Ne.symm n5)).trans g2⟩ (.cons ⟨_, rfl, (List.getElem?_set_ne (Ne.symm n6)).trans g3⟩ (.cons ⟨_, ren_tup2O _ _, List.getElem?_set_self i4⟩ .nil)))
  refine ⟨_, _, [.ref 0, .ref 1, .ref 2], .int f.val, [h, e, s, k], [], e1, ⟨nd, ?_, rfl, fun j o₀ q => (pre.get q).elim fun b z => z.2.elim fun o z2 => ⟨b, o, z.1, z2.1, z2.2⟩, .nil, fun _ h => (nomatch h), by simp, ?_, ?_, fun m i h => (nomatch h)⟩, rfl, rfl⟩
  · intro j hj
    simp only [List.mem_cons, List.not_mem_nil, or_false] at hj
    rcases hj with rfl | rfl | rfl | rfl <;> assumption
  · intro j j' o₀ q1 q2
    refine k12 (post.get q1) fun b h1 h2 => ?_
    exact Option.some.inj ((get_app _ τ h1).symm.trans q2) ▸ h2
  · intro j hj hn
    exact List.getElem?_set_ne fun q => hn (by rw [← q]; exact .tail _ (.tail _ (.tail _ (.head _))))
end
end MI.L2
end TPW16
section TPW17
open PySem
set_option linter.unusedVariables false
set_option linter.unusedSimpArgs false
set_option maxRecDepth 100000
namespace MI.L2
/-- the lead of the Whitespace at a place -/
noncomputable def leadAt (σ : H) (i : Nat) : Option Txt := match σ[i]? with
  | some (.inst _ ((_, .str raw) :: _)) => some (raw.take (raw.length - 3))
  | _ => .none
theorem raw_take (l : Txt) : (wRaw l).take ((wRaw l).length - 3) = l := by unfold wRaw; simp
theorem leadAt_w {σ : H} {i : Nat} {l : Txt} (h : σ[i]? = some (wO l)) : leadAt σ i = some l := by
  unfold leadAt
  rw [h]
  exact congrArg some (raw_take l)
noncomputable def spec (a b c d : Txt) (f : Fo) : Addr → List V → H → Option (V × H) := fun g as σ =>
  if g == 192 then (match as with | [.ref i, .str raw] => some (.none, σ.set i (wO (raw.take (raw.length - 3)))) | _ => .none)
  else if g == 270 then some (.ref σ.length, σ ++ [leadsO a b c d])
  else if g == 289 then some (.ref σ.length, σ ++ lateO a b c d σ.length)
  else if g == 294 then (match as with
    | [.ref h, _, _] => match σ[h]? with
      | some (.inst _ [(_, .ref k)]) => some (.int f.val, σ.set k (.list (f.hd.map tup2)))
      | _ => .none
    | _ => .none)
  else if g == 318 then some (.ref σ.length, σ ++ [.list (f.due.map tup2)])
  else if g == 199 then (match as with
    | [.ref i] => (leadAt σ i).map fun l => (.int (lrP (wC l) (wB l)), σ)
    | _ => .none)
  else if g == 206 then (match as with
    | [.ref i, .int t] => (leadAt σ i).map fun l => (.int (ilP (wT l) (wC l) (wB l) t), σ)
    | _ => .none)
  else if g == 227 then (match as with
    | [.ref i, .ref j] => (leadAt σ i).bind fun l => (leadAt σ j).map fun m => (.bool (lessL l m), σ)
    | _ => .none)
  else .none
noncomputable abbrev cfX (a b c d : Txt) (f : Fo) (n : Nat) : Cf := callX Γ (overT (callN Γ 60 60 20) (spec a b c d f)) 60 60 n
section
variable {a b c d : Txt} {f : Fo} {n : Nat} {σ : H}
theorem c_init {i : Nat} {l : Txt} (hl : l ∈ L31) (h : σ[i]? = some (.inst 237 [])) : cfX a b c d f n 192 [.ref i, .str (wRaw l)] [] σ = some (.none, σ.set i (wO l)) := by
  refine callX_told ?_ (told_init hl h)
  show some (V.none, σ.set i (wO ((wRaw l).take ((wRaw l).length - 3)))) = _
  have : (wRaw l).take ((wRaw l).length - 3) = l := by unfold wRaw; simp
  rw [this]
theorem c_late {i : Nat} (ha : a ∈ L31) (hb : b ∈ L31) (hc : c ∈ L31) (hd : d ∈ L31) (h : σ[i]? = some (leadsO a b c d)) : cfX a b c d f n 289 [.ref i] [] σ = some (.ref σ.length, σ ++ lateO a b c d σ.length) :=
  callX_told rfl (told_late ha hb hc hd h)
theorem c_due {e : Nat} (hf : f ∈ F14) (h : σ[e]? = some (.list (f.ends.map .int))) : cfX a b c d f n 318 [.ref e] [] σ = some (.ref σ.length, σ ++ [.list (f.due.map tup2)]) :=
  callX_told rfl (told_due hf h)
theorem c_search {h e s k : Nat} (hf : f ∈ F14) (nd : [h, e, s, k].Nodup) (g1 : σ[h]? = some (.inst 171 [(2, .ref k)])) (g2 : σ[e]? = some (.list (f.ends.map .int))) (g3 : σ[s]? = some share4) (g4 : σ[k]? = some (.list [])) : cfX a b c d f n 294 [.ref h, .ref e, .ref s] [] σ = some (.int f.val, σ.set k (.list (f.hd.map tup2))) := by
  refine callX_told ?_ (told_search hf nd g1 g2 g3 g4)
  show (match σ[h]? with
      | some (.inst _ [(_, .ref k)]) => some (V.int f.val, σ.set k (.list (f.hd.map tup2)))
      | _ => .none) = _
  rw [g1]
theorem c_leads {ns : List Int} {y0 y1 y2 y3 : Int} {τ : H} (e : runBody Γ (callN Γ 60 60 19) 60 60 F_law_leads [.flist (ns.map .int)] [] [] = some (.ref 0, leadsO (leadY y0) (leadY y1) (leadY y2) (leadY y3) :: τ)) : cfX (leadY y0) (leadY y1) (leadY y2) (leadY y3) f n 270 [.flist (ns.map .int)] [] σ = some (.ref σ.length, σ ++ [leadsO (leadY y0) (leadY y1) (leadY y2) (leadY y3)]) :=
  callX_told rfl (told_leads y0 y1 y2 y3 ((callN_run rfl).trans e))
theorem c_199 {i : Nat} {l : Txt} (hl : l ∈ L31) (h : σ[i]? = some (wO l)) : cfX a b c d f n 199 [.ref i] [] σ = some (.int (lrP (wC l) (wB l)), σ) :=
  callX_told (congrArg (Option.map _) (leadAt_w h)) (told_lrs hl h)
theorem c_206 {i : Nat} {l : Txt} {t : Int} (hl : l ∈ L31) (h : σ[i]? = some (wO l)) (ht : 0 < t ∧ t ≤ 11) : cfX a b c d f n 206 [.ref i, .int t] [] σ = some (.int (ilP (wT l) (wC l) (wB l) t), σ) :=
  callX_told (congrArg (Option.map _) (leadAt_w h)) (told_il hl h ht)
theorem c_less {i j : Nat} {l m : Txt} (hl : l ∈ L31) (hm : m ∈ L31) (hn : i ≠ j) (h : σ[i]? = some (wO l)) (h' : σ[j]? = some (wO m)) : cfX a b c d f n 227 [.ref i, .ref j] [] σ = some (.bool (lessL l m), σ) := by
  refine callX_told ?_ (told_less hl hm hn h h')
  show ((leadAt σ i).bind fun l => (leadAt σ j).map fun m => (V.bool (lessL l m), σ)) = _
  rw [leadAt_w h, leadAt_w h']; rfl
theorem c_wit {i j : Nat} {l m : Txt} (hl : l ∈ L31) (hm : m ∈ L31) (h : σ[i]? = some (wO l)) (h' : σ[j]? = some (wO m)) : cfX a b c d f (n + 2) 234 [.ref i, .ref j] [] σ = some (.ref σ.length, σ ++ [.list ((rowsL l m).map row3)]) :=
  (callX_run rfl rfl).trans (w_wit h h' (mx_L hl hm) (c_199 hl h) (c_199 hm h') (fun t x h1 h2 => ⟨c_206 hl (get_app σ _ h) ⟨h1, h2⟩, c_206 hm (get_app σ _ h') ⟨h1, h2⟩⟩))
end
end MI.L2
end TPW17
section TPW18
open PySem
set_option linter.unusedVariables false
set_option linter.unusedSimpArgs false
set_option maxRecDepth 100000
namespace MI.L2
/-- the first place behind i that is not less -/
noncomputable def scanE (B : Nat → Nat → Bool) (i : Nat) : Nat → Nat → Nat
  | 0, j => j
  | k + 1, j => if B i j then scanE B i k (j + 1) else j
noncomputable def endsB (B : Nat → Nat → Bool) : List Int := [(scanE B 0 3 1 : Nat), (scanE B 1 2 2 : Nat), (scanE B 2 1 3 : Nat), 4]
noncomputable def B6 (p q r s t u : Bool) : Nat → Nat → Bool
  | 0, 1 => p
  | 0, 2 => q
  | 0, 3 => r
  | 1, 2 => s
  | 1, 3 => t
  | 2, 3 => u
  | _, _ => false
theorem forest6 : ∀ p q r s t u : Bool, (p && s → q) → (p && t → r) → (q && u → r) → (s && u → t) → ∃ f ∈ F14, f.ends = endsB (B6 p q r s t u) := by decide +kernel
theorem forest (a b c d : Txt) (ha : a ∈ L31) (hb : b ∈ L31) (hc : c ∈ L31) (hd : d ∈ L31) : ∃ f ∈ F14, f.ends = endsB (B6 (lessL a b) (lessL a c) (lessL a d) (lessL b c) (lessL b d) (lessL c d)) := by
  have T : ∀ {x y z : Txt}, x ∈ L31 → y ∈ L31 → z ∈ L31 → (lessL x y && lessL y z) = true → lessL x z = true := fun {x y z} hx hy hz h => by
    rw [(less_L x hx y hy).1, (less_L y hy z hz).1] at h
    rw [(less_L x hx z hz).1]
    rw [Bool.and_eq_true] at h
    exact lt_trans h.1 h.2
  exact forest6 _ _ _ _ _ _ (T ha hb hc) (T ha hb hd) (T ha hc hd) (T hb hc hd)
end MI.L2
end TPW18
section TPW19
open PySem
set_option linter.unusedVariables false
set_option linter.unusedSimpArgs false
set_option maxRecDepth 100000
namespace MI.L2
noncomputable def Q4 (a b c d : Txt) : Nat → Txt
  | 0 => a
  | 1 => b
  | 2 => c
  | _ => d
structure WG (a b c d : Txt) (σ : H) : Prop where
  l5 : σ[5]? = some (.list [.ref 1, .ref 2, .ref 3, .ref 4])
  w : ∀ i, i < 4 → σ[i + 1]? = some (wO (Q4 a b c d i))
theorem WG.app {a b c d : Txt} {σ : H} (G : WG a b c d σ) (τ : H) : WG a b c d (σ ++ τ) := ⟨get_app σ τ G.l5, fun i h => get_app σ τ (G.w i h)⟩
theorem WG.set {a b c d : Txt} {σ : H} (G : WG a b c d σ) {k : Nat} (hk : 6 ≤ k) (o : O) : WG a b c d (σ.set k o) := ⟨by rw [List.getElem?_set_ne (by omega)]; exact G.l5, fun i h => by rw [List.getElem?_set_ne (by omega)]; exact G.w i h⟩
section
variable {a b c d : Txt} {f : Fo} {n : Nat} {σ : H} {vars : Vars}
theorem q4_L (ha : a ∈ L31) (hb : b ∈ L31) (hc : c ∈ L31) (hd : d ∈ L31) (i : Nat) : Q4 a b c d i ∈ L31 := by
  unfold Q4; split <;> assumption
theorem sub5 (G : WG a b c d σ) (i : Nat) (hi : i < 4) : getSub Γ (.ref 5) (.int (i : Int)) σ = some (.ref (i + 1)) := by
  match i, hi with
  | 0, _ => exact sub_list _ G.l5 rfl
  | 1, _ => exact sub_list _ G.l5 rfl
  | 2, _ => exact sub_list _ G.l5 rfl
  | 3, _ => exact sub_list _ G.l5 rfl
  | i + 4, h => omega
noncomputable def lenE : E := (.call (.lit (.cst (.builtin "len"))) [(.var 48)])
noncomputable def lessE : E := (.callM (.sub (.var 48) (.var 50)) 38 [(.sub (.var 48) (.var 51))] [])
theorem ev_len48 {m : Nat} (G : WG a b c d σ) (g : vars.get 48 = some (.ref 5)) {cf : Cf} : ev Γ cf (m + 3) lenE vars σ = some (.int 4, σ) := by
  have bl : builtin (.builtin "len") [.ref 5] σ = some (.int 4, σ) := by rw [b_len_ref _ G.l5]; rfl
  simp only [lenE, ev_call, ev_var, ev_lit, g, Option.map_some, evAll_cons, evAll_nil, callV_builtin, bl]
theorem ev_less {m i j : Nat} (ha : a ∈ L31) (hb : b ∈ L31) (hc : c ∈ L31) (hd : d ∈ L31) (G : WG a b c d σ) (hij : i ≠ j) (hi : i < 4) (hj : j < 4) (g48 : vars.get 48 = some (.ref 5)) (g50 : vars.get 50 = some (.int (i : Int))) (g51 : vars.get 51 = some (.int (j : Int))) :
    ev Γ (cfX a b c d f (n + 2)) (m + 4) lessE vars σ = some (.bool (lessL (Q4 a b c d i) (Q4 a b c d j)), σ) := by
  have s1 : ev Γ (cfX a b c d f (n + 2)) (m + 3) (.sub (.var 48) (.var 50)) vars σ = some (.ref (i + 1), σ) := by
    simp only [ev_sub, ev_var, g48, g50, Option.map_some, sub5 G i hi]
  have s2 : ev Γ (cfX a b c d f (n + 2)) (m + 3) (.sub (.var 48) (.var 51)) vars σ = some (.ref (j + 1), σ) := by
    simp only [ev_sub, ev_var, g48, g51, Option.map_some, sub5 G j hj]
  have m1 : methOf Γ (.ref (i + 1)) 38 σ = some (.fn 227 (.ref (i + 1))) := meth_ok Γ σ (G.w i hi) rfl rfl
  rw [lessE, ev_callM, s1]
  dsimp only
  rw [m1]
  dsimp only
  rw [evAll_cons, s2]
  dsimp only
  rw [evAll_nil]
  dsimp only
  rw [evKw_nil]
  dsimp only
  rw [apply_fn]
  exact c_less (q4_L ha hb hc hd i) (q4_L ha hb hc hd j) (fun q => hij (Nat.succ.inj q)) (G.w i hi) (G.w j hj)
end
end MI.L2
end TPW19
section TPW20
open PySem
set_option linter.unusedVariables false
set_option linter.unusedSimpArgs false
set_option maxRecDepth 100000
namespace MI.L2
structure EV (i k : Nat) (vars : Vars) : Prop where
  g48 : vars.get 48 = some (.ref 5)
  g50 : vars.get 50 = some (.int (i : Int))
  g49 : vars.get 49 = some (.ref k)
theorem EV.set {i k : Nat} {vars : Vars} (h : EV i k vars) (v : V) : EV i k (vars.set 51 v) := ⟨by rw [gs_ne rfl, h.g48], by rw [gs_ne rfl, h.g50], by rw [gs_ne rfl, h.g49]⟩
noncomputable def incE : List S := [.names [51] (.bin .add (.var 51) (.lit (.int 1)))]
noncomputable def testE : E := .and (.cmp .lt (.var 51) lenE) lessE
noncomputable def endsBody : List S := [.names [51] (.bin .add (.var 50) (.lit (.int 1))), .whil testE incE, .expr (.callM (.var 49) 17 [.var 51] [])]
theorem ends_body : F_law_ends = ⟨[48], [], [], .none, [.names [49] (.list []), .for_ (.name 50) (.plain (.call (.lit (.cst (.type "range"))) [lenE])) endsBody, .ret (some (.var 49))]⟩ := rfl
section
variable {a b c d : Txt} {f : Fo} {n : Nat} {σ : H} {vars : Vars}
theorem ends_test {i j k : Nat} (hij : i < j) (ha : a ∈ L31) (hb : b ∈ L31) (hc : c ∈ L31) (hd : d ∈ L31) (G : WG a b c d σ) (hi : i < 4) (E : EV i k vars) (g51 : vars.get 51 = some (.int (j : Int))) :
    evB (ev Γ (cfX a b c d f (n + 2)) 60) testE vars σ = some (decide (j < 4) && lessL (Q4 a b c d i) (Q4 a b c d j), σ) := by
  have c1 : ev Γ (cfX a b c d f (n + 2)) 60 (.cmp .lt (.var 51) lenE) vars σ = some (.bool (decide ((j : Int) < 4)), σ) := by
    rw [ev_cmp, ev_var, g51]
    dsimp only [Option.map_some]
    rw [ev_len48 (m := 56) G E.g48]
    dsimp only
    rw [cmp_lt]; rfl
  rw [testE, evB_and, evB_cmp, c1]
  by_cases h : j < 4
  · have h' : decide ((j : Int) < 4) = true := decide_eq_true (by omega)
    have e := ev_less (f := f) (n := n) (m := 56) ha hb hc hd G (Nat.ne_of_lt hij) hi h E.g48 E.g50 g51
    rw [h', decide_eq_true h]
    dsimp only [truthy_bool, Option.map_some]
    have e' : evB (ev Γ (cfX a b c d f (n + 2)) 60) lessE vars σ = some (lessL (Q4 a b c d i) (Q4 a b c d j), σ) := by
      have : evB (ev Γ (cfX a b c d f (n + 2)) 60) lessE vars σ = (match ev Γ (cfX a b c d f (n + 2)) 60 lessE vars σ with
        | some (v, σ') => (truthy v).map (·, σ')
        | .none => .none) := rfl
      rw [this, show ev Γ (cfX a b c d f (n + 2)) 60 lessE vars σ = _ from e]; rfl
    rw [e', Bool.true_and]
  · have h' : decide ((j : Int) < 4) = false := decide_eq_false (by omega)
    rw [h', decide_eq_false h]
    rfl
theorem ends_while {i k : Nat} (ha : a ∈ L31) (hb : b ∈ L31) (hc : c ∈ L31) (hd : d ∈ L31) (G : WG a b c d σ) (hi : i < 4) {m M : Nat} : ∀ (q j : Nat) (vars : Vars), i < j → j + q = 4 → EV i k vars → vars.get 51 = some (.int (j : Int)) →
    ∃ vars', loopW (fun vars σ => evB (ev Γ (cfX a b c d f (n + 2)) 60) testE vars σ) (fun vars σ => exs Γ (cfX a b c d f (n + 2)) 60 (m + 2) incE vars σ) (q + 1 + M) vars σ = some (.next, vars', σ) ∧ EV i k vars' ∧ vars'.get 51 = some (.int ((scanE (fun i j => lessL (Q4 a b c d i) (Q4 a b c d j)) i q j : Nat) : Int))
  | 0, j, vars, hij, hq, E, g51 => by
    refine ⟨vars, ?_, E, g51⟩
    rw [show 0 + 1 + M = M + 1 by omega]
    unfold loopW
    rw [ends_test hij ha hb hc hd G hi E g51, decide_eq_false (by omega)]; rfl
  | q + 1, j, vars, hij, hq, E, g51 => by
    rw [show q + 1 + 1 + M = (q + 1 + M) + 1 by omega]
    unfold loopW
    rw [ends_test hij ha hb hc hd G hi E g51, decide_eq_true (by omega), Bool.true_and]
    unfold scanE
    cases hB : lessL (Q4 a b c d i) (Q4 a b c d j)
    · rw [if_neg (by simp)]
      exact ⟨vars, rfl, E, g51⟩
    · rw [if_pos rfl]
      have i1 : mkI ((j : Int) + 1) = some (.int ((j + 1 : Nat) : Int)) := by rw [mkI_ok (fit_of (by omega) (by omega))]; rfl
      have s1 : exs Γ (cfX a b c d f (n + 2)) 60 (m + 2) incE vars σ = some (.next, vars.set 51 (.int ((j + 1 : Nat) : Int)), σ) := by
        simp only [incE, exs_cons, exs_nil, ex_names, ev_bin, ev_var, ev_lit, g51, Option.map_some, bin_add, i1, List.foldl]
      dsimp only
      rw [s1]
      exact ends_while ha hb hc hd G hi q (j + 1) _ (Nat.lt_succ_of_lt hij) (by omega) (E.set _) (gs_self _ _ _)
end
end MI.L2
end TPW20
section TPW21
open PySem
set_option linter.unusedVariables false
set_option linter.unusedSimpArgs false
set_option maxRecDepth 100000
namespace MI.L2
section
variable {a b c d : Txt} {f : Fo} {n : Nat} {σ : H} {vars : Vars}
noncomputable def scanL (a b c d : Txt) (i : Nat) : Int := (scanE (fun i j => lessL (Q4 a b c d i) (Q4 a b c d j)) i (3 - i) (i + 1) : Nat)
theorem ex_whil (Γ : G) (cf : Cf) (fe n : Nat) (t : MI.E) (b : List S) (vars : Vars) (σ : H) : ex Γ cf fe (n + 1) (.whil t b) vars σ = loopW (fun vars σ => evB (ev Γ cf fe) t vars σ) (fun vars σ => exs Γ cf fe n b vars σ) loopFuel vars σ := rfl
theorem ends_turn {i k m : Nat} {xs : List V} (ha : a ∈ L31) (hb : b ∈ L31) (hc : c ∈ L31) (hd : d ∈ L31) (G : WG a b c d σ) (hi : i < 4) (E : EV i k vars) (hk : σ[k]? = some (.list xs)) (hl : xs.length ≤ 100) :
    ∃ vars', exs Γ (cfX a b c d f (n + 2)) 60 (m + 5) endsBody vars σ = some (.next, vars', σ.set k (.list (xs ++ [.int (scanL a b c d i)]))) ∧ EV i k vars' := by
  have i1 : mkI ((i : Int) + 1) = some (.int ((i + 1 : Nat) : Int)) := by rw [mkI_ok (fit_of (by omega) (by omega))]; rfl
  have s1 : ex Γ (cfX a b c d f (n + 2)) 60 (m + 4) (.names [51] (.bin .add (.var 50) (.lit (.int 1)))) vars σ = some (.next, vars.set 51 (.int ((i + 1 : Nat) : Int)), σ) := by
    simp only [ex_names, ev_bin, ev_var, ev_lit, E.g50, Option.map_some, bin_add, i1, List.foldl]
  refine k13 (ends_while (f := f) (n := n) (m := m) (M := loopFuel - (3 - i + 1)) ha hb hc hd G hi (3 - i) (i + 1) (vars.set 51 (.int ((i + 1 : Nat) : Int))) (Nat.lt_succ_self i) (by omega) (E.set _) (gs_self _ _ _)) fun vars' e E' g => ?_
  rw [show 3 - i + 1 + (loopFuel - (3 - i + 1)) = loopFuel by unfold loopFuel; omega] at e
  have s2 : ex Γ (cfX a b c d f (n + 2)) 60 (m + 2 + 1) (.whil testE incE) (vars.set 51 (.int ((i + 1 : Nat) : Int))) σ = some (.next, vars', σ) := (ex_whil _ _ _ _ _ _ _ _).trans e
  have ma : methOf Γ (.ref k) 17 σ = some (.lst k T_append) := meth_append Γ _ hk rfl
  have s3 : ex Γ (cfX a b c d f (n + 2)) 60 (m + 2) (.expr (.callM (.var 49) 17 [.var 51] [])) vars' σ = some (.next, vars', σ.set k (.list (xs ++ [.int (scanL a b c d i)]))) := by
    rw [ex_expr, ev_callM, ev_var, E'.g49]
    dsimp only [Option.map_some]
    rw [ma]
    dsimp only
    rw [evAll_cons, ev_var, g]
    dsimp only [Option.map_some]
    rw [evAll_nil]
    dsimp only
    rw [evKw_nil]
    dsimp only
    rw [apply_append Γ _ _ hk (by omega)]
    rfl
  refine ⟨vars', ?_, E'⟩
  rw [endsBody, exs_cons, s1]
  dsimp only
  rw [exs_cons, s2]
  dsimp only
  rw [exs_cons, s3]
  rfl
end
end MI.L2
end TPW21
section TPW22
open PySem
set_option linter.unusedVariables false
set_option linter.unusedSimpArgs false
set_option maxRecDepth 100000
namespace MI.L2
section
variable {a b c d : Txt} {f : Fo} {n : Nat} {σ : H} {vars : Vars}
structure EV2 (k : Nat) (vars : Vars) : Prop where
  g48 : vars.get 48 = some (.ref 5)
  g49 : vars.get 49 = some (.ref k)
theorem EV2.turn {k i : Nat} {vars : Vars} (h : EV2 k vars) : EV i k (vars.set 50 (.int (i : Int))) := ⟨by rw [gs_ne rfl, h.g48], gs_self _ _ _, by rw [gs_ne rfl, h.g49]⟩
theorem ends_for {k : Nat} (ha : a ∈ L31) (hb : b ∈ L31) (hc : c ∈ L31) (hd : d ∈ L31) (hk : 6 ≤ k) : ∀ (q i : Nat) (σ : H) (vars : Vars) (xs : List V), i + q = 4 → WG a b c d σ → EV2 k vars → σ[k]? = some (.list xs) → xs.length ≤ i →
    ∃ vars', runL (fun v vars σ => exs Γ (cfX a b c d f (n + 2)) 60 57 endsBody (vars.set 50 v) σ) ((List.range' i q).map fun (i : Nat) => .int (i : Int)) vars σ = some (.next, vars', σ.set k (.list (xs ++ ((List.range' i q).map fun (i : Nat) => .int (scanL a b c d i))))) ∧ EV2 k vars'
  | 0, i, σ, vars, xs, hq, G, E, hs, hl => by
    refine ⟨vars, ?_, E⟩
    obtain ⟨h, e⟩ := List.getElem?_eq_some_iff.mp hs
    have : σ.set k (.list (xs ++ [])) = σ := by rw [List.append_nil, ← e]; exact List.set_getElem_self h
    simp [runL]
    exact (by rw [← e]; exact (List.set_getElem_self h).symm)
  | q + 1, i, σ, vars, xs, hq, G, E, hs, hl => by
    have h := lt_of_get hs
    refine k12 (ends_turn (f := f) (n := n) (m := 52) ha hb hc hd G (show i < 4 by omega) (E.turn (i := i)) hs (by omega)) fun v1 e1 E1 => ?_
    refine k12 (ends_for ha hb hc hd hk q (i + 1) (σ.set k (.list (xs ++ [.int (scanL a b c d i)]))) v1 (xs ++ [.int (scanL a b c d i)]) (by omega) (G.set hk _) ⟨E1.g48, E1.g49⟩ (by rw [List.getElem?_set_self h]) (by simp; omega)) fun v2 e2 E2 => ?_
    refine ⟨v2, ?_, E2⟩
    rw [List.range'_succ, List.map_cons, runL_cons, e1]
    dsimp only
    rw [e2, List.set_set, List.map_cons, List.append_assoc]
    rfl
end
end MI.L2
end TPW22
section TPW23
open PySem
set_option linter.unusedVariables false
set_option linter.unusedSimpArgs false
set_option maxRecDepth 100000
namespace MI.L2
section
variable {a b c d : Txt} {f : Fo} {n : Nat} {σ : H}
theorem ends_same : ((List.range' 0 4).map fun (i : Nat) => V.int (scanL a b c d i)) = (endsB (B6 (lessL a b) (lessL a c) (lessL a d) (lessL b c) (lessL b d) (lessL c d))).map V.int := rfl
theorem ends_run (ha : a ∈ L31) (hb : b ∈ L31) (hc : c ∈ L31) (hd : d ∈ L31) (G : WG a b c d σ) (hl : σ.length = 6) : cfX a b c d f (n + 3) 277 [.ref 5] [] σ = some (.ref 6, σ ++ [.list ((endsB (B6 (lessL a b) (lessL a c) (lessL a d) (lessL b c) (lessL b d) (lessL c d))).map .int)]) := by
  refine (callX_run (F := F_law_ends) rfl rfl).trans ?_
  have hs : (σ ++ [O.list []])[6]? = some (.list []) := by rw [← hl]; exact get_last σ _
  refine k12 (ends_for (f := f) (n := n) (k := 6) ha hb hc hd (Nat.le_refl _) 4 0 (σ ++ [.list []]) [(48, some (.ref 5)), (49, some (.ref 6))] [] rfl (G.app _) ⟨rfl, rfl⟩ hs (Nat.le_refl _)) fun vars' e E => ?_
  have sl : ∀ y : O, (σ ++ [O.list []]).set 6 y = σ ++ [y] := fun y => by rw [← hl]; exact set_last σ _ _
  rw [ends_same, List.nil_append, sl] at e
  have r1 : ev Γ (cfX a b c d f (n + 2)) 60 (.call (.lit (.cst (.type "range"))) [lenE]) [(48, some (.ref 5)), (49, some (.ref 6))] (σ ++ [.list []]) = some (.rng 0 4, σ ++ [.list []]) := by
    rw [ev_call, ev_lit]
    dsimp only
    rw [evAll_cons, ev_len48 (m := 56) (G.app _) rfl]
    dsimp only
    rw [evAll_nil]
    rfl
  have hfor : ex Γ (cfX a b c d f (n + 2)) 60 58 _ _ _ = _ := ex_for_rng Γ (cfX a b c d f (n + 2)) 60 57 50 (.call (.lit (.cst (.type "range"))) [lenE]) endsBody r1 (by decide) rfl rfl
  rw [show rngItems 0 4 = (List.range' 0 4).map (fun (i : Nat) => V.int (i : Int)) from rfl, e] at hfor
  have hbn : bindFn Γ F_law_ends [.ref 5] [] = some [(48, some (.ref 5))] := rfl
  have ml : ev Γ (cfX a b c d f (n + 2)) 60 (.list []) [(48, some (.ref 5))] σ = some (.ref 6, σ ++ [.list []]) := by
    rw [ev_list, evAll_nil]
    dsimp only
    rw [mkL_ok σ (by decide), hl]
  unfold runBody
  rw [hbn, ends_body]
  dsimp only
  rw [exs_cons, ex_names, ml]
  simp only [List.foldl, Vars.set, Nat.reduceBEq, Bool.false_eq_true, if_false]
  rw [exs_cons, hfor]
  dsimp only
  rw [exs_cons, ex_ret, ev_var, E.g49]
  rfl
end
end MI.L2
end TPW23
section TPW24
open PySem
set_option linter.unusedVariables false
set_option linter.unusedSimpArgs false
set_option maxRecDepth 100000
namespace MI.L2
section
variable {a b c d : Txt} {f : Fo} {n : Nat} {σ : H} {vars : Vars}
theorem new_white {l : Txt} (hl : l ∈ L31) : callV Γ (cfX a b c d f n) (.cst (.ref 237)) [.str (wRaw l)] σ = some (.ref σ.length, σ ++ [wO l]) := by
  have e := c_init (a := a) (b := b) (c := c) (d := d) (f := f) (n := n) (σ := σ ++ [.inst 237 []]) (i := σ.length) hl (get_last σ _)
  show (match cfX a b c d f n 192 (.ref σ.length :: [.str (wRaw l)]) [] (σ ++ [.inst 237 []]) with
      | some (w, σ') => (match w with
        | .none => some (V.ref σ.length, σ')
        | _ => .none)
      | .none => .none) = _
  rw [e, set_last]
noncomputable def whitesE : E := (.comp (.call (.lit (.cst (.ref 237))) [(.bin .add (.var 52) (.lit (.str [120, 32, 9])))]) [(.mk (.name 52) (.plain (.var 43)) [])] [52])
noncomputable def h6 (a b c d : Txt) : H := [leadsO a b c d, wO a, wO b, wO c, wO d, .list [.ref 1, .ref 2, .ref 3, .ref 4]]
theorem lead_len : ∀ l ∈ L31, l.length ≤ 4 := by decide +kernel
theorem whites_ev (ha : a ∈ L31) (hb : b ∈ L31) (hc : c ∈ L31) (hd : d ∈ L31) (g : vars.get 43 = some (.ref 0)) : ev Γ (cfX a b c d f n) 60 whitesE vars [leadsO a b c d] = some (.ref 5, h6 a b c d) := by
  unfold whitesE
  refine (comp_ev (n := 59) (it := fun k => .one (.ls 0 k)) (xs := [.str a, .str b, .str c, .str d]) (σb := [leadsO a b c d]) (P := fun _ => True) (bnd := fun v vars => vars.set 52 v) (p := fun _ => true) (g := fun _ τ => .ref (1 + τ.length)) (δi := fun _ _ => []) (δ := fun v _ => [match v with | .str l => wO l | _ => .list []]) (it43 g rfl) rfl (show 4 < 1999 by decide) (hands_ls rfl) (fun v hv σ vars => rfl) (fun v _ vars h => trivial) trivial (fun _ _ _ _ _ => by rw [List.append_nil]; rfl) (fun v hv vars τ h _ => ?_)).trans rfl
  refine k12 (mem4 ha hb hc hd hv) fun x q1 hx => ?_; subst q1
  have hlen := lead_len x hx
  have ms : ∀ σ, mkS (x ++ [120, 32, 9]) σ = some (.str (wRaw x), σ) := fun σ => mkS_ok σ (by simp; omega)
  rw [List.append_nil, ev_call, ev_lit]
  dsimp only
  rw [evAll_cons, ev_bin, ev_var, gs_self]
  dsimp only [Option.map_some]
  rw [ev_lit]
  dsimp only
  rw [bin_adds, ms]
  dsimp only
  rw [evAll_nil]
  dsimp only
  rw [new_white hx]
  rw [List.length_append, List.append_assoc]; rfl
theorem wg6 : WG a b c d (h6 a b c d) := ⟨rfl, fun i h => by
  match i, h with
  | 0, _ => rfl
  | 1, _ => rfl
  | 2, _ => rfl
  | 3, _ => rfl
  | i + 4, h => omega⟩
end
end MI.L2
end TPW24
section TPW25
open PySem
set_option linter.unusedVariables false
set_option linter.unusedSimpArgs false
set_option maxRecDepth 100000
namespace MI.L2
section
variable {a b c d : Txt} {f : Fo} {n : Nat} {vars : Vars}
noncomputable def endsO (f : Fo) : O := .list (f.ends.map .int)
noncomputable def h7 (a b c d : Txt) (f : Fo) : H := h6 a b c d ++ [endsO f]
noncomputable def h9 (a b c d : Txt) (f : Fo) : H := h7 a b c d f ++ [.inst 171 [(2, .ref 8)], .list []]
theorem new_headers : callV Γ (cfX a b c d f (n + 2)) (.cst (.ref 171)) [] (h7 a b c d f) = some (.ref 7, h9 a b c d f) := by kernel_rfl
end
end MI.L2
end TPW25
section TPW26
open PySem
set_option linter.unusedVariables false
set_option linter.unusedSimpArgs false
set_option maxRecDepth 100000
namespace MI.L2
section
variable {a b c d : Txt} {f : Fo} {n : Nat} {vars : Vars}
noncomputable def h10 (a b c d : Txt) (f : Fo) : H := h7 a b c d f ++ [.inst 171 [(2, .ref 8)], .list (f.hd.map tup2), share4]
noncomputable def h21 (a b c d : Txt) (f : Fo) : H := h10 a b c d f ++ lateO a b c d 10
noncomputable def searchE : E := (.call (.lit (.cst (.ref 294))) [(.var 65), (.var 49), (.call (.lit (.cst (.type "list"))) [(.call (.lit (.cst (.type "range"))) [(.call (.lit (.cst (.builtin "len"))) [(.var 43)])])])])
theorem share_ev (g43 : vars.get 43 = some (.ref 0)) : ev Γ (cfX a b c d f n) 59 (.call (.lit (.cst (.type "list"))) [(.call (.lit (.cst (.type "range"))) [(.call (.lit (.cst (.builtin "len"))) [(.var 43)])])]) vars (h9 a b c d f) = some (.ref 9, h9 a b c d f ++ [share4]) := by
  have e1 : ev Γ (cfX a b c d f n) 57 (.call (.lit (.cst (.builtin "len"))) [(.var 43)]) vars (h9 a b c d f) = some (.int 4, h9 a b c d f) := by
    rw [ev_call, ev_lit]
    dsimp only
    rw [evAll_cons, ev_var, g43]
    dsimp only [Option.map_some]
    rw [evAll_nil]
    rfl
  have e2 : ev Γ (cfX a b c d f n) 58 (.call (.lit (.cst (.type "range"))) [(.call (.lit (.cst (.builtin "len"))) [(.var 43)])]) vars (h9 a b c d f) = some (.rng 0 4, h9 a b c d f) := by
    rw [ev_call, ev_lit]
    dsimp only
    rw [evAll_cons, e1]
    dsimp only
    rw [evAll_nil]
    rfl
  rw [ev_call, ev_lit]
  dsimp only
  rw [evAll_cons, e2]
  dsimp only
  rw [evAll_nil]
  rfl
theorem search_ev (hf : f ∈ F14) (g43 : vars.get 43 = some (.ref 0)) (g65 : vars.get 65 = some (.ref 7)) (g49 : vars.get 49 = some (.ref 6)) : ev Γ (cfX a b c d f n) 60 searchE vars (h9 a b c d f) = some (.int f.val, h10 a b c d f) := by
  rw [searchE, ev_call, ev_lit]
  dsimp only
  rw [evAll_cons, ev_var, g65]
  dsimp only [Option.map_some]
  rw [evAll_cons, ev_var, g49]
  dsimp only [Option.map_some]
  rw [evAll_cons, share_ev g43]
  dsimp only
  rw [evAll_nil]
  dsimp only
  have e := c_search (a := a) (b := b) (c := c) (d := d) (n := n) (σ := h9 a b c d f ++ [share4]) (h := 7) (e := 6) (s := 9) (k := 8) hf (by decide) rfl rfl rfl rfl
  show cfX a b c d f n 294 [.ref 7, .ref 6, .ref 9] [] (h9 a b c d f ++ [share4]) = _
  rw [e]
  rfl
noncomputable def lateE : E := (.call (.lit (.cst (.ref 289))) [(.var 43)])
theorem late_ev (ha : a ∈ L31) (hb : b ∈ L31) (hc : c ∈ L31) (hd : d ∈ L31) (g43 : vars.get 43 = some (.ref 0)) : ev Γ (cfX a b c d f n) 60 lateE vars (h10 a b c d f) = some (.ref 10, h21 a b c d f) := by
  rw [lateE, ev_call, ev_lit]
  dsimp only
  rw [evAll_cons, ev_var, g43]
  dsimp only [Option.map_some]
  rw [evAll_nil]
  dsimp only
  exact c_late (σ := h10 a b c d f) (i := 0) ha hb hc hd rfl
end
end MI.L2
end TPW26
section TPW27
open PySem
set_option linter.unusedVariables false
set_option linter.unusedSimpArgs false
set_option maxRecDepth 100000
namespace MI.L2
noncomputable abbrev Row := Int × Int × Int
theorem flat_rows (σ : H) (n : Nat) : ∀ ps : List Row, mapO (flat σ (n + 2)) (ps.map row3) = some (ps.map row3)
  | [] => rfl
  | (x, y, z) :: r => by
    show (match flat σ (n + 2) (row3 (x, y, z)) with
      | some y => match mapO (flat σ (n + 2)) (r.map row3) with
        | some ys => some (y :: ys)
        | .none => .none
      | .none => .none) = _
    rw [flat_rows σ n r]; rfl
theorem flat_rowsR {σ : H} {r n : Nat} {ps : List Row} (h : σ[r]? = some (.list (ps.map row3))) : flat σ (n + 3) (.ref r) = some (.flist (ps.map row3)) := by
  show (match σ[r]? with
      | some (.list vs) => match mapO (flat σ (n + 2)) vs with
        | some ds => some (V.flist ds)
        | .none => .none
      | _ => .none) = _
  rw [h]
  dsimp only
  rw [flat_rows]
theorem eq_rows_nil {σ : H} {r k : Nat} {ps : List Row} (h : σ[r]? = some (.list (ps.map row3))) (h' : σ[k]? = some (.list [])) : eqV σ (.ref r) (.ref k) = some ps.isEmpty := by
  unfold eqV
  rw [flat_rowsR (n := 9) h, flat_rowsR (n := 9) (ps := []) h']
  cases ps <;> rfl
end MI.L2
end TPW27
section TPW28
open PySem
set_option linter.unusedVariables false
set_option linter.unusedSimpArgs false
set_option maxRecDepth 100000
namespace MI.L2
theorem cFold_junk (p : V → Bool) (g : V → V) (o : O) : ∀ (xs acc : List V) (τ : List O), cFold p (fun v _ => g v) (fun _ _ => [o]) (fun _ _ => []) xs acc τ = (acc ++ (xs.filter p).map g, τ ++ List.replicate xs.length o)
  | [], acc, τ => by simp [cFold]
  | v :: r, acc, τ => by
    unfold cFold
    cases h : p v
    · rw [if_neg (by simp), cFold_junk p g o r, List.filter_cons_of_neg (by simp [h])]
      simp [List.replicate_succ]
    · rw [if_pos rfl, cFold_junk p g o r, List.filter_cons_of_pos h]
      simp [List.replicate_succ]
theorem enumL_mem {v : V} {xs : List V} (h : v ∈ enumL 0 xs) : ∃ (k : Nat) (w : V), xs[k]? = some w ∧ v = .tup [.int (k : Int), w] := by
  refine k11 (List.getElem?_of_mem h) fun k hk => ?_
  rw [enumL_get] at hk
  refine k12 (Option.map_eq_some_iff.mp hk) fun w hw e => ?_
  exact ⟨k, w, hw, by rw [← e, Nat.zero_add]⟩
noncomputable def pD (e : Nat → Bool) (v : V) : Bool := match v with | .tup [.int k, _] => !(e k.toNat) | _ => false
noncomputable def gD (i : Int) (v : V) : V := match v with | .tup [.int k, _] => .int (i + 1 + k) | _ => .none
noncomputable def bD (v : V) (vars : Vars) : Vars := match v with | .tup [x, y] => (vars.set 3 x).set 63 y | _ => vars
noncomputable def neE : E := (.cmp .ne (.var 63) (.list []))
noncomputable def idE : E := (.bin .add (.bin .add (.var 34) (.lit (.int 1))) (.var 3))
noncomputable def dueIn : E := (.comp idE [(.mk (.tup [(.name 3), (.name 63)]) (.enum (.sub (.var 58) (.var 34))) [neE])] [3, 63])
section
variable {cf : Cf} {σ : H} {vars : Vars} {n : Nat}
theorem ne_ev {r : Nat} {ps : List Row} (g : vars.get 63 = some (.ref r)) (h : σ[r]? = some (.list (ps.map row3))) : evIfs (ev Γ cf (n + 3)) [neE] vars σ = some (!ps.isEmpty, σ ++ [.list []]) := by
  have e : ev Γ cf (n + 3) neE vars σ = some (.bool (!ps.isEmpty), σ ++ [.list []]) := by
    have e2 := eq_rows_nil (σ := σ ++ [O.list []]) (k := σ.length) (get_app σ _ h) (get_last σ _)
    rw [neE, ev_cmp, ev_var, g]
    dsimp only [Option.map_some]
    rw [ev_list, evAll_nil]
    dsimp only
    rw [mkL_ok _ (by show 0 ≤ 1000000; decide)]
    dsimp only
    show ((eqV (σ ++ [O.list []]) (.ref r) (.ref σ.length)).map (!·)).map (fun b => (V.bool b, σ ++ [O.list []])) = _
    rw [e2]; rfl
  show (match (match ev Γ cf (n + 3) neE vars σ with
    | some (v, σ') => (truthy v).map (·, σ')
    | .none => .none) with
      | some (qb, σ) => match qb with
        | true => evIfs (ev Γ cf (n + 3)) [] vars σ
        | false => some (false, σ)
      | .none => .none) = _
  rw [e]
  cases ps.isEmpty <;> rfl
theorem id_ev {i k : Int} (g34 : vars.get 34 = some (.int i)) (g3 : vars.get 3 = some (.int k)) (h : 0 ≤ i ∧ i ≤ 100) (h' : 0 ≤ k ∧ k ≤ 100) : ev Γ cf (n + 3) idE vars σ = some (.int (i + 1 + k), σ) := by
  rw [idE, ev_bin, ev_bin, ev_var, g34]
  dsimp only [Option.map_some]
  rw [ev_lit]
  dsimp only
  rw [bin_add, mkI_ok (fit_of (by omega) (by omega))]
  dsimp only [Option.map_some]
  rw [ev_var, g3]
  dsimp only [Option.map_some]
  rw [bin_add, mkI_ok (fit_of (by omega) (by omega))]
  rfl
theorem dueIn_ev {R : List V} {e : Nat → Bool} {i : Int} {L q : Nat} (hi : 0 ≤ i ∧ i ≤ 3) (hR : R.length ≤ 4) (g34 : vars.get 34 = some (.int i)) (g58 : vars.get 58 = some (.ref L)) (s1 : getSub Γ (.ref L) (.int i) σ = some (.ref q)) (s2 : σ[q]? = some (.list R))
    (hr : ∀ k v, R[k]? = some v → ∃ r ps, v = .ref r ∧ σ[r]? = some (.list (List.map row3 ps)) ∧ e k = ps.isEmpty) :
    ev Γ cf (n + 4) dueIn vars σ = some (.ref (σ.length + R.length), σ ++ (List.replicate R.length (.list []) ++ [.list (((enumL 0 R).filter (pD e)).map (gD i))])) := by
  have s0 : ev Γ cf (n + 3) (.sub (.var 58) (.var 34)) vars σ = some (.ref q, σ) := by
    simp only [ev_var, ev_sub, g58, g34, Option.map_some, s1]
  have it0 : evIt (ev Γ cf (n + 3)) (.enum (.sub (.var 58) (.var 34))) vars σ = some (.enum q 0, σ) := by
    unfold evIt
    dsimp only
    rw [s0]
    dsimp only
    rw [s2]
  unfold dueIn
  refine (comp_ev (it := fun k => .enum q k) (xs := enumL 0 R) (σb := σ) (P := fun vars => vars.get 34 = some (.int i)) (bnd := bD) (p := pD e) (g := fun v _ => gD i v) (δi := fun _ _ => [.list []]) (δ := fun _ _ => []) it0 rfl (by rw [enumL_length]; omega) (hands_enum s2) (fun v hv σ vars => ?_) (fun v hv vars h => ?_) ?_ (fun v hv vars τ h => ?_) (fun v hv vars τ h _ => ?_)).trans ?_
  · obtain ⟨k, w, _, rfl⟩ := enumL_mem hv; rfl
  · obtain ⟨k, w, _, rfl⟩ := enumL_mem hv
    show ((vars.set 3 _).set 63 _).get 34 = _
    rw [gs_ne rfl, gs_ne rfl, h]
  · exact g34
  · obtain ⟨k, w, hk, rfl⟩ := enumL_mem hv
    obtain ⟨r, ps, rfl, h1, h2⟩ := hr k w hk
    show evIfs (ev Γ cf (n + 3)) [neE] ((vars.set 3 (.int (k : Int))).set 63 (.ref r)) (σ ++ τ) = _
    rw [ne_ev (gs_self _ _ _) (get_app σ τ h1), List.append_assoc]
    show _ = some (!(e (k : Int).toNat), _)
    rw [Int.toNat_natCast, h2]
  · obtain ⟨k, w, hk, rfl⟩ := enumL_mem hv
    obtain ⟨hk', _⟩ := List.getElem?_eq_some_iff.mp hk
    show ev Γ cf (n + 3) idE ((vars.set 3 (.int (k : Int))).set 63 w) (σ ++ (τ ++ [O.list []])) = _
    rw [id_ev (i := i) (k := (k : Int)) (by show ((vars.set 3 _).set 63 _).get 34 = _; rw [gs_ne rfl, gs_ne rfl, h]) (by show ((vars.set 3 _).set 63 _).get 3 = _; rw [gs_ne rfl, gs_self]) (by omega) (by omega), List.append_nil]
    rfl
  · rw [cFold_junk, List.nil_append, List.nil_append, enumL_length, mkL_ok _ (by
      have := List.length_filter_le (pD e) (enumL 0 R)
      rw [enumL_length] at this
      rw [List.length_map]; omega)]
    rw [List.length_append, List.length_replicate, List.append_assoc]
end
end MI.L2
end TPW28
section TPW29
open PySem
set_option linter.unusedVariables false
set_option linter.unusedSimpArgs false
set_option maxRecDepth 100000
namespace MI.L2
noncomputable def len43E : E := (.call (.lit (.cst (.builtin "len"))) [(.var 43)])
noncomputable def dueMin : E := (.call (.lit (.cst (.builtin "min"))) [(.bin .add dueIn (.list [len43E]))])
noncomputable def dueJ (k : Nat) (rs : List Int) : H := List.replicate k (.list []) ++ [.list (rs.map .int), .list [.int 4], .list (rs.map .int ++ [.int 4])]
theorem intsOf_map : ∀ xs : List Int, intsOf (xs.map V.int) = some xs
  | [] => rfl
  | x :: r => by
    show (intsOf (r.map V.int)).map (x :: ·) = _
    rw [intsOf_map r]; rfl
noncomputable def minL : List Int → Int
  | [] => 0
  | x :: r => minI x r
section
variable {cf : Cf} {σ : H} {vars : Vars} {n : Nat} {a b c d : Txt}
theorem bin_addL {i j : Nat} {xs ys : List V} (h : σ[i]? = some (.list xs)) (h' : σ[j]? = some (.list ys)) (hl : xs.length + ys.length ≤ 1000000) : binop .add (.ref i) (.ref j) σ = some (.ref σ.length, σ ++ [.list (xs ++ ys)]) := by
  show ((lstOf σ (.ref i)).bind fun xs => (lstOf σ (.ref j)).bind fun ys => mkL (xs ++ ys) σ) = _
  rw [lstOf_ref _ h, lstOf_ref _ h']
  exact mkL_ok _ (by rw [List.length_append]; exact hl)
theorem b_min {i : Nat} {x : Int} {r : List Int} (h : σ[i]? = some (.list ((x :: r).map V.int))) : builtin (.builtin "min") [.ref i] σ = some (.int (minI x r), σ) := by
  show ((lstOf σ (.ref i)).bind fun xs => bMin xs σ) = _
  rw [lstOf_ref _ h]
  show ((intsOf ((x :: r).map V.int)).bind fun l => match l with
    | [] => .none
    | x :: r => some (V.int (minI x r), σ)) = _
  rw [intsOf_map]; rfl
theorem len43_ev (g43 : vars.get 43 = some (.ref 0)) (h0 : σ[0]? = some (leadsO a b c d)) : ev Γ cf (n + 2) len43E vars σ = some (.int 4, σ) := by
  have bl : builtin (.builtin "len") [.ref 0] σ = some (.int 4, σ) := by rw [b_len_ref _ h0]; rfl
  rw [len43E, ev_call, ev_lit]
  dsimp only
  rw [evAll_cons, ev_var, g43]
  dsimp only [Option.map_some]
  rw [evAll_nil]
  dsimp only
  rw [callV_builtin, bl]
theorem dueMin_ev {R : List V} {e : Nat → Bool} {i : Int} {L q : Nat} {rs : List Int} (hi : 0 ≤ i ∧ i ≤ 3) (hR : R.length ≤ 4) (g34 : vars.get 34 = some (.int i)) (g58 : vars.get 58 = some (.ref L)) (g43 : vars.get 43 = some (.ref 0)) (h0 : σ[0]? = some (leadsO a b c d)) (s1 : getSub Γ (.ref L) (.int i) σ = some (.ref q)) (s2 : σ[q]? = some (.list R))
    (hr : ∀ k v, R[k]? = some v → ∃ r ps, v = .ref r ∧ σ[r]? = some (.list (List.map row3 ps)) ∧ e k = ps.isEmpty) (hres : ((enumL 0 R).filter (pD e)).map (gD i) = rs.map V.int) (hrl : rs.length ≤ 4) :
    ev Γ cf (n + 6) dueMin vars σ = some (.int (minL (rs ++ [4])), σ ++ dueJ R.length rs) := by
  have e1 := dueIn_ev (cf := cf) (n := n) (e := e) hi hR g34 g58 s1 s2 hr
  rw [hres] at e1
  have lm : (rs.map V.int).length ≤ 4 := by rw [List.length_map]; exact hrl
  have len := len43_ev (cf := cf) (n := n + 1) (σ := σ ++ (List.replicate R.length (O.list []) ++ [.list (rs.map V.int)])) g43 (get_app σ _ h0)
  have hσ : (σ ++ (List.replicate R.length (O.list []) ++ [O.list (rs.map V.int)])).length = σ.length + R.length + 1 := by
    rw [List.length_append, List.length_append, List.length_replicate]; rfl
  have l1 : (σ ++ (List.replicate R.length (O.list []) ++ [O.list (rs.map V.int)]))[σ.length + R.length]? = some (.list (rs.map V.int)) := by
    rw [← List.append_assoc, List.getElem?_append_right (by simp)]; simp
  have bin := bin_addL (σ := (σ ++ (List.replicate R.length (O.list []) ++ [O.list (rs.map V.int)])) ++ [O.list [.int 4]]) (i := σ.length + R.length) (j := σ.length + R.length + 1) (get_app _ [O.list [.int 4]] l1) (by rw [← hσ]; exact get_last _ _) (by show _ + 1 ≤ _; omega)
  have lst : ev Γ cf (n + 4) (.list [len43E]) vars (σ ++ (List.replicate R.length (O.list []) ++ [O.list (rs.map V.int)])) = some (.ref (σ.length + R.length + 1), (σ ++ (List.replicate R.length (O.list []) ++ [O.list (rs.map V.int)])) ++ [O.list [.int 4]]) := by
    rw [ev_list, evAll_cons, len]
    dsimp only
    rw [evAll_nil]
    dsimp only
    rw [mkL_ok _ (by show 1 ≤ 1000000; decide), hσ]
  have add : ev Γ cf (n + 5) (.bin .add dueIn (.list [len43E])) vars σ = some (.ref (σ.length + R.length + 2), σ ++ dueJ R.length rs) := by
    rw [ev_bin, e1]
    dsimp only
    rw [lst]
    dsimp only
    rw [bin]
    simp only [dueJ, List.append_assoc, List.cons_append, List.nil_append, List.length_append, List.length_replicate, List.length_cons, List.length_nil]
    rfl
  rw [dueMin, ev_call, ev_lit]
  dsimp only
  rw [evAll_cons, add]
  dsimp only
  rw [evAll_nil]
  dsimp only
  rw [callV_builtin]
  have l2 : (σ ++ dueJ R.length rs)[σ.length + R.length + 2]? = some (.list ((rs ++ [4]).map V.int)) := by
    rw [dueJ, ← List.append_assoc, List.getElem?_append_right (by simp [Nat.add_assoc]), List.map_append]
    simp [Nat.add_sub_cancel_left]
  cases hrs : rs ++ [4] with
  | nil => simp at hrs
  | cons x r =>
    rw [hrs] at l2
    rw [b_min l2]; rfl
end
end MI.L2
end TPW29
section TPW30
open PySem
set_option linter.unusedVariables false
set_option linter.unusedSimpArgs false
set_option maxRecDepth 100000
namespace MI.L2
noncomputable def resB (i : Int) : Int → List Bool → List Int
  | _, [] => []
  | k, b :: r => if b then resB i (k + 1) r else (i + 1 + k) :: resB i (k + 1) r
noncomputable def eD (bs : List Bool) (k : Nat) : Bool := bs.getD k true
theorem res3 (i : Int) (p q r : Bool) (x y z : V) : ((enumL 0 [x, y, z]).filter (pD (eD [p, q, r]))).map (gD i) = (resB i 0 [p, q, r]).map V.int := by
  cases p <;> cases q <;> cases r <;> rfl
theorem res2 (i : Int) (p q : Bool) (x y : V) : ((enumL 0 [x, y]).filter (pD (eD [p, q]))).map (gD i) = (resB i 0 [p, q]).map V.int := by
  cases p <;> cases q <;> rfl
theorem res1 (i : Int) (p : Bool) (x : V) : ((enumL 0 [x]).filter (pD (eD [p]))).map (gD i) = (resB i 0 [p]).map V.int := by
  cases p <;> rfl
theorem resB_len (i : Int) : ∀ (bs : List Bool) (k : Int), (resB i k bs).length ≤ bs.length
  | [], k => Nat.le_refl _
  | b :: r, k => by
    unfold resB
    have := resB_len i r (k + 1)
    cases b
    · rw [if_neg (by simp)]; simp; exact this
    · rw [if_pos rfl]; simp; omega
/-- the answers of a line and those behind it -/
noncomputable def bsD (p q r s t u : Bool) (v : V) : List Bool := match v with
  | .int 0 => [p, q, r]
  | .int 1 => [s, t]
  | .int 2 => [u]
  | _ => []
noncomputable def iD (v : V) : Int := match v with | .int i => i | _ => 0
noncomputable def mD (p q r s t u : Bool) (v : V) : Int := minL (resB (iD v) 0 (bsD p q r s t u v) ++ [4])
noncomputable def jD (p q r s t u : Bool) (v : V) : H := dueJ (bsD p q r s t u v).length (resB (iD v) 0 (bsD p q r s t u v))
theorem mD_ends : ∀ p q r s t u : Bool, [mD p q r s t u (.int 0), mD p q r s t u (.int 1), mD p q r s t u (.int 2), mD p q r s t u (.int 3)] = endsB (B6 p q r s t u) := by decide +kernel
section
variable {cf : Cf} {σ : H} {vars : Vars} {n : Nat} {a b c d : Txt} {f : Fo}
theorem due_i {R : List V} {i : Int} {q : Nat} {bs : List Bool} {τ : H} (hi : 0 ≤ i ∧ i ≤ 3) (hR : R.length = bs.length) (hb : bs.length ≤ 3) (g34 : vars.get 34 = some (.int i)) (g58 : vars.get 58 = some (.ref 10)) (g43 : vars.get 43 = some (.ref 0))
    (s1 : ((idx 4 i).bind fun j => ([.ref 11, .ref 12, .ref 13, .ref 14] : List V)[j]?) = some (.ref q)) (s2 : (h21 a b c d f)[q]? = some (.list R))
    (hr : ∀ k v, R[k]? = some v → ∃ r ps, v = .ref r ∧ (h21 a b c d f)[r]? = some (.list (List.map row3 ps)) ∧ eD bs k = ps.isEmpty) (hres : ((enumL 0 R).filter (pD (eD bs))).map (gD i) = (resB i 0 bs).map V.int) :
    ev Γ cf (n + 6) dueMin vars (h21 a b c d f ++ τ) = some (.int (minL (resB i 0 bs ++ [4])), h21 a b c d f ++ (τ ++ dueJ bs.length (resB i 0 bs))) := by
  have l10 : (h21 a b c d f)[10]? = some (.list [.ref 11, .ref 12, .ref 13, .ref 14]) := rfl
  rw [dueMin_ev (cf := cf) (n := n) (e := eD bs) (rs := resB i 0 bs) (a := a) (b := b) (c := c) (d := d) hi (by omega) g34 g58 g43 (get_app _ τ rfl) (sub_list i (get_app _ τ l10) s1) (get_app _ τ s2) (fun k v e => by
    refine k23 (hr k v e) fun r ps e1 e2 e3 => ?_
    exact ⟨r, ps, e1, get_app _ τ e2, e3⟩) hres (by have := resB_len i bs 0; omega)]
  rw [hR, List.append_assoc]
noncomputable def due7E : E := (.comp dueMin [(.mk (.name 34) (.plain (.call (.lit (.cst (.type "range"))) [len43E])) [])] [34])
theorem row_e {x y : Txt} (hx : x ∈ L31) (hy : y ∈ L31) : lessL x y = (rowsL x y).isEmpty := (less_L x hx y hy).2.2.symm
end
noncomputable def h39 (a b c d : Txt) (f : Fo) : H := h21 a b c d f ++ (((jD (lessL a b) (lessL a c) (lessL a d) (lessL b c) (lessL b d) (lessL c d) (.int 0) ++ jD (lessL a b) (lessL a c) (lessL a d) (lessL b c) (lessL b d) (lessL c d) (.int 1)) ++ jD (lessL a b) (lessL a c) (lessL a d) (lessL b c) (lessL b d) (lessL c d) (.int 2)) ++ jD (lessL a b) (lessL a c) (lessL a d) (lessL b c) (lessL b d) (lessL c d) (.int 3))
theorem due_mk {a b c d : Txt} {f : Fo} {p q r s t u : Bool} : mkL (cFold (fun _ => true) (fun v _ => .int (mD p q r s t u v)) (fun _ _ => []) (fun v _ => jD p q r s t u v) [.int 0, .int 1, .int 2, .int 3] [] []).1 (h21 a b c d f ++ (cFold (fun _ => true) (fun v _ => .int (mD p q r s t u v)) (fun _ _ => []) (fun v _ => jD p q r s t u v) [.int 0, .int 1, .int 2, .int 3] [] []).2) = some (.ref 39, (h21 a b c d f ++ (((jD p q r s t u (.int 0) ++ jD p q r s t u (.int 1)) ++ jD p q r s t u (.int 2)) ++ jD p q r s t u (.int 3))) ++ [.list ([mD p q r s t u (.int 0), mD p q r s t u (.int 1), mD p q r s t u (.int 2), mD p q r s t u (.int 3)].map V.int)]) := by kernel_rfl
section
variable {cf : Cf} {σ : H} {vars : Vars} {n : Nat} {a b c d : Txt} {f : Fo}
theorem due7_ev (ha : a ∈ L31) (hb : b ∈ L31) (hc : c ∈ L31) (hd : d ∈ L31) (hf : f.ends = endsB (B6 (lessL a b) (lessL a c) (lessL a d) (lessL b c) (lessL b d) (lessL c d))) (g58 : vars.get 58 = some (.ref 10)) (g43 : vars.get 43 = some (.ref 0)) :
    ev Γ cf 60 due7E vars (h21 a b c d f) = some (.ref 39, h39 a b c d f ++ [endsO f]) := by
  have r1 : ev Γ cf 59 (.call (.lit (.cst (.type "range"))) [len43E]) vars (h21 a b c d f) = some (.rng 0 4, h21 a b c d f) := by
    rw [ev_call, ev_lit]
    dsimp only
    rw [evAll_cons, len43_ev (a := a) (b := b) (c := c) (d := d) g43 rfl]
    dsimp only
    rw [evAll_nil]
    rfl
  have s1 : evIt (ev Γ cf 59) (.plain (.call (.lit (.cst (.type "range"))) [len43E])) vars (h21 a b c d f) = some (.one (.vs (([.int 0, .int 1, .int 2, .int 3] : List V).drop 0)), h21 a b c d f) := by
    unfold evIt
    dsimp only
    rw [r1]
    rfl
  unfold due7E
  refine (comp_ev (n := 59) (it := fun k => .one (.vs (([.int 0, .int 1, .int 2, .int 3] : List V).drop k))) (xs := [.int 0, .int 1, .int 2, .int 3]) (σb := h21 a b c d f) (P := fun vars => vars.get 58 = some (.ref 10) ∧ vars.get 43 = some (.ref 0)) (bnd := fun v vars => vars.set 34 v) (p := fun _ => true) (g := fun v _ => .int (mD (lessL a b) (lessL a c) (lessL a d) (lessL b c) (lessL b d) (lessL c d) v)) (δi := fun _ _ => []) (δ := fun v _ => jD (lessL a b) (lessL a c) (lessL a d) (lessL b c) (lessL b d) (lessL c d) v) s1 rfl (by show 4 < 1999; decide) (hands_vs _) (fun v hv σ vars => rfl) (fun v _ vars h => ⟨by rw [gs_ne rfl, h.1], by rw [gs_ne rfl, h.2]⟩) ?_ (fun _ _ _ _ _ => by rw [List.append_nil]; rfl) (fun v hv vars τ h _ => ?_)).trans ?_
  · exact ⟨g58, g43⟩
  · rw [List.append_nil]
    have k58 : (vars.set 34 v).get 58 = some (.ref 10) := by rw [gs_ne rfl, h.1]
    have k43 : (vars.set 34 v).get 43 = some (.ref 0) := by rw [gs_ne rfl, h.2]
    have k34 : (vars.set 34 v).get 34 = some v := gs_self _ _ _
    simp only [List.mem_cons, List.not_mem_nil, or_false] at hv
    rcases hv with rfl | rfl | rfl | rfl
    · exact due_i (n := 53) (i := 0) (q := 11) (bs := [lessL a b, lessL a c, lessL a d]) (R := [.ref 15, .ref 16, .ref 17]) (by decide) rfl (by show 3 ≤ 3; decide) k34 k58 k43 rfl rfl (fun k v e => by
        match k, e with
        | 0, e => (refine si e fun q3 => ?_; subst q3; clear e); exact ⟨15, rowsL a b, rfl, rfl, row_e ha hb⟩
        | 1, e => (refine si e fun q5 => ?_; subst q5; clear e); exact ⟨16, rowsL a c, rfl, rfl, row_e ha hc⟩
        | 2, e => (refine si e fun q7 => ?_; subst q7; clear e); exact ⟨17, rowsL a d, rfl, rfl, row_e ha hd⟩
        | k + 3, e => simp at e) (res3 _ _ _ _ _ _ _)
    · exact due_i (n := 53) (i := 1) (q := 12) (bs := [lessL b c, lessL b d]) (R := [.ref 18, .ref 19]) (by decide) rfl (by show 2 ≤ 3; decide) k34 k58 k43 rfl rfl (fun k v e => by
        match k, e with
        | 0, e => (refine si e fun q9 => ?_; subst q9; clear e); exact ⟨18, rowsL b c, rfl, rfl, row_e hb hc⟩
        | 1, e => (refine si e fun q11 => ?_; subst q11; clear e); exact ⟨19, rowsL b d, rfl, rfl, row_e hb hd⟩
        | k + 2, e => simp at e) (res2 _ _ _ _ _)
    · exact due_i (n := 53) (i := 2) (q := 13) (bs := [lessL c d]) (R := [.ref 20]) (by decide) rfl (by show 1 ≤ 3; decide) k34 k58 k43 rfl rfl (fun k v e => by
        match k, e with
        | 0, e => (refine si e fun q13 => ?_; subst q13; clear e); exact ⟨20, rowsL c d, rfl, rfl, row_e hc hd⟩
        | k + 1, e => simp at e) (res1 _ _ _)
    · exact due_i (n := 53) (i := 3) (q := 14) (bs := []) (R := []) (by decide) rfl (by show 0 ≤ 3; decide) k34 k58 k43 rfl rfl (fun k v e => by simp at e) rfl
  · rw [due_mk, mD_ends, ← hf]
    rfl
end
end MI.L2
end TPW30
section TPW31
open PySem
set_option linter.unusedVariables false
set_option linter.unusedSimpArgs false
set_option maxRecDepth 100000
namespace MI.L2
noncomputable def sliceE : E := (.slice (.var 48) (some (.bin .add (.var 34) (.lit (.int 1)))) .none .none)
noncomputable def witE : E := (.callM (.sub (.var 48) (.var 34)) 40 [(.var 36)] [])
noncomputable def witIn : E := (.comp witE [(.mk (.name 36) (.plain sliceE) [])] [36])
noncomputable def wD (a b c d : Txt) (i : Nat) (v : V) : O := match v with | .ref r => .list ((rowsL (Q4 a b c d i) (Q4 a b c d (r - 1))).map row3) | _ => .list []
noncomputable def witJ (a b c d : Txt) (i N : Nat) : H := [.list (refsFrom (i + 2) (3 - i))] ++ ((refsFrom (i + 2) (3 - i)).map (wD a b c d i) ++ [.list (refsFrom (N + 1) (3 - i))])
section
variable {σ : H} {vars : Vars} {n m : Nat} {a b c d : Txt} {f : Fo}
theorem slice5 (G : WG a b c d σ) (i : Nat) (hi : i < 4) : getSlice (.ref 5) (.int ((i : Int) + 1)) .none .none σ = some (.ref σ.length, σ ++ [.list (refsFrom (i + 2) (3 - i))]) := by
  have key : ∀ xs : List V, cutAt [.ref 1, .ref 2, .ref 3, .ref 4] (some ((i : Int) + 1)) .none .none = xs → xs.length ≤ 1000000 → getSlice (.ref 5) (.int ((i : Int) + 1)) .none .none σ = some (.ref σ.length, σ ++ [.list xs]) := fun xs e h => by
    show (match σ[5]? with
      | some (.list xs) => mkL (cutAt xs (some ((i : Int) + 1)) .none .none) σ
      | _ => .none) = _
    rw [G.l5]
    dsimp only
    rw [e, mkL_ok _ h]
  have e : ∀ i : Nat, i < 4 → (cutAt [.ref 1, .ref 2, .ref 3, .ref 4] (some ((i : Int) + 1)) .none .none).length ≤ 4 ∧ cutAt [.ref 1, .ref 2, .ref 3, .ref 4] (some ((i : Int) + 1)) .none .none = refsFrom (i + 2) (3 - i) := by
    intro i hi
    rcases (by omega : i = 0 ∨ i = 1 ∨ i = 2 ∨ i = 3) with q | q | q | q <;> rw [q] <;> exact ⟨by decide +kernel, rfl⟩
  exact key _ (e i hi).2 (by rw [← (e i hi).2]; exact Nat.le_trans (e i hi).1 (by decide))
theorem slice_ev {cf : Cf} (G : WG a b c d σ) (i : Nat) (hi : i < 4) (g48 : vars.get 48 = some (.ref 5)) (g34 : vars.get 34 = some (.int (i : Int))) : ev Γ cf (m + 3) sliceE vars σ = some (.ref σ.length, σ ++ [.list (refsFrom (i + 2) (3 - i))]) := by
  have e1 : ev Γ cf (m + 2) (.bin .add (.var 34) (.lit (.int 1))) vars σ = some (.int ((i : Int) + 1), σ) := by
    rw [ev_bin, ev_var, g34]
    dsimp only [Option.map_some]
    rw [ev_lit]
    dsimp only
    rw [bin_add, mkI_ok (fit_of (by omega) (by omega))]; rfl
  rw [sliceE, ev_slice, ev_var, g48]
  dsimp only [Option.map_some]
  rw [evOpt_some, e1]
  dsimp only
  rw [evOpt_none]
  dsimp only
  exact slice5 G i hi
theorem wit_ev {i j : Nat} (ha : a ∈ L31) (hb : b ∈ L31) (hc : c ∈ L31) (hd : d ∈ L31) (G : WG a b c d σ) (hi : i < 4) (hj : j < 4) (g48 : vars.get 48 = some (.ref 5)) (g34 : vars.get 34 = some (.int (i : Int))) (g36 : vars.get 36 = some (.ref (j + 1))) :
    ev Γ (cfX a b c d f (n + 2)) (m + 4) witE vars σ = some (.ref σ.length, σ ++ [.list ((rowsL (Q4 a b c d i) (Q4 a b c d j)).map row3)]) := by
  have s1 : ev Γ (cfX a b c d f (n + 2)) (m + 3) (.sub (.var 48) (.var 34)) vars σ = some (.ref (i + 1), σ) := by
    simp only [ev_sub, ev_var, g48, g34, Option.map_some, sub5 G i hi]
  have m1 : methOf Γ (.ref (i + 1)) 40 σ = some (.fn 234 (.ref (i + 1))) := meth_ok Γ σ (G.w i hi) rfl rfl
  rw [witE, ev_callM, s1]
  dsimp only
  rw [m1]
  dsimp only
  rw [evAll_cons, ev_var, g36]
  dsimp only [Option.map_some]
  rw [evAll_nil]
  dsimp only
  rw [evKw_nil]
  dsimp only
  rw [apply_fn]
  exact c_wit (q4_L ha hb hc hd i) (q4_L ha hb hc hd j) (G.w i hi) (G.w j hj)
theorem witIn_ev {i : Nat} (ha : a ∈ L31) (hb : b ∈ L31) (hc : c ∈ L31) (hd : d ∈ L31) (G : WG a b c d σ) (hi : i < 4) (g48 : vars.get 48 = some (.ref 5)) (g34 : vars.get 34 = some (.int (i : Int))) :
    ev Γ (cfX a b c d f (n + 2)) (m + 5) witIn vars σ = some (.ref (σ.length + 1 + (3 - i)), σ ++ witJ a b c d i σ.length) := by
  have it0 : evIt (ev Γ (cfX a b c d f (n + 2)) (m + 4)) (.plain sliceE) vars σ = some (.one (.ls σ.length 0), σ ++ [.list (refsFrom (i + 2) (3 - i))]) := by
    have z : zcOf (.ref σ.length) (σ ++ [O.list (refsFrom (i + 2) (3 - i))]) = some (.ls σ.length 0) := zcOf_ref (get_last σ _)
    unfold evIt
    dsimp only
    rw [slice_ev (m := m + 1) G i hi g48 g34]
    dsimp only
    rw [z]; rfl
  unfold witIn
  refine (comp_ev (it := fun k => .one (.ls σ.length k)) (xs := refsFrom (i + 2) (3 - i)) (σb := σ ++ [.list (refsFrom (i + 2) (3 - i))]) (P := fun vars => vars.get 48 = some (.ref 5) ∧ vars.get 34 = some (.int (i : Int))) (bnd := fun v vars => vars.set 36 v) (p := fun _ => true) (g := fun _ τ => .ref ((σ.length + 1) + τ.length)) (δi := fun _ _ => []) (δ := fun v _ => [wD a b c d i v]) it0 rfl (by rw [refs_len]; omega) (hands_ls (get_last σ _)) (fun v hv σ vars => rfl) (fun v _ vars h => ⟨by rw [gs_ne rfl, h.1], by rw [gs_ne rfl, h.2]⟩) ?_ (fun _ _ _ _ _ => by rw [List.append_nil]; rfl) (fun v hv vars τ h _ => ?_)).trans ?_
  · exact ⟨g48, g34⟩
  · refine k12 (refs_mem hv) fun k hk q1 => ?_; subst q1
    rw [List.append_nil, wit_ev (n := n) (m := m) (i := i) (j := i + 1 + k) ha hb hc hd ((G.app _).app τ) hi (by omega) (by rw [gs_ne rfl, h.1]) (by rw [gs_ne rfl, h.2]) (by rw [gs_self]; congr 2; omega)]
    rw [List.append_assoc _ τ]
    rw [List.length_append, List.length_append]
    show _ = some (V.ref (σ.length + 1 + τ.length), (σ ++ [O.list (refsFrom (i + 2) (3 - i))]) ++ (τ ++ [O.list ((rowsL (Q4 a b c d i) (Q4 a b c d (i + 2 + k - 1))).map row3)]))
    rw [show i + 2 + k - 1 = i + 1 + k by omega]
    rfl
  · rw [cFold_one, mkL_ok _ (by rw [List.nil_append, refs_len, refs_len]; omega)]
    simp only [witJ, List.nil_append, List.length_append, List.length_map, refs_len, List.length_cons, List.length_nil, List.append_assoc, Nat.add_zero, Nat.zero_add]
    rw [Nat.add_assoc]
end
end MI.L2
end TPW31
section TPW32
open PySem
set_option linter.unusedVariables false
set_option linter.unusedSimpArgs false
set_option maxRecDepth 100000
namespace MI.L2
theorem aT {a b : Bool} (h1 : a = true) (h2 : b = true) : (a && b) = true := Bool.and_eq_true_iff.mpr ⟨h1, h2⟩
theorem eqDs_ints (xs : List Int) : eqDs (xs.map V.int) (xs.map V.int) = true := by
  induction xs with
  | nil => rfl
  | cons x r ih => exact aT (beq_self_eq_true x) ih
theorem eqD_row (p : Row) : eqD (row3 p) (row3 p) = true := aT (beq_self_eq_true p.1) (aT (beq_self_eq_true p.2.1) (aT (beq_self_eq_true p.2.2) rfl))
theorem eqDs_rows (xs : List Row) : eqDs (xs.map row3) (xs.map row3) = true := by
  induction xs with
  | nil => rfl
  | cons x r ih => exact aT (eqD_row x) ih
theorem flat_ints (σ : H) (n : Nat) : ∀ xs : List Int, mapO (flat σ (n + 1)) (xs.map V.int) = some (xs.map V.int)
  | [] => rfl
  | x :: r => by
    show (match flat σ (n + 1) (.int x) with
      | some y => match mapO (flat σ (n + 1)) (r.map V.int) with
        | some ys => some (y :: ys)
        | .none => .none
      | .none => .none) = _
    rw [flat_ints σ n r]; rfl
theorem flat_ref {σ : H} {r n : Nat} {vs ds : List V} (h : σ[r]? = some (.list vs)) (e : mapO (flat σ n) vs = some ds) : flat σ (n + 1) (.ref r) = some (.flist ds) := by
  show (match σ[r]? with
      | some (.list vs) => match mapO (flat σ n) vs with
        | some ds => some (V.flist ds)
        | .none => .none
      | _ => .none) = _
  rw [h]
  dsimp only
  rw [e]
theorem mapO_nil (f : V → Option V) : mapO f [] = some [] := rfl
theorem mapO_cons {f : V → Option V} {x y : V} {r ys : List V} (h : f x = some y) (e : mapO f r = some ys) : mapO f (x :: r) = some (y :: ys) := by
  show (match f x with
      | some y => match mapO f r with
        | some ys => some (y :: ys)
        | .none => .none
      | .none => .none) = _
  rw [h, e]
theorem eq_ints {σ : H} {i j : Nat} {xs : List Int} (h : σ[i]? = some (.list (xs.map V.int))) (h' : σ[j]? = some (.list (xs.map V.int))) : eqV σ (.ref i) (.ref j) = some true := by
  unfold eqV
  rw [flat_ref h (flat_ints σ 10 xs), flat_ref h' (flat_ints σ 10 xs)]
  exact congrArg some (eqDs_ints xs)
noncomputable def RF (x y : Txt) : V := .flist ((rowsL x y).map row3)
noncomputable def DF (a b c d : Txt) : V := .flist [.flist [RF a b, RF a c, RF a d], .flist [RF b c, RF b d], .flist [RF c d], .flist []]
theorem eqD_RF (x y : Txt) : eqD (RF x y) (RF x y) = true := by
  exact eqDs_rows (rowsL x y)
theorem eqD_DF (a b c d : Txt) : eqD (DF a b c d) (DF a b c d) = true := by
  exact aT (aT (eqD_RF a b) (aT (eqD_RF a c) (aT (eqD_RF a d) rfl))) (aT (aT (eqD_RF b c) (aT (eqD_RF b d) rfl)) (aT (aT (eqD_RF c d) rfl) rfl))
noncomputable def wit8E : E := (.comp witIn [(.mk (.name 34) (.plain (.call (.lit (.cst (.type "range"))) [lenE])) [])] [34])
section
variable {σ : H} {vars : Vars} {n m : Nat} {a b c d : Txt} {f : Fo}
theorem flat_RF {r k : Nat} {x y : Txt} (h : σ[r]? = some (.list ((rowsL x y).map row3))) : flat σ (k + 3) (.ref r) = some (RF x y) := flat_rowsR h
theorem flat_DF {r r0 r1 r2 r3 p q s t u v : Nat} (e : σ[r]? = some (.list [.ref r0, .ref r1, .ref r2, .ref r3])) (e0 : σ[r0]? = some (.list [.ref p, .ref q, .ref s])) (e1 : σ[r1]? = some (.list [.ref t, .ref u])) (e2 : σ[r2]? = some (.list [.ref v])) (e3 : σ[r3]? = some (.list []))
    (hp : σ[p]? = some (.list ((rowsL a b).map row3))) (hq : σ[q]? = some (.list ((rowsL a c).map row3))) (hs : σ[s]? = some (.list ((rowsL a d).map row3))) (ht : σ[t]? = some (.list ((rowsL b c).map row3))) (hu : σ[u]? = some (.list ((rowsL b d).map row3))) (hv : σ[v]? = some (.list ((rowsL c d).map row3))) :
    flat σ 12 (.ref r) = some (DF a b c d) :=
  flat_ref e (mapO_cons (flat_ref e0 (mapO_cons (flat_RF (k := 7) hp) (mapO_cons (flat_RF (k := 7) hq) (mapO_cons (flat_RF (k := 7) hs) (mapO_nil _))))) (mapO_cons (flat_ref e1 (mapO_cons (flat_RF (k := 7) ht) (mapO_cons (flat_RF (k := 7) hu) (mapO_nil _)))) (mapO_cons (flat_ref e2 (mapO_cons (flat_RF (k := 7) hv) (mapO_nil _))) (mapO_cons (flat_ref e3 (mapO_nil _)) (mapO_nil _)))))
end
noncomputable def h40 (a b c d : Txt) (f : Fo) : H := h39 a b c d f ++ [endsO f]
noncomputable def h54 (a b c d : Txt) (f : Fo) : H := h40 a b c d f ++ (((witJ a b c d 0 40 ++ witJ a b c d 1 45) ++ witJ a b c d 2 49) ++ witJ a b c d 3 52)
noncomputable def h55 (a b c d : Txt) (f : Fo) : H := h54 a b c d f ++ [.list [.ref 44, .ref 48, .ref 51, .ref 53]]
noncomputable def gW (v : V) (τ : List O) : V := .ref ((40 + τ.length) + 1 + (3 - (iD v).toNat))
noncomputable def dW (a b c d : Txt) (v : V) (τ : List O) : H := witJ a b c d (iD v).toNat (40 + τ.length)
theorem wit_mk {a b c d : Txt} {f : Fo} : mkL (cFold (fun _ => true) gW (fun _ _ => []) (dW a b c d) [.int 0, .int 1, .int 2, .int 3] [] []).1 (h40 a b c d f ++ (cFold (fun _ => true) gW (fun _ _ => []) (dW a b c d) [.int 0, .int 1, .int 2, .int 3] [] []).2) = some (.ref 54, h55 a b c d f) := by kernel_rfl
theorem h40_len {a b c d : Txt} {f : Fo} : (h40 a b c d f).length = 40 := by kernel_rfl
theorem wg40 {a b c d : Txt} {f : Fo} : WG a b c d (h40 a b c d f) := by
  have e : h40 a b c d f = ((((h6 a b c d ++ [endsO f]) ++ [.inst 171 [(2, .ref 8)], .list (f.hd.map tup2), share4]) ++ lateO a b c d 10) ++ (((jD (lessL a b) (lessL a c) (lessL a d) (lessL b c) (lessL b d) (lessL c d) (.int 0) ++ jD (lessL a b) (lessL a c) (lessL a d) (lessL b c) (lessL b d) (lessL c d) (.int 1)) ++ jD (lessL a b) (lessL a c) (lessL a d) (lessL b c) (lessL b d) (lessL c d) (.int 2)) ++ jD (lessL a b) (lessL a c) (lessL a d) (lessL b c) (lessL b d) (lessL c d) (.int 3))) ++ [endsO f] := rfl
  rw [e]
  exact ((((wg6.app _).app _).app _).app _).app _
section
variable {σ : H} {vars : Vars} {n m : Nat} {a b c d : Txt} {f : Fo}
theorem wit8_ev (ha : a ∈ L31) (hb : b ∈ L31) (hc : c ∈ L31) (hd : d ∈ L31) (g48 : vars.get 48 = some (.ref 5)) :
    ev Γ (cfX a b c d f (n + 2)) 59 wit8E vars (h40 a b c d f) = some (.ref 54, h55 a b c d f) := by
  have G : WG a b c d (h40 a b c d f) := wg40
  have r1 : ev Γ (cfX a b c d f (n + 2)) 58 (.call (.lit (.cst (.type "range"))) [lenE]) vars (h40 a b c d f) = some (.rng 0 4, h40 a b c d f) := by
    rw [ev_call, ev_lit]
    dsimp only
    rw [evAll_cons, ev_len48 (m := 54) G g48]
    dsimp only
    rw [evAll_nil]
    rfl
  have s1 : evIt (ev Γ (cfX a b c d f (n + 2)) 58) (.plain (.call (.lit (.cst (.type "range"))) [lenE])) vars (h40 a b c d f) = some (.one (.vs (([.int 0, .int 1, .int 2, .int 3] : List V).drop 0)), h40 a b c d f) := by
    unfold evIt
    dsimp only
    rw [r1]
    rfl
  unfold wit8E
  refine (comp_ev (n := 58) (it := fun k => .one (.vs (([.int 0, .int 1, .int 2, .int 3] : List V).drop k))) (xs := [.int 0, .int 1, .int 2, .int 3]) (σb := h40 a b c d f) (P := fun vars => vars.get 48 = some (.ref 5)) (bnd := fun v vars => vars.set 34 v) (p := fun _ => true) (g := gW) (δi := fun _ _ => []) (δ := dW a b c d) s1 rfl (by show 4 < 1999; decide) (hands_vs _) (fun v hv σ vars => rfl) (fun v _ vars h => by rw [gs_ne rfl, h]) ?_ (fun _ _ _ _ _ => by rw [List.append_nil]; rfl) (fun v hv vars τ h _ => ?_)).trans wit_mk
  · exact g48
  have key : ∀ i : Nat, i < 4 → ev Γ (cfX a b c d f (n + 2)) 58 witIn (vars.set 34 (.int (i : Int))) (h40 a b c d f ++ (τ ++ [])) = some (gW (.int (i : Int)) τ, h40 a b c d f ++ (τ ++ [] ++ dW a b c d (.int (i : Int)) τ)) := fun i hi => by
    rw [List.append_nil, witIn_ev (n := n) (m := 53) ha hb hc hd (G.app τ) hi (by rw [gs_ne rfl, h]) (gs_self _ _ _)]
    rw [List.length_append, h40_len, List.append_assoc]
    show _ = some (V.ref ((40 + τ.length) + 1 + (3 - (i : Int).toNat)), h40 a b c d f ++ (τ ++ witJ a b c d (i : Int).toNat (40 + τ.length)))
    rw [Int.toNat_natCast]
  simp only [List.mem_cons, List.not_mem_nil, or_false] at hv
  rcases hv with rfl | rfl | rfl | rfl
  · exact key 0 (by omega)
  · exact key 1 (by omega)
  · exact key 2 (by omega)
  · exact key 3 (by omega)
noncomputable def neEnds : E := (.cmp .ne (.var 49) (.var 88))
noncomputable def neWit : E := (.cmp .ne wit8E (.var 58))
theorem flat54 : flat (h55 a b c d f) 12 (.ref 54) = some (DF a b c d) :=
  flat_DF (r0 := 44) (r1 := 48) (r2 := 51) (r3 := 53) (p := 41) (q := 42) (s := 43) (t := 46) (u := 47) (v := 50) (by kernel_rfl) (by kernel_rfl) (by kernel_rfl) (by kernel_rfl) (by kernel_rfl) (by kernel_rfl) (by kernel_rfl) (by kernel_rfl) (by kernel_rfl) (by kernel_rfl) (by kernel_rfl)
theorem flat10 : flat (h55 a b c d f) 12 (.ref 10) = some (DF a b c d) :=
  flat_DF (r0 := 11) (r1 := 12) (r2 := 13) (r3 := 14) (p := 15) (q := 16) (s := 17) (t := 18) (u := 19) (v := 20) (by kernel_rfl) (by kernel_rfl) (by kernel_rfl) (by kernel_rfl) (by kernel_rfl) (by kernel_rfl) (by kernel_rfl) (by kernel_rfl) (by kernel_rfl) (by kernel_rfl) (by kernel_rfl)
theorem s8_ev {ys : List S} (ha : a ∈ L31) (hb : b ∈ L31) (hc : c ∈ L31) (hd : d ∈ L31) (g48 : vars.get 48 = some (.ref 5)) (g49 : vars.get 49 = some (.ref 6)) (g88 : vars.get 88 = some (.ref 39)) (g58 : vars.get 58 = some (.ref 10)) :
    ex Γ (cfX a b c d f (n + 2)) 60 (m + 2) (.ite (.or neEnds neWit) ys []) vars (h40 a b c d f) = some (.next, vars, h55 a b c d f) := by
  have q1 : eqV (h40 a b c d f) (.ref 6) (.ref 39) = some true := eq_ints (xs := f.ends) (by kernel_rfl) (by kernel_rfl)
  have q2 : eqV (h55 a b c d f) (.ref 54) (.ref 10) = some true := by
    unfold eqV
    rw [flat54, flat10]
    dsimp only
    rw [eqD_DF]
  have e1 : evB (ev Γ (cfX a b c d f (n + 2)) 60) neEnds vars (h40 a b c d f) = some (false, h40 a b c d f) := by
    rw [neEnds, evB_cmp, ev_cmp, ev_var, g49]
    dsimp only [Option.map_some]
    rw [ev_var, g88]
    dsimp only [Option.map_some]
    rw [show cmpop Γ .ne (.ref 6) (.ref 39) (h40 a b c d f) = (eqV (h40 a b c d f) (.ref 6) (.ref 39)).map (!·) from rfl, q1]
    rfl
  have e2 : evB (ev Γ (cfX a b c d f (n + 2)) 60) neWit vars (h40 a b c d f) = some (false, h55 a b c d f) := by
    rw [neWit, evB_cmp, ev_cmp, wit8_ev (n := n) ha hb hc hd g48]
    dsimp only
    rw [ev_var, g58]
    dsimp only [Option.map_some]
    rw [show cmpop Γ .ne (.ref 54) (.ref 10) (h55 a b c d f) = (eqV (h55 a b c d f) (.ref 54) (.ref 10)).map (!·) from rfl, q2]
    rfl
  rw [ex_ite, evB_or, e1]
  dsimp only
  rw [e2]
  rfl
end
end MI.L2
end TPW32
section TPW33
open PySem
set_option linter.unusedVariables false
set_option linter.unusedSimpArgs false
set_option maxRecDepth 100000
namespace MI.L2
/-- the heap before the table is asked again -/
noncomputable def hx (x : Nat → O) (f : Fo) : H := [x 0, x 1, x 2, x 3, x 4, x 5, endsO f, .inst 171 [(2, .ref 8)], .list (f.hd.map tup2), x 9, x 10, x 11, x 12, x 13, x 14, x 15, x 16, x 17, x 18, x 19, x 20, x 21, x 22, x 23, x 24, x 25, x 26, x 27, x 28, x 29, x 30, x 31, x 32, x 33, x 34, x 35, x 36, x 37, x 38, endsO f, x 40, x 41, x 42, x 43, x 44, x 45, x 46, x 47, x 48, x 49, x 50, x 51, x 52, x 53, x 54, .list (f.due.map tup2)]
theorem h56_hx {a b c d : Txt} {f : Fo} : h55 a b c d f ++ [.list (f.due.map tup2)] = hx (fun i => ((h55 a b c d f)[i]?).getD default) f := by kernel_rfl
noncomputable def tail3 : List S := F_law.body.drop 9
noncomputable def vx (v : V) (f : Fo) : Vars := [(42, some v), (43, some (.ref 0)), (48, some (.ref 5)), (49, some (.ref 6)), (65, some (.ref 7)), (71, some (.int f.val)), (58, some (.ref 10)), (88, some (.ref 39)), (85, some (.ref 55))]
theorem tail_allA (a b c d : Txt) (x : Nat → O) (v : V) : ∀ f ∈ F14.take 5, (exs Γ (cfX a b c d f 18) 60 51 tail3 (vx v f) (hx x f)).map (·.1) = some (.ret (.bool true)) := tabA_get (by kernel_rfl)
theorem tail_allB (a b c d : Txt) (x : Nat → O) (v : V) : ∀ f ∈ (F14.drop 5).take 5, (exs Γ (cfX a b c d f 18) 60 51 tail3 (vx v f) (hx x f)).map (·.1) = some (.ret (.bool true)) := tabA_get (by kernel_rfl)
theorem tail_allC (a b c d : Txt) (x : Nat → O) (v : V) : ∀ f ∈ F14.drop 10, (exs Γ (cfX a b c d f 18) 60 51 tail3 (vx v f) (hx x f)).map (·.1) = some (.ret (.bool true)) := tabA_get (by kernel_rfl)
theorem tail_all (a b c d : Txt) (x : Nat → O) (v : V) : ∀ f ∈ F14, (exs Γ (cfX a b c d f 18) 60 51 tail3 (vx v f) (hx x f)).map (·.1) = some (.ret (.bool true)) := split14 (tail_allA a b c d x v) (tail_allB a b c d x v) (tail_allC a b c d x v)
end MI.L2
end TPW33
section TPW34
open PySem
set_option linter.unusedVariables false
set_option linter.unusedSimpArgs false
set_option maxRecDepth 100000
namespace MI.L2
noncomputable def callLeads : E := (.call (.lit (.cst (.ref 270))) [(.var 42)])
noncomputable def callEnds : E := (.call (.lit (.cst (.ref 277))) [(.var 48)])
noncomputable def callHd : E := (.call (.lit (.cst (.ref 171))) [])
noncomputable def callDue : E := (.call (.lit (.cst (.ref 318))) [(.var 88)])
theorem law_body : F_law = ⟨[42], [], [], .none, .names [43] callLeads :: .names [48] whitesE :: .names [49] callEnds :: .names [65] callHd :: .names [71] searchE :: .names [58] lateE :: .names [88] due7E :: .ite (.or neEnds neWit) [.ret (some (.lit (.bool false)))] [] :: .names [85] callDue :: tail3⟩ := rfl
section
variable {a b c d : Txt} {f : Fo} {v : V} {vars : Vars} {n : Nat}
theorem hd_ev : ev Γ (cfX a b c d f 18) 60 callHd vars (h7 a b c d f) = some (.ref 7, h9 a b c d f) := by
  rw [callHd, ev_call, ev_lit]
  dsimp only
  rw [evAll_nil]
  dsimp only
  exact new_headers (n := 16)
theorem ends_ev (ha : a ∈ L31) (hb : b ∈ L31) (hc : c ∈ L31) (hd : d ∈ L31) (hf : f.ends = endsB (B6 (lessL a b) (lessL a c) (lessL a d) (lessL b c) (lessL b d) (lessL c d))) (g : vars.get 48 = some (.ref 5)) : ev Γ (cfX a b c d f 18) 60 callEnds vars (h6 a b c d) = some (.ref 6, h7 a b c d f) := by
  rw [callEnds, ev_call, ev_lit]
  dsimp only
  rw [evAll_cons, ev_var, g]
  dsimp only [Option.map_some]
  rw [evAll_nil]
  dsimp only
  refine (ends_run (n := 15) ha hb hc hd wg6 rfl).trans ?_
  rw [← hf]; rfl
theorem leads_ev {ns : List Int} {y0 y1 y2 y3 : Int} {τ : H} (e : runBody Γ (callN Γ 60 60 19) 60 60 F_law_leads [.flist (ns.map .int)] [] [] = some (.ref 0, leadsO (leadY y0) (leadY y1) (leadY y2) (leadY y3) :: τ)) (g : vars.get 42 = some (.flist (ns.map .int))) : ev Γ (cfX (leadY y0) (leadY y1) (leadY y2) (leadY y3) f 18) 60 callLeads vars [] = some (.ref 0, [leadsO (leadY y0) (leadY y1) (leadY y2) (leadY y3)]) := by
  rw [callLeads, ev_call, ev_lit]
  dsimp only
  rw [evAll_cons, ev_var, g]
  dsimp only [Option.map_some]
  rw [evAll_nil]
  dsimp only
  exact c_leads (σ := []) e
theorem due_ev (hf : f ∈ F14) (g : vars.get 88 = some (.ref 39)) : ev Γ (cfX a b c d f 18) 60 callDue vars (h55 a b c d f) = some (.ref 55, h55 a b c d f ++ [.list (f.due.map tup2)]) := by
  rw [callDue, ev_call, ev_lit]
  dsimp only
  rw [evAll_cons, ev_var, g]
  dsimp only [Option.map_some]
  rw [evAll_nil]
  dsimp only
  exact (c_due (n := 18) (σ := h55 a b c d f) (e := 39) hf (by kernel_rfl)).trans (by kernel_rfl)
end
theorem law_run {ns : List Int} {y0 y1 y2 y3 : Int} {τ : H} {f : Fo} (e : runBody Γ (callN Γ 60 60 19) 60 60 F_law_leads [.flist (ns.map .int)] [] [] = some (.ref 0, leadsO (leadY y0) (leadY y1) (leadY y2) (leadY y3) :: τ))
    (ha : leadY y0 ∈ L31) (hb : leadY y1 ∈ L31) (hc : leadY y2 ∈ L31) (hd : leadY y3 ∈ L31) (hf : f ∈ F14)
    (he : f.ends = endsB (B6 (lessL (leadY y0) (leadY y1)) (lessL (leadY y0) (leadY y2)) (lessL (leadY y0) (leadY y3)) (lessL (leadY y1) (leadY y2)) (lessL (leadY y1) (leadY y3)) (lessL (leadY y2) (leadY y3))))
    (ht : ∀ (x : Nat → O) (v : V), (exs Γ (cfX (leadY y0) (leadY y1) (leadY y2) (leadY y3) f 18) 60 51 tail3 (vx v f) (hx x f)).map (·.1) = some (.ret (.bool true))) :
    ∃ σ', runBody Γ (cfX (leadY y0) (leadY y1) (leadY y2) (leadY y3) f 18) 60 60 F_law [.flist (ns.map .int)] [] [] = some (.bool true, σ') := by
  have hbn : bindFn Γ F_law [.flist (ns.map .int)] [] = some [(42, some (.flist (ns.map .int)))] := rfl
  obtain ⟨r, hr1, hr2⟩ := Option.map_eq_some_iff.mp (ht (fun i => ((h55 (leadY y0) (leadY y1) (leadY y2) (leadY y3) f)[i]?).getD default) (.flist (ns.map .int)))
  obtain ⟨fl, vars', σ'⟩ := r
  cases hr2
  refine ⟨σ', ?_⟩
  unfold runBody
  rw [hbn, law_body]
  dsimp only
  rw [exs_cons, ex_names, leads_ev e rfl]
  simp only [List.foldl, Vars.set, Nat.reduceBEq, Bool.false_eq_true, if_false]
  rw [exs_cons, ex_names, whites_ev ha hb hc hd rfl]
  simp only [List.foldl, Vars.set, Nat.reduceBEq, Bool.false_eq_true, if_false]
  rw [exs_cons, ex_names, ends_ev ha hb hc hd he rfl]
  simp only [List.foldl, Vars.set, Nat.reduceBEq, Bool.false_eq_true, if_false]
  rw [exs_cons, ex_names, hd_ev]
  simp only [List.foldl, Vars.set, Nat.reduceBEq, Bool.false_eq_true, if_false]
  rw [exs_cons, ex_names, search_ev hf rfl rfl rfl]
  simp only [List.foldl, Vars.set, Nat.reduceBEq, Bool.false_eq_true, if_false]
  rw [exs_cons, ex_names, late_ev ha hb hc hd rfl]
  simp only [List.foldl, Vars.set, Nat.reduceBEq, Bool.false_eq_true, if_false]
  rw [exs_cons, ex_names, due7_ev ha hb hc hd he rfl rfl]
  simp only [List.foldl, Vars.set, Nat.reduceBEq, Bool.false_eq_true, if_false]
  rw [exs_cons, show h39 (leadY y0) (leadY y1) (leadY y2) (leadY y3) f ++ [endsO f] = h40 (leadY y0) (leadY y1) (leadY y2) (leadY y3) f from rfl, show ex Γ (cfX (leadY y0) (leadY y1) (leadY y2) (leadY y3) f 18) 60 52 _ _ _ = _ from s8_ev (n := 16) (ys := [.ret (some (.lit (.bool false)))]) (m := 50) (vars := [(42, some (.flist (ns.map .int))), (43, some (.ref 0)), (48, some (.ref 5)), (49, some (.ref 6)), (65, some (.ref 7)), (71, some (.int f.val)), (58, some (.ref 10)), (88, some (.ref 39))]) ha hb hc hd rfl rfl rfl rfl]
  dsimp only
  rw [exs_cons, ex_names, due_ev hf rfl]
  simp only [List.foldl, Vars.set, Nat.reduceBEq, Bool.false_eq_true, if_false]
  rw [h56_hx]
  unfold vx at hr1
  rw [hr1]
end MI.L2
end TPW34
section TPW35
open PySem
namespace MI.L2
theorem run2 : Run := fun ns hn => by
  refine k51 (leads_run (cf := callN Γ 60 60 19) ns) fun y0 y1 y2 y3 τ e => ?_
  refine k12 (forest (leadY y0) (leadY y1) (leadY y2) (leadY y3) (lead_L y0) (lead_L y1) (lead_L y2) (lead_L y3)) fun f hf he => ?_
  refine k11 (law_run (τ := τ) e (lead_L y0) (lead_L y1) (lead_L y2) (lead_L y3) hf he (fun x v => tail_all _ _ _ _ x v f hf)) fun σ' h => ?_
  exact ⟨spec (leadY y0) (leadY y1) (leadY y2) (leadY y3) f, σ', (callX_run (F := F_law) rfl rfl).trans h⟩
end MI.L2
end TPW35
section TJ2
open PySem PySem.W PyProof.Rows PySem.Spec PySem.Calls
set_option maxRecDepth 100000
set_option maxHeartbeats 8000000
theorem MI.h.tw1011401019241278401:True:=⟨⟩
theorem MI.h.tw10140631252787427454:True:=⟨⟩
theorem MI.h.tw10213828984628539441:True:=⟨⟩
theorem MI.h.tw10251250012747209485:True:=⟨⟩
theorem MI.h.tw10296968280439902456:True:=⟨⟩
theorem MI.h.tw10302745570025039340:True:=⟨⟩
theorem MI.h.tw1033878294081671253:True:=⟨⟩
theorem MI.h.tw10419502692379743783:True:=⟨⟩
theorem MI.h.tw10516128174349651892:True:=⟨⟩
theorem MI.h.tw10533256425262641346:True:=⟨⟩
theorem MI.h.tw10551814835240766649:True:=⟨⟩
theorem MI.h.tw10565250394946491377:True:=⟨⟩
theorem MI.h.tw1056561638026204726:True:=⟨⟩
theorem MI.h.tw10586408445335202245:True:=⟨⟩
theorem MI.h.tw10680460800738331518:True:=⟨⟩
theorem MI.h.tw10808186131409962348:True:=⟨⟩
theorem MI.h.tw10843076970805042449:True:=⟨⟩
theorem MI.h.tw10855135569718635205:True:=⟨⟩
theorem MI.h.tw10902536218424964520:True:=⟨⟩
theorem MI.h.tw10913191140696891529:True:=⟨⟩
theorem MI.h.tw10948500800405597411:True:=⟨⟩
theorem MI.h.tw1095467022140598918:True:=⟨⟩
theorem MI.h.tw11070859384295698289:True:=⟨⟩
theorem MI.h.tw1110427974676150573:True:=⟨⟩
theorem MI.h.tw11135018442119937234:True:=⟨⟩
theorem MI.h.tw11237561986070961182:True:=⟨⟩
theorem MI.h.tw11269944870141430855:True:=⟨⟩
theorem MI.h.tw11315914138417596727:True:=⟨⟩
theorem MI.h.tw11319352116400360815:True:=⟨⟩
theorem MI.h.tw11337244951021135948:True:=⟨⟩
theorem MI.h.tw11348402992604041544:True:=⟨⟩
theorem MI.h.tw1136819353846469920:True:=⟨⟩
theorem MI.h.tw11406904421567549968:True:=⟨⟩
theorem MI.h.tw11413000264567781255:True:=⟨⟩
theorem MI.h.tw114510246371067246:True:=⟨⟩
theorem MI.h.tw11568496967299596389:True:=⟨⟩
theorem MI.h.tw11641106802727210624:True:=⟨⟩
theorem MI.h.tw11673832446544817812:True:=⟨⟩
theorem MI.h.tw11688029955930547537:True:=⟨⟩
theorem MI.h.tw1173869353739955318:True:=⟨⟩
theorem MI.h.tw11770680376634959612:True:=⟨⟩
theorem MI.h.tw11890821517517841010:True:=⟨⟩
theorem MI.h.tw11904312023369303029:True:=⟨⟩
theorem MI.h.tw11932229315479172871:True:=⟨⟩
theorem MI.h.tw12054067824850594281:True:=⟨⟩
theorem MI.h.tw12080542297881468946:True:=⟨⟩
theorem MI.h.tw12210127109221924905:True:=⟨⟩
theorem MI.h.tw12211413589333321976:True:=⟨⟩
theorem MI.h.tw12234821664463507689:True:=⟨⟩
theorem MI.h.tw12355317211224975114:True:=⟨⟩
theorem MI.h.tw12373893316805541126:True:=⟨⟩
theorem MI.h.tw12423088567891511871:True:=⟨⟩
theorem MI.h.tw12452208850701397257:True:=⟨⟩
theorem MI.h.tw12460367361980150388:True:=⟨⟩
theorem MI.h.tw1247503481534089000:True:=⟨⟩
theorem MI.h.tw12485018930355531808:True:=⟨⟩
theorem MI.h.tw12569081850701142937:True:=⟨⟩
theorem MI.h.tw12577359107292032930:True:=⟨⟩
theorem MI.h.tw12655532207739617828:True:=⟨⟩
theorem MI.h.tw12676440026191887587:True:=⟨⟩
theorem MI.h.tw12687896187690058388:True:=⟨⟩
theorem MI.h.tw12709404137681319899:True:=⟨⟩
theorem MI.h.tw12724077181990310255:True:=⟨⟩
theorem MI.h.tw1272722670343894533:True:=⟨⟩
theorem MI.h.tw12729618529089208383:True:=⟨⟩
theorem MI.h.tw12734330498884920014:True:=⟨⟩
theorem MI.h.tw12942543953657903565:True:=⟨⟩
theorem MI.h.tw12992687340277797193:True:=⟨⟩
theorem MI.h.tw13034281736522886310:True:=⟨⟩
theorem MI.h.tw13057381404365639533:True:=⟨⟩
theorem MI.h.tw13067927213839329560:True:=⟨⟩
theorem MI.h.tw13097933743953152682:True:=⟨⟩
theorem MI.h.tw13100315616137742069:True:=⟨⟩
theorem MI.h.tw13125589177819030729:True:=⟨⟩
theorem MI.h.tw13170905190189105139:True:=⟨⟩
theorem MI.h.tw1321024417047019546:True:=⟨⟩
theorem MI.h.tw1321987044733860373:True:=⟨⟩
theorem MI.h.tw13259080308279029192:True:=⟨⟩
theorem MI.h.tw13278437954273826173:True:=⟨⟩
theorem MI.h.tw13330356579083021911:True:=⟨⟩
theorem MI.h.tw13344961724804497456:True:=⟨⟩
theorem MI.h.tw13421285455648993846:True:=⟨⟩
theorem MI.h.tw13432653248351403408:True:=⟨⟩
theorem MI.h.tw13476481588198473386:True:=⟨⟩
theorem MI.h.tw13482035217508805444:True:=⟨⟩
theorem MI.h.tw13511319699052746321:True:=⟨⟩
theorem MI.h.tw1355103580725193785:True:=⟨⟩
theorem MI.h.tw13583735781255718168:True:=⟨⟩
theorem MI.h.tw13587792088082880262:True:=⟨⟩
theorem MI.h.tw13612431139875084487:True:=⟨⟩
theorem MI.h.tw13645470027985622301:True:=⟨⟩
theorem MI.h.tw13671855548259790361:True:=⟨⟩
theorem MI.h.tw13677308830866057740:True:=⟨⟩
theorem MI.h.tw13677402378465924144:True:=⟨⟩
theorem MI.h.tw13773517218595335415:True:=⟨⟩
theorem MI.h.tw13880557926402700379:True:=⟨⟩
theorem MI.h.tw13897511692132896382:True:=⟨⟩
theorem MI.h.tw13940115688040379787:True:=⟨⟩
theorem MI.h.tw13980075197151722576:True:=⟨⟩
theorem MI.h.tw13988465935683623887:True:=⟨⟩
theorem MI.h.tw13990226573354266164:True:=⟨⟩
theorem MI.h.tw14033471449464465267:True:=⟨⟩
theorem MI.h.tw14147428429185372798:True:=⟨⟩
theorem MI.h.tw14168085852966965310:True:=⟨⟩
theorem MI.h.tw14171035495164681720:True:=⟨⟩
theorem MI.h.tw14173006712167488571:True:=⟨⟩
theorem MI.h.tw14178730304663139796:True:=⟨⟩
theorem MI.h.tw1423825662124576586:True:=⟨⟩
theorem MI.h.tw14243120384066314776:True:=⟨⟩
theorem MI.h.tw14269351450881109133:True:=⟨⟩
theorem MI.h.tw14272978524557718034:True:=⟨⟩
theorem MI.h.tw14291568892626499006:True:=⟨⟩
theorem MI.h.tw14332421562885214225:True:=⟨⟩
theorem MI.h.tw14334642373721317314:True:=⟨⟩
theorem MI.h.tw14340888981568083504:True:=⟨⟩
theorem MI.h.tw14376851611392551295:True:=⟨⟩
theorem MI.h.tw14421689785484679103:True:=⟨⟩
theorem MI.h.tw14484715720456187214:True:=⟨⟩
theorem MI.h.tw14498859069917345558:True:=⟨⟩
theorem MI.h.tw14513202867052359148:True:=⟨⟩
theorem MI.h.tw14583957384638252810:True:=⟨⟩
theorem MI.h.tw14647779844744032869:True:=⟨⟩
theorem MI.h.tw14667626124016539418:True:=⟨⟩
theorem MI.h.tw14686491335697349369:True:=⟨⟩
theorem MI.h.tw14742216871288018075:True:=⟨⟩
theorem MI.h.tw14761838410509515046:True:=⟨⟩
theorem MI.h.tw14817459586996669845:True:=⟨⟩
theorem MI.h.tw14824384220416556845:True:=⟨⟩
theorem MI.h.tw14836327735372181211:True:=⟨⟩
theorem MI.h.tw14896291089016517148:True:=⟨⟩
theorem MI.h.tw1497544561386160366:True:=⟨⟩
theorem MI.h.tw14987414480971261731:True:=⟨⟩
theorem MI.h.tw15039413931412900875:True:=⟨⟩
theorem MI.h.tw15186996752643995849:True:=⟨⟩
theorem MI.h.tw15214153668272595618:True:=⟨⟩
theorem MI.h.tw1526144053155649391:True:=⟨⟩
theorem MI.h.tw15295403838277694350:True:=⟨⟩
theorem MI.h.tw15308433096326148809:True:=⟨⟩
theorem MI.h.tw15420072408978152962:True:=⟨⟩
theorem MI.h.tw15435418164422044991:True:=⟨⟩
theorem MI.h.tw15486162244592415344:True:=⟨⟩
theorem MI.h.tw15511962089348322606:True:=⟨⟩
theorem MI.h.tw15583326964290182459:True:=⟨⟩
theorem MI.h.tw15648966159094655416:True:=⟨⟩
theorem MI.h.tw15684202523030328441:True:=⟨⟩
theorem MI.h.tw15824136379771664824:True:=⟨⟩
theorem MI.h.tw15827858010391249805:True:=⟨⟩
theorem MI.h.tw15872365230317915800:True:=⟨⟩
theorem MI.h.tw15915658796540520126:True:=⟨⟩
theorem MI.h.tw15955629050950250710:True:=⟨⟩
theorem MI.h.tw15964044416537946320:True:=⟨⟩
theorem MI.h.tw15977524916459698249:True:=⟨⟩
theorem MI.h.tw16042956550787363070:True:=⟨⟩
theorem MI.h.tw16066774857156503428:True:=⟨⟩
theorem MI.h.tw16075062268427103804:True:=⟨⟩
theorem MI.h.tw16244459961323036834:True:=⟨⟩
theorem MI.h.tw16287994594222739754:True:=⟨⟩
theorem MI.h.tw16290064214260412899:True:=⟨⟩
theorem MI.h.tw16307847166070527645:True:=⟨⟩
theorem MI.h.tw16334460989010949702:True:=⟨⟩
theorem MI.h.tw16387257714394679999:True:=⟨⟩
theorem MI.h.tw16447389855282129109:True:=⟨⟩
theorem MI.h.tw16449938280688742634:True:=⟨⟩
theorem MI.h.tw16553791192580206162:True:=⟨⟩
theorem MI.h.tw16566963338729246013:True:=⟨⟩
theorem MI.h.tw16601363134934898558:True:=⟨⟩
theorem MI.h.tw16624235299039253062:True:=⟨⟩
theorem MI.h.tw16628996363424324551:True:=⟨⟩
theorem MI.h.tw16684693490178677285:True:=⟨⟩
theorem MI.h.tw16693541028615365652:True:=⟨⟩
theorem MI.h.tw16774227940792997295:True:=⟨⟩
theorem MI.h.tw16830985959230494662:True:=⟨⟩
theorem MI.h.tw16845579001822475114:True:=⟨⟩
theorem MI.h.tw16869491501255872741:True:=⟨⟩
theorem MI.h.tw16913933322612371255:True:=⟨⟩
theorem MI.h.tw16952313472956638425:True:=⟨⟩
theorem MI.h.tw16953185341875957715:True:=⟨⟩
theorem MI.h.tw16957767084515704992:True:=⟨⟩
theorem MI.h.tw17080564969476016762:True:=⟨⟩
theorem MI.h.tw17161668164672157251:True:=⟨⟩
theorem MI.h.tw17199111962232367139:True:=⟨⟩
theorem MI.h.tw17211049344591354308:True:=⟨⟩
theorem MI.h.tw17218139650694851480:True:=⟨⟩
theorem MI.h.tw172622257404836054:True:=⟨⟩
theorem MI.h.tw17398807766748513132:True:=⟨⟩
theorem MI.h.tw17409366498172073143:True:=⟨⟩
theorem MI.h.tw17628621764814861129:True:=⟨⟩
theorem MI.h.tw17669332518147908150:True:=⟨⟩
theorem MI.h.tw17708527478820896087:True:=⟨⟩
theorem MI.h.tw17714695483619437618:True:=⟨⟩
theorem MI.h.tw17714907532840276008:True:=⟨⟩
theorem MI.h.tw17799721791662994663:True:=⟨⟩
theorem MI.h.tw17800021823864527915:True:=⟨⟩
theorem MI.h.tw17876999132001950919:True:=⟨⟩
theorem MI.h.tw1788229997281612558:True:=⟨⟩
theorem MI.h.tw17885931382179144439:True:=⟨⟩
theorem MI.h.tw17889544996163584383:True:=⟨⟩
theorem MI.h.tw17918522705804183637:True:=⟨⟩
theorem MI.h.tw17957547057192558608:True:=⟨⟩
theorem MI.h.tw18066238671866490595:True:=⟨⟩
theorem MI.h.tw18068791092708541295:True:=⟨⟩
theorem MI.h.tw18080781134424121486:True:=⟨⟩
theorem MI.h.tw1810673153998328641:True:=⟨⟩
theorem MI.h.tw18121622643058177375:True:=⟨⟩
theorem MI.h.tw18156356171282918681:True:=⟨⟩
theorem MI.h.tw18200766526759720736:True:=⟨⟩
theorem MI.h.tw18216914705577498077:True:=⟨⟩
theorem MI.h.tw18235093220256922412:True:=⟨⟩
theorem MI.h.tw18337460889229207387:True:=⟨⟩
theorem MI.h.tw18352936022105595242:True:=⟨⟩
theorem MI.h.tw18395909863104184607:True:=⟨⟩
theorem MI.h.tw1951699244351117017:True:=⟨⟩
theorem MI.h.tw1963568534201772741:True:=⟨⟩
theorem MI.h.tw2032730779810467074:True:=⟨⟩
theorem MI.h.tw2047067620395056460:True:=⟨⟩
theorem MI.h.tw206009008898466244:True:=⟨⟩
theorem MI.h.tw2060567271918688466:True:=⟨⟩
theorem MI.h.tw2067688860793099544:True:=⟨⟩
theorem MI.h.tw221113242208492221:True:=⟨⟩
theorem MI.h.tw2231741215466186278:True:=⟨⟩
theorem MI.h.tw2320342661452870951:True:=⟨⟩
theorem MI.h.tw2324353109478610700:True:=⟨⟩
theorem MI.h.tw2352664224425441106:True:=⟨⟩
theorem MI.h.tw2359107598205803400:True:=⟨⟩
theorem MI.h.tw2414144455822743273:True:=⟨⟩
theorem MI.h.tw2469350617910780499:True:=⟨⟩
theorem MI.h.tw2602126109314521962:True:=⟨⟩
theorem MI.h.tw265565092057873650:True:=⟨⟩
theorem MI.h.tw2699145595296155233:True:=⟨⟩
theorem MI.h.tw2714289519214690443:True:=⟨⟩
theorem MI.h.tw2731053270182056710:True:=⟨⟩
theorem MI.h.tw2738216144895719444:True:=⟨⟩
theorem MI.h.tw276615344387462792:True:=⟨⟩
theorem MI.h.tw2771089971701820042:True:=⟨⟩
theorem MI.h.tw2795451140116958084:True:=⟨⟩
theorem MI.h.tw2842837978048837443:True:=⟨⟩
theorem MI.h.tw301181026051444518:True:=⟨⟩
theorem MI.h.tw3071127104572998033:True:=⟨⟩
theorem MI.h.tw3106658715387719538:True:=⟨⟩
theorem MI.h.tw3132309389487929210:True:=⟨⟩
theorem MI.h.tw3139058926019810062:True:=⟨⟩
theorem MI.h.tw3161834836587384643:True:=⟨⟩
theorem MI.h.tw3240273648757554595:True:=⟨⟩
theorem MI.h.tw3272525137371728339:True:=⟨⟩
theorem MI.h.tw3295529927913010347:True:=⟨⟩
theorem MI.h.tw334643224279122657:True:=⟨⟩
theorem MI.h.tw3380358926200389415:True:=⟨⟩
theorem MI.h.tw3383608237210831627:True:=⟨⟩
theorem MI.h.tw3462770174691879448:True:=⟨⟩
theorem MI.h.tw3472378606323182240:True:=⟨⟩
theorem MI.h.tw347492410655238935:True:=⟨⟩
theorem MI.h.tw34953183428155932:True:=⟨⟩
theorem MI.h.tw3533334344974105687:True:=⟨⟩
theorem MI.h.tw3567783193084311961:True:=⟨⟩
theorem MI.h.tw3592901453434312544:True:=⟨⟩
theorem MI.h.tw3619401371934175607:True:=⟨⟩
theorem MI.h.tw3632596519376591488:True:=⟨⟩
theorem MI.h.tw3704819932992107776:True:=⟨⟩
theorem MI.h.tw370486610177827933:True:=⟨⟩
theorem MI.h.tw3743837394386260688:True:=⟨⟩
theorem MI.h.tw3768299158841506722:True:=⟨⟩
theorem MI.h.tw3811599927407082460:True:=⟨⟩
theorem MI.h.tw3908194119645394814:True:=⟨⟩
theorem MI.h.tw3934631138387515321:True:=⟨⟩
theorem MI.h.tw3937343995714221866:True:=⟨⟩
theorem MI.h.tw3966080628177408820:True:=⟨⟩
theorem MI.h.tw3981059114541383899:True:=⟨⟩
theorem MI.h.tw4029457112048200832:True:=⟨⟩
theorem MI.h.tw4064004472326787566:True:=⟨⟩
theorem MI.h.tw4122128705968527996:True:=⟨⟩
theorem MI.h.tw4153336087164195872:True:=⟨⟩
theorem MI.h.tw4159701700605265347:True:=⟨⟩
theorem MI.h.tw4211905736105490719:True:=⟨⟩
theorem MI.h.tw4218560599628214877:True:=⟨⟩
theorem MI.h.tw4264699509428024130:True:=⟨⟩
theorem MI.h.tw4329222652369542967:True:=⟨⟩
theorem MI.h.tw4430606448351942949:True:=⟨⟩
theorem MI.h.tw4439866237008585008:True:=⟨⟩
theorem MI.h.tw4460608152839655614:True:=⟨⟩
theorem MI.h.tw4478740691137824503:True:=⟨⟩
theorem MI.h.tw4508145012739512669:True:=⟨⟩
theorem MI.h.tw4516979023474093489:True:=⟨⟩
theorem MI.h.tw4523827945173512887:True:=⟨⟩
theorem MI.h.tw4602796872389476230:True:=⟨⟩
theorem MI.h.tw4615654357030040772:True:=⟨⟩
theorem MI.h.tw4661283025981170494:True:=⟨⟩
theorem MI.h.tw4792485389547669108:True:=⟨⟩
theorem MI.h.tw4795870215232361891:True:=⟨⟩
theorem MI.h.tw4805004134235001936:True:=⟨⟩
theorem MI.h.tw4824695741619331758:True:=⟨⟩
theorem MI.h.tw4831978084266165782:True:=⟨⟩
theorem MI.h.tw4909637155564228187:True:=⟨⟩
theorem MI.h.tw4920083617168176708:True:=⟨⟩
theorem MI.h.tw4940813930370887384:True:=⟨⟩
theorem MI.h.tw4950431762049429505:True:=⟨⟩
theorem MI.h.tw4980156067176112380:True:=⟨⟩
theorem MI.h.tw4983908431591995766:True:=⟨⟩
theorem MI.h.tw5008913158937488491:True:=⟨⟩
theorem MI.h.tw5214579807418809142:True:=⟨⟩
theorem MI.h.tw5248434798532375649:True:=⟨⟩
theorem MI.h.tw5314566795722963905:True:=⟨⟩
theorem MI.h.tw5323191896587985366:True:=⟨⟩
theorem MI.h.tw5379924368777260876:True:=⟨⟩
theorem MI.h.tw538147253693522941:True:=⟨⟩
theorem MI.h.tw539178212558662056:True:=⟨⟩
theorem MI.h.tw5406957626852335441:True:=⟨⟩
theorem MI.h.tw5417291620777594990:True:=⟨⟩
theorem MI.h.tw5434034534479146159:True:=⟨⟩
theorem MI.h.tw5434136935987173547:True:=⟨⟩
theorem MI.h.tw5455649461471918896:True:=⟨⟩
theorem MI.h.tw5461476594853440071:True:=⟨⟩
theorem MI.h.tw5505994698530431375:True:=⟨⟩
theorem MI.h.tw5523734026757050999:True:=⟨⟩
theorem MI.h.tw5537404773867497337:True:=⟨⟩
theorem MI.h.tw5589252267870633807:True:=⟨⟩
theorem MI.h.tw5616044094081230683:True:=⟨⟩
theorem MI.h.tw5650492471373900725:True:=⟨⟩
theorem MI.h.tw5661011148375472301:True:=⟨⟩
theorem MI.h.tw5677050140410315230:True:=⟨⟩
theorem MI.h.tw5677497221591460749:True:=⟨⟩
theorem MI.h.tw5716683998494663510:True:=⟨⟩
theorem MI.h.tw5869356504264226336:True:=⟨⟩
theorem MI.h.tw5876930700323262384:True:=⟨⟩
theorem MI.h.tw5914214391831917083:True:=⟨⟩
theorem MI.h.tw5916170978455927623:True:=⟨⟩
theorem MI.h.tw5919519279708743527:True:=⟨⟩
theorem MI.h.tw5925361152004488874:True:=⟨⟩
theorem MI.h.tw5931112979532080276:True:=⟨⟩
theorem MI.h.tw6011877220226338442:True:=⟨⟩
theorem MI.h.tw6114603228386712561:True:=⟨⟩
theorem MI.h.tw6125136503171780391:True:=⟨⟩
theorem MI.h.tw6160765673186141399:True:=⟨⟩
theorem MI.h.tw6164916216506472562:True:=⟨⟩
theorem MI.h.tw6226242813739104755:True:=⟨⟩
theorem MI.h.tw625218098212169964:True:=⟨⟩
theorem MI.h.tw6265707403724225191:True:=⟨⟩
theorem MI.h.tw6292553275617203558:True:=⟨⟩
theorem MI.h.tw6302949010882325994:True:=⟨⟩
theorem MI.h.tw6331589515471783081:True:=⟨⟩
theorem MI.h.tw6343393122817937344:True:=⟨⟩
theorem MI.h.tw6343567892298353387:True:=⟨⟩
theorem MI.h.tw6351320645044075760:True:=⟨⟩
theorem MI.h.tw6427223372128860756:True:=⟨⟩
theorem MI.h.tw6479706687173338833:True:=⟨⟩
theorem MI.h.tw648068997301114173:True:=⟨⟩
theorem MI.h.tw6485761855128319986:True:=⟨⟩
theorem MI.h.tw6489207939541828725:True:=⟨⟩
theorem MI.h.tw6495915881525592481:True:=⟨⟩
theorem MI.h.tw6548398758676780981:True:=⟨⟩
theorem MI.h.tw6602514613345457622:True:=⟨⟩
theorem MI.h.tw6640494949327562702:True:=⟨⟩
theorem MI.h.tw6727002536562721803:True:=⟨⟩
theorem MI.h.tw6783122765002947681:True:=⟨⟩
theorem MI.h.tw6839784654149236029:True:=⟨⟩
theorem MI.h.tw6855272717762293095:True:=⟨⟩
theorem MI.h.tw6880285942476779878:True:=⟨⟩
theorem MI.h.tw6997614866125203533:True:=⟨⟩
theorem MI.h.tw7000492927792607597:True:=⟨⟩
theorem MI.h.tw7052511106545228294:True:=⟨⟩
theorem MI.h.tw7064160539918490211:True:=⟨⟩
theorem MI.h.tw7088010054815574803:True:=⟨⟩
theorem MI.h.tw7100738004203007421:True:=⟨⟩
theorem MI.h.tw7107581686104465207:True:=⟨⟩
theorem MI.h.tw7118163709684992584:True:=⟨⟩
theorem MI.h.tw7120252543364587837:True:=⟨⟩
theorem MI.h.tw715834273050250981:True:=⟨⟩
theorem MI.h.tw7170332874562651162:True:=⟨⟩
theorem MI.h.tw72043518766745889:True:=⟨⟩
theorem MI.h.tw7204743496073134794:True:=⟨⟩
theorem MI.h.tw7221810974446901544:True:=⟨⟩
theorem MI.h.tw7227253917192531135:True:=⟨⟩
theorem MI.h.tw7263603715724294802:True:=⟨⟩
theorem MI.h.tw7289835552884774911:True:=⟨⟩
theorem MI.h.tw7311152303425937890:True:=⟨⟩
theorem MI.h.tw73687718418709714:True:=⟨⟩
theorem MI.h.tw7480489895175595503:True:=⟨⟩
theorem MI.h.tw7539725197088427410:True:=⟨⟩
theorem MI.h.tw7553442300937972680:True:=⟨⟩
theorem MI.h.tw7563853393758430005:True:=⟨⟩
theorem MI.h.tw7612151039156606694:True:=⟨⟩
theorem MI.h.tw7620464205643298623:True:=⟨⟩
theorem MI.h.tw7630035162684332457:True:=⟨⟩
theorem MI.h.tw766289818967804029:True:=⟨⟩
theorem MI.h.tw7681399926316259504:True:=⟨⟩
theorem MI.h.tw7699808456951306150:True:=⟨⟩
theorem MI.h.tw7752242572922343914:True:=⟨⟩
theorem MI.h.tw7767326955497791704:True:=⟨⟩
theorem MI.h.tw7800676936146857068:True:=⟨⟩
theorem MI.h.tw7870666040641496112:True:=⟨⟩
theorem MI.h.tw7904302291012989599:True:=⟨⟩
theorem MI.h.tw7912078809233970155:True:=⟨⟩
theorem MI.h.tw7924803108308326967:True:=⟨⟩
theorem MI.h.tw7967493916900451535:True:=⟨⟩
theorem MI.h.tw7977950451457169837:True:=⟨⟩
theorem MI.h.tw8011645948859850380:True:=⟨⟩
theorem MI.h.tw8012070816986593502:True:=⟨⟩
theorem MI.h.tw8124829027990208467:True:=⟨⟩
theorem MI.h.tw812967576963785146:True:=⟨⟩
theorem MI.h.tw813204308214799660:True:=⟨⟩
theorem MI.h.tw8159004181495384387:True:=⟨⟩
theorem MI.h.tw8169716041166529015:True:=⟨⟩
theorem MI.h.tw8198797409047812523:True:=⟨⟩
theorem MI.h.tw8207155010889364141:True:=⟨⟩
theorem MI.h.tw8207850306311870169:True:=⟨⟩
theorem MI.h.tw8269156226579744186:True:=⟨⟩
theorem MI.h.tw830731755570148329:True:=⟨⟩
theorem MI.h.tw8449015683340604661:True:=⟨⟩
theorem MI.h.tw8490608378110165178:True:=⟨⟩
theorem MI.h.tw8536642597009991246:True:=⟨⟩
theorem MI.h.tw8536874343587781473:True:=⟨⟩
theorem MI.h.tw8646851385467070121:True:=⟨⟩
theorem MI.h.tw8661057138561124247:True:=⟨⟩
theorem MI.h.tw8677683001880330203:True:=⟨⟩
theorem MI.h.tw87150347279074274:True:=⟨⟩
theorem MI.h.tw8718744058142206370:True:=⟨⟩
theorem MI.h.tw8726346599101245494:True:=⟨⟩
theorem MI.h.tw8751917010681672251:True:=⟨⟩
theorem MI.h.tw8752550843604305002:True:=⟨⟩
theorem MI.h.tw8816385559863683553:True:=⟨⟩
theorem MI.h.tw8848366753719205172:True:=⟨⟩
theorem MI.h.tw8848646254694538664:True:=⟨⟩
theorem MI.h.tw8857350650673035650:True:=⟨⟩
theorem MI.h.tw8903611991322143222:True:=⟨⟩
theorem MI.h.tw8922250187614510260:True:=⟨⟩
theorem MI.h.tw8947256709689005906:True:=⟨⟩
theorem MI.h.tw8949970030073736808:True:=⟨⟩
theorem MI.h.tw8969304045824136619:True:=⟨⟩
theorem MI.h.tw9005331106295716034:True:=⟨⟩
theorem MI.h.tw9049118314869179981:True:=⟨⟩
theorem MI.h.tw9154246674622704504:True:=⟨⟩
theorem MI.h.tw9172898890816482597:True:=⟨⟩
theorem MI.h.tw9221276338027020847:True:=⟨⟩
theorem MI.h.tw9316221774349399208:True:=⟨⟩
theorem MI.h.tw9329557545102064387:True:=⟨⟩
theorem MI.h.tw9344278814265342737:True:=⟨⟩
theorem MI.h.tw9392987462732949862:True:=⟨⟩
theorem MI.h.tw9439816439147322118:True:=⟨⟩
theorem MI.h.tw9452600819013710031:True:=⟨⟩
theorem MI.h.tw9506952214323141020:True:=⟨⟩
theorem MI.h.tw9527089709778875979:True:=⟨⟩
theorem MI.h.tw9542647219696440825:True:=⟨⟩
theorem MI.h.tw9579371860814772686:True:=⟨⟩
theorem MI.h.tw9768646008864867001:True:=⟨⟩
theorem MI.h.tw9772901592524883862:True:=⟨⟩
theorem MI.h.tw9832156972132484596:True:=⟨⟩
theorem MI.h.tw991004918015138083:True:=⟨⟩
theorem MI.h.tw992739158974513426:True:=⟨⟩
namespace MI
open MI.L2
set_option Elab.async true in
theorem h : PySem.Challenge.rw_rs0232_02.Holds := by
  (w_on; o_law; k_head; (case hw => w_witness2))
  have FX : Facts h.heap_1_39 := {
    tab := fun P => by kernel_rfl
    glob := fun P => by kernel_rfl
    look_F_law := fun P =>
    FnLook.of (by kernel_rfl) ⟨by kernel_rfl, by kernel_rfl, by kernel_rfl⟩ (by
        intro us kus S h1 h2 h3
        obtain rfl := kex0 h3
        obtain ⟨a, rfl⟩ := lex1 (Nat.le_antisymm h1 h2)
        kernel_rfl)
    look_F_law_leads := fun P =>
    FnLook.of (by kernel_rfl) ⟨by kernel_rfl, by kernel_rfl, by kernel_rfl⟩ (by
        intro us kus S h1 h2 h3
        obtain rfl := kex0 h3
        obtain ⟨a, rfl⟩ := lex1 (Nat.le_antisymm h1 h2)
        kernel_rfl)
    look_F_law_ends := fun P =>
    FnLook.of (by kernel_rfl) ⟨by kernel_rfl, by kernel_rfl, by kernel_rfl⟩ (by
        intro us kus S h1 h2 h3
        obtain rfl := kex0 h3
        obtain ⟨a, rfl⟩ := lex1 (Nat.le_antisymm h1 h2)
        kernel_rfl)
    look_F_law_column := fun P =>
    FnLook.of (by kernel_rfl) ⟨by kernel_rfl, by kernel_rfl, by kernel_rfl⟩ (by
        intro us kus S h1 h2 h3
        obtain rfl := kex0 h3
        obtain ⟨a, b, rfl⟩ := lex2 (Nat.le_antisymm h1 h2)
        kernel_rfl)
    look_F_law_late := fun P =>
    FnLook.of (by kernel_rfl) ⟨by kernel_rfl, by kernel_rfl, by kernel_rfl⟩ (by
        intro us kus S h1 h2 h3
        obtain rfl := kex0 h3
        obtain ⟨a, rfl⟩ := lex1 (Nat.le_antisymm h1 h2)
        kernel_rfl)
    look_F_law_search := fun P =>
    FnLook.of (by kernel_rfl) ⟨by kernel_rfl, by kernel_rfl, by kernel_rfl⟩ (by
        intro us kus S h1 h2 h3
        obtain rfl := kex0 h3
        obtain ⟨a, b, d, rfl⟩ := lex3 (Nat.le_antisymm h1 h2)
        kernel_rfl)
    look_F_law_parts := fun P =>
    FnLook.of (by kernel_rfl) ⟨by kernel_rfl, by kernel_rfl, by kernel_rfl⟩ (by
        intro us kus S h1 h2 h3
        obtain rfl := kex0 h3
        obtain ⟨a, b, d, rfl⟩ := lex3 (Nat.le_antisymm h1 h2)
        kernel_rfl)
    look_F_law_cut := fun P =>
    FnLook.of (by kernel_rfl) ⟨by kernel_rfl, by kernel_rfl, by kernel_rfl⟩ (by
        intro us kus S h1 h2 h3
        obtain rfl := kex0 h3
        obtain ⟨a, rfl⟩ := lex1 (Nat.le_antisymm h1 h2)
        kernel_rfl)
    look_F_law_value := fun P =>
    FnLook.of (by kernel_rfl) ⟨by kernel_rfl, by kernel_rfl, by kernel_rfl⟩ (by
        intro us kus S h1 h2 h3
        obtain rfl := kex0 h3
        obtain ⟨a, rfl⟩ := lex1 (Nat.le_antisymm h1 h2)
        kernel_rfl)
    look_F_law_due := fun P =>
    FnLook.of (by kernel_rfl) ⟨by kernel_rfl, by kernel_rfl, by kernel_rfl⟩ (by
        intro us kus S h1 h2 h3
        obtain rfl := kex0 h3
        obtain ⟨a, rfl⟩ := lex1 (Nat.le_antisymm h1 h2)
        kernel_rfl)
    look_F_ISTERMINAL := fun P =>
    FnLook.of (by kernel_rfl) ⟨by kernel_rfl, by kernel_rfl, by kernel_rfl⟩ (by
        intro us kus S h1 h2 h3
        obtain rfl := kex0 h3
        obtain ⟨a, rfl⟩ := lex1 (Nat.le_antisymm h1 h2)
        kernel_rfl)
    look_F_ISNONTERMINAL := fun P =>
    FnLook.of (by kernel_rfl) ⟨by kernel_rfl, by kernel_rfl, by kernel_rfl⟩ (by
        intro us kus S h1 h2 h3
        obtain rfl := kex0 h3
        obtain ⟨a, rfl⟩ := lex1 (Nat.le_antisymm h1 h2)
        kernel_rfl)
    look_F_ISEOF := fun P =>
    FnLook.of (by kernel_rfl) ⟨by kernel_rfl, by kernel_rfl, by kernel_rfl⟩ (by
        intro us kus S h1 h2 h3
        obtain rfl := kex0 h3
        obtain ⟨a, rfl⟩ := lex1 (Nat.le_antisymm h1 h2)
        kernel_rfl)
    look_F_WhitespaceU_initU := fun P =>
    FnLook.of (by kernel_rfl) ⟨by kernel_rfl, by kernel_rfl, by kernel_rfl⟩ (by
        intro us kus S h1 h2 h3
        obtain rfl := kex0 h3
        obtain ⟨a, b, rfl⟩ := lex2 (Nat.le_antisymm h1 h2)
        kernel_rfl)
    look_F_Whitespace_longest_run_of_spaces := fun P =>
    FnLook.of (by kernel_rfl) ⟨by kernel_rfl, by kernel_rfl, by kernel_rfl⟩ (by
        intro us kus S h1 h2 h3
        obtain rfl := kex0 h3
        obtain ⟨a, rfl⟩ := lex1 (Nat.le_antisymm h1 h2)
        kernel_rfl)
    look_F_Whitespace_indent_level := fun P =>
    FnLook.of (by kernel_rfl) ⟨by kernel_rfl, by kernel_rfl, by kernel_rfl⟩ (by
        intro us kus S h1 h2 h3
        obtain rfl := kex0 h3
        obtain ⟨a, b, rfl⟩ := lex2 (Nat.le_antisymm h1 h2)
        kernel_rfl)
    look_F_Whitespace_less := fun P =>
    FnLook.of (by kernel_rfl) ⟨by kernel_rfl, by kernel_rfl, by kernel_rfl⟩ (by
        intro us kus S h1 h2 h3
        obtain rfl := kex0 h3
        obtain ⟨a, b, rfl⟩ := lex2 (Nat.le_antisymm h1 h2)
        kernel_rfl)
    look_F_Whitespace_not_less_witness := fun P =>
    FnLook.of (by kernel_rfl) ⟨by kernel_rfl, by kernel_rfl, by kernel_rfl⟩ (by
        intro us kus S h1 h2 h3
        obtain rfl := kex0 h3
        obtain ⟨a, b, rfl⟩ := lex2 (Nat.le_antisymm h1 h2)
        kernel_rfl)
    look_F_HeadersU_initU := fun P =>
    FnLook.of (by kernel_rfl) ⟨by kernel_rfl, by kernel_rfl, by kernel_rfl⟩ (by
        intro us kus S h1 h2 h3
        obtain rfl := kex0 h3
        have hl : us.length = 1 ∨ us.length = 2 := by
          simp only [List.length_cons, List.length_nil] at h1 h2
          omega
        rcases hl with hl | hl
        · obtain ⟨a, rfl⟩ := lex1 hl
          kernel_rfl
        · obtain ⟨a, b, rfl⟩ := lex2 hl
          kernel_rfl)
    look_F_HeadersUconvert_string_type := fun P =>
    FnLook.of (by kernel_rfl) ⟨by kernel_rfl, by kernel_rfl, by kernel_rfl⟩ (by
        intro us kus S h1 h2 h3
        obtain ⟨k, rfl⟩ := kex1 h3
        obtain ⟨a, b, rfl⟩ := lex2 (Nat.le_antisymm h1 h2)
        kernel_rfl)
    look_F_Headers_get := fun P =>
    FnLook.of (by kernel_rfl) ⟨by kernel_rfl, by kernel_rfl, by kernel_rfl⟩ (by
        intro us kus S h1 h2 h3
        obtain rfl := kex0 h3
        have hl : us.length = 2 ∨ us.length = 3 := by
          simp only [List.length_cons, List.length_nil] at h1 h2
          omega
        rcases hl with hl | hl
        · obtain ⟨a, b, rfl⟩ := lex2 hl
          kernel_rfl
        · obtain ⟨a, b, d, rfl⟩ := lex3 hl
          kernel_rfl)
    look_F_Headers_items := fun P =>
    FnLook.of (by kernel_rfl) ⟨by kernel_rfl, by kernel_rfl, by kernel_rfl⟩ (by
        intro us kus S h1 h2 h3
        obtain rfl := kex0 h3
        obtain ⟨a, rfl⟩ := lex1 (Nat.le_antisymm h1 h2)
        kernel_rfl)
    look_F_Headers_setdefault := fun P =>
    FnLook.of (by kernel_rfl) ⟨by kernel_rfl, by kernel_rfl, by kernel_rfl⟩ (by
        intro us kus S h1 h2 h3
        obtain rfl := kex0 h3
        obtain ⟨a, b, d, rfl⟩ := lex3 (Nat.le_antisymm h1 h2)
        kernel_rfl)
    clsH := fun P => ⟨by kernel_rfl, by kernel_rfl, by kernel_rfl, by kernel_rfl, by kernel_rfl, by kernel_rfl, by kernel_rfl, by kernel_rfl, by kernel_rfl, by kernel_rfl⟩
    clsW := fun P => ⟨by kernel_rfl, by kernel_rfl, by kernel_rfl, by kernel_rfl, by kernel_rfl, by kernel_rfl, by kernel_rfl, by kernel_rfl, by kernel_rfl, by kernel_rfl⟩
    pat0 := fun P => by kernel_rfl
    pit0 := fun P => by kernel_rfl
    pat1 := fun P => by kernel_rfl
    pit1 := fun P => by kernel_rfl
    catS := fun P => ⟨by kernel_rfl, by kernel_rfl⟩
    catT := fun P => ⟨by kernel_rfl, by kernel_rfl⟩
    law := fun P => by kernel_rfl }
  w_strict (
    k_fill
    intro w s₀ s₁ mg mb G Y fa o pm cd doc dV kV ho hd hcd hD hmg hg args vals as hpre hlay hrd hwl hlo
    have KX := kIn_of Y
    refine Ground.open G ?_
    intro T B D TE TW
    wrow_args hpre hlay hrd hwl hlo
    all_goals exact MI.L2.fin2 MI.L2.run2 FX KX (topRead_of T) hmg (by assumption) (by assumption) (by assumption) hg)
end MI
end TJ2
set_option maxRecDepth 100000 in
theorem PySem.Challenge.cw_rs0232_02_holds : PySem.Challenge.rw_rs0232_02.Holds := by
  exact MI.h
