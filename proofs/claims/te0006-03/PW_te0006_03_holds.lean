import PyProof.Rows.All
import Wide.All
import OpenK.AllK
import Wide.FinOn
import PyProof.NoPylong
import Lean
import PySem.Challenge.RW_te0006_03
section
open PySem PySem.W PyProof.Rows
set_option Elab.async false
set_option linter.unusedVariables false
set_option genSizeOf false
namespace Mine
inductive V where
  | none | undef
  | bool (b : Bool) | int (i : Int) | str (s : Str)
  | tup (xs : List V)
  | rcd (c : Nat) (fs : List (Str × V))
  | obj (i : Nat) | fn (f : Nat) | cls (c : Nat) | sta (n : Nat)
  | rng (a b : Int)
  | bi (id : String) | ty (n : String)
  | cref (i : Nat)
inductive O where
  | inst (c : Nat) (fs : List (Str × V))
  | list (xs : List V)
  | dict (es : List (V × V))
  | fro (es : List (V × V))
  | cell (v : V)
  | dead
  | void
structure St where
  loc : List (Str × V)
  heap : List O
inductive Fl where
  | next | brk | cont | ret (v : V)
inductive CA where
  | free | fn (f : Nat) | sta (n : Nat)
inductive Kind where
  | rcd | self
structure Fn where
  params : List Str
  dflts : List V
  body : List Stmt
  scope : Scope
  sup : Option (Nat × Nat) := none
structure Cls where
  kind : Kind
  init : Nat
  attrs : List (Str × CA)
structure Stat where
  fns : Nat → Option Fn
  cls : Nat → Option Cls
  glob : Str → Option V
  sta : Nat → O
inductive It where
  | list (i : Nat) (en : Bool)
  | str (s : Str) (en : Bool)
  | rng (a b : Int)
  | dict (i : Nat)
inductive U where
  | nat | vals | strs | ob | val | oval | ents | bool
@[reducible] def U.T : U → Type
  | .nat => Nat
  | .vals => List V
  | .strs => List Str
  | .ob => O
  | .val => V
  | .oval => Option V
  | .ents => List (V × V)
  | .bool => Bool
inductive Out where
  | none
  | ret (r : Except V V) (h : List O)
  | ite (b : Bool) (x y : Out)
  | opt (u : U) (a : Option u.T) (k : u.T → Out)
  | call (d f : Nat) (vs : List V) (kws : List (Str × V)) (h : List O) (k e : V → List O → Out)
  | whl (d : Nat) (t : Expr) (b : List Stmt) (s : St) (k : Fl → St → Out) (e : V → St → Out)
  | frl (d : Nat) (t : Expr) (it : It) (j : Nat) (b : List Stmt) (s : St) (k : Fl → St → Out) (e : V → St → Out)
  | cmp (d : Nat) (elt t : Expr) (ifs : List Expr) (it : It) (j i : Nat) (s : St) (k : Unit → St → Out) (e : V → St → Out)
noncomputable def M (α : Type) := St → (α → St → Out) → (V → St → Out) → Out
noncomputable def M.pure {α : Type} (a : α) : M α := fun s k e => k a s
noncomputable def M.bind {α β : Type} (m : M α) (f : α → M β) : M β := fun s k e => m s (fun a s => f a s k e) e
noncomputable def stuck {α : Type} : M α := fun _ _ _ => .none
noncomputable def ifM {α : Type} (b : Bool) (x y : M α) : M α := fun s k e => .ite b (x s k e) (y s k e)
noncomputable def ifS {α : Type} (b : Bool) (x y : M α) : M α := fun s k e => bif b then x s k e else y s k e
noncomputable def req {α : Type} (b : Bool) (x : M α) : M α := ifM b x stuck
noncomputable def chk {α : Type} (b : Bool) (x : M α) : M α := ifS b x stuck
noncomputable def oB {α : Type} (o : Option α) (f : α → Out) : Out := match o with
  | some a => f a
  | none => .none
noncomputable def liftO {α : Type} (o : Option α) : M α := fun s k _ => oB o fun a => k a s
noncomputable def dyn (u : U) (o : Option u.T) : M u.T := fun s k _ => .opt u o fun a => k a s
noncomputable def optM {α β : Type} (o : Option α) (n : M β) (f : α → M β) : M β := fun s k e => match o with
  | some a => f a s k e
  | none => n s k e
noncomputable abbrev HM := List O → (V → List O → Out) → (V → List O → Out) → Out
noncomputable def liftH (f : HM) : M V := fun s k e => f s.heap (fun v h => k v ⟨s.loc, h⟩) (fun x h => e x ⟨s.loc, h⟩)
noncomputable def lkp (x : Str) : List (Str × V) → Option V
  | [] => none
  | (y, v) :: l => if x = y then some v else lkp x l
noncomputable def upd (x : Str) (v : V) : List (Str × V) → List (Str × V)
  | [] => []
  | (y, u) :: l => if x = y then (y, v) :: l else (y, u) :: upd x v l
noncomputable def put (x : Str) (v : V) : List (Str × V) → List (Str × V)
  | [] => [(x, v)]
  | (y, u) :: l => if x = y then (y, v) :: l else (y, u) :: put x v l
noncomputable def isSt : V → Bool
  | .fn _ => true
  | .cls _ => true
  | .sta _ => true
  | .bi _ => true
  | .ty _ => true
  | _ => false
noncomputable def isU : V → Bool
  | .undef => true
  | _ => false
noncomputable def isN : V → Bool
  | .none => true
  | _ => false
noncomputable def asI : V → Option Int
  | .int i => some i
  | _ => none
noncomputable def asS : V → Option Str
  | .str s => some s
  | _ => none
noncomputable def asB : V → Option Bool
  | .bool b => some b
  | _ => none
noncomputable def asO : V → Option Nat
  | .obj i => some i
  | _ => none
noncomputable def asT : V → Option (List V)
  | .tup xs => some xs
  | _ => none
noncomputable def asC : V → Option Nat
  | .cref i => some i
  | _ => none
noncomputable def oL : O → Option (List V)
  | .list xs => some xs
  | _ => none
noncomputable def oD : O → Option (List (V × V))
  | .dict es => some es
  | _ => none
noncomputable def oF : O → Option (List (V × V))
  | .fro es => some es
  | _ => none
noncomputable def oI : O → Option (Nat × List (Str × V))
  | .inst c fs => some (c, fs)
  | _ => none
noncomputable def oC : O → Option V
  | .cell v => some v
  | _ => none
noncomputable def defd (v : V) : Option V := if isU v = true then none else some v
noncomputable def at0 (h : List O) (i : Nat) (f : O → Out) : Out := match i, h with
  | 0, o :: _ => f o
  | i, h => .opt .ob h[i]? f
noncomputable def rd {α : Type} (p : O → Option α) (i : Nat) : M α := fun s k _ => at0 s.heap i fun o => oB (p o) fun x => k x s
noncomputable def setO (i : Nat) (o : O) : M Unit := fun s k _ => k () ⟨s.loc, s.heap.set i o⟩
noncomputable def newO (o : O) : M V := fun s k _ => k (.obj s.heap.length) ⟨s.loc, s.heap ++ [o]⟩
noncomputable def nameM (x : Str) : M V := fun s k _ => oB (lkp x s.loc) fun v => match asC v with
  | some i => at0 s.heap i fun o => oB (oC o) fun w => oB (defd w) fun v => k v s
  | none => oB (defd v) fun v => k v s
noncomputable def okV : V → Bool
  | .cref _ => false
  | v => !isSt v
noncomputable def plainV (u v : V) : Bool := okV u && !isSt v
noncomputable def setLoc (x : Str) (v : V) : M Unit := fun s k _ => oB (lkp x s.loc) fun u => .ite (plainV u v) (k () ⟨upd x v s.loc, s.heap⟩) (oB (asC u) fun i => at0 s.heap i fun o => oB (oC o) fun _ => k () ⟨s.loc, s.heap.set i (.cell v)⟩)
noncomputable def constV : Const → Option V
  | .none => some .none
  | .bool b => some (.bool b)
  | .int i => some (.int i)
  | .str s => some (.str s)
  | _ => none
noncomputable def lim : Nat := 1000000
noncomputable def okL (n : Nat) : Bool := Nat.ble n lim
noncomputable def truthM : V → M Bool
  | .none => .pure false
  | .bool b => .pure b
  | .int i => .pure (decide (i ≠ 0))
  | .str s => req (okL s.cps.size) (.pure (decide (s.cps.size ≠ 0)))
  | .obj i => (rd oL i).bind fun xs => req (okL xs.length) (.pure (decide (xs.length ≠ 0)))
  | _ => stuck
noncomputable def veqF : V → V → Option Bool
  | .int a, b => (asI b).map fun b => decide (a = b)
  | .str a, b => (asS b).map fun b => decide (a = b)
  | .none, b => (asI b).map fun _ => false
  | _, _ => none
noncomputable def ch1 (n : Nat) : V := .str ⟨#[n]⟩
noncomputable def anyG {K : Type} [DecidableEq K] (as : V → Option K) (k : K) : List V → Option Bool
  | [] => some false
  | x :: xs => (as x).bind fun j => (anyG as k xs).map fun b => decide (j = k) || b
noncomputable def anyA (a : V) (xs : List V) : Option Bool := match asI a with
  | some i => anyG asI i xs
  | none => (asS a).bind fun s => anyG asS s xs
noncomputable def lookG {K : Type} [DecidableEq K] (as : V → Option K) (k : K) : List (V × V) → Option (Option V)
  | [] => some none
  | p :: r => (as p.1).bind fun j => if j = k then some (some p.2) else lookG as k r
noncomputable def lookA (a : V) (es : List (V × V)) : Option (Option V) := match asI a with
  | some i => lookG asI i es
  | none => (asS a).bind fun s => if es.isEmpty = true then none else lookG asS s es
noncomputable def dput (k : Int) (v : V) : List (V × V) → Option (List (V × V))
  | [] => some [(.int k, v)]
  | (x, u) :: r => (asI x).bind fun j => if j = k then some ((x, v) :: r) else (dput k v r).map ((x, u) :: ·)
noncomputable def ddel (k : Int) : List (V × V) → Option (List (V × V))
  | [] => none
  | (x, u) :: r => (asI x).bind fun j => if j = k then some r else (ddel k r).map ((x, u) :: ·)
noncomputable def thaw : O → O
  | .fro es => .dict es
  | o => o
noncomputable def objM (S : Stat) (v : V) : M O := match v with
  | .sta n => .pure (S.sta n)
  | .obj i => (rd some i).bind fun o => .pure (thaw o)
  | _ => stuck
noncomputable def inO (a : V) : O → M Bool
  | .list xs => dyn .bool (anyA a xs)
  | .dict es => (dyn .oval (lookA a es)).bind fun r => .pure r.isSome
  | _ => stuck
noncomputable def inM (S : Stat) (a b : V) : M Bool := match asS b with
  | some t => (liftO (asS a)).bind fun s => .pure (Txt.contains t s)
  | none => (objM S b).bind (inO a)
noncomputable def isNone (v : V) : M Bool := chk (!isU v) (.pure (isN v))
noncomputable def cmpI (p : Int → Int → Bool) (a b : V) : M Bool := (liftO (asI a)).bind fun x => (liftO (asI b)).bind fun y => .pure (p x y)
noncomputable def isM (a b : V) : M Bool := match asB b with
  | some q => (liftO (asB a)).bind fun p => .pure (decide (p = q))
  | none => chk (isN b) (isNone a)
noncomputable def leM (a b : V) : M Bool := match asI a with
  | some x => (liftO (asI b)).bind fun y => .pure (decide (x ≤ y))
  | none => (liftO (asS a)).bind fun x => (liftO (asS b)).bind fun y => .pure (!(decide (y.cps.toList < x.cps.toList)))
noncomputable def notM (m : M Bool) : M Bool := m.bind fun r => .pure (!r)
noncomputable def cmpM (S : Stat) (op : CmpOp) (a b : V) : M Bool := match op with
  | .Eq => liftO (veqF a b)
  | .NotEq => notM (liftO (veqF a b))
  | .Lt => cmpI (fun x y => decide (x < y)) a b
  | .LtE => leM a b
  | .Gt => cmpI (fun x y => decide (y < x)) a b
  | .GtE => cmpI (fun x y => decide (y ≤ x)) a b
  | .Is => isM a b
  | .In => inM S a b
  | .NotIn => notM (inM S a b)
  | _ => stuck
noncomputable def twoI (a b : V) (f : Int → Int → M V) : M V := (liftO (asI a)).bind fun x => (liftO (asI b)).bind fun y => f x y
noncomputable def addM (a b : V) : M V := match asI a with
  | some x => (liftO (asI b)).bind fun y => .pure (.int (x + y))
  | none => (liftO (asS a)).bind fun x => (liftO (asS b)).bind fun y => req (okL (x.cps.size + y.cps.size)) (.pure (.str (x ++ y)))
noncomputable def binM (op : Operator) (a b : V) : M V := match op with
  | .Add => addM a b
  | .Sub => twoI a b fun x y => .pure (.int (x - y))
  | .FloorDiv => twoI a b fun x y => req (decide (y ≠ 0 ∧ y.natAbs < 1073741824)) (.pure (.int (x.fdiv y)))
  | .Mod => twoI a b fun x y => req (decide (y ≠ 0)) (.pure (.int (x.fmod y)))
  | .Pow => twoI a b fun x y => req (decide (x = 16 ∧ 0 ≤ y ∧ y ≤ 8)) (.pure (.int (x ^ y.toNat)))
  | _ => stuck
noncomputable def unM (op : UnaryOp) (a : V) : M V := match op with
  | .USub => (liftO (asI a)).bind fun x => .pure (.int (-x))
  | .Not => (truthM a).bind fun b => .pure (.bool (!b))
  | _ => stuck
noncomputable def idx (i : Int) (n : Nat) : Option Nat :=
  if n ≤ 1000000 then (if 0 ≤ i then (if i.toNat < n then some i.toNat else none) else (if -i ≤ (n : Int) then some (i + n).toNat else none)) else none
noncomputable def bnd (n : Nat) (v : V) (d : Nat) : Option Nat := match asI v with
  | some i => some (if 0 ≤ i then min i.toNat n else (i + n).toNat)
  | none => if isN v = true then some d else none
noncomputable def sliceL {α : Type} (xs : List α) (l u : Nat) : List α := (xs.take u).drop l
noncomputable def sliceM (S : Stat) (v l u : V) : M V := match asS v with
  | some s => req (okL s.cps.size) ((dyn .nat (bnd s.cps.size l 0)).bind fun a => (dyn .nat (bnd s.cps.size u s.cps.size)).bind fun b => .pure (.str ⟨(sliceL s.cps.toList a b).toArray⟩))
  | none => (objM S v).bind fun o => (liftO (oL o)).bind fun xs => req (okL xs.length) ((dyn .nat (bnd xs.length l 0)).bind fun a => (dyn .nat (bnd xs.length u xs.length)).bind fun b => newO (.list (sliceL xs a b)))
noncomputable def subO (i : V) : O → M V
  | .list xs => (liftO (asI i)).bind fun k => (dyn .nat (idx k xs.length)).bind fun (j : Nat) => dyn .val xs[j]?
  | .dict es => (dyn .oval (lookA i es)).bind fun r => dyn .val r
  | _ => stuck
noncomputable def subM (S : Stat) (v i : V) : M V := match asS v with
  | some s => (liftO (asI i)).bind fun k => (dyn .nat (idx k s.cps.size)).bind fun (j : Nat) => (dyn .nat s.cps[j]?).bind fun c => .pure (ch1 c)
  | none => (objM S v).bind (subO i)
noncomputable def cattr (S : Stat) (c : Nat) (n : Str) : Option CA := (S.cls c).bind fun k => (k.attrs.find? fun p => decide (p.1 = n)).map (·.2)
noncomputable def fld (n : Str) (fs : List (Str × V)) : Option V := (lkp n fs).bind fun x => if isSt x = true then none else some x
noncomputable def attrF (n : Str) (fs : List (Str × V)) : Option CA → Option V
  | some .free => fld n fs
  | some (.sta k) => if (lkp n fs).isNone = true then some (.sta k) else none
  | _ => none
noncomputable def rcdF (n : Str) (fs : List (Str × V)) : Option CA → Option V
  | some .free => fld n fs
  | _ => none
noncomputable def attrM (S : Stat) (v : V) (n : Str) : M V := match v with
  | .rcd c fs => liftO (rcdF n fs (cattr S c n))
  | .obj i => (rd oI i).bind fun p => liftO (attrF n p.2 (cattr S p.1 n))
  | _ => stuck
noncomputable def isFree : Option CA → Bool
  | some .free => true
  | _ => false
noncomputable def setAttrM (S : Stat) (v : V) (n : Str) (x : V) : M Unit := (liftO (asO v)).bind fun i => (rd oI i).bind fun p =>
  chk (isFree (cattr S p.1 n) && Nat.ble (put n x p.2).length 1000) (setO i (.inst p.1 (put n x p.2)))
noncomputable def setItemM (v i x : V) : M Unit := (liftO (asO v)).bind fun j => (liftO (asI i)).bind fun k => (rd oD j).bind fun es => req (okL es.length) ((dyn .ents (dput k x es)).bind fun r => setO j (.dict r))
noncomputable def delItemM (v i : V) : M Unit := (liftO (asO v)).bind fun j => (liftO (asI i)).bind fun k => (rd oD j).bind fun es => req (okL es.length) ((dyn .ents (ddel k es)).bind fun r => setO j (.dict r))
inductive Cal where
  | fn (f : Nat) (pre : List V)
  | cls (c : Nat)
  | bi (n : String)
  | ty (n : String)
  | lm (n : String) (i : Nat)
  | join (s : Str)
noncomputable def calV : V → M Cal
  | .fn f => .pure (.fn f [])
  | .cls c => .pure (.cls c)
  | .bi n => .pure (.bi n)
  | .ty n => .pure (.ty n)
  | _ => stuck
noncomputable def lmId (n : Str) : Option String := if n = ("append" : Str) then some "list.append" else if n = ("extend" : Str) then some "list.extend" else if n = ("pop" : Str) then some "list.pop" else none
noncomputable def methF (n : Str) (fs : List (Str × V)) (i : Nat) : Option CA → Option Cal
  | some (.fn f) => if (lkp n fs).isNone = true then some (.fn f [.obj i]) else none
  | _ => none
noncomputable def methO (S : Stat) (n : Str) (i : Nat) : O → Option Cal
  | .inst c fs => methF n fs i (cattr S c n)
  | .list _ => (lmId n).map fun b => .lm b i
  | _ => none
noncomputable def meth (S : Stat) (v : V) (n : Str) : M Cal := match asS v with
  | some s => if n = ("join" : Str) then .pure (.join s) else stuck
  | none => (liftO (asO v)).bind fun i => (rd (methO S n i) i)
noncomputable def txts : List V → Option (List Str)
  | [] => some []
  | x :: r => (asS x).bind fun s => (txts r).map (s :: ·)
noncomputable def hexD (c : Nat) : Option Nat :=
  if 48 ≤ c ∧ c ≤ 57 then some (c - 48) else if 97 ≤ c ∧ c ≤ 102 then some (c - 87) else if 65 ≤ c ∧ c ≤ 70 then some (c - 55) else none
noncomputable def hexL : List Nat → Nat → Option Nat
  | [], a => some a
  | c :: r, a => (hexD c).bind fun x => hexL r (a * 16 + x)
noncomputable def isiM (S : Stat) (v c : V) : M V := match c, v with
  | .cls k, .rcd j _ => chk ((S.cls k).isSome && (S.cls j).isSome) (.pure (.bool (decide (j = k))))
  | .ty n, .str _ => if n = "str" then .pure (.bool true) else stuck
  | _, _ => stuck
noncomputable def lenM (S : Stat) (v : V) : M V := match asS v with
  | some s => req (okL s.cps.size) (.pure (.int s.cps.size))
  | none => (objM S v).bind fun o => (liftO (oL o)).bind fun xs => req (okL xs.length) (.pure (.int xs.length))
noncomputable def chrM (v : V) : M V := (liftO (asI v)).bind fun i => req (decide (0 ≤ i ∧ i < 1114112)) (.pure (ch1 i.toNat))
noncomputable def biM (S : Stat) (n : String) : List V → M V
  | [v] => if n = "len" then lenM S v else if n = "chr" then chrM v else stuck
  | [v, c] => if n = "isinstance" then isiM S v c else stuck
  | _ => stuck
noncomputable def tyM (n : String) : List V → M V
  | [v] => if n = "list" then (liftO (asO v)).bind fun i => (rd oD i).bind fun es => req (okL es.length) (newO (.list (es.map (·.1))))
      else if n = "range" then (liftO (asI v)).bind fun b => req (okL b.natAbs) (.pure (.rng 0 b)) else stuck
  | [v, u] => if n = "int" then (liftO (asS v)).bind fun s => (liftO (asI u)).bind fun b => req (decide (b = 16 ∧ 0 < s.cps.size ∧ s.cps.size ≤ 8)) ((dyn .nat (hexL s.cps.toList 0)).bind fun (x : Nat) => .pure (.int x)) else stuck
  | _ => stuck
noncomputable def lmM (n : String) (i : Nat) : List V → M V
  | [v] => (rd oL i).bind fun xs =>
    if n = "list.append" then req (okL xs.length) ((setO i (.list (xs ++ [v]))).bind fun _ => .pure V.none)
    else if n = "list.extend" then (liftO (asO v)).bind fun j => req (decide (j ≠ i)) ((rd oL j).bind fun ys => req (okL (xs.length + ys.length)) ((setO i (.list (xs ++ ys))).bind fun _ => .pure V.none))
    else if n = "list.pop" then (liftO (asI v)).bind fun k => req (decide (k = 0) && okL xs.length) ((dyn .val xs.head?).bind fun v => (setO i (.list xs.tail)).bind fun _ => .pure v)
    else stuck
  | _ => stuck
noncomputable def slots {α : Type} (ps : List Str) (vs : List α) (kw : List (Str × α)) (ds : List α) : List (Str × α) :=
  ((ps.drop (ps.length - ds.length)).zip ds).foldl (fun acc p => if (acc.lookup p.1).isNone then acc ++ [(p.1, p.2)] else acc) (ps.zip vs ++ kw)
noncomputable def boundOf {α : Type} (ps : List Str) (vs : List α) (kw : List (Str × α)) (ds : List α) : List (Str × α) := ps.filterMap fun n => ((slots ps vs kw ds).lookup n).map (n, ·)
noncomputable def fits {α : Type} (ps : List Str) (vs : List α) (kw : List (Str × α)) (ds : List α) : Bool :=
  decide (vs.length ≤ ps.length) && kw.all (fun p => ps.contains p.1 && !(ps.take vs.length).contains p.1) && decide ((kw.map (·.1)).Nodup) && decide (ds.length ≤ ps.length) &&
    ((ps.take (ps.length - ds.length)).filter fun n => ((ps.zip vs ++ kw).lookup n).isNone).isEmpty
noncomputable def bindA (fn : Fn) (vs : List V) (kws : List (Str × V)) : Option (List (Str × V)) :=
  if fits fn.params vs kws fn.dflts = true then some (boundOf fn.params vs kws fn.dflts) else none
noncomputable def entryN (g : Str → Option V) (binds : List (Str × V)) : List (Str × NameKind) → List O → List (Str × V) × List O
  | [], h => ([], h)
  | (x, k) :: r, h => match k with
    | .local => let q := entryN g binds r h; ((x, (lkp x binds).getD .undef) :: q.1, q.2)
    | .cell => let q := entryN g binds r (h ++ [.cell ((lkp x binds).getD .undef)]); ((x, .cref h.length) :: q.1, q.2)
    | .globalImplicit => let q := entryN g binds r h; (match g x with | some v => (x, v) :: q.1 | none => q.1, q.2)
    | _ => entryN g binds r h
noncomputable def entry (S : Stat) (sc : Scope) (binds : List (Str × V)) (h : List O) : St := let q := entryN S.glob binds sc.names h; ⟨q.1, q.2⟩
noncomputable def wrp (en : Bool) (k : Nat) (v : V) : V := bif en then .tup [.int k, v] else v
noncomputable def nextIt (it : It) (k : Nat) : M (Option V) := match it with
  | .list i en => (rd oL i).bind fun xs => req (Nat.ble k xs.length) (dyn .oval (some (xs[k]?.map (wrp en k))))
  | .str s en => dyn .oval (some ((s.cps[k]?.map ch1).map (wrp en k)))
  | .rng a b => dyn .oval (some (if a + k < b then some (.int (a + k)) else none))
  | .dict i => (rd oF i).bind fun es => dyn .oval (some (es[k]?.map (·.1)))
noncomputable def itO (i : Nat) : O → M It
  | .list _ => .pure (.list i false)
  | .dict es => req (okL es.length) ((setO i (.fro es)).bind fun _ => .pure (.dict i))
  | _ => stuck
noncomputable def itOf (v : V) : M It := match v with
  | .obj i => (rd some i).bind (itO i)
  | .str s => .pure (.str s false)
  | .rng a b => req (okL a.natAbs && okL b.natAbs) (.pure (.rng a b))
  | _ => stuck
noncomputable def enumOf (v : V) : M It := match v with
  | .obj i => (rd oL i).bind fun _ => .pure (.list i true)
  | .str s => .pure (.str s true)
  | _ => stuck
noncomputable def whlN (d : Nat) (t : Expr) (b : List Stmt) : M Fl := fun s k e => .whl d t b s k e
noncomputable def frlN (d : Nat) (t : Expr) (it : It) (j : Nat) (b : List Stmt) : M Fl := fun s k e => .frl d t it j b s k e
noncomputable def cmpN (d : Nat) (elt t : Expr) (ifs : List Expr) (it : It) (j i : Nat) : M Unit := fun s k e => .cmp d elt t ifs it j i s k e
structure Rec where
  ev : Nat → Expr → M V
  tr : Nat → Expr → M Bool
  ex : Nat → Stmt → M Fl
noncomputable def noStar : Expr → Bool
  | .Starred .. => false
  | _ => true
noncomputable def callH (d : Nat) (f : Nat) (vs : List V) (kws : List (Str × V)) : HM := fun h k e => match d with
  | 0 => .none
  | d + 1 => .call d f vs kws h k e
noncomputable def isVoid : O → Option Unit
  | .void => some ()
  | _ => none
noncomputable def frz (i : Nat) (h : List O) (k : V → List O → Out) : Out := at0 h i fun o => oB (oI o) fun p => k (.rcd p.1 p.2) (h.set i .dead)
noncomputable def mkH (S : Stat) (d : Nat) (c : Nat) (vs : List V) (kws : List (Str × V)) : HM := fun h k e => oB (S.cls c) fun q => match q.kind with
  | .self => at0 h 0 fun o => oB (isVoid o) fun _ => callH d q.init (.obj 0 :: vs) kws (h.set 0 (.inst c [])) (fun u h => bif isN u then k (.obj 0) h else .none) e
  | .rcd => callH d q.init (.obj h.length :: vs) kws (h ++ [.inst c []]) (fun u h' => bif isN u then frz h.length h' k else .none) e
section
variable (S : Stat) (r : Rec)
noncomputable def evs (d : Nat) : List Expr → M (List V)
  | [] => .pure []
  | e :: es => chk (noStar e) ((r.ev d e).bind fun v => (evs d es).bind fun vs => .pure (v :: vs))
noncomputable def named (k : Keyword) : Bool := k.arg.isSome
noncomputable def plainCall (as : List Expr) (ks : List Keyword) : Bool := as.all noStar && ks.all named
noncomputable def evks (d : Nat) : List Keyword → M (List (Str × V))
  | [] => .pure []
  | k :: es => (liftO k.arg).bind fun n => (r.ev d k.value).bind fun v => (evks d es).bind fun vs => .pure ((n, v) :: vs)
noncomputable def evo (d : Nat) (o : Option Expr) : M V := match o with
  | none => .pure .none
  | some e => r.ev d e
noncomputable def contF (m : M Fl) : Fl → M Fl
  | .next => m
  | f => .pure f
noncomputable def exs (d : Nat) : List Stmt → M Fl
  | [] => .pure .next
  | s :: ss => (r.ex d s).bind (contF (exs d ss))
noncomputable def boolM (d : Nat) (op : BoolOp) : List Expr → M V
  | [] => stuck
  | e :: es => (r.ev d e).bind fun v => if es.isEmpty = true then .pure v else (truthM v).bind fun t => match op with
    | .Or => ifM t (.pure v) (boolM d op es)
    | .And => ifM t (boolM d op es) (.pure v)
noncomputable def allTr (d : Nat) (op : BoolOp) : List Expr → M Bool
  | [] => .pure (match op with | .Or => false | .And => true)
  | e :: es => (r.tr d e).bind fun t => match op with
    | .Or => ifM t (.pure true) (allTr d op es)
    | .And => ifM t (allTr d op es) (.pure false)
noncomputable def noSet : Expr → Bool
  | .Set .. => false
  | .Starred .. => false
  | _ => true
noncomputable def chain (d : Nat) (a : V) : List CmpOp → List Expr → M Bool
  | op :: ops, e :: es => chk (noSet e && (!ops.isEmpty || es.isEmpty)) ((r.ev d e).bind fun b => (cmpM S op a b).bind fun t =>
    if ops.isEmpty = true then .pure t else ifM t (chain d b ops es) (.pure false))
  | _, _ => stuck
noncomputable def constE : Expr → Option V
  | .Constant k _ _ => constV k
  | _ => none
noncomputable def dictL : List (Option Expr) → List Expr → Option (List (Int × V))
  | [], [] => some []
  | k :: ks, e :: es => (k.bind constE).bind fun a => (asI a).bind fun i => (constE e).bind fun b => (dictL ks es).map ((i, b) :: ·)
  | _, _ => none
noncomputable def dmake : List (V × V) → List (Int × V) → Option (List (V × V))
  | acc, [] => some acc
  | acc, (k, v) :: r => (dput k v acc).bind fun a => dmake a r
noncomputable def joinM (s : Str) : List V → M V
  | [v] => (liftO (asO v)).bind fun i => (rd oL i).bind fun xs => (dyn .strs (txts xs)).bind fun l => req (okL ((l.map fun x => x.cps.size).sum + s.cps.size * l.length)) (.pure (.str (Str.join s l)))
  | _ => stuck
noncomputable def applyC (S : Stat) (d : Nat) (c : Cal) (vs : List V) (kws : List (Str × V)) : M V := match c with
  | .fn f pre => liftH (callH d f (pre ++ vs) kws)
  | .cls c => liftH (mkH S d c vs kws)
  | .bi n => chk kws.isEmpty (biM S n vs)
  | .ty n => chk kws.isEmpty (tyM n vs)
  | .lm n i => chk kws.isEmpty (lmM n i vs)
  | .join s => chk kws.isEmpty (joinM s vs)
noncomputable def nameE : Expr → Option Str
  | .Name x _ => some x
  | _ => none
noncomputable def enumE : Expr → Option Expr
  | .Call f as ks _ => (nameE f).bind fun n => if n = ("enumerate" : Str) ∧ ks.isEmpty = true then (if as.length = 1 then as.head? else none) else none
  | _ => none
noncomputable def isTyE : V → Bool
  | .ty n => n == "enumerate"
  | _ => false
noncomputable def iterE (d : Nat) (e : Expr) : M It := chk (noSet e) (match enumE e with
  | some x => chk (noStar x) ((nameM "enumerate").bind fun f => chk (isTyE f) ((r.ev d x).bind enumOf))
  | none => (r.ev d e).bind itOf)
noncomputable def assignNames : List Expr → List V → M Unit
  | [], [] => .pure ()
  | t :: ts, v :: vs => (liftO (nameE t)).bind fun x => (setLoc x v).bind fun _ => assignNames ts vs
  | _, _ => stuck
noncomputable def assignM (d : Nat) (t : Expr) (v : V) : M Unit := match t with
  | .Name x _ => setLoc x v
  | .Attribute o n _ => (r.ev d o).bind fun ov => setAttrM S ov n v
  | .Subscript o i _ => (r.ev d o).bind fun ov => (r.ev d i).bind fun iv => setItemM ov iv v
  | .Tuple ts _ _ => (liftO (asT v)).bind fun vs => chk (decide (ts.length = vs.length) && ts.all fun t => (nameE t).isSome) (assignNames ts vs)
  | _ => stuck
noncomputable def isEnumI : It → Bool
  | .list _ en => en
  | .str _ en => en
  | _ => false
noncomputable def isTupE : Expr → Bool
  | .Tuple .. => true
  | _ => false
noncomputable def okFor (it : It) (t : Expr) : Bool := !isEnumI it || isTupE t
noncomputable def compLocN (g : Str → Option V) (loc : List (Str × V)) : List (Str × NameKind) → List (Str × V)
  | [] => []
  | (x, k) :: r => match k with
    | .local => (x, .undef) :: compLocN g loc r
    | .free => (match lkp x loc with | some v => (x, v) :: compLocN g loc r | none => compLocN g loc r)
    | .globalImplicit => (match g x with | some v => (x, v) :: compLocN g loc r | none => compLocN g loc r)
    | _ => compLocN g loc r
noncomputable def kOK (loc : List (Str × V)) (p : Str × NameKind) : Bool := match p.2 with
  | .free => ((lkp p.1 loc).bind asC).isSome
  | .cell => false
  | _ => true
noncomputable def isFun : ScopeKind → Bool
  | .function => true
  | _ => false
noncomputable def compOK (sc : Scope) (loc : List (Str × V)) : Bool :=
  isFun sc.kind && decide ((sc.names.map (·.1)).Nodup) && !(sc.names.map (·.1)).contains ("__debug__" : Str) && sc.names.all (kOK loc)
noncomputable def compIn (sc : Scope) (m : M Unit) : M Unit := fun s k e => bif compOK sc s.loc then m ⟨compLocN S.glob s.loc sc.names, s.heap⟩ (fun u s' => k u ⟨s.loc, s'.heap⟩) (fun x s' => e x ⟨s.loc, s'.heap⟩) else .none
noncomputable def notDict : It → Bool
  | .dict _ => false
  | _ => true
noncomputable def scOK (sc : Scope) : M Unit := fun s k e => bif compOK sc s.loc then k () s else .none
noncomputable def compM (d : Nat) (elt t iter : Expr) (ifs : List Expr) (sc : Scope) : M V := (scOK sc).bind fun _ => (iterE r d iter).bind fun it => chk (notDict it && okFor it t)
  ((newO (.list [])).bind fun v => (liftO (asO v)).bind fun i => (compIn S sc (cmpN d elt t ifs it 0 i)).bind fun _ => .pure v)
noncomputable def compE : List Comprehension → Option (Expr × Expr × List Expr)
  | [⟨t, iter, ifs, k⟩] => if k = 0 then some (t, iter, ifs) else none
  | _ => none
noncomputable def noSup : Expr → Bool
  | .Call _ as ks _ => !(as.isEmpty && ks.isEmpty)
  | _ => true
noncomputable def callE (d : Nat) (f : Expr) (as : List Expr) (ks : List Keyword) (p : Pos) : M V := chk (decide (as.length + ks.length < 20) && plainCall as ks) (match f with
  | .Attribute o n ap => chk (decide (ap.endLine = p.line) && noSup o) ((r.ev d o).bind fun ov => (meth S ov n).bind fun c => (evs r d as).bind fun vs => (evks r d ks).bind fun kvs => applyC S d c vs kvs)
  | .Name x xp => (r.ev d (.Name x xp)).bind fun fv => (calV fv).bind fun c => (evs r d as).bind fun vs => (evks r d ks).bind fun kvs => applyC S d c vs kvs
  | _ => stuck)
noncomputable def sliceE : Expr → Option (Option Expr × Option Expr × Pos)
  | .Slice l u none p => some (l, u, p)
  | _ => none
noncomputable def subE (d : Nat) (v i : Expr) : M V := match sliceE i with
  | some q => (r.ev d v).bind fun vv => (evo r d q.1).bind fun a => (evo r d q.2.1).bind fun b => sliceM S vv a b
  | none => (r.ev d v).bind fun vv => (r.ev d i).bind fun iv => subM S vv iv
noncomputable def evF (d : Nat) : Expr → M V
  | .Constant c _ _ => liftO (constV c)
  | .Name x _ => nameM x
  | .BoolOp op vs _ => boolM r d op vs
  | .BinOp l op x _ => (r.ev d l).bind fun a => (r.ev d x).bind fun b => binM op a b
  | .UnaryOp op x _ => (r.ev d x).bind fun a => unM op a
  | .IfExp t b o _ => (r.tr d t).bind fun q => ifM q (r.ev d b) (r.ev d o)
  | .Dict ks vs _ => chk (Nat.ble ks.length 17) ((liftO (dictL ks vs)).bind fun l => (liftO (dmake [] l)).bind fun es => newO (.dict es))
  | .List es _ => (evs r d es).bind fun vs => chk (okL vs.length) (newO (.list vs))
  | .Tuple es _ _ => (evs r d es).bind fun vs => chk (okL vs.length) (.pure (.tup vs))
  | .Compare l ops cs _ => (r.ev d l).bind fun a => (chain S r d a ops cs).bind fun b => .pure (.bool b)
  | .Call f as ks p => callE S r d f as ks p
  | .Attribute o n _ => chk (noSup o) ((r.ev d o).bind fun ov => attrM S ov n)
  | .Subscript v i _ => subE S r d v i
  | .ListComp elt gs sc _ => (liftO (compE gs)).bind fun g => compM S r d elt g.1 g.2.1 g.2.2 sc
  | _ => stuck
noncomputable def notE : Expr → Option Expr
  | .UnaryOp .Not x _ => some x
  | _ => none
noncomputable def isTst : Expr → Bool
  | .UnaryOp .. => true
  | .BoolOp .. => true
  | .IfExp .. => true
  | .Compare .. => true
  | _ => false
noncomputable def trF (d : Nat) (e : Expr) : M Bool := match e with
  | .UnaryOp op x p => optM (notE (.UnaryOp op x p)) stuck fun x => notM (r.tr d x)
  | .BoolOp op vs _ => allTr r d op vs
  | .Compare l ops cs _ => (r.ev d l).bind fun a => chain S r d a ops cs
  | e => chk (!isTst e) ((r.ev d e).bind truthM)
noncomputable def augM (op : Operator) (a b : V) : M V := match op with
  | .Add => twoI a b fun x y => .pure (.int (x + y))
  | .Sub => twoI a b fun x y => .pure (.int (x - y))
  | _ => stuck
noncomputable def notFro : O → Bool
  | .fro _ => false
  | _ => true
noncomputable def endIt : It → M Unit
  | .dict i => (rd oF i).bind fun es => fun s k _ => .ite ((s.heap.set i (.dict es)).all notFro) (k () ⟨s.loc, s.heap.set i (.dict es)⟩) .none
  | _ => .pure ()
noncomputable def isComp : Expr → Bool
  | .ListComp .. => true
  | .SetComp .. => true
  | .DictComp .. => true
  | _ => false
noncomputable def isSub : Expr → Bool
  | .Subscript .. => true
  | _ => false
noncomputable def okAsg (t e : Expr) : Bool := match t with
  | .Name .. => !isComp e
  | .Attribute .. => !isComp e
  | .Subscript .. => !isComp e
  | .Tuple .. => isSub e
  | _ => false
noncomputable def one? {α : Type} : List α → Option α
  | [a] => some a
  | _ => none
noncomputable def delE : Expr → Option (Expr × Expr × Pos)
  | .Subscript o i p => some (o, i, p)
  | _ => none
noncomputable def augE (d : Nat) (t : Expr) (op : Operator) (e : Expr) : M Fl := match t with
  | .Name x _ => (nameM x).bind fun old => (r.ev d e).bind fun v => (augM op old v).bind fun n => (setLoc x n).bind fun _ => .pure .next
  | .Attribute o a _ => (r.ev d o).bind fun ov => (attrM S ov a).bind fun old => (r.ev d e).bind fun v => (augM op old v).bind fun n => (setAttrM S ov a n).bind fun _ => .pure .next
  | _ => stuck
noncomputable def noExc {α : Type} (m : M α) : M α := fun s k _ => m s k fun _ _ => .none
noncomputable def exF (d : Nat) : Stmt → M Fl
  | .Expr e _ => chk (!isComp e) ((r.ev d e).bind fun _ => .pure .next)
  | .Return o _ => (evo r d o).bind fun v => .pure (.ret v)
  | .Assign ts e _ => (liftO (one? ts)).bind fun t => chk (okAsg t e) ((r.ev d e).bind fun v => (assignM S r d t v).bind fun _ => .pure .next)
  | .AugAssign t op e _ => augE S r d t op e
  | .Delete ts _ => (liftO (one? ts)).bind fun t => (liftO (delE t)).bind fun q => (r.ev d q.1).bind fun ov => (r.ev d q.2.1).bind fun iv => (delItemM ov iv).bind fun _ => .pure .next
  | .If t b o _ => (r.tr d t).bind fun q => ifM q (exs r d b) (exs r d o)
  | .While t b o _ => chk o.isEmpty (whlN d t b)
  | .For t iter b o _ => chk o.isEmpty ((iterE r d iter).bind fun it => chk (okFor it t) ((frlN d t it 0 b).bind fun f => (endIt it).bind fun _ => .pure f))
  | .Try b hs o f _ => chk (o.isEmpty && f.isEmpty) (noExc (exs r d b))
  | _ => stuck
noncomputable def supM (d : Nat) (g k : Nat) (fn : Fn) : M Fl := match fn.params with
  | [ps, px] => (nameM ps).bind fun a => (liftO (asO a)).bind fun i => (rd oI i).bind fun p => chk (decide (p.1 = k)) ((nameM px).bind fun b => (liftH (callH d g [.obj i, b] [])).bind fun _ => exs r d (fn.body.drop 1))
  | _ => stuck
noncomputable def turnF (m : M Fl) : Fl → M Fl
  | .brk => .pure .next
  | .ret v => .pure (.ret v)
  | _ => m
noncomputable def bodyM (d : Nat) (fn : Fn) : M Fl := match fn.sup with
  | none => exs r d fn.body
  | some gk => supM r d gk.1 gk.2 fn
noncomputable def outK (k : V → List O → Out) : Fl → St → Out
  | .ret v, s => k v s.heap
  | .next, s => k .none s.heap
  | _, _ => .none
noncomputable def errK (e : V → List O → Out) (x : V) (s : St) : Out := e x s.heap
noncomputable def callM (d f : Nat) (vs : List V) (kws : List (Str × V)) : HM := fun h k e => oB (S.fns f) fun fn => oB (bindA fn vs kws) fun b => bodyM r d fn (entry S fn.scope b h) (outK k) (errK e)
noncomputable def whlF (d : Nat) (t : Expr) (b : List Stmt) : M Fl := (r.tr d t).bind fun q => ifM q ((exs r d b).bind (turnF (whlN d t b))) (.pure .next)
noncomputable def frlF (d : Nat) (t : Expr) (it : It) (k : Nat) (b : List Stmt) : M Fl := (nextIt it k).bind fun o => optM o (.pure .next) fun v => (assignM S r d t v).bind fun _ => (exs r d b).bind (turnF (frlN d t it (k + 1) b))
noncomputable def cmpF (d : Nat) (elt t : Expr) (ifs : List Expr) (it : It) (k i : Nat) : M Unit := (nextIt it k).bind fun o => optM o (.pure ()) fun v => (assignM S r d t v).bind fun _ => (allTr r d .And ifs).bind fun q =>
  ifM q ((r.ev d elt).bind fun x => (lmM "list.append" i [x]).bind fun _ => cmpN d elt t ifs it (k + 1) i) (cmpN d elt t ifs it (k + 1) i)
end
noncomputable def E (S : Stat) : Nat → Rec
  | 0 => ⟨fun _ _ => stuck, fun _ _ => stuck, fun _ _ => stuck⟩
  | n + 1 => ⟨evF S (E S n), trF S (E S n), exF S (E S n)⟩
noncomputable def stp (S : Stat) : Out → Out
  | .call d f vs kws h k e => callM S (E S 40) d f vs kws h k e
  | .whl d t b s k e => whlF (E S 40) d t b s k e
  | .frl d t it j b s k e => frlF S (E S 40) d t it j b s k e
  | .cmp d elt t ifs it j i s k e => cmpF S (E S 40) d elt t ifs it j i s k e
  | t => t
noncomputable def Y1 (rc : Out → Prop) (o : Except V V × List O) : Out → Prop
  | .none => False
  | .ret r h => (r, h) = o
  | .ite b x y => match b with
    | true => Y1 rc o x
    | false => Y1 rc o y
  | .opt _ a k => match a with
    | some x => Y1 rc o (k x)
    | none => False
  | .call d f vs kws h k e => rc (.call d f vs kws h k e)
  | .whl d t b s k e => rc (.whl d t b s k e)
  | .frl d t it j b s k e => rc (.frl d t it j b s k e)
  | .cmp d elt t ifs it j i s k e => rc (.cmp d elt t ifs it j i s k e)
noncomputable def rc (S : Stat) (o : Except V V × List O) : Nat → Out → Prop
  | 0 => fun _ => False
  | n + 1 => fun t => Y1 (rc S o n) o (stp S t)
structure Lv where
  S : Stat
  n : Nat
noncomputable def Y (l : Lv) (o : Except V V × List O) (t : Out) : Prop := Y1 (rc l.S o l.n) o t
end Mine
end
section
open PySem PySem.W PySem.Calls PyProof.Rows
set_option Elab.async false
set_option linter.unusedVariables false
set_option genSizeOf false
namespace Mine
universe u0 u1 u2 u3 u4 u5 u6 u7
theorem some_e {α : Type _} {a b : α} {G : Prop} (h : some a = some b) (k : a = b → G) : G := k (Option.some.inj h)
theorem none_some {α : Type _} {b : α} {G : Prop} (h : none = some b) : G := nomatch h
theorem el_1_1 {α0 : Sort u0} {A0 : α0 → Prop} {G : Prop} (h : ∃ x0 : α0, A0 x0) (k : ∀ x0, A0 x0 → G) : G := Exists.elim h fun x0 h => k x0 h
theorem el_1_2 {α0 : Sort u0} {A0 : α0 → Prop} {A1 : α0 → Prop} {G : Prop} (h : ∃ x0 : α0, A0 x0 ∧ A1 x0) (k : ∀ x0, A0 x0 → A1 x0 → G) : G := Exists.elim h fun x0 h => k x0 h.1 h.2
theorem el_1_3 {α0 : Sort u0} {A0 : α0 → Prop} {A1 : α0 → Prop} {A2 : α0 → Prop} {G : Prop} (h : ∃ x0 : α0, A0 x0 ∧ A1 x0 ∧ A2 x0) (k : ∀ x0, A0 x0 → A1 x0 → A2 x0 → G) : G := Exists.elim h fun x0 h => k x0 h.1 h.2.1 h.2.2
theorem el_2_1 {α0 : Sort u0} {α1 : Sort u1} {A0 : α0 → α1 → Prop} {G : Prop} (h : ∃ x0 : α0, ∃ x1 : α1, A0 x0 x1) (k : ∀ x0 x1, A0 x0 x1 → G) : G := Exists.elim h fun x0 h => Exists.elim h fun x1 h => k x0 x1 h
theorem el_2_2 {α0 : Sort u0} {α1 : Sort u1} {A0 : α0 → α1 → Prop} {A1 : α0 → α1 → Prop} {G : Prop} (h : ∃ x0 : α0, ∃ x1 : α1, A0 x0 x1 ∧ A1 x0 x1) (k : ∀ x0 x1, A0 x0 x1 → A1 x0 x1 → G) : G := Exists.elim h fun x0 h => Exists.elim h fun x1 h => k x0 x1 h.1 h.2
theorem el_2_3 {α0 : Sort u0} {α1 : Sort u1} {A0 : α0 → α1 → Prop} {A1 : α0 → α1 → Prop} {A2 : α0 → α1 → Prop} {G : Prop} (h : ∃ x0 : α0, ∃ x1 : α1, A0 x0 x1 ∧ A1 x0 x1 ∧ A2 x0 x1) (k : ∀ x0 x1, A0 x0 x1 → A1 x0 x1 → A2 x0 x1 → G) : G := Exists.elim h fun x0 h => Exists.elim h fun x1 h => k x0 x1 h.1 h.2.1 h.2.2
theorem el_3_1 {α0 : Sort u0} {α1 : Sort u1} {α2 : Sort u2} {A0 : α0 → α1 → α2 → Prop} {G : Prop} (h : ∃ x0 : α0, ∃ x1 : α1, ∃ x2 : α2, A0 x0 x1 x2) (k : ∀ x0 x1 x2, A0 x0 x1 x2 → G) : G := Exists.elim h fun x0 h => Exists.elim h fun x1 h => Exists.elim h fun x2 h => k x0 x1 x2 h
theorem el_3_3 {α0 : Sort u0} {α1 : Sort u1} {α2 : Sort u2} {A0 : α0 → α1 → α2 → Prop} {A1 : α0 → α1 → α2 → Prop} {A2 : α0 → α1 → α2 → Prop} {G : Prop} (h : ∃ x0 : α0, ∃ x1 : α1, ∃ x2 : α2, A0 x0 x1 x2 ∧ A1 x0 x1 x2 ∧ A2 x0 x1 x2) (k : ∀ x0 x1 x2, A0 x0 x1 x2 → A1 x0 x1 x2 → A2 x0 x1 x2 → G) : G := Exists.elim h fun x0 h => Exists.elim h fun x1 h => Exists.elim h fun x2 h => k x0 x1 x2 h.1 h.2.1 h.2.2
theorem el_3_4 {α0 : Sort u0} {α1 : Sort u1} {α2 : Sort u2} {A0 : α0 → α1 → α2 → Prop} {A1 : α0 → α1 → α2 → Prop} {A2 : α0 → α1 → α2 → Prop} {A3 : α0 → α1 → α2 → Prop} {G : Prop} (h : ∃ x0 : α0, ∃ x1 : α1, ∃ x2 : α2, A0 x0 x1 x2 ∧ A1 x0 x1 x2 ∧ A2 x0 x1 x2 ∧ A3 x0 x1 x2) (k : ∀ x0 x1 x2, A0 x0 x1 x2 → A1 x0 x1 x2 → A2 x0 x1 x2 → A3 x0 x1 x2 → G) : G := Exists.elim h fun x0 h => Exists.elim h fun x1 h => Exists.elim h fun x2 h => k x0 x1 x2 h.1 h.2.1 h.2.2.1 h.2.2.2
theorem el_4_2 {α0 : Sort u0} {α1 : Sort u1} {α2 : Sort u2} {α3 : Sort u3} {A0 : α0 → α1 → α2 → α3 → Prop} {A1 : α0 → α1 → α2 → α3 → Prop} {G : Prop} (h : ∃ x0 : α0, ∃ x1 : α1, ∃ x2 : α2, ∃ x3 : α3, A0 x0 x1 x2 x3 ∧ A1 x0 x1 x2 x3) (k : ∀ x0 x1 x2 x3, A0 x0 x1 x2 x3 → A1 x0 x1 x2 x3 → G) : G := Exists.elim h fun x0 h => Exists.elim h fun x1 h => Exists.elim h fun x2 h => Exists.elim h fun x3 h => k x0 x1 x2 x3 h.1 h.2
theorem el_4_3 {α0 : Sort u0} {α1 : Sort u1} {α2 : Sort u2} {α3 : Sort u3} {A0 : α0 → α1 → α2 → α3 → Prop} {A1 : α0 → α1 → α2 → α3 → Prop} {A2 : α0 → α1 → α2 → α3 → Prop} {G : Prop} (h : ∃ x0 : α0, ∃ x1 : α1, ∃ x2 : α2, ∃ x3 : α3, A0 x0 x1 x2 x3 ∧ A1 x0 x1 x2 x3 ∧ A2 x0 x1 x2 x3) (k : ∀ x0 x1 x2 x3, A0 x0 x1 x2 x3 → A1 x0 x1 x2 x3 → A2 x0 x1 x2 x3 → G) : G := Exists.elim h fun x0 h => Exists.elim h fun x1 h => Exists.elim h fun x2 h => Exists.elim h fun x3 h => k x0 x1 x2 x3 h.1 h.2.1 h.2.2
theorem el_4_4 {α0 : Sort u0} {α1 : Sort u1} {α2 : Sort u2} {α3 : Sort u3} {A0 : α0 → α1 → α2 → α3 → Prop} {A1 : α0 → α1 → α2 → α3 → Prop} {A2 : α0 → α1 → α2 → α3 → Prop} {A3 : α0 → α1 → α2 → α3 → Prop} {G : Prop} (h : ∃ x0 : α0, ∃ x1 : α1, ∃ x2 : α2, ∃ x3 : α3, A0 x0 x1 x2 x3 ∧ A1 x0 x1 x2 x3 ∧ A2 x0 x1 x2 x3 ∧ A3 x0 x1 x2 x3) (k : ∀ x0 x1 x2 x3, A0 x0 x1 x2 x3 → A1 x0 x1 x2 x3 → A2 x0 x1 x2 x3 → A3 x0 x1 x2 x3 → G) : G := Exists.elim h fun x0 h => Exists.elim h fun x1 h => Exists.elim h fun x2 h => Exists.elim h fun x3 h => k x0 x1 x2 x3 h.1 h.2.1 h.2.2.1 h.2.2.2
structure Tp where
  prog : Program
  w : World
  base : Heap
  K : Frag
  S : Stat
  af : Nat → Addr
  ac : Nat → Addr
  as : Nat → Addr
  p : Program
  loose : List Str
  mg : Str → Option Value
  mb : Str → Option Value
noncomputable abbrev DE := Addr × Addr
noncomputable abbrev Led := List (Addr × Obj)
structure Kn where
  D : List (Option DE)
  I : Led
structure Fm where
  tp : Tp
  env : Env
  h₀ : Heap
  J : Led
structure Cx where
  fm : Fm
  A : Around
  outer : List Env
  lv : Nat
noncomputable abbrev Cx.tp (c : Cx) := c.fm.tp
noncomputable abbrev Cx.env (c : Cx) := c.fm.env
noncomputable abbrev Cx.h₀ (c : Cx) := c.fm.h₀
noncomputable abbrev Cx.J (c : Cx) := c.fm.J
noncomputable abbrev Cx.prog (c : Cx) := c.tp.prog
noncomputable abbrev Cx.w (c : Cx) := c.tp.w
noncomputable abbrev Cx.base (c : Cx) := c.tp.base
noncomputable abbrev Cx.K (c : Cx) := c.tp.K
noncomputable abbrev Cx.S (c : Cx) := c.tp.S
noncomputable abbrev Cx.l (c : Cx) : Lv := ⟨c.S, c.lv⟩
noncomputable abbrev Cx.af (c : Cx) := c.tp.af
noncomputable abbrev Cx.ac (c : Cx) := c.tp.ac
noncomputable abbrev Cx.as (c : Cx) := c.tp.as
noncomputable def tupO (vs : List Value) (n : Nat) : Obj := ⟨.type "tuple", .none, .seq vs.toArray n, #[]⟩
noncomputable def rngO (a b : Int) (t u v : Tok) : Obj := ⟨.type "range", .none, .fields #[.int a t, .int b u, .int 1 v], #[]⟩
mutual
noncomputable def Conc (θ : Tp) (k : Kn) : V → Value → Prop
  | .none, x => x = .none
  | .bool b, x => x = .bool b
  | .int i, x => ∃ t, x = .int i t
  | .str s, x => ∃ t, x = .str s t
  | .tup xs, x => ∃ (a : Addr) (n : Nat) (vs : List Value), (a, tupO vs n) ∈ k.I ∧ Concs θ k xs vs ∧ x = .ref a
  | .rcd c fs, v => ∃ (x dx : Addr) (es : List DictEntry) (n : Nat), (x, instObj (θ.ac c) dx) ∈ k.I ∧ (dx, dictOf es n) ∈ k.I ∧ Flds θ k fs es ∧ v = .ref x
  | .rng a b, v => ∃ (x : Addr) (t u w : Tok), (x, rngO a b t u w) ∈ k.I ∧ v = .ref x
  | .obj i, v => ∃ d : DE, k.D[i]? = some (some d) ∧ v = .ref d.1
  | .fn f, v => v = .ref (θ.af f)
  | .cls k, v => v = .ref (θ.ac k)
  | .sta n, v => v = .ref (θ.as n)
  | .bi id, v => v = .builtin id
  | .ty n, v => v = .type n
  | .undef, _ => False
  | .cref _, _ => False
noncomputable def Concs (θ : Tp) (k : Kn) : List V → List Value → Prop
  | [], vs => vs = []
  | x :: xs, vs => ∃ v us, Conc θ k x v ∧ Concs θ k xs us ∧ vs = v :: us
noncomputable def Flds (θ : Tp) (k : Kn) : List (Str × V) → List DictEntry → Prop
  | [], es => es = []
  | (n, x) :: fs, es => ∃ h t v us, Conc θ k x v ∧ Flds θ k fs us ∧ es = ⟨h, .str n t, v⟩ :: us
end
noncomputable def KLe (k k' : Kn) : Prop := (∀ (i : Nat) (d : DE), k.D[i]? = some (some d) → k'.D[i]? = some (some d)) ∧ ∀ p ∈ k.I, p ∈ k'.I
theorem KLe.refl (k : Kn) : KLe k k := ⟨fun _ _ h => h, fun _ h => h⟩
theorem KLe.trans {k k' k'' : Kn} (a : KLe k k') (b : KLe k' k'') : KLe k k'' := ⟨fun i d h => b.1 i d (a.1 i d h), fun p h => b.2 p (a.2 p h)⟩
theorem KLe.I {D : List (Option DE)} {I I' : Led} (h : ∀ p ∈ I, p ∈ I') : KLe ⟨D, I⟩ ⟨D, I'⟩ := ⟨fun _ _ h => h, h⟩
theorem KLe.app {D : List (Option DE)} {I : Led} (x : Option DE) : KLe ⟨D, I⟩ ⟨D ++ [x], I⟩ := ⟨fun _ _ h => (List.getElem?_append_left (List.getElem?_eq_some_iff.mp h).1).trans h, fun _ h => h⟩
section
variable {θ : Tp} {k k' : Kn}
theorem mono_all (e : KLe k k') : ∀ a : V, ∀ v, Conc θ k a v → Conc θ k' a v :=
  V.rec (motive_1 := fun a => ∀ v, Conc θ k a v → Conc θ k' a v) (motive_2 := fun xs => ∀ vs, Concs θ k xs vs → Concs θ k' xs vs) (motive_3 := fun fs => ∀ es, Flds θ k fs es → Flds θ k' fs es) (motive_4 := fun p => ∀ v, Conc θ k p.2 v → Conc θ k' p.2 v)
    (fun _ h => h) (fun _ h => h) (fun _ _ h => h) (fun _ _ h => h) (fun _ _ h => h)
    (fun _ ih _ ⟨a, n, vs, h1, h2, h3⟩ => ⟨a, n, vs, e.2 _ h1, ih _ h2, h3⟩)
    (fun _ _ ih _ ⟨x, dx, es, n, h1, h2, h3, h4⟩ => ⟨x, dx, es, n, e.2 _ h1, e.2 _ h2, ih _ h3, h4⟩)
    (fun _ _ ⟨d, h1, h2⟩ => ⟨d, e.1 _ _ h1, h2⟩) (fun _ _ h => h) (fun _ _ h => h) (fun _ _ h => h)
    (fun _ _ _ ⟨x, t, u, w, h1, h2⟩ => ⟨x, t, u, w, e.2 _ h1, h2⟩) (fun _ _ h => h) (fun _ _ h => h) (fun _ _ h => h)
    (fun _ h => h) (fun _ _ h1 h2 _ ⟨v, us, a, b, c⟩ => ⟨v, us, h1 _ a, h2 _ b, c⟩)
    (fun _ h => h) (fun _ _ h1 h2 _ ⟨h, t, v, us, a, b, c⟩ => ⟨h, t, v, us, h1 _ a, h2 _ b, c⟩)
    (fun _ _ h => h)
theorem Conc.mono (e : KLe k k') {a : V} {v : Value} (h : Conc θ k a v) : Conc θ k' a v := mono_all e a v h
theorem Concs.mono (e : KLe k k') : ∀ {xs : List V} {vs : List Value}, Concs θ k xs vs → Concs θ k' xs vs := fun {xs} => by
  induction xs with
  | nil => exact id
  | cons x xs ih => exact fun ⟨v, us, a, b, c⟩ => ⟨v, us, a.mono e, ih b, c⟩
theorem Flds.mono (e : KLe k k') : ∀ {xs : List (Str × V)} {vs : List DictEntry}, Flds θ k xs vs → Flds θ k' xs vs := fun {xs} => by
  induction xs with
  | nil => exact id
  | cons x xs ih => exact fun ⟨h, t, v, us, a, b, c⟩ => ⟨h, t, v, us, a.mono e, ih b, c⟩
theorem Conc.bool (b : Bool) : Conc θ k (.bool b) (.bool b) := rfl
theorem Conc.int (i : Int) (t : Tok) : Conc θ k (.int i) (.int i t) := ⟨t, rfl⟩
theorem Conc.str (s : Str) (t : Tok) : Conc θ k (.str s) (.str s t) := ⟨t, rfl⟩
theorem Conc.obj {i : Nat} {d : DE} (h : k.D[i]? = some (some d)) : Conc θ k (.obj i) (.ref d.1) := ⟨d, h, rfl⟩
theorem Concs.cons {x : V} {v : Value} {xs : List V} {vs : List Value} (h : Conc θ k x v) (hs : Concs θ k xs vs) : Concs θ k (x :: xs) (v :: vs) := ⟨v, vs, h, hs, rfl⟩
end
noncomputable def Kv {K : Type} (f : K → V) (θ : Tp) (k : Kn) : List (V × V) → List (K × Value) → Prop
  | [], l => l = []
  | p :: es, l => ∃ (i : K) (v : Value) (us : List (K × Value)), p.1 = f i ∧ Conc θ k p.2 v ∧ Kv f θ k es us ∧ l = (i, v) :: us
theorem Kv.mono {K : Type} {f : K → V} {θ : Tp} {k k' : Kn} (e : KLe k k') : ∀ {es : List (V × V)} {l : List (K × Value)}, Kv f θ k es l → Kv f θ k' es l := fun {es} => by
  induction es with
  | nil => exact id
  | cons x xs ih => exact fun ⟨i, v, us, a, b, c, d⟩ => ⟨i, v, us, a, b.mono e, ih c, d⟩
noncomputable def Body (θ : Tp) (k : Kn) : O → DE → Led → Addr → Obj → Prop
  | .inst c fs, d, hd, a, ob => hd = [(d.1, instObj (θ.ac c) d.2)] ∧ a = d.2 ∧ ∃ es n, ob = dictOf es n ∧ Flds θ k fs es
  | .list xs, d, hd, a, ob => hd = [] ∧ a = d.1 ∧ ∃ vs n, ob = listOf (List.toArray vs) n ∧ Concs θ k xs vs
  | .cell v, d, hd, a, ob => hd = [] ∧ a = d.1 ∧ ∃ ov, ob.data = .cell ov ∧ (isU v = true ∨ ∃ x, ov = some x ∧ Conc θ k v x)
  | .dict es, d, hd, a, ob => hd = [] ∧ a = d.1 ∧ (d.1 == sysModules) = false ∧ ∃ kvs, ob.IsDictOf (intKind θ.prog θ.w) kvs ∧ Kv V.int θ k es kvs
  | _, _, _, _, _ => False
noncomputable def Row (θ : Tp) (J : Led) (k : Kn) : O → Option DE → Led → Prop
  | .dead, _, L => L = []
  | .void, d, L => d = none ∧ L = []
  | .fro es, d, L => L = [] ∧ ∃ d' ob, d = some d' ∧ (d'.1, ob) ∈ J ∧ Body θ k (.dict es) d' [] d'.1 ob
  | o, d, L => ∃ d' hd a ob, d = some d' ∧ L = hd ++ [(a, ob)] ∧ Body θ k o d' hd a ob
noncomputable def HeapR (θ : Tp) (J : Led) (k : Kn) : List O → List (Option DE) → Led → Prop
  | [], D, M => D = [] ∧ M = []
  | o :: os, D, M => ∃ d ds L M', D = d :: ds ∧ M = L ++ M' ∧ Row θ J k o d L ∧ HeapR θ J k os ds M'
section
variable {θ : Tp} {J : Led} {k k' : Kn}
theorem Body.mono (e : KLe k k') {o : O} {d : DE} {hd : Led} {a : Addr} {ob : Obj} : Body θ k o d hd a ob → Body θ k' o d hd a ob := by
  cases o with
  | inst c fs => exact fun h => ⟨h.1, h.2.1, Exists.imp (fun _ => Exists.imp fun _ h => ⟨h.1, h.2.mono e⟩) h.2.2⟩
  | list xs => exact fun h => ⟨h.1, h.2.1, Exists.imp (fun _ => Exists.imp fun _ h => ⟨h.1, h.2.mono e⟩) h.2.2⟩
  | dict es => exact fun h => ⟨h.1, h.2.1, h.2.2.1, Exists.imp (fun _ h => ⟨h.1, h.2.mono e⟩) h.2.2.2⟩
  | cell v => exact fun h => ⟨h.1, h.2.1, Exists.imp (fun _ h => ⟨h.1, h.2.imp id (Exists.imp fun _ h => ⟨h.1, h.2.mono e⟩)⟩) h.2.2⟩
  | _ => exact id
theorem Row.imp {J' : Led} (e : KLe k k') (hJ : ∀ (p : Addr × Obj) kvs, p ∈ J → p.2.IsDictOf (intKind θ.prog θ.w) kvs → p ∈ J') {o : O} {d : Option DE} {L : Led} : Row θ J k o d L → Row θ J' k' o d L := by
  cases o with
  | dead => exact id
  | void => exact id
  | fro es => exact fun h => ⟨h.1, Exists.imp (fun _ => Exists.imp fun _ h => ⟨h.1, el_1_2 h.2.2.2.2.2 fun _ z _ => hJ _ _ h.2.1 z, Body.mono (o := .dict es) e h.2.2⟩) h.2⟩
  | inst c fs => exact Exists.imp fun _ => Exists.imp fun _ => Exists.imp fun _ => Exists.imp fun _ h => ⟨h.1, h.2.1, h.2.2.mono (o := .inst c fs) e⟩
  | list xs => exact Exists.imp fun _ => Exists.imp fun _ => Exists.imp fun _ => Exists.imp fun _ h => ⟨h.1, h.2.1, h.2.2.mono (o := .list xs) e⟩
  | dict es => exact Exists.imp fun _ => Exists.imp fun _ => Exists.imp fun _ => Exists.imp fun _ h => ⟨h.1, h.2.1, h.2.2.mono (o := .dict es) e⟩
  | cell v => exact Exists.imp fun _ => Exists.imp fun _ => Exists.imp fun _ => Exists.imp fun _ h => ⟨h.1, h.2.1, h.2.2.mono (o := .cell v) e⟩
theorem HeapR.imp {J' : Led} (e : KLe k k') (hJ : ∀ (p : Addr × Obj) kvs, p ∈ J → p.2.IsDictOf (intKind θ.prog θ.w) kvs → p ∈ J') {os : List O} : ∀ {D : List (Option DE)} {M : Led}, HeapR θ J k os D M → HeapR θ J' k' os D M := by
  induction os with
  | nil => exact id
  | cons o os ih => exact Exists.imp fun _ => Exists.imp fun _ => Exists.imp fun _ => Exists.imp fun _ h => ⟨h.1, h.2.1, h.2.2.1.imp e hJ, ih h.2.2.2⟩
theorem HeapR.mono (e : KLe k k') {os : List O} {D : List (Option DE)} {M : Led} (h : HeapR θ J k os D M) : HeapR θ J k' os D M := h.imp e fun _ _ h _ => h
theorem HeapR.split {o : O} {os : List O} : ∀ {D : List (Option DE)} {M : Led} {i : Nat}, HeapR θ J k os D M → os[i]? = some o →
    ∃ d pre L post, D[i]? = some d ∧ M = pre ++ (L ++ post) ∧ Row θ J k o d L ∧ ∀ o' d' L', Row θ J k o' d' L' → HeapR θ J k (os.set i o') (D.set i d') (pre ++ (L' ++ post)) := by
  induction os with
  | nil => exact fun _ e => none_some e
  | cons o₁ os ih =>
    intro D M i h e
    refine el_4_4 h fun d ds L M' h1 h2 h3 h4 => ?_
    subst h1 h2
    cases i with
    | zero => exact some_e e fun q => ⟨d, [], L, M', rfl, rfl, q ▸ h3, fun o' d' L' h' => ⟨d', ds, L', M', rfl, rfl, h', h4⟩⟩
    | succ i => exact el_4_4 (ih h4 e) fun d₁ pre L₁ post e1 e2 e3 K => ⟨d₁, L ++ pre, L₁, post, e1, by rw [e2, List.append_assoc], e3, fun o' d' L' h' => ⟨d, ds.set i d', L, pre ++ (L' ++ post), rfl, List.append_assoc .., h3, K o' d' L' h'⟩⟩
theorem HeapR.snoc {o : O} {d : Option DE} {L : Led} (hc : Row θ J k o d L) {os : List O} : ∀ {D : List (Option DE)} {M : Led}, HeapR θ J k os D M → HeapR θ J k (os ++ [o]) (D ++ [d]) (M ++ L) := by
  induction os with
  | nil => exact fun h => ⟨d, [], L, [], by rw [h.1]; rfl, by rw [h.2, List.append_nil]; rfl, hc, rfl, rfl⟩
  | cons o₁ os ih => exact fun h => el_4_4 h fun d₁ ds L₁ M' h1 h2 h3 h4 => ⟨d₁, ds ++ [d], L₁, M' ++ L, by rw [h1]; rfl, by rw [h2, List.append_assoc], h3, ih h4⟩
theorem HeapR.length {os : List O} : ∀ {D : List (Option DE)} {M : Led}, HeapR θ J k os D M → os.length = D.length := by
  induction os with
  | nil => exact fun h => h.1 ▸ rfl
  | cons o os ih => exact fun h => el_4_4 h fun d ds L M' h1 h2 h3 h4 => by rw [h1, List.length_cons, List.length_cons, ih h4]
end
noncomputable def Held (φ : Fm) (k : Kn) (m : Str → Option Value) (x : Str) (a : V) : Prop :=
  (φ.env.kindOf x = some .local ∧ asC a = none ∧ (isU a = true ∨ ∃ v, m x = some v ∧ Conc φ.tp k a v)) ∨ (φ.env.kindOf x = some .globalImplicit ∧ φ.tp.S.glob x = some a ∧ isSt a = true) ∨
    (φ.env.kindOf x = some .cell ∧ ∃ i q z, a = .cref i ∧ φ.env.cells.lookup x = some q ∧ k.D[i]? = some (some (q, z)))
noncomputable def LocR (φ : Fm) (k : Kn) (m : Str → Option Value) (loc : List (Str × V)) : Prop := ∀ x a, lkp x loc = some a → (x == ("__debug__" : Str)) = false ∧ Held φ k m x a
theorem Held.mono {φ : Fm} {k k' : Kn} (e : KLe k k') {m : Str → Option Value} {x : Str} {a : V} (h : Held φ k m x a) : Held φ k' m x a :=
  h.imp (fun z => ⟨z.1, z.2.1, z.2.2.imp id (Exists.imp fun _ y => ⟨y.1, y.2.mono e⟩)⟩) (Or.imp id fun z => ⟨z.1, Exists.imp (fun i => Exists.imp fun q => Exists.imp fun _ y => ⟨y.1, y.2.1, e.1 _ _ y.2.2⟩) z.2⟩)
theorem LocR.mono {φ : Fm} {k k' : Kn} (e : KLe k k') {m : Str → Option Value} {loc : List (Str × V)} (h : LocR φ k m loc) : LocR φ k' m loc := fun x a q => ⟨(h x a q).1, (h x a q).2.mono e⟩
structure Rels (φ : Fm) (k : Kn) (st : St) (h : Heap) : Type where
  m : Str → Option Value
  MO : Led
  F : Fr φ.h₀ φ.env.locals h m
  N : News φ.h₀ φ.env.locals h (MO ++ (φ.J ++ k.I))
  nd : ((MO ++ (φ.J ++ k.I)).map (·.1)).Nodup
  loc : LocR φ k m st.loc
  heap : HeapR φ.tp φ.J k st.heap k.D MO
structure Top (θ : Tp) : Prop where
  X : θ.K.In θ.base
  T : TopRead θ.p θ.loose θ.mg θ.mb θ.base
  TT : ∃ mean, PyProof.Rows.Top θ.p θ.loose mean θ.mg θ.mb θ.base
  lim : θ.base.NoLimit
  globSt : ∀ x a, θ.S.glob x = some a → isSt a = true
  globs : ∀ x a, θ.S.glob x = some a →
    ∃ v, Conc θ ⟨[], []⟩ a v ∧ (nsIn θ.K mainGlobals x = some (some v) ∨ (nsIn θ.K mainGlobals x = some none ∧ bootBuiltins x = some v ∧ x ≠ "__name__"))
structure Good (c : Cx) : Prop where
  top : Top c.tp
  hd : c.A.handled = none
  kind : c.env.scope.kind = .function
  gl : c.env.globals = mainGlobals
  bi : c.env.builtins = builtinsNs
  frames : c.A.frames = some c.outer
  stays : c.base.StaysIn c.h₀
  ff : ∀ h m news, Fr c.h₀ c.env.locals h m → News c.h₀ c.env.locals h news → (hideAll h (news.map (·.1))).FunFrames c.base c.outer
theorem Good.X {c : Cx} (G : Good c) : c.K.In c.h₀ := G.top.X.keeps G.stays
theorem Good.g {c : Cx} (G : Good c) : c.h₀.Ns mainGlobals c.tp.mg := G.top.T.g.keeps G.stays
theorem Good.b {c : Cx} (G : Good c) : c.h₀.Ns builtinsNs c.tp.mb := G.top.T.b.keeps G.stays
theorem Good.nolim {c : Cx} (G : Good c) : c.h₀.NoLimit := G.top.lim.keeps G.stays
noncomputable abbrev Cx.M (c : Cx) : Model := model c.prog c.w
noncomputable def Aft {α β : Type} (c : Cx) (C : Kn → α → β → Prop) (k : Kn) (s : Shared) (K : α → St → Out) (o : Except V V × List O) (Q : β → Shared → Prop) : Prop :=
  ∀ k' a b st' h' tk, KLe k k' → Rels c.fm k' st' h' → C k' a b → Y c.l o (K a st') → Q b { s with heap := h', toks := tk }
noncomputable def Err (c : Cx) (k : Kn) (s : Shared) (X : V → St → Out) (o : Except V V × List O) (E : Value → Shared → Prop) : Prop := ∀ a st', Y c.l o (X a st') → False
noncomputable def Sim {α β : Type} (c : Cx) (k₀ : Kn) (C : Kn → α → β → Prop) (t : Sem β) (m : M α) : Prop :=
  ∀ k st s K X o Q E, KLe k₀ k → Rels c.fm k st s.heap → Y c.l o (m st K X) → Aft c C k s K o Q → Err c k s X o E → wpAny c.M c.A t Q E s
section
variable {α β : Type} {c : Cx} {C : Kn → α → β → Prop} {k k' : Kn} {s : Shared} {K : α → St → Out} {X : V → St → Out} {o : Except V V × List O} {Q : β → Shared → Prop} {E : Value → Shared → Prop}
theorem Aft.ext {h' : Heap} {tk : Nat} (H : Aft c C k s K o Q) (e : KLe k k') : Aft c C k' { s with heap := h', toks := tk } K o Q := fun k'' a b st' h'' tk' l R hc P => H k'' a b st' h'' tk' (e.trans l) R hc P
theorem Err.ext {h' : Heap} {tk : Nat} (H : Err c k s X o E) (e : KLe k k') : Err c k' { s with heap := h', toks := tk } X o E := H
theorem Err.re {E' : Value → Shared → Prop} (H : Err c k s X o E) : Err c k s X o E' := H
theorem Err.any {c' : Cx} {k' : Kn} {s' : Shared} {E' : Value → Shared → Prop} (H : Err c k s X o E) (e : c'.l = c.l) : Err c' k' s' X o E' := fun a st' P => H a st' (e ▸ P)
theorem Err.no {E : Value → Shared → Prop} : Err c k s (fun _ _ => .none) o E := fun _ _ P => P.elim
theorem Aft.now {st : St} {a : α} {b : β} (H : Aft c C k s K o Q) (tk : Nat) (R : Rels c.fm k st s.heap) (hc : C k a b) (P : Y c.l o (K a st)) : Q b { s with toks := tk } := H k a b st s.heap tk (.refl _) R hc P
end
section
variable {α β : Type} {c : Cx} {k : Kn} {C : Kn → α → β → Prop} {t : Sem β} {m : M α}
theorem Sim.weak {k' : Kn} (h : Sim c k C t m) (e : KLe k k') : Sim c k' C t m := fun k₁ st s K X o Q E l => h k₁ st s K X o Q E (e.trans l)
theorem Sim.pure {a : α} {b : β} (h : ∀ k', KLe k k' → C k' a b) : Sim c k C (Pure.pure b) (.pure a) :=
  fun k₁ st s K X o Q E l R P HQ _ => wpAny_pure (HQ.now s.toks R (h _ l) P)
theorem Sim.bind {α' β' : Type} {C' : Kn → α' → β' → Prop} {f : β → Sem β'} {g : α → M α'} (h : Sim c k C t m) (H : ∀ k' a b, KLe k k' → C k' a b → Sim c k' C' (f b) (g a)) : Sim c k C' (t >>= f) (m.bind g) :=
  fun k₁ st s K X o Q E l R P HQ HE => wpAny_bind (h k₁ st s _ X o _ E l R P (fun k' a b st' h' tk l' R' hc P' => H k' a b (l.trans l') hc k' st' _ K X o Q E (.refl _) R' P' (HQ.ext l') (HE.ext l')) HE)
theorem Sim.via {γ : Type} {t : Sem γ} {f : γ → Sem β} (x : γ) (hx : ∀ (Q : γ → Shared → Prop) E s, Q x s → wpAny c.M c.A t Q E s) (h : Sim c k C (f x) m) : Sim c k C (t >>= f) m :=
  fun k₁ st s K X o Q E l R P HQ HE => wpAny_bind (hx _ _ _ (h k₁ st s K X o Q E l R P HQ HE))
theorem Sim.hold {vs : List Value} (h : Sim c k C t m) : Sim c k C (holding vs t) m := fun k₁ st s K X o Q E l R P HQ HE => wpAny_holding (h k₁ st s K X o Q E l R P HQ HE)
theorem Sim.stand {pos : Pos} {f : Unit → Sem β} (h : Sim c k C (f ()) m) : Sim c k C (standAt pos >>= f) m := .via () (fun _ _ _ h => wpAny_standAt h) h
theorem Sim.stuck : Sim c k C t (Mine.stuck : M α) := fun _ _ _ _ _ _ _ _ _ _ P => P.elim
theorem Sim.ite {b : Bool} {m' : M α} (h : b = true → Sim c k C t m) (h' : b = false → Sim c k C t m') : Sim c k C t (ifM b m m') := by
  cases b with
  | true => exact fun k₁ st s K X o Q E l R P HQ HE => h rfl k₁ st s K X o Q E l R P HQ HE
  | false => exact fun k₁ st s K X o Q E l R P HQ HE => h' rfl k₁ st s K X o Q E l R P HQ HE
theorem Sim.iteS {b : Bool} {m' : M α} (h : b = true → Sim c k C t m) (h' : b = false → Sim c k C t m') : Sim c k C t (ifS b m m') := by
  cases b with
  | true => exact h rfl
  | false => exact h' rfl
theorem Sim.chk {b : Bool} (h : b = true → Sim c k C t m) : Sim c k C t (chk b m) := .iteS h fun _ => .stuck
theorem Sim.req {b : Bool} (h : b = true → Sim c k C t m) : Sim c k C t (req b m) := .ite h fun _ => .stuck
theorem Sim.guard {p : Prop} [Decidable p] (h : p → Sim c k C t m) : Sim c k C t (Mine.chk (decide p) m) := .chk fun e => h (of_decide_eq_true e)
theorem Sim.guardD {p : Prop} [Decidable p] (h : p → Sim c k C t m) : Sim c k C t (Mine.req (decide p) m) := .req fun e => h (of_decide_eq_true e)
theorem Sim.sizeS {n : Nat} (h : n ≤ lim → Sim c k C t m) : Sim c k C t (Mine.chk (okL n) m) := .chk fun e => h (Nat.le_of_ble_eq_true e)
theorem Sim.size {n : Nat} (h : n ≤ lim → Sim c k C t m) : Sim c k C t (Mine.req (okL n) m) := .req fun e => h (Nat.le_of_ble_eq_true e)
theorem Sim.ifp {p : Prop} [Decidable p] {m' : M α} (h : p → Sim c k C t m) (h' : ¬ p → Sim c k C t m') : Sim c k C t (if p then m else m') :=
  if q : p then by rw [if_pos q]; exact h q else by rw [if_neg q]; exact h' q
theorem Sim.gp {p : Prop} [Decidable p] (h : p → Sim c k C t m) : Sim c k C t (if p then m else Mine.stuck) := .ifp h fun _ => .stuck
theorem Sim.look {γ : Type} {o : Option γ} {g : γ → M α} (h : ∀ x, o = some x → Sim c k C t (g x)) : Sim c k C t ((liftO o).bind g) := by
  cases o with
  | none => exact fun _ _ _ _ _ _ _ _ _ _ P => P.elim
  | some x => exact h x rfl
theorem Sim.dyn {u : U} {o : Option u.T} {g : u.T → M α} (h : ∀ x, o = some x → Sim c k C t (g x)) : Sim c k C t ((Mine.dyn u o).bind g) := by
  cases o with
  | none => exact fun _ _ _ _ _ _ _ _ _ _ P => P.elim
  | some x => exact fun k₁ st s K X o Q E l R P HQ HE => h x rfl k₁ st s K X o Q E l R P HQ HE
theorem Sim.last {o : Option α} (h : ∀ x, o = some x → Sim c k C t (.pure x)) : Sim c k C t (liftO o) := by
  cases o with
  | none => exact fun _ _ _ _ _ _ _ _ _ _ P => P.elim
  | some x => exact h x rfl
end
section
variable {γ : Type} {l : Lv} {o : Except V V × List O} {G : Prop}
theorem look_e {x : Option γ} {f : γ → Out} (P : Y l o (oB x f)) (h : ∀ a, x = some a → Y l o (f a) → G) : G := by
  cases x with
  | none => exact P.elim
  | some a => exact h a rfl P
theorem dyn_e {u : U} {x : Option u.T} {f : u.T → Out} (P : Y l o (.opt u x f)) (h : ∀ a, x = some a → Y l o (f a) → G) : G := by
  cases x with
  | none => exact P.elim
  | some a => exact h a rfl P
theorem at0_e {h : List O} {i : Nat} {f : O → Out} (P : Y l o (at0 h i f)) (H : ∀ ob, h[i]? = some ob → Y l o (f ob) → G) : G := by
  have D : ∀ {i : Nat}, Y l o (.opt .ob (h[i]? : Option O) f) → (∀ ob, h[i]? = some ob → Y l o (f ob) → G) → G := fun P H => dyn_e P H
  cases i with
  | zero =>
    cases h with
    | nil => exact P.elim
    | cons a h => exact H a rfl P
  | succ i => exact D P H
theorem rd_e {α : Type} {p : O → Option γ} {i : Nat} {g : γ → M α} {st : St} {K : α → St → Out} {X : V → St → Out} (P : Y l o (((Mine.rd p i).bind g) st K X)) (H : ∀ ob x, st.heap[i]? = some ob → p ob = some x → Y l o (g x st K X) → G) : G :=
  at0_e P fun ob e P => look_e P fun x e2 P => H ob x e e2 P
theorem chk_e {α : Type} {b : Bool} {m : M α} {st : St} {K : α → St → Out} {X : V → St → Out} (P : Y l o (chk b m st K X)) (h : b = true → Y l o (m st K X) → G) : G := by
  cases b with
  | true => exact h rfl P
  | false => exact P.elim
theorem req_e {α : Type} {b : Bool} {m : M α} {st : St} {K : α → St → Out} {X : V → St → Out} (P : Y l o (req b m st K X)) (h : b = true → Y l o (m st K X) → G) : G := by
  cases b with
  | true => exact h rfl P
  | false => exact P.elim
theorem size_e {α : Type} {n : Nat} {m : M α} {st : St} {K : α → St → Out} {X : V → St → Out} (P : Y l o (req (okL n) m st K X)) (h : n ≤ lim → Y l o (m st K X) → G) : G := req_e P fun e => h (Nat.le_of_ble_eq_true e)
theorem bp_e {b : Bool} {x : Out} (P : Y l o (bif b then x else .none)) (h : b = true → Y l o x → G) : G := by
  cases b with
  | true => exact h rfl P
  | false => exact P.elim
theorem ite_e {b : Bool} {x : Out} (P : Y l o (.ite b x .none)) (h : b = true → Y l o x → G) : G := by
  cases b with
  | true => exact h rfl P
  | false => exact P.elim
theorem defd_e {a b : V} (P : defd a = some b) (h : ¬ isU a = true → a = b → G) : G := by
  unfold defd at P
  by_cases u : isU a = true
  · rw [if_pos u] at P; exact none_some P
  · rw [if_neg u] at P; exact h u (Option.some.inj P)
theorem gp_e {p : Prop} [Decidable p] {x : Option γ} {o : γ} (P : (if p then x else none) = some o) (h : p → x = some o → G) : G := by
  by_cases q : p
  · rw [if_pos q] at P; exact h q P
  · rw [if_neg q] at P; exact none_some P
end
section
variable {α β : Type} {c : Cx} {k : Kn} {C : Kn → α → β → Prop} {t : Sem β} {m : M α}
theorem Sim.rd {γ : Type} {i : Nat} {p : O → Option γ} {g : γ → M α}
    (h : ∀ k' st s K X o Q E ob x, KLe k k' → Rels c.fm k' st s.heap → st.heap[i]? = some ob → p ob = some x → Y c.l o (g x st K X) → Aft c C k' s K o Q → Err c k' s X o E → wpAny c.M c.A t Q E s) : Sim c k C t ((Mine.rd p i).bind g) :=
  fun k₁ st s K X o Q E l R P HQ HE => rd_e P fun ob x e1 e2 P => h k₁ st s K X o Q E ob x l R e1 e2 P HQ HE
theorem Sim.still {a : α} (h : ∀ k' s Q E, KLe k k' → (∀ tk b, C k' a b → Q b { s with toks := tk }) → wpAny c.M c.A t Q E s) : Sim c k C t (.pure a) :=
  fun k₁ st s K X o Q E l R P HQ _ => h k₁ s Q E l fun tk b hc => HQ.now tk R hc P
end
end Mine
end
section
open PySem PySem.W PySem.Calls PyProof.Rows
set_option Elab.async false
set_option linter.unusedVariables false
set_option maxRecDepth 10000
namespace Mine
theorem lim_line : lim ≤ sizeLine := by unfold lim sizeLine; decide
theorem pm_push (A L X : Led) : List.Perm ((A ++ L) ++ X) (L ++ (A ++ X)) := (List.append_assoc A L X).symm ▸ List.perm_append_comm_assoc A L X
theorem pm_in (A J L I : Led) : List.Perm (A ++ (J ++ (L ++ I))) (L ++ (A ++ (J ++ I))) := (List.Perm.append_left A (List.perm_append_comm_assoc J L I)).trans (List.perm_append_comm_assoc A L (J ++ I))
theorem nd_app {L X : Led} (h1 : (L.map (·.1)).Nodup) (h2 : (X.map (·.1)).Nodup) (hf : ∀ q ∈ L, ∀ p ∈ X, p.1 ≠ q.1) : ((L ++ X).map (·.1)).Nodup := by
  rw [List.map_append, List.nodup_append]
  exact ⟨h1, h2, fun a ha b hb e => el_1_2 (List.mem_map.mp ha) fun q hq e1 => el_1_2 (List.mem_map.mp hb) fun p hp e2 => hf q hq p hp (e2.trans (e.symm.trans e1.symm))⟩
theorem nd_one (a : Addr) (o : Obj) : (([(a, o)] : Led).map (·.1)).Nodup := by simp
theorem nd_pm {X Y : Led} (p : List.Perm X Y) (h : (Y.map (·.1)).Nodup) : (X.map (·.1)).Nodup := (p.map (·.1)).nodup_iff.mpr h
section
variable {φ : Fm} {k : Kn} {st : St} {h h' : Heap}
noncomputable def Rels.same (R : Rels φ k st h) (F' : Fr φ.h₀ φ.env.locals h' R.m) (N' : News φ.h₀ φ.env.locals h' (R.MO ++ (φ.J ++ k.I))) : Rels φ k st h' := ⟨R.m, R.MO, F', N', R.nd, R.loc, R.heap⟩
noncomputable def Rels.keeps (R : Rels φ k st h) (hk : ∀ b o, h.get? b = some o → h'.get? b = some o) : Rels φ k st h' := R.same (R.F.keeps hk) (R.N.grown hk)
noncomputable def Rels.push (R : Rels φ k st h) {o : O} {d : Option DE} {L : Led} (F' : Fr φ.h₀ φ.env.locals h' R.m) (N' : News φ.h₀ φ.env.locals h' (L ++ (R.MO ++ (φ.J ++ k.I)))) (hc : Row φ.tp φ.J k o d L) (hn : (L.map (·.1)).Nodup)
    (hf : ∀ q ∈ L, ∀ p ∈ R.MO ++ (φ.J ++ k.I), p.1 ≠ q.1) : Rels φ ⟨k.D ++ [d], k.I⟩ ⟨st.loc, st.heap ++ [o]⟩ h' :=
  ⟨R.m, R.MO ++ L, F', fun p hp => N' p ((pm_push ..).mem_iff.mp hp), nd_pm (pm_push ..) (nd_app hn R.nd hf), R.loc.mono (KLe.app d), HeapR.snoc (hc.imp (KLe.app d) fun _ _ h _ => h) (R.heap.mono (KLe.app d))⟩
theorem KLe.more (L : Led) : KLe k ⟨k.D, L ++ k.I⟩ := ⟨fun _ _ h => h, fun _ h => List.mem_append_right _ h⟩
noncomputable def Rels.pushI (R : Rels φ k st h) {L : Led} (F' : Fr φ.h₀ φ.env.locals h' R.m) (N' : News φ.h₀ φ.env.locals h' (L ++ (R.MO ++ (φ.J ++ k.I)))) (hn : (L.map (·.1)).Nodup) (hf : ∀ q ∈ L, ∀ p ∈ R.MO ++ (φ.J ++ k.I), p.1 ≠ q.1) : Rels φ ⟨k.D, L ++ k.I⟩ st h' :=
  ⟨R.m, R.MO, F', fun p hp => N' p ((pm_in ..).mem_iff.mp hp), nd_pm (pm_in ..) (nd_app hn R.nd hf), R.loc.mono (KLe.more L), R.heap.mono (KLe.more L)⟩
theorem Rels.newAt (R : Rels φ k st h) (d : DE) : Conc φ.tp ⟨k.D ++ [some d], k.I⟩ (.obj st.heap.length) (.ref d.1) := ⟨d, by rw [R.heap.length]; simp, rfl⟩
theorem sep_lt {L : Led} {a : Addr} {o : Obj} (hf : ∀ p ∈ L, p.1 < a) : ∀ q ∈ [(a, o)], ∀ p ∈ L, p.1 ≠ q.1 := fun q hq p hp => by rw [List.mem_singleton.mp hq]; exact Nat.ne_of_lt (hf p hp)
noncomputable def Rels.pushList (R : Rels φ k st h) {xs : List V} {vs : List Value} {l : Addr} {n : Nat} (hs : Concs φ.tp k xs vs) (F' : Fr φ.h₀ φ.env.locals h' R.m) (N' : News φ.h₀ φ.env.locals h' ((l, listOf vs.toArray n) :: (R.MO ++ (φ.J ++ k.I))))
    (hf : ∀ p ∈ R.MO ++ (φ.J ++ k.I), p.1 < l) : Rels φ ⟨k.D ++ [some (l, 0)], k.I⟩ ⟨st.loc, st.heap ++ [.list xs]⟩ h' :=
  R.push (L := [(l, listOf vs.toArray n)]) (o := .list xs) (d := some (l, 0)) F' N' ⟨(l, 0), [], l, _, rfl, rfl, rfl, rfl, vs, n, rfl, hs⟩ (nd_one ..) (sep_lt hf)
theorem Rels.bears (R : Rels φ k st h) : ∀ p ∈ k.I, h.get? p.1 = some p.2 := fun p hp => (R.N p (List.mem_append_right _ (List.mem_append_right _ hp))).1
theorem Rels.inI (R : Rels φ k st h) {p : Addr × Obj} (hp : p ∈ k.I) : p ∈ R.MO ++ (φ.J ++ k.I) := List.mem_append_right _ (List.mem_append_right _ hp)
theorem Body.row {θ : Tp} {J : Led} {o : O} {d : DE} {hd : Led} {a : Addr} {ob : Obj} (h : Body θ k o d hd a ob) : Row θ J k o (some d) (hd ++ [(a, ob)]) := by
  cases o with
  | dead => exact h.elim
  | void => exact h.elim
  | fro es => exact h.elim
  | inst c fs => exact ⟨d, hd, a, ob, rfl, rfl, h⟩
  | list xs => exact ⟨d, hd, a, ob, rfl, rfl, h⟩
  | dict es => exact ⟨d, hd, a, ob, rfl, rfl, h⟩
  | cell v => exact ⟨d, hd, a, ob, rfl, rfl, h⟩
noncomputable def live : O → Bool
  | .dead => false
  | .void => false
  | .fro _ => false
  | _ => true
theorem Row.body {θ : Tp} {J : Led} {o : O} {d : Option DE} {L : Led} (hl : live o = true) (h : Row θ J k o d L) : ∃ d' hd a ob, d = some d' ∧ L = hd ++ [(a, ob)] ∧ Body θ k o d' hd a ob := by
  cases o with
  | dead => cases hl
  | void => cases hl
  | fro es => cases hl
  | _ => exact h
theorem turn_eq (A hd B X : Led) (p : Addr × Obj) : (A ++ ((hd ++ [p]) ++ B)) ++ X = (A ++ hd) ++ p :: (B ++ X) := by simp
structure Turn (R : Rels φ k st h) (i : Nat) (o : O) (v : Value) (d : DE) (hd : Led) (a : Addr) (ob : Obj) (p1 p2 : Led) : Prop where
  hD : k.D[i]? = some (some d)
  hv : v = .ref d.1
  body : Body φ.tp k o d hd a ob
  eq : R.MO = p1 ++ ((hd ++ [(a, ob)]) ++ p2)
  hp : ∀ o' ob', Body φ.tp k o' d hd a ob' → HeapR φ.tp φ.J k (st.heap.set i o') k.D (p1 ++ ((hd ++ [(a, ob')]) ++ p2))
theorem Rels.turn (R : Rels φ k st h) {i : Nat} {o : O} (e : st.heap[i]? = some o) (hl : live o = true) {v : Value} (hv : Conc φ.tp k (.obj i) v) {G : Prop} (K : ∀ d hd a ob p1 p2, Turn R i o v d hd a ob p1 p2 → G) : G := by
  refine el_1_2 hv fun d hd hv => el_4_4 (R.heap.split e) fun d' p1 L p2 e1 e2 e3 H => ?_
  refine el_4_3 (e3.body hl) fun d₁ hh a ob e4 e5 e6 => ?_
  subst e4 e5
  cases Option.some.inj (Option.some.inj (hd.symm.trans e1))
  refine K d hh a ob p1 p2 ⟨hd, hv, e6, e2, fun o' ob' hb => ?_⟩
  have z := H o' (some d) _ hb.row
  rwa [show k.D.set i (some d) = k.D from List.ext_getElem? fun j => by
    rw [List.getElem?_set]
    split
    · next z => subst z; rw [if_pos (List.getElem?_eq_some_iff.mp hd).1, hd]
    · rfl] at z
theorem news_at {h₀ : Heap} {L a : Addr} {ob ob' : Obj} {pre post : Led} (N : News h₀ L h (pre ++ (a, ob) :: post)) (h1 : ∀ p ∈ pre, p.1 ≠ a) (h2 : ∀ p ∈ post, p.1 ≠ a) (hs : Heap.SameBut a h h') (ho : h'.get? a = some ob') : News h₀ L h' (pre ++ (a, ob') :: post) :=
  fun p hp => (List.mem_append.mp hp).elim (fun z => have q := N p (List.mem_append_left _ z); ⟨(hs.2 _ (h1 p z)).trans q.1, q.2⟩) fun z => (List.mem_cons.mp z).elim (fun z => by
    have q := N (a, ob) (List.mem_append_right _ (.head _))
    rw [z]; exact ⟨ho, q.2⟩) fun z => have q := N p (List.mem_append_right _ (.tail _ z)); ⟨(hs.2 _ (h2 p z)).trans q.1, q.2⟩
theorem fr_at {h₀ : Heap} {L a : Addr} {m : Str → Option Value} (F : Fr h₀ L h m) (h1 : a ≠ L) (h2 : h₀.get? a = none) (hs : Heap.SameBut a h h') : Fr h₀ L h' m :=
  ⟨F.ns.sameBut hs (Ne.symm h1), fun b o e => (hs.2 b (fun z => by rw [z, h2] at e; exact none_some e)).trans (F.keep b o e), F.above⟩
section
variable {R : Rels φ k st h} {i : Nat} {o : O} {v : Value} {d : DE} {hd : Led} {a : Addr} {ob : Obj} {p1 p2 : Led} (T : Turn R i o v d hd a ob p1 p2)
include T
theorem Turn.all : R.MO ++ (φ.J ++ k.I) = (p1 ++ hd) ++ (a, ob) :: (p2 ++ (φ.J ++ k.I)) := by rw [T.eq, turn_eq]
theorem Turn.N : News φ.h₀ φ.env.locals h ((p1 ++ hd) ++ (a, ob) :: (p2 ++ (φ.J ++ k.I))) := T.all ▸ R.N
theorem Turn.nd : (((p1 ++ hd) ++ (a, ob) :: (p2 ++ (φ.J ++ k.I))).map (·.1)).Nodup := T.all ▸ R.nd
theorem Turn.n1 : ∀ p ∈ p1 ++ hd, p.1 ≠ a := fun p hp z => by
  have nd := T.nd
  rw [List.map_append, List.map_cons, List.nodup_append] at nd
  exact nd.2.2 p.1 (List.mem_map_of_mem hp) a (.head _) z
theorem Turn.n2 : ∀ p ∈ p2 ++ (φ.J ++ k.I), p.1 ≠ a := fun p hp z => by
  have nd := T.nd
  rw [List.map_append, List.map_cons, List.nodup_append, List.nodup_cons] at nd
  exact nd.2.1.1 (List.mem_map.mpr ⟨p, hp, z⟩)
theorem Turn.at : (a, ob) ∈ R.MO ++ (φ.J ++ k.I) := by rw [T.all]; exact List.mem_append_right _ (.head _)
theorem Turn.row : h.get? a = some ob ∧ a ≠ φ.env.locals ∧ φ.h₀.get? a = none := R.N (a, ob) T.at
theorem Turn.mem {p : Addr × Obj} (hp : p ∈ hd) : p ∈ R.MO ++ (φ.J ++ k.I) := by rw [T.all]; exact List.mem_append_left _ (List.mem_append_right _ hp)
noncomputable def Turn.put {o' : O} {ob' : Obj} (F' : Fr φ.h₀ φ.env.locals h' R.m) (N' : News φ.h₀ φ.env.locals h' ((p1 ++ hd) ++ (a, ob') :: (p2 ++ (φ.J ++ k.I)))) (hb : Body φ.tp k o' d hd a ob') : Rels φ k ⟨st.loc, st.heap.set i o'⟩ h' :=
  ⟨R.m, p1 ++ ((hd ++ [(a, ob')]) ++ p2), F', by rw [turn_eq]; exact N', by
    have nd := T.nd
    rw [List.map_append, List.map_cons] at nd
    rw [turn_eq, List.map_append, List.map_cons]; exact nd, R.loc, T.hp o' ob' hb⟩
noncomputable def Turn.but {o' : O} {ob' : Obj} (hs : Heap.SameBut a h h') (ho : h'.get? a = some ob') (hb : Body φ.tp k o' d hd a ob') : Rels φ k ⟨st.loc, st.heap.set i o'⟩ h' :=
  T.put (fr_at R.F T.row.2.1 T.row.2.2 hs) (news_at T.N T.n1 T.n2 hs ho) hb
end
theorem upd_of {a : Addr} {o o' : Obj} {post : Led} (h' : ∀ p ∈ post, p.1 ≠ a) {pre : Led} : (∀ p ∈ pre, p.1 ≠ a) → Upd a o o' (pre ++ (a, o) :: post) (pre ++ (a, o') :: post) := by
  induction pre with
  | nil => exact fun _ => .head h'
  | cons q pre ih => exact fun h => .tail (h q (.head _)) (ih fun p hp => h p (.tail _ hp))
end
section
variable {θ : Tp} {k : Kn}
theorem Concs.length {xs : List V} : ∀ {vs : List Value}, Concs θ k xs vs → xs.length = vs.length := by
  induction xs with
  | nil => exact fun h => h ▸ rfl
  | cons x xs ih => exact fun h => el_2_3 h fun v us _ h e => by rw [e, List.length_cons, List.length_cons, ih h]
theorem Concs.get {xs : List V} : ∀ {vs : List Value} {i : Nat} {x : V}, Concs θ k xs vs → xs[i]? = some x → ∃ v, vs[i]? = some v ∧ Conc θ k x v := by
  induction xs with
  | nil => exact fun _ e => none_some e
  | cons y xs ih =>
    intro vs i x h e
    refine el_2_3 h fun v us h1 h2 e1 => ?_
    subst e1
    cases i with
    | zero => exact ⟨v, rfl, Option.some.inj e ▸ h1⟩
    | succ i => exact (ih (vs := us) (i := i) h2 e :)
theorem Concs.append {ys : List V} {ws : List Value} (hk : Concs θ k ys ws) {xs : List V} : ∀ {vs : List Value}, Concs θ k xs vs → Concs θ k (xs ++ ys) (vs ++ ws) := by
  induction xs with
  | nil => exact fun h => h ▸ hk
  | cons x xs ih => exact fun h => el_2_3 h fun v us h1 h2 e => e ▸ ⟨v, us ++ ws, h1, ih h2, rfl⟩
theorem Concs.one {x : V} {v : Value} (h : Conc θ k x v) : Concs θ k [x] [v] := ⟨v, [], h, rfl, rfl⟩
theorem Concs.take {xs : List V} : ∀ {vs : List Value} (n : Nat), Concs θ k xs vs → Concs θ k (xs.take n) (vs.take n) := by
  induction xs with
  | nil => exact fun n h => by rw [show _ = [] from h, List.take_nil, List.take_nil]; exact rfl
  | cons x xs ih =>
    intro vs n h
    refine el_2_3 h fun v us h1 h2 e => ?_
    subst e
    cases n with
    | zero => exact rfl
    | succ n => exact ⟨v, _, h1, ih n h2, rfl⟩
theorem Concs.drop {xs : List V} : ∀ {vs : List Value} (n : Nat), Concs θ k xs vs → Concs θ k (xs.drop n) (vs.drop n) := by
  induction xs with
  | nil => exact fun n h => by rw [show _ = [] from h, List.drop_nil, List.drop_nil]; exact rfl
  | cons x xs ih =>
    intro vs n h
    refine el_2_3 h fun v us h1 h2 e => ?_
    subst e
    cases n with
    | zero => exact ⟨v, us, h1, h2, rfl⟩
    | succ n => exact ih n h2
theorem Flds.look {n : Str} {fs : List (Str × V)} : ∀ {es : List DictEntry}, Flds θ k fs es → match lkp n fs with | some x => ∃ v, getL n es = some (some v) ∧ Conc θ k x v | none => getL n es = some none := by
  induction fs with
  | nil => exact fun h => by rw [show _ = [] from h]; exact rfl
  | cons p fs ih =>
    intro es h
    refine el_4_3 h fun hh t v us h1 h2 e => ?_
    · subst e
      by_cases q : n = p.1
      · rw [lkp, if_pos q]
        refine ⟨v, ?_, h1⟩
        unfold getL
        rw [List.find?_cons_of_pos (p := fun e : DictEntry => e.key.isStr n) (show (Value.str p.1 t).isStr n = true from beq_iff_eq.mpr q.symm)]
      · have e2 : (p.1 == n) = false := beq_eq_false_iff_ne.mpr fun z => q z.symm
        rw [lkp, if_neg q]
        have e3 : getL n (⟨hh, .str p.1 t, v⟩ :: us) = getL n us := by
          unfold getL
          rw [List.find?_cons_of_neg (p := fun e : DictEntry => e.key.isStr n) (by rw [show (Value.str p.1 t).isStr n = false from e2]; exact Bool.false_ne_true)]
          rfl
        rw [e3]
        exact ih h2
theorem Flds.put {n : Str} {x : V} {v : Value} (hx : Conc θ k x v) (hsh : Int) (tk : Tok) {fs : List (Str × V)} : ∀ {es : List DictEntry}, Flds θ k fs es → Flds θ k (put n x fs) (putL n hsh (.str n tk) v es) := by
  induction fs with
  | nil => exact fun h => by rw [show _ = [] from h]; exact ⟨hsh, tk, v, [], hx, rfl, rfl⟩
  | cons p fs ih =>
    intro es h
    refine el_4_3 h fun hh t u us h1 h2 e => ?_
    · subst e
      unfold Mine.put putL
      by_cases q : n = p.1
      · rw [if_pos q, if_pos (show (Value.str p.1 t).isStr n = true from beq_iff_eq.mpr q.symm)]
        exact ⟨hh, t, v, us, hx, h2, rfl⟩
      · rw [if_neg q, if_neg (show ¬ (Value.str p.1 t).isStr n = true from fun z => q (beq_iff_eq.mp z).symm)]
        exact ⟨hh, t, u, _, h1, ih h2, rfl⟩
theorem Flds.length {fs : List (Str × V)} : ∀ {es : List DictEntry}, Flds θ k fs es → fs.length = es.length := by
  induction fs with
  | nil => exact fun h => by rw [show _ = [] from h]; rfl
  | cons x xs ih => exact fun h => el_4_3 h fun _ _ v us _ h e => by rw [e, List.length_cons, List.length_cons, ih h]
end
end Mine
end
section
open PySem PySem.W PySem.Calls PyProof.Rows
set_option Elab.async false
set_option linter.unusedVariables false
set_option maxRecDepth 10000
namespace Mine
noncomputable abbrev CV (c : Cx) (k : Kn) (a : V) (v : Value) : Prop := Conc c.tp k a v
noncomputable abbrev CU (k : Kn) (a : Unit) (v : Unit) : Prop := True
noncomputable abbrev CB (k : Kn) (a : Bool) (v : Bool) : Prop := a = v
noncomputable abbrev CBV (k : Kn) (a : Bool) (v : Value) : Prop := v = .bool a
theorem KLe.nil (k : Kn) : KLe ⟨[], []⟩ k := ⟨fun _ _ h => none_some h, fun _ h => nomatch h⟩
theorem asI_e {a : V} {i : Int} {G : Prop} (h : asI a = some i) (K : a = .int i → G) : G := by
  cases a with
  | int j => exact K (Option.some.inj h ▸ rfl)
  | _ => exact none_some h
theorem asS_e {a : V} {i : Str} {G : Prop} (h : asS a = some i) (K : a = .str i → G) : G := by
  cases a with
  | str j => exact K (Option.some.inj h ▸ rfl)
  | _ => exact none_some h
theorem asB_e {a : V} {i : Bool} {G : Prop} (h : asB a = some i) (K : a = .bool i → G) : G := by
  cases a with
  | bool j => exact K (Option.some.inj h ▸ rfl)
  | _ => exact none_some h
theorem asO_e {a : V} {i : Nat} {G : Prop} (h : asO a = some i) (K : a = .obj i → G) : G := by
  cases a with
  | obj j => exact K (Option.some.inj h ▸ rfl)
  | _ => exact none_some h
theorem asT_e {a : V} {i : List V} {G : Prop} (h : asT a = some i) (K : a = .tup i → G) : G := by
  cases a with
  | tup j => exact K (Option.some.inj h ▸ rfl)
  | _ => exact none_some h
theorem isN_e {a : V} {G : Prop} (h : isN a = true) (K : a = .none → G) : G := by
  cases a with
  | none => exact K rfl
  | _ => exact (Bool.false_ne_true h).elim
theorem oL_e {o : O} {xs : List V} {G : Prop} (h : oL o = some xs) (K : o = .list xs → G) : G := by
  cases o with
  | list j => exact K (Option.some.inj h ▸ rfl)
  | _ => exact none_some h
theorem oD_e {o : O} {xs : List (V × V)} {G : Prop} (h : oD o = some xs) (K : o = .dict xs → G) : G := by
  cases o with
  | dict j => exact K (Option.some.inj h ▸ rfl)
  | _ => exact none_some h
theorem oF_e {o : O} {xs : List (V × V)} {G : Prop} (h : oF o = some xs) (K : o = .fro xs → G) : G := by
  cases o with
  | fro j => exact K (Option.some.inj h ▸ rfl)
  | _ => exact none_some h
theorem oI_e {o : O} {p : Nat × List (Str × V)} {G : Prop} (h : oI o = some p) (K : o = .inst p.1 p.2 → G) : G := by
  cases o with
  | inst j fs => exact K (Option.some.inj h ▸ rfl)
  | _ => exact none_some h
section
variable {α β : Type} {c : Cx} {k : Kn} {C : Kn → α → β → Prop}
theorem Sim.int {T : Value → Sem β} {g : Int → M α} {a : V} {x : Value} (ha : Conc c.tp k a x) (h : ∀ i t, Sim c k C (T (.int i t)) (g i)) : Sim c k C (T x) ((liftO (asI a)).bind g) :=
  .look fun i e => asI_e e fun q => by subst q; exact Exists.elim (show ∃ t, x = .int i t from ha) fun t q => q ▸ h i t
theorem Sim.str {T : Value → Sem β} {g : Str → M α} {a : V} {x : Value} (ha : Conc c.tp k a x) (h : ∀ i t, Sim c k C (T (.str i t)) (g i)) : Sim c k C (T x) ((liftO (asS a)).bind g) :=
  .look fun i e => asS_e e fun q => by subst q; exact Exists.elim (show ∃ t, x = .str i t from ha) fun t q => q ▸ h i t
theorem Sim.intOr {T : Value → Sem β} {g : Int → M α} {m : M α} {a : V} {x : Value} (ha : Conc c.tp k a x) (h : ∀ i t, Sim c k C (T (.int i t)) (g i)) (h' : Sim c k C (T x) m) : Sim c k C (T x) (match asI a with | some i => g i | none => m) := by
  cases e : asI a with
  | none => exact h'
  | some i => exact asI_e e fun q => by subst q; exact Exists.elim (show ∃ t, x = .int i t from ha) fun t q => q ▸ h i t
theorem Sim.strOr {T : Value → Sem β} {g : Str → M α} {m : M α} {a : V} {x : Value} (ha : Conc c.tp k a x) (h : ∀ i t, Sim c k C (T (.str i t)) (g i)) (h' : Sim c k C (T x) m) : Sim c k C (T x) (match asS a with | some i => g i | none => m) := by
  cases e : asS a with
  | none => exact h'
  | some i => exact asS_e e fun q => by subst q; exact Exists.elim (show ∃ t, x = .str i t from ha) fun t q => q ▸ h i t
end
section
variable {c : Cx} {k : Kn}
theorem conc_asC {θ : Tp} {k : Kn} {a : V} {v : Value} (h : Conc θ k a v) : asC a = none := by cases a <;> first | rfl | exact False.elim h
theorem load_at (G : Good c) {st : St} {s : Shared} {x : Str} {K : V → St → Out} {X : V → St → Out} {o : Except V V × List O} {Q : Value → Shared → Prop} {E : Value → Shared → Prop} (R : Rels c.fm k st s.heap) (P : Y c.l o (nameM x st K X)) (HQ : Aft c (CV c) k s K o Q) : (x == ("__debug__" : Str)) = false ∧ wpAny c.M c.A (loadName c.env x) Q E s := by
  refine look_e P fun a e P => ⟨(R.loc x a e).1, (R.loc x a e).2.elim (fun h => ?_) fun h => h.elim (fun h => ?_) fun h => ?_⟩
  · rw [h.2.1] at P
    refine look_e P fun b e1 P => defd_e e1 fun u e1 => ?_
    subst e1
    exact h.2.2.elim (fun z => (u z).elim) fun z => el_1_2 z fun v hv hc => wpAny_loadName_local G.kind h.1 R.F.ns hv (HQ.now s.toks R hc P)
  · have e1 : asC a = none := by cases a <;> first | rfl | exact (Bool.false_ne_true h.2.2).elim
    rw [e1] at P
    refine look_e P fun b e1 P => defd_e e1 fun u e1 => ?_
    subst e1
    unfold loadName
    simp only [Env.blockKind, G.kind, h.1, ScopeKind.isAnnotationScope, Bool.false_and, Bool.false_eq_true, if_false]
    refine el_1_2 (G.top.globs x a h.2.1) fun v hc hn => ?_
    have fin : Q v s := HQ.now s.toks R (hc.mono (KLe.nil k)) P
    have g := G.g.keeps R.F.keep
    rw [← G.gl] at g
    exact hn.elim (fun hn => loadGlobal_global g (mg_of G.X G.g hn) fin) fun hn => loadGlobal_builtin g (mg_none_of G.X G.g hn.1) (by rw [G.bi]; exact G.b.keeps R.F.keep) ((G.top.T.builtins x hn.2.2).trans hn.2.1) fin
  · refine h.2.elim fun i z => z.elim fun q z => el_1_3 z fun dz e1 e2 e3 => ?_
    subst e1
    refine at0_e P fun ob e4 P1 => look_e P1 fun b' e5 P2 => look_e P2 fun b u P3 => defd_e u fun u' g3 => ?_
    subst g3
    cases ob with
    | cell w =>
      refine R.turn e4 rfl (v := .ref q) ⟨(q, dz), e3, rfl⟩ fun d hd a ob p1 p2 T => ?_
      rw [← show a = q from T.body.2.1.trans (Value.ref.inj T.hv).symm] at e2
      exact el_1_2 T.body.2.2 fun ov e6 hc => hc.elim (fun z => (u' (Option.some.inj e5 ▸ z)).elim) fun hc => el_1_2 hc fun v e7 hc => wpAny_loadName_cell G.kind h.1 e2 ⟨_, T.row.1, e6.trans (congrArg _ e7)⟩ (HQ.now s.toks R (Option.some.inj e5 ▸ hc) P3)
    | _ => exact none_some e5
theorem Sim.load (G : Good c) {x : Str} : Sim c k (CV c) (loadName c.env x) (nameM x) := fun k' st s K X o Q E l R P HQ HE => (load_at G R P HQ).2
theorem Sim.name (G : Good c) {x : Str} {pos : Pos} : Sim c k (CV c) (eval (.Name x pos) c.env) (nameM x) := fun k' st s K X o Q E l R P HQ HE => wpAny_Name (load_at G R P HQ).2 (load_at (E := E) G R P HQ).1
theorem Sim.const {q : Const} {n : Nat} {pos : Pos} : Sim c k (CV c) (eval (.Constant q n pos) c.env) (liftO (constV q)) := by
  cases q with
  | none => exact .still fun _ s _ _ _ h => wpAny_Constant_none (h s.toks _ rfl)
  | bool b => exact .still fun _ s _ _ _ h => wpAny_Constant_bool (h s.toks _ rfl)
  | int i => exact .still fun _ _ _ _ _ h => wpAny_Constant_int (h _ _ ⟨_, rfl⟩)
  | str t => exact .still fun _ _ _ _ _ h => wpAny_Constant_str (h _ _ ⟨_, rfl⟩)
  | _ => exact .last fun x e => none_some e
theorem lkp_upd (x y : Str) (v : V) (l : List (Str × V)) : lkp y (upd x v l) = if y = x then (lkp x l).map fun _ => v else lkp y l := by
  induction l with
  | nil => unfold upd lkp; split <;> rfl
  | cons p l ih =>
    unfold upd
    by_cases h : x = p.1
    · rw [if_pos h, lkp, lkp, lkp, if_pos h, ← h]
      by_cases q : y = x
      · rw [if_pos q, if_pos q]; rfl
      · rw [if_neg q, if_neg q, if_neg q]
    · rw [if_neg h, lkp, lkp, lkp, if_neg h, ih]
      by_cases q : y = x
      · rw [if_neg (q ▸ h), if_pos q, if_pos q]
      · rw [if_neg q, if_neg q]
theorem Sim.store (G : Good c) {x : Str} {a : V} {v : Value} (hv : Conc c.tp k a v) : Sim c k CU (storeName c.env x v) (setLoc x a) := by
  intro k₁ st s K X o Q E l R P HQ HE
  refine look_e P fun u e P => ?_
  refine (R.loc x u e).2.elim (fun h => ?_) fun h => h.elim (fun h => ?_) fun h => ?_
  · rw [h.2.1] at P
    cases hs : plainV u a with
    | false => rw [hs] at P; exact P.elim
    | true =>
    rw [hs] at P
    refine wpAny_storeName_local h.1 R.F.ns (fun h' hn hsb => HQ k₁ () () ⟨upd x a st.loc, st.heap⟩ h' _ (.refl _) ⟨_, R.MO, R.F.set hn hsb, R.N.set hsb, R.nd, fun y b hb => ?_, R.heap⟩ trivial P) (by show (c.env.scope.kind == .class || (c.env.scope.kind == .module && c.env.locals != c.env.globals)) = false; rw [G.kind]; rfl)
    rw [lkp_upd] at hb
    by_cases q : y = x
    · rw [if_pos q, e] at hb
      exact ⟨q ▸ (R.loc x u e).1, .inl ⟨q ▸ h.1, some_e hb fun z => z ▸ conc_asC hv, .inr ⟨v, if_pos q, some_e hb fun z => z ▸ hv.mono l⟩⟩⟩
    · rw [if_neg q] at hb
      exact ⟨(R.loc y b hb).1, (R.loc y b hb).2.imp (fun z => ⟨z.1, z.2.1, z.2.2.imp id (Exists.imp fun w z => ⟨(if_neg q).trans z.1, z.2⟩)⟩) id⟩
  · have e1 : asC u = none ∧ isSt u = true := ⟨by cases u <;> first | rfl | exact (Bool.false_ne_true h.2.2).elim, h.2.2⟩
    have e2 : plainV u a = false := by cases u <;> first | rfl | exact (Bool.false_ne_true h.2.2).elim
    rw [e1.1, e2] at P
    exact P.elim
  · refine h.2.elim fun i z => z.elim fun q z => el_1_3 z fun dz e1 e2 e3 => ?_
    subst e1
    refine at0_e P fun ob e4 P1 => look_e P1 fun b e5 P2 => ?_
    cases ob with
    | cell w =>
      refine R.turn e4 rfl (v := .ref q) ⟨(q, dz), e3, rfl⟩ fun d hd a ob p1 p2 T => ?_
      rw [← show a = q from T.body.2.1.trans (Value.ref.inj T.hv).symm] at e2
      exact el_1_2 T.body.2.2 fun ov e6 _ => wpAny_storeName_cell G.kind h.1 e2 ⟨_, T.row.1, e6⟩ fun h' hv'' hsb => el_1_2 hv'' fun ob' e7 e8 => HQ k₁ () () _ h' _ (.refl _) (T.but (o' := .cell _) hsb e7 ⟨T.body.1, T.body.2.1, _, e8, .inr ⟨v, rfl, hv.mono l⟩⟩) trivial P2
    | _ => exact none_some e5
theorem Sim.bindName (G : Good c) {x : Str} {a : V} {v : Value} (hv : Conc c.tp k a v) : Sim c k CU (bindName c.env x v) (setLoc x a) :=
  fun k₁ st s K X o Q E l R P HQ HE => wpAny_bindName (Sim.store G hv k₁ st s K X o Q E l R P HQ HE)
theorem sim_ints {T : Value → Value → Sem Value} {g : Int → Int → M V} {a b : V} {x y : Value} (ha : Conc c.tp k a x) (hb : Conc c.tp k b y) (h : ∀ i t j u, Sim c k (CV c) (T (.int i t) (.int j u)) (g i j)) : Sim c k (CV c) (T x y) (twoI a b g) :=
  .int (T := fun x => T x y) ha fun i t => .int (T := fun y => T (.int i t) y) hb fun j u => h i t j u
theorem sim_bin {op : Operator} {a b : V} {x y : Value} (ha : Conc c.tp k a x) (hb : Conc c.tp k b y) : Sim c k (CV c) (binaryOp op x y) (binM op a b) := by
  cases op with
  | Add =>
    show Sim c k (CV c) _ (addM a b)
    unfold addM
    exact .intOr (T := fun x => binaryOp .Add x y) ha (fun i t => .int (T := fun y => binaryOp .Add (.int i t) y) hb fun j u => .still fun _ _ _ _ _ h => add_int (h _ _ ⟨_, rfl⟩))
      (.str (T := fun x => binaryOp .Add x y) ha fun i t => .str (T := fun y => binaryOp .Add (.str i t) y) hb fun j u => .size fun hl => .still fun _ _ _ _ _ h => add_str (fun _ _ => h _ _ ⟨_, rfl⟩) (Nat.le_trans hl lim_line))
  | Sub => exact sim_ints (T := binaryOp .Sub) ha hb fun i t j u => .still fun _ _ _ _ _ h => sub_int (h _ _ ⟨_, rfl⟩)
  | FloorDiv => exact sim_ints (T := binaryOp .FloorDiv) ha hb fun i t j u => .guardD fun hl => .still fun _ _ _ _ _ h => floordiv_int hl.1 (h _ _ ⟨_, rfl⟩) (.inl (PyProof.noPylong_small hl.2))
  | Mod => exact sim_ints (T := binaryOp .Mod) ha hb fun i t j u => .guardD fun hl => .still fun _ _ _ _ _ h => mod_int' hl (h _ _ ⟨_, rfl⟩)
  | Pow =>
    refine sim_ints (T := binaryOp .Pow) ha hb fun i t j u => .guardD fun hl => .still fun _ _ _ _ _ h => pow_int hl.2.1 ?_ (h _ _ ⟨_, rfl⟩)
    rw [hl.1, show Builtin.Int.intBits 16 = 5 by decide +kernel]
    have := hl.2.2
    omega
  | _ => exact .stuck
theorem sim_aug {op : Operator} {a b : V} {x y : Value} (ha : Conc c.tp k a x) (hb : Conc c.tp k b y) : Sim c k (CV c) (inplaceOp op x y) (augM op a b) := by
  cases op with
  | Add => exact sim_ints (T := inplaceOp .Add) ha hb fun i t j u => .still fun _ _ _ _ _ h => iadd_int (h _ _ ⟨_, rfl⟩)
  | Sub => exact sim_ints (T := inplaceOp .Sub) ha hb fun i t j u => .still fun _ _ _ _ _ h => isub_int (h _ _ ⟨_, rfl⟩)
  | _ => exact .stuck
theorem Rels.list {st : St} {h : Heap} (R : Rels c.fm k st h) {i : Nat} {ob : O} {xs : List V} (e : st.heap[i]? = some ob) (ho : oL ob = some xs) {v : Value} (hv : Conc c.tp k (.obj i) v) {G : Prop}
    (K : ∀ a vs n, v = .ref a → (a, listOf (List.toArray vs) n) ∈ R.MO ++ (c.J ++ k.I) → Concs c.tp k xs vs → h.IsList a vs.toArray → G) : G := by
  refine oL_e ho fun ho => ?_
  subst ho
  refine R.turn e rfl hv fun d hd a ob p1 p2 T => el_2_2 T.body.2.2 fun vs n h1 h2 => ?_
  have m : (d.1, listOf (List.toArray vs) n) ∈ R.MO ++ (c.J ++ k.I) := by rw [← T.body.2.1, ← h1]; exact T.at
  exact K d.1 vs n T.hv m h2 ⟨_, (R.N _ m).1, rfl, _, rfl⟩
theorem sim_truth {a : V} {v : Value} (ha : Conc c.tp k a v) : Sim c k CB (truthy v) (truthM a) := by
  cases a with
  | none => cases (show v = .none from ha); exact .still fun _ s _ _ _ h => fun _ _ _ => h s.toks _ rfl
  | bool b => cases (show v = .bool b from ha); exact .still fun _ s _ _ _ h => wpAny_truthy_bool (h s.toks _ rfl)
  | int i =>
    refine Exists.elim (show ∃ t, v = .int i t from ha) fun t q => ?_
    subst q
    refine .still fun _ s _ _ _ h => truthy_int (h s.toks _ ?_)
    simp only [CB, ne_eq, bne, decide_not]
    rfl
  | str s =>
    refine Exists.elim (show ∃ t, v = .str s t from ha) fun t q => ?_
    subst q
    refine .size fun hl => .still fun _ _ _ _ _ h => P.truthy_str (fun hq => ?_) (h _ _ ?_)
    · have hq : (2 ^ 63 : Nat) ≤ s.cps.size := Int.ofNat_le.mp hq
      exact absurd (Nat.le_trans hq hl) (by unfold lim; decide)
    · show decide (s.cps.size ≠ 0) = ((s.cps.size : Int) != 0)
      rw [show ((s.cps.size : Int) != 0) = (s.cps.size != 0) from by rw [Bool.eq_iff_iff, bne_iff_ne, bne_iff_ne]; exact not_congr Int.natCast_eq_zero]
      exact (Bool.eq_iff_iff.mpr (by rw [decide_eq_true_iff, bne_iff_ne]))
  | obj i =>
    refine .rd fun k' st s K X o Q E ob xs l R e hx P HQ HE => size_e P fun hl P => R.list e hx (ha.mono l) fun a vs n q _ hs hL => ?_
    subst q
    refine wpAny_truthy_list hL (by have hl : xs.length ≤ 1000000 := hl; rw [List.size_toArray, ← hs.length]; omega) (HQ.now _ R ?_ P)
    have := hs.length
    show decide (xs.length ≠ 0) = !vs.toArray.isEmpty
    rw [this]
    cases vs <;> rfl
  | _ => exact .stuck
theorem sim_un {op : UnaryOp} {a : V} {v : Value} (ha : Conc c.tp k a v) : Sim c k (CV c) (unaryOp op v) (unM op a) := by
  cases op with
  | USub => exact .int (T := unaryOp .USub) ha fun i t => .still fun _ _ _ _ _ h => neg_int (h _ _ ⟨_, rfl⟩)
  | Not => exact fun k₁ st s K X o Q E l R P HQ HE => not_value (sim_truth (ha.mono l) k₁ st s _ X o _ E (.refl _) R P (fun k' p q st' h' tk l' R' hb P' => HQ k' _ _ st' h' tk l' R' (by rw [show p = q from hb]; exact rfl) P') HE)
  | _ => exact .stuck
end
end Mine
end
section
open PySem PySem.W PySem.Calls PyProof.Rows
set_option Elab.async false
set_option linter.unusedVariables false
set_option maxRecDepth 10000
namespace Mine
open PySem.SeqAt
structure StaOK (θ : Tp) : Prop where
  list : ∀ n xs, θ.S.sta n = .list xs → ∃ vs, Concs θ ⟨[], []⟩ xs vs ∧ θ.base.IsList (θ.as n) vs.toArray
  dict : ∀ n es, θ.S.sta n = .dict es → ∃ kvs, Kv V.str θ ⟨[], []⟩ es kvs ∧ θ.base.DictOf (strKind θ.prog θ.w) (θ.as n) kvs ∧ (θ.as n == sysModules) = false ∧ es.isEmpty = false
noncomputable def Seen (c : Cx) (k : Kn) (h : Heap) (ob : O) (y : Value) : Prop := ∃ a, y = .ref a ∧ match ob with
  | .list xs => ∃ vs, Concs c.tp k xs vs ∧ h.IsList a vs.toArray
  | .dict es => (a == sysModules) = false ∧ ((∃ kvs, Kv V.int c.tp k es kvs ∧ h.DictOf (intKind c.prog c.w) a kvs) ∨ (es.isEmpty = false ∧ ∃ kvs, Kv V.str c.tp k es kvs ∧ h.DictOf (strKind c.prog c.w) a kvs))
  | _ => True
section
variable {c : Cx} {k : Kn}
theorem Rels.seen {st : St} {h : Heap} (R : Rels c.fm k st h) {i : Nat} {ob : O} (e : st.heap[i]? = some ob) {y : Value} (hv : Conc c.tp k (.obj i) y) : Seen c k h (thaw ob) y := by
  cases ob with
  | list xs => exact R.list e rfl hv fun a vs n q _ hs hL => ⟨a, q, vs, hs, hL⟩
  | dict es => exact R.turn e rfl hv fun d hd a ob p1 p2 T => ⟨d.1, T.hv, T.body.2.2.1, .inl (el_1_2 T.body.2.2.2 fun kvs h1 h2 => ⟨kvs, h2, Heap.dictOf_iff.mpr ⟨ob, T.body.2.1 ▸ T.row.1, h1⟩⟩)⟩
  | fro es =>
    refine el_1_2 hv fun d hd hv => el_4_4 (R.heap.split e) fun d' p1 L p2 e1 _ e3 _ => ?_
    refine el_2_3 e3.2 fun d₁ ob e4 e5 e6 => ?_
    cases Option.some.inj ((Option.some.inj (hd.symm.trans e1)).trans e4)
    exact ⟨d.1, hv, e6.2.2.1, .inl (el_1_2 e6.2.2.2 fun kvs h1 h2 => ⟨kvs, h2, Heap.dictOf_iff.mpr ⟨ob, (R.N (d.1, ob) (List.mem_append_right _ (List.mem_append_left _ e5))).1, h1⟩⟩)⟩
  | _ => exact el_1_2 hv fun d _ hv => ⟨d.1, hv, trivial⟩
theorem Sim.obj {α β : Type} {C : Kn → α → β → Prop} {t : Sem β} {b : V} {y : Value} {g : O → M α} (G : Good c) (SO : StaOK c.tp) (hb : Conc c.tp k b y)
    (h : ∀ k' st s K X o Q E ob, KLe k k' → Rels c.fm k' st s.heap → Seen c k' s.heap ob y → Y c.l o (g ob st K X) → Aft c C k' s K o Q → Err c k' s X o E → wpAny c.M c.A t Q E s) : Sim c k C t ((objM c.S b).bind g) := by
  cases b with
  | obj i => exact fun k₁ st s K X o Q E l R P HQ HE => at0_e P fun ob' e1 P => look_e P fun ob e2 P => h k₁ st s K X o Q E (thaw ob) l R (R.seen (Option.some.inj e2 ▸ e1) (hb.mono l)) P HQ HE
  | sta n =>
    refine fun k₁ st s K X o Q E l R P HQ HE => h k₁ st s K X o Q E (c.S.sta n) l R ⟨_, hb, ?_⟩ P HQ HE
    have keep : ∀ b o, c.base.get? b = some o → s.heap.get? b = some o := fun b o e => R.F.keep b o (G.stays b o e)
    cases e : c.S.sta n with
    | list xs => exact el_1_2 (SO.list n xs e) fun vs h1 h2 => ⟨vs, h1.mono (KLe.nil _), Exists.imp (fun o z => ⟨keep _ _ z.1, z.2⟩) h2⟩
    | dict es => exact el_1_3 (SO.dict n es e) fun kvs h1 h2 h3 => ⟨h3.1, .inr ⟨h3.2, kvs, h1.mono (KLe.nil _), h2.keep keep⟩⟩
    | _ => trivial
  | _ => exact fun _ _ _ _ _ _ _ _ _ _ P => P.elim
end
theorem str_dec (a b : Str) : (a == b) = decide (a = b) := by
  by_cases h : a = b
  · rw [decide_eq_true h, beq_iff_eq]; exact h
  · rw [decide_eq_false h, beq_eq_false_iff_ne]; exact h
section
variable {θ : Tp} {k : Kn}
theorem veq_e {a b : V} {x y : Value} {r : Bool} {P : Value → Value → Bool → Prop} (e : veqF a b = some r) (ha : Conc θ k a x) (hb : Conc θ k b y) (h1 : ∀ i t j u, P (.int i t) (.int j u) (decide (i = j))) (h2 : ∀ i t j u, P (.str i t) (.str j u) (decide (i = j))) (h3 : ∀ j u, P .none (.int j u) false) : P x y r := by
  cases a with
  | int i => exact el_1_2 (Option.map_eq_some_iff.mp e) fun j e1 e2 => asI_e e1 fun q => by subst q; exact Exists.elim (show ∃ t, x = .int i t from ha) fun t q => Exists.elim (show ∃ t, y = .int j t from hb) fun u z => q ▸ z ▸ e2 ▸ h1 i t j u
  | str i => exact el_1_2 (Option.map_eq_some_iff.mp e) fun j e1 e2 => asS_e e1 fun q => by subst q; exact Exists.elim (show ∃ t, x = .str i t from ha) fun t q => Exists.elim (show ∃ t, y = .str j t from hb) fun u z => q ▸ z ▸ e2 ▸ h2 i t j u
  | none => exact el_1_2 (Option.map_eq_some_iff.mp e) fun j e1 e2 => asI_e e1 fun q => by subst q; exact Exists.elim (show ∃ t, y = .int j t from hb) fun u z => (show x = .none from ha) ▸ z ▸ e2 ▸ h3 j u
  | _ => exact none_some e
theorem any_get {K : Type} [DecidableEq K] {as : V → Option K} {i : K} {A : Around} {s : Shared} {y : Value} (f : Value → Bool) (H : ∀ x v j, as x = some j → Conc θ k x v → f v = decide (j = i) ∧ EqAt A s v y (decide (j = i))) {xs : List V} : ∀ {vs : List Value} {r : Bool}, Concs θ k xs vs → anyG as i xs = some r →
    vs.any f = r ∧ ∀ z ∈ vs, EqAt A s z y (f z) := by
  induction xs with
  | nil => exact fun h e => by rw [show _ = [] from h]; exact ⟨Option.some.inj e, fun _ h => nomatch h⟩
  | cons x xs ih =>
    intro vs r h e
    refine el_2_3 h fun v us h1 h2 e1 => el_1_2 (Option.bind_eq_some_iff.mp e) fun j e2 e3 => el_1_2 (Option.map_eq_some_iff.mp e3) fun b e4 e5 => ?_
    subst e1 e5
    have hd := H x v j e2 h1
    exact ⟨by rw [List.any_cons, hd.1, (ih h2 e4).1], fun z hz => (List.mem_cons.mp hz).elim (fun q => by rw [q, hd.1]; exact hd.2) ((ih h2 e4).2 z)⟩
noncomputable def eqI (i : Int) : Value → Bool
  | .int j _ => decide (j = i)
  | _ => false
noncomputable def eqS (i : Str) : Value → Bool
  | .str j _ => decide (j = i)
  | _ => false
theorem any_eq {a : V} {x : Value} (ha : Conc θ k a x) {xs : List V} {vs : List Value} {r : Bool} (A : Around) (s : Shared) (h : Concs θ k xs vs) (e : anyA a xs = some r) : ∃ f, vs.any f = r ∧ ∀ z ∈ vs, EqAt A s z x (f z) := by
  unfold anyA at e
  cases ei : asI a with
  | some i =>
    rw [ei] at e
    refine asI_e ei fun q => ?_
    subst q
    refine Exists.elim (show ∃ t, x = .int i t from ha) fun u q => ⟨_, any_get (eqI i) (fun x v j e1 hv => asI_e e1 fun q => ?_) h e⟩
    subst q
    exact Exists.elim (show ∃ t, v = .int j t from hv) fun t q => by rw [q]; exact ⟨rfl, by subst_vars; exact EqAt.int_int j t i u⟩
  | none =>
    rw [ei] at e
    refine el_1_2 (Option.bind_eq_some_iff.mp e) fun i e1 e => asS_e e1 fun q => ?_
    subst q
    refine Exists.elim (show ∃ t, x = .str i t from ha) fun u q => ⟨_, any_get (eqS i) (fun x v j e1 hv => asS_e e1 fun q => ?_) h e⟩
    subst q
    exact Exists.elim (show ∃ t, v = .str j t from hv) fun t q => by rw [q]; exact ⟨rfl, by subst_vars; rw [← str_dec]; exact EqAt.str_str j t i u⟩
noncomputable def Got (θ : Tp) (k : Kn) (o : Option Value) : Option V → Prop
  | some x => ∃ v, o = some v ∧ Conc θ k x v
  | none => o = none
theorem look_kv {K : Type} [DecidableEq K] {f : K → V} {as : V → Option K} (hf : ∀ i, as (f i) = some i) {i : K} {es : List (V × V)} : ∀ {kvs : List (K × Value)} {q : Option V}, Kv f θ k es kvs → lookG as i es = some q → Got θ k (valueAt kvs i) q := by
  induction es with
  | nil => exact fun h e => by rw [show _ = [] from h, ← Option.some.inj e]; exact rfl
  | cons p es ih =>
    intro kvs q h e
    refine el_3_4 h fun j v us h1 h2 h3 h4 => ?_
    subst h4
    unfold lookG at e
    rw [h1, hf] at e
    have e : (if j = i then some (some p.2) else lookG as i es) = some q := e
    unfold valueAt
    by_cases z : j = i
    · rw [if_pos z] at e
      rw [← Option.some.inj e, List.find?_cons_of_pos (by simpa using z)]
      exact ⟨v, rfl, h2⟩
    · rw [if_neg z] at e
      rw [List.find?_cons_of_neg (by simpa using z)]
      exact ih h3 e
theorem look_a {c : Cx} {h : Heap} {y : Value} {es : List (V × V)} {a : V} {x : Value} {q : Option V} (S : Seen c k h (.dict es) y) (ha : Conc c.tp k a x) (e : lookA a es = some q) {G : Prop}
    (H : ∀ {K : Type} [DecidableEq K] (knd : KeyKind c.prog c.w K) (d : Addr) (f : K → Option Value) (i : K), y = .ref d → (d == sysModules) = false → knd.is i x = true → h.MapOf knd d f → Got c.tp k (f i) q → G) : G := by
  refine el_1_2 S fun d hd S => ?_
  have S : (d == sysModules) = false ∧ ((∃ kvs, Kv V.int c.tp k es kvs ∧ h.DictOf (intKind c.prog c.w) d kvs) ∨ (es.isEmpty = false ∧ ∃ kvs, Kv V.str c.tp k es kvs ∧ h.DictOf (strKind c.prog c.w) d kvs)) := S
  unfold lookA at e
  cases ei : asI a with
  | some i =>
    rw [ei] at e
    refine asI_e ei fun q => ?_
    subst q
    refine Exists.elim (show ∃ t, x = .int i t from ha) fun u q => ?_
    refine S.2.elim (fun z => el_1_2 z fun kvs h1 h2 => H (intKind c.prog c.w) d _ i hd S.1 (q ▸ intKind_is ..) h2.mapOf (look_kv (f := V.int) (fun _ => rfl) h1 e)) fun z => el_1_2 z.2 fun kvs h1 h2 => ?_
    cases es with
    | nil => exact (Bool.false_ne_true z.1.symm).elim
    | cons p es => exact el_3_4 h1 fun j v us h1 _ _ _ => by unfold lookG at e; rw [h1] at e; exact none_some e
  | none =>
    rw [ei] at e
    refine el_1_2 (Option.bind_eq_some_iff.mp e) fun i e1 e => asS_e e1 fun q => ?_
    subst q
    refine Exists.elim (show ∃ t, x = .str i t from ha) fun u q => ?_
    cases es with
    | nil => exact none_some e
    | cons p es => exact S.2.elim (fun z => el_1_2 z fun kvs h1 h2 => el_3_4 h1 fun j v us h1 _ _ _ => by
        have e : lookG asS i (p :: es) = _ := e
        unfold lookG at e; rw [h1] at e; exact none_some e) fun z => el_1_2 z.2 fun kvs h1 h2 => H (strKind c.prog c.w) d _ i hd S.1 (q ▸ strKind_is ..) h2.mapOf (look_kv (f := V.str) (fun _ => rfl) h1 e)
end
section
variable {c : Cx} {k : Kn}
theorem sim_in (G : Good c) (SO : StaOK c.tp) {a b : V} {x y : Value} (ha : Conc c.tp k a x) (hb : Conc c.tp k b y) {T : Value → Value → Sem Value} {ng : Bool → Bool}
    (hS : ∀ {A : Around} {Q : Value → Shared → Prop} {E : Value → Shared → Prop} {s : Shared} (u v : Str) (t w : Tok), Q (.bool (ng (Txt.contains u v))) s → wpAny c.M A (T (.str v t) (.str u w)) Q E s)
    (hL : ∀ {A : Around} {Q : Value → Shared → Prop} {E : Value → Shared → Prop} {s : Shared} {l : Addr} {items : Array Value} {x : Value} (e : Value → Bool), s.heap.IsList l items → (∀ y, y ∈ items → EqAt A.in1 s y x (e y)) → Q (.bool (ng (items.any e))) s → wpAny c.M A (T x (.ref l)) Q E s)
    (hD : ∀ {A : Around} {Q : Value → Shared → Prop} {E : Value → Shared → Prop} {s : Shared} {K : Type} [DecidableEq K] {knd : KeyKind c.prog c.w K} {d : Addr} {f : K → Option Value} {i : K} {x : Value}, knd.is i x = true → (d == sysModules) = false → s.heap.MapOf knd d f → Q (.bool (ng (f i).isSome)) { s with toks := s.toks + 1 } → wpAny c.M A (T x (.ref d)) Q E s) :
    Sim c k CBV (T x y) ((inM c.S a b).bind fun r => .pure (ng r)) := by
  intro k₁ st s K X o Q E l R P HQ HE
  unfold inM at P
  revert P
  cases eb : asS b with
  | some t =>
    refine fun P => look_e P fun u e P => asS_e eb fun q => asS_e e fun z => ?_
    subst q z
    exact Exists.elim (show ∃ t', x = .str u t' from ha) fun t1 q => Exists.elim (show ∃ t', y = .str t t' from hb) fun t2 z => q ▸ z ▸ hS t u t1 t2 (HQ.now s.toks R rfl P)
  | none =>
    refine fun P => Sim.obj (α := Bool) (C := CBV) (g := fun ob => (inO a ob).bind fun r => .pure (ng r)) G SO hb (fun k' st s K X o Q E ob l R S P HQ HE => ?_) k₁ st s K X o Q E l R P HQ HE
    cases ob with
    | list xs => exact dyn_e (u := .bool) P fun r e P => el_1_2 S fun d hd S => el_1_2 S fun vs h1 h2 => el_1_2 (any_eq (ha.mono l) c.A.in1 s h1 e) fun f h3 h4 => hd ▸ hL f h2 (fun z hz => h4 z (by simpa using hz)) (HQ.now s.toks R (by rw [List.any_toArray, h3]) P)
    | dict es => exact dyn_e (u := .oval) P fun (r : Option V) e P => look_a S (ha.mono l) e fun {K} _ knd d f i hd hs hi hm hf => hd ▸ hD hi hs hm (HQ.now _ R (by
        cases r with
        | none => rw [show f i = none from hf]; exact rfl
        | some z => exact el_1_2 hf fun v hv _ => by rw [hv]; exact rfl) P)
    | _ => exact P.elim
theorem sim_cmpI {op : CmpOp} {p : Int → Int → Bool} {a b : V} {x y : Value} (ha : Conc c.tp k a x) (hb : Conc c.tp k b y) (h : ∀ {A : Around} {Q : Value → Shared → Prop} {E : Value → Shared → Prop} {s : Shared} (i j : Int) (t u : Tok), Q (.bool (p i j)) s → wpAny c.M A (compareOp op (.int i t) (.int j u)) Q E s) :
    Sim c k CBV (compareOp op x y) (cmpI p a b) :=
  .int (T := fun x => compareOp op x y) ha fun i t => .int (T := fun y => compareOp op (.int i t) y) hb fun j u => .still fun _ s _ _ _ hq => h i j t u (hq s.toks _ rfl)
theorem conc_none {a : V} {v : Value} (h : Conc c.tp k a v) (u : isU a = false) : (v == .none) = isN a := by
  cases a with
  | none => rw [show v = .none from h]; rfl
  | undef => exact (Bool.false_ne_true u.symm).elim
  | cref => exact False.elim h
  | bool b => rw [show v = .bool b from h]; rfl
  | int i => exact Exists.elim (show ∃ t, v = .int i t from h) fun t q => q ▸ rfl
  | str i => exact Exists.elim (show ∃ t, v = .str i t from h) fun t q => q ▸ rfl
  | tup xs => exact Exists.elim h fun a h => Exists.elim h fun n h => Exists.elim h fun vs h => h.2.2 ▸ rfl
  | rcd xs fs => exact Exists.elim h fun a h => Exists.elim h fun n h => Exists.elim h fun vs h => Exists.elim h fun vs h => h.2.2.2 ▸ rfl
  | obj i => exact Exists.elim h fun d h => h.2 ▸ rfl
  | rng a b => exact Exists.elim h fun a h => Exists.elim h fun n h => Exists.elim h fun vs h => Exists.elim h fun vs h => h.2 ▸ rfl
  | fn f => rw [show v = .ref _ from h]; rfl
  | cls f => rw [show v = .ref _ from h]; rfl
  | sta f => rw [show v = .ref _ from h]; rfl
  | bi f => rw [show v = .builtin f from h]; rfl
  | ty f => rw [show v = .type f from h]; rfl
theorem sim_cmp (G : Good c) (SO : StaOK c.tp) {op : CmpOp} {a b : V} {x y : Value} (ha : Conc c.tp k a x) (hb : Conc c.tp k b y) : Sim c k CBV (compareOp op x y) (cmpM c.S op a b) := by
  cases op with
  | Eq => exact .last fun r e => .still fun k' s Q E l h => veq_e (P := fun x y r => RcAt c.A s x y r) e ha hb (fun i t j u => RcAt.int_int i t j u) (fun i t j u => by rw [← str_dec]; exact RcAt.str_str i t j u) (fun j u => RcAt.none_int j u) _ _ _ _ (h s.toks _ rfl)
  | NotEq => exact .look fun r e => .still fun k' s Q E l h => veq_e (P := fun x y r => RcNeAt c.A s x y (!r)) e ha hb (fun i t j u => RcNeAt.int_int i t j u) (fun i t j u => by rw [← str_dec]; exact RcNeAt.str_str i t j u) (fun j u => RcNeAt.none_int j u) _ _ _ _ (h s.toks _ rfl)
  | Lt => exact sim_cmpI ha hb fun i j t u h => lt_int h
  | Gt => exact sim_cmpI ha hb fun i j t u h => gt_int h
  | GtE => exact sim_cmpI ha hb fun i j t u h => ge_int h
  | LtE =>
    show Sim c k CBV _ (leM a b)
    unfold leM
    exact .intOr (T := fun x => compareOp .LtE x y) ha (fun i t => .int (T := fun y => compareOp .LtE (.int i t) y) hb fun j u => .still fun _ s _ _ _ h => le_int (h s.toks _ rfl))
      (.str (T := fun x => compareOp .LtE x y) ha fun i t => .str (T := fun y => compareOp .LtE (.str i t) y) hb fun j u => .still fun _ s _ _ _ h => PySem.P.le_str (h s.toks _ rfl))
  | Is =>
    show Sim c k CBV _ (isM a b)
    unfold isM
    cases eb : asB b with
    | some q =>
      refine .look fun p e => asB_e eb fun z => asB_e e fun z' => ?_
      subst z z'
      rw [show x = .bool p from ha, show y = .bool q from hb]
      exact .still fun _ s _ _ _ h => wpAny_is_plain rfl (h s.toks _ (by cases p <;> cases q <;> rfl))
    | none =>
      refine .chk fun z => isN_e z fun z => ?_
      subst z
      rw [show y = .none from hb]
      exact .chk fun u => .still fun _ s _ _ _ h => is_none_gen (h s.toks _ (congrArg Value.bool (conc_none ha (by revert u; cases isU a <;> simp))))
  | In => exact sim_in G SO ha hb (T := compareOp .In) (ng := fun b => b) (fun u v t w h => SB.contains h) (fun e h1 h2 h3 => in_listAt e h1 h2 h3) fun h1 h2 h3 h4 => wpAny_in_of h1 h2 h3 h4
  | NotIn => exact sim_in G SO ha hb (T := compareOp .NotIn) (ng := fun b => !b) (fun u v t w h => SB.notContains h) (fun e h1 h2 h3 => notIn_listAt e h1 h2 h3) fun h1 h2 h3 h4 => wpAny_notIn_of h1 h2 h3 h4
  | _ => exact .stuck
end
end Mine
end
section
open PySem PySem.W PySem.Calls PyProof.Rows
set_option Elab.async false
set_option linter.unusedVariables false
set_option maxRecDepth 10000
namespace Mine
theorem tail_item {prog : Program} {w : World} {A : Around} {E : Value → Shared → Prop} {s : Shared} {value slice : Expr} {o i : Value} {T id : String} {Q : Value → Shared → Prop} (hT : s.TypeIs o T)
    (hl : typeLookup (.type T) "__getitem__" = pure (some (.builtin id))) (hg : wpAny (model prog w) A (getItem o i) Q E s) : wpAny (model prog w) A (subscriptTail value slice o i) Q E s := by
  refine Exists.elim (show ∃ ops, subscripted slice false o i = operate ops (getItem o i) from ?_) fun ops h => tail_any hT hl hg h
  unfold subscripted
  split
  · exact ⟨_, rfl⟩
  · rename_i h; cases h
  · exact ⟨_, rfl⟩
theorem idx_e {k : Int} {n j : Nat} (h : idx k n = some j) : n ≤ 1000000 ∧ j < n ∧ (0 ≤ k ∧ j = k.toNat ∨ k < 0 ∧ -k ≤ (n : Int) ∧ j = (k + n).toNat) := by
  unfold idx at h
  by_cases hn : n ≤ 1000000
  · rw [if_pos hn] at h
    by_cases h0 : 0 ≤ k
    · rw [if_pos h0] at h
      by_cases h1 : k.toNat < n
      · rw [if_pos h1] at h; exact some_e h fun h => ⟨hn, h ▸ h1, .inl ⟨h0, h.symm⟩⟩
      · rw [if_neg h1] at h; exact none_some h
    · rw [if_neg h0] at h
      by_cases h1 : -k ≤ (n : Int)
      · rw [if_pos h1] at h; exact some_e h fun h => ⟨hn, by omega, .inr ⟨by omega, h1, h.symm⟩⟩
      · rw [if_neg h1] at h; exact none_some h
  · rw [if_neg hn] at h; exact none_some h
theorem Concs.slice {θ : Tp} {k : Kn} {xs : List V} {vs : List Value} (h : Concs θ k xs vs) (a b : Nat) : Concs θ k (sliceL xs a b) (sliceL vs a b) := (h.take b).drop a
theorem bnd_e {n d r : Nat} {a : V} (h : bnd n a d = some r) {θ : Tp} {k : Kn} {v : Value} (ha : Conc θ k a v) : ∃ lo, IsPart v lo ∧ (d = 0 → kms_lo lo n = r) ∧ (d = n → kms_hi lo n = r) := by
  unfold bnd at h
  cases ei : asI a with
  | none =>
    rw [ei] at h
    exact gp_e h fun z h => isN_e z fun z => by subst z; rw [show v = .none from ha]; exact ⟨none, .none, fun q => (Option.some.inj h ▸ q).symm ▸ rfl, fun q => (Option.some.inj h ▸ q).symm ▸ rfl⟩
  | some i =>
    rw [ei] at h
    refine asI_e ei fun z => some_e h fun h' => ?_
    subst z h'
    refine Exists.elim (show ∃ t, v = .int i t from ha) fun t q => ⟨some i, q ▸ .int i t, fun _ => ?_, fun _ => ?_⟩
    · unfold kms_lo
      by_cases h0 : i < 0
      · simp only [if_pos h0, if_neg (show ¬ 0 ≤ i by omega)]; omega
      · simp only [if_neg h0, if_pos (show 0 ≤ i by omega)]
    · unfold kms_hi
      by_cases h0 : i < 0
      · simp only [if_pos h0, if_neg (show ¬ 0 ≤ i by omega)]; omega
      · simp only [if_neg h0, if_pos (show 0 ≤ i by omega)]
theorem let_str (value : Expr) (x : Str) (t : Tok) (r : Value) : letTemporaryGo value (.str x t) r = pure () := by
  unfold letTemporaryGo
  split <;> first | rfl | (rename_i h; cases h) | skip
section
variable {c : Cx} {k : Kn}
theorem item_list {st : St} {s : Shared} {K : V → St → Out} {o : Except V V × List O} {Q : Value → Shared → Prop} {E : Value → Shared → Prop} {value slice : Expr} {l : Addr} {vs : List Value} {xs : List V} {i : Int} {t : Tok} {j : Nat} {z : V}
    (R : Rels c.fm k st s.heap) (hs : Concs c.tp k xs vs) (hL : s.heap.IsList l vs.toArray) (hj : idx i xs.length = some j) (hz : xs[j]? = some z) (P : Y c.l o (K z st)) (HQ : Aft c (CV c) k s K o Q) : wpAny c.M c.A (subscriptTail value slice (.ref l) (.int i t)) Q E s := by
  have h := idx_e hj
  have hq := hs.length
  refine el_1_2 (hs.get hz) fun v hv hc => tail_item hL.typeIs slot_list_getitem.lookup (h.2.2.elim (fun z => ?_) fun z => ?_)
  · exact wpAny_getItem_list hL z.1 (by omega) (by rw [← z.2]; simpa using hv) (HQ.now s.toks R hc P)
  · exact wpAny_getItem_list_neg hL z.1 (by rw [List.size_toArray, ← hq]; omega) (by omega) (by rw [List.size_toArray, ← hq, ← z.2.2]; simpa using hv) (HQ.now s.toks R hc P)
theorem sim_sub (G : Good c) (SO : StaOK c.tp) {value slice : Expr} {a b : V} {x y : Value} (ha : Conc c.tp k a x) (hb : Conc c.tp k b y) : Sim c k (CV c) (subscriptTail value slice x y) (subM c.S a b) := by
  unfold subM
  cases ea : asS a with
  | some t =>
    refine .int (T := fun y => subscriptTail value slice x y) hb fun i u => .dyn (u := .nat) fun (j : Nat) hj => .dyn (u := .nat) fun (ch : Nat) hc => asS_e ea fun q => ?_
    subst q
    refine Exists.elim (show ∃ u, x = .str t u from ha) fun u q => ?_
    subst q
    have h := idx_e hj
    refine .still fun _ s _ _ _ hq => tail_item (typeIs_str s _ _) PySem.F.slot_str_getitem.lookup (PySem.P.getItem_str (c := ch) (by simp only [Bool.or_eq_false_iff, decide_eq_false_iff_not]; omega) ?_ (hq _ _ ⟨_, rfl⟩))
    have e : seqIndex? i t.cps.size = some j := by
      unfold seqIndex?
      by_cases h0 : i < 0
      · simp only [if_pos h0]; rw [if_pos (by simp only [Bool.and_eq_true, decide_eq_true_eq]; omega)]; congr 1; omega
      · simp only [if_neg h0]; rw [if_pos (by simp only [Bool.and_eq_true, decide_eq_true_eq]; omega)]; congr 1; omega
    exact (congrArg (fun z => Option.bind z _) e).trans hc
  | none =>
    refine Sim.obj G SO ha fun k' st s K X o Q E ob l R S P HQ HE => ?_
    cases ob with
    | list xs =>
      refine look_e P fun i ei P => dyn_e (u := .nat) P fun (j : Nat) hj P => dyn_e (u := .val) P fun (z : V) hz P' => asI_e ei fun q => ?_
      subst q
      exact Exists.elim (show ∃ t, y = .int i t from hb) fun t q => el_1_2 S fun d hd S => el_1_2 S fun vs h1 h2 => by rw [q, hd]; exact item_list R h1 h2 hj hz P' HQ
    | dict es =>
      refine dyn_e (u := .oval) P fun (r : Option V) hr P => dyn_e (u := .val) P fun (z : V) hz P => look_a S (hb.mono l) hr fun {K'} _ knd d f i hd _ hi hm hf => ?_
      subst hz hd
      exact el_1_2 hf fun v hv hc => tail_item hm.typeIs slot_dict_getitem.lookup (wpAny_getItem_of hi hm hv (HQ.now _ R hc P))
    | _ => exact P.elim
theorem strIdx (lo hi : Option Int) (n : Nat) : Builtin.Str.strSliceIndices lo hi 1 n = sliceRange (kms_lo lo n : Nat) (kms_hi hi n : Nat) 1 := by
  have := kms_bounds lo hi n
  have e1 := congrArg Prod.fst this
  have e2 := congrArg (fun p => p.2.1) this
  simp only at e1 e2
  rw [← e1, ← e2]
  rfl
theorem kms_hi_le (v : Option Int) (n : Nat) : kms_hi v n ≤ n := by
  unfold kms_hi
  split
  · exact Nat.le_refl _
  · split <;> omega
theorem sliceL_eq {α : Type} (xs : List α) (a b : Nat) : sliceL xs a b = (xs.drop a).take (b - a) := by
  unfold sliceL
  rw [List.drop_take]
theorem txt_slice (x : Str) (lo hi : Option Int) : Txt.slice x lo hi = ⟨(sliceL x.cps.toList (kms_lo lo x.cps.size) (kms_hi hi x.cps.size)).toArray⟩ := by
  unfold Txt.slice
  rw [strIdx, show x.length = x.cps.size from rfl, sliceRange_one, pick_run, ← sliceL_eq]
  split
  · rename_i h
    simp only [beq_self_eq_true, Bool.true_and, List.length_map, List.length_range, beq_iff_eq] at h
    have h2 := kms_hi_le hi x.cps.size
    rw [sliceL_eq, h]
    by_cases hz : x.cps.size = 0
    · have e : x.cps.toList = [] := List.length_eq_zero_iff.mp (by simpa using hz)
      have e2 : x.cps = #[] := Array.eq_empty_of_size_eq_zero hz
      rw [e, List.drop_nil, List.take_nil, ← e2]
    · have e : kms_lo lo x.cps.size = 0 := by omega
      rw [e, List.drop_zero, List.take_of_length_le (by simp)]
  · rfl
theorem sim_slice (G : Good c) (SO : StaOK c.tp) {value : Expr} {lower upper : Option Expr} {sp : Pos} {a l u : V} {x y z : Value} (ha : Conc c.tp k a x) (hl : Conc c.tp k l y) (hu : Conc c.tp k u z) {st : St} {s : Shared} {K : V → St → Out} {X : V → St → Out} {o : Except V V × List O} {Q : Value → Shared → Prop} {E : Value → Shared → Prop}
    (R : Rels c.fm k st s.heap) (P : Y c.l o (sliceM c.S a l u st K X)) (HQ : Aft c (CV c) k s K o Q) :
      wpAny c.M c.A (subscriptTail value (.Slice lower upper none sp) x (.ref s.heap.objs.size)) Q E { s with heap := s.heap.push { cls := .type "slice", data := .fields #[y, z, .none] } } := by
  unfold sliceM at P
  revert P
  cases ea : asS a with
  | some t =>
    refine fun P => size_e P fun hz P => dyn_e (u := .nat) P fun (p : Nat) hp P => dyn_e (u := .nat) P fun (q : Nat) hq P' => asS_e ea fun e => ?_
    subst e
    refine Exists.elim (show ∃ u, x = .str t u from ha) fun u e => ?_
    subst e
    refine el_1_3 (bnd_e hp hl) fun lo p1 p3 _ => el_1_3 (bnd_e hq hu) fun hi q1 _ q3 => ?_
    have hsz : t.length ≤ sizeLine := Nat.le_trans hz lim_line
    have e := txt_slice t lo hi
    rw [p3 rfl, q3 rfl] at e
    have fin : ∀ h' t' tk, Fr c.h₀ c.env.locals h' R.m → News c.h₀ c.env.locals h' (R.MO ++ (c.J ++ k.I)) → Q (.str (Txt.slice t lo hi) t') { s with heap := h', toks := tk } := fun h' t' tk F' N' => by
      rw [e]
      exact HQ k (.str _) _ st h' tk (.refl _) (R.same F' N') ⟨_, rfl⟩ P'
    cases p1 <;> cases q1
    · exact slice_strN_nn R.F R.N fin rfl (let_str _ _ _) hsz
    · exact slice_strN_ns R.F R.N fin rfl (let_str _ _ _) hsz
    · exact slice_strN_sn R.F R.N fin rfl (let_str _ _ _) hsz
    · exact slice_strN_ss R.F R.N fin rfl (let_str _ _ _) hsz
  | none =>
    have H : ∀ {xs : List V} {r : Value}, Seen c k s.heap (.list xs) r → x = r → Y c.l o (((liftO (oL (.list xs))).bind fun xs => req (okL xs.length) ((dyn .nat (bnd xs.length l 0)).bind fun a => (dyn .nat (bnd xs.length u xs.length)).bind fun b => newO (.list (sliceL xs a b)))) st K X) →
        wpAny c.M c.A (subscriptTail value (.Slice lower upper none sp) x (.ref s.heap.objs.size)) Q E { s with heap := s.heap.push { cls := .type "slice", data := .fields #[y, z, .none] } } := fun {xs r} S er P => by
      refine el_1_2 S fun d hd S => el_1_2 S fun vs hs hL => size_e P fun hz P => dyn_e (u := .nat) P fun (p : Nat) hp P => dyn_e (u := .nat) P fun (q : Nat) hq P => ?_
      refine el_1_3 (bnd_e hp hl) fun lo p1 p3 _ => el_1_3 (bnd_e hq hu) fun hi q1 _ q3 => ?_
      have hlen := hs.length
      rw [er, hd]
      refine kba_turn (value' := .Name "_" ⟨0, 0, 0, 0⟩) (fun _ => rfl) (kms_slice_lit (zs := sliceL vs p q) R.F R.N hL p1 q1 ?_ (fun l h' F' N' hlt => ?_) rfl (fun _ => rfl) ?_)
      · show kms_pick vs lo hi = _
        unfold kms_pick
        rw [← hlen, p3 rfl, q3 rfl, sliceL_eq]
      · exact HQ ⟨_, k.I⟩ (.obj st.heap.length) _ ⟨st.loc, st.heap ++ [O.list (sliceL xs p q)]⟩ h' s.toks (KLe.app _) (R.pushList (hs.slice _ _) F' N' hlt) (R.newAt _) P
      · rw [List.size_toArray, ← hlen]
        exact Nat.le_trans hz lim_line
    cases a with
    | obj i =>
      refine fun P => at0_e P fun ob' e1 P => look_e P fun ob e2 P => ?_
      have S := R.seen e1 ha
      rw [Option.some.inj e2] at S
      have P : Y c.l o (((liftO (oL (thaw ob))).bind fun xs => req (okL xs.length) ((dyn .nat (bnd xs.length l 0)).bind fun a => (dyn .nat (bnd xs.length u xs.length)).bind fun b => newO (.list (sliceL xs a b)))) st K X) := P
      revert S P
      cases thaw ob with
      | list xs => exact fun S P => H S rfl P
      | _ => exact fun _ P => P.elim
    | sta n =>
      refine fun P => ?_
      have keep : ∀ b o, c.base.get? b = some o → s.heap.get? b = some o := fun b o e => R.F.keep b o (G.stays b o e)
      have P : Y c.l o (((liftO (oL (c.S.sta n))).bind fun xs => req (okL xs.length) ((dyn .nat (bnd xs.length l 0)).bind fun a => (dyn .nat (bnd xs.length u xs.length)).bind fun b => newO (.list (sliceL xs a b)))) st K X) := P
      revert P
      cases e : c.S.sta n with
      | list xs => exact fun P => el_1_2 (SO.list n xs e) fun vs h1 h2 => H ⟨_, rfl, vs, h1.mono (KLe.nil _), Exists.imp (fun o z => ⟨keep _ _ z.1, z.2⟩) h2⟩ ha P
      | _ => exact fun P => P.elim
    | _ => exact fun P => P.elim
end
end Mine
end
section
open PySem PySem.W PySem.Calls PyProof.Rows
set_option Elab.async false
set_option linter.unusedVariables false
set_option maxRecDepth 10000
namespace Mine
noncomputable def AttrOK (θ : Tp) (k : Nat) (n : Str) : CA → Prop
  | .free => plainGet θ.K (θ.ac k) n = true ∧ hasDictIn θ.K (θ.ac k) = true ∧ takerIn θ.K (θ.ac k) n = some none ∧ ∃ attr, findIn θ.K (.ref (θ.ac k)) n = some attr ∧ noGet θ.K attr = true
  | .fn f => plainGet θ.K (θ.ac k) n = true ∧ findIn θ.K (.ref (θ.ac k)) n = some (some (.ref (θ.af f))) ∧ isFn θ.K (.ref (θ.af f)) = true
  | .sta m => plainGet θ.K (θ.ac k) n = true ∧ hasDictIn θ.K (θ.ac k) = true ∧ findIn θ.K (.ref (θ.ac k)) n = some (some (.ref (θ.as m))) ∧ specialIn θ.K (.ref (θ.as m)) "__get__" = some none ∧ copiedNames.contains n = false
structure ClsOK (θ : Tp) : Prop where
  attr : ∀ k n ca, cattr θ.S k n = some ca → AttrOK θ k n ca
  set : ∀ k q, θ.S.cls k = some q → findIn θ.K (.ref (θ.ac k)) "__setattr__" = some (some (.builtin "object.__setattr__")) ∧ plainOver θ.K (θ.ac k) = true
theorem oI_obj {φ : Fm} {k : Kn} {st : St} {h : Heap} (R : Rels φ k st h) {i : Nat} {ob : O} {p : Nat × List (Str × V)} (e : st.heap[i]? = some ob) (hp : oI ob = some p) {v : Value} (hv : Conc φ.tp k (.obj i) v) {G : Prop}
    (K : ∀ d es n p1 p2, Turn R i (.inst p.1 p.2) v d [(d.1, instObj (φ.tp.ac p.1) d.2)] d.2 (dictOf es n) p1 p2 → v = .ref d.1 → Flds φ.tp k p.2 es → InstAt h d.1 (instObj (φ.tp.ac p.1) d.2) (φ.tp.ac p.1) (some (dictOf es n)) → G) : G := by
  refine oI_e hp fun q => ?_
  subst q
  refine R.turn e rfl hv fun d hd a ob p1 p2 T => el_2_2 T.body.2.2 fun es n h1 h2 => ?_
  have b1 := T.body.1
  have b2 := T.body.2.1
  subst b1 b2 h1
  exact K d es n p1 p2 T T.hv h2 (InstAt.of_news R.N (T.mem (.head _)) T.at)
section
variable {c : Cx} {k : Kn}
theorem handed_conc {θ : Tp} {a : V} {v : Value} (h : Conc θ k a v) (hs : isSt a = false) : handedIn v = true := by
  cases a with
  | none => rw [show v = .none from h]; rfl
  | undef => exact False.elim h
  | cref => exact False.elim h
  | bool b => rw [show v = .bool b from h]; rfl
  | int i => exact Exists.elim (show ∃ t, v = .int i t from h) fun t q => q ▸ rfl
  | str i => exact Exists.elim (show ∃ t, v = .str i t from h) fun t q => q ▸ rfl
  | tup xs => exact Exists.elim h fun a h => Exists.elim h fun n h => Exists.elim h fun vs h => h.2.2 ▸ rfl
  | rcd xs fs => exact Exists.elim h fun a h => Exists.elim h fun n h => Exists.elim h fun vs h => Exists.elim h fun vs h => h.2.2.2 ▸ rfl
  | obj i => exact Exists.elim h fun d h => h.2 ▸ rfl
  | rng a b => exact Exists.elim h fun a h => Exists.elim h fun n h => Exists.elim h fun vs h => Exists.elim h fun vs h => h.2 ▸ rfl
  | _ => exact (Bool.false_ne_true hs.symm).elim
theorem fld_e {n : Str} {fs : List (Str × V)} {x : V} (e : fld n fs = some x) {G : Prop} (H : lkp n fs = some x → isSt x = false → G) : G := by
  refine el_1_2 (Option.bind_eq_some_iff.mp e) fun z h1 h2 => ?_
  cases u : isSt z with
  | true => rw [if_pos u] at h2; exact none_some h2
  | false => rw [if_neg (by rw [u]; exact Bool.false_ne_true)] at h2; exact some_e h2 fun q => by subst q; exact H h1 u
theorem get_fld (G : Good c) (CO : ClsOK c.tp) {st : St} {s : Shared} {K : V → St → Out} {o : Except V V × List O} {Q : Value → Shared → Prop} {E : Value → Shared → Prop} {j : Nat} {n : Str} {ex : Bool} {fs : List (Str × V)} {es : List DictEntry} {x : V} {d : DE} {m : Nat}
    (R : Rels c.fm k st s.heap) (hI : InstAt s.heap d.1 (instObj (c.ac j) d.2) (c.ac j) (some (dictOf es m))) (hf : Flds c.tp k fs es) (ca : cattr c.S j n = some .free) (e : fld n fs = some x) (P : Y c.l o (K x st)) (HQ : Aft c (CV c) k s K o Q) : wpAny c.M c.A (getAttr (.ref d.1) n ex) Q E s := by
  refine fld_e e fun h1 h2 => ?_
  have g := CO.attr _ _ _ ca
  have z := hf.look (n := n)
  rw [h1] at z
  exact el_1_2 z fun v hv hc => el_1_2 g.2.2.2 fun attr g1 g2 => get_own R.F G.X hI g.1 g.2.1 g1 g2 hv (handed_conc hc h2) (HQ.now _ R hc P)
theorem sim_attr (G : Good c) (CO : ClsOK c.tp) {a : V} {x : Value} {n : Str} {ex : Bool} (ha : Conc c.tp k a x) : Sim c k (CV c) (getAttr x n ex) (attrM c.S a n) := by
  cases a with
  | rcd j fs =>
    refine fun k₁ st s K X o Q E l R P HQ HE => look_e P fun z e P => ?_
    refine el_4_4 (ha.mono l) fun x' dx es n' h1 h2 h3 h4 => ?_
    subst h4
    cases ca : cattr c.S j n with
    | none => rw [ca] at e; exact none_some e
    | some q =>
      rw [ca] at e
      cases q with
      | free => exact get_fld (d := (x', dx)) G CO R (InstAt.of_news R.N (R.inI h1) (R.inI h2)) h3 ca e P HQ
      | _ => exact none_some e
  | obj i =>
    refine .rd fun k' st s K X o Q E ob p l R e hp P HQ HE => look_e P fun x₁ e1 P => ?_
    refine oI_obj R e hp (ha.mono l) fun d es m p1 p2 T hv hf hI => ?_
    subst hv
    cases ca : cattr c.S p.1 n with
    | none => rw [ca] at e1; exact none_some e1
    | some q =>
      rw [ca] at e1
      cases q with
      | free => exact get_fld G CO R hI hf ca e1 P HQ
      | sta j =>
        refine gp_e e1 fun h1 h2 => ?_
        have g := CO.attr _ _ _ ca
        have z := hf.look (n := n)
        rw [Option.isNone_iff_eq_none.mp h1] at z
        exact get_cls R.F G.X hI g.1 g.2.1 g.2.2.1 g.2.2.2.1 rfl g.2.2.2.2 z (HQ.now (a := x₁) _ R (some_e h2 fun q => q ▸ rfl) P)
      | _ => exact none_some e1
  | _ => exact .stuck
theorem sim_setAttr (G : Good c) (CO : ClsOK c.tp) {a b : V} {x y : Value} {n : Str} (ha : Conc c.tp k a x) (hb : Conc c.tp k b y) : Sim c k CU (setAttr x n y) (setAttrM c.S a n b) := by
  refine .look fun i ea => asO_e ea fun q => ?_
  subst q
  refine .rd fun k' st s K X o Q E ob p l R e hp P HQ HE => chk_e P fun h P => ?_
  refine oI_obj R e hp (ha.mono l) fun d es m p1 p2 T hv hf hI => ?_
  subst hv
  have h := Bool.and_eq_true_iff.mp h
  have hz := Nat.le_of_ble_eq_true h.2
  cases ca : cattr c.S p.1 n with
  | none => rw [ca] at h; exact (Bool.false_ne_true h.1).elim
  | some q =>
    rw [ca] at h
    cases q with
    | free =>
      have g := CO.attr _ _ _ ca
      refine Exists.elim (show ∃ q, c.S.cls p.1 = some q from ?_) fun q hq => ?_
      · exact el_1_2 (Option.bind_eq_some_iff.mp ca) fun q e1 e2 => ⟨q, e1⟩
      have hl : (getL n es).isSome = true := by
        have z := hf.look (n := n)
        revert z
        cases lkp n p.2 with
        | none => exact fun z => by rw [show getL n es = some none from z]; rfl
        | some w => exact fun z => el_1_2 z fun v hv _ => by rw [hv]; rfl
      have hf' := hf.put (n := n) (hb.mono l) (PyData.keyHash c.w.params n) (s.toks + 1)
      have U := upd_of (o := dictOf es m) (o' := dictOf (putL n (PyData.keyHash c.w.params n) (.str n (s.toks + 1)) y es) (putN n es m)) T.n2 T.n1
      rw [← T.all] at U
      exact set_dict R.F G.X R.N hI rfl (CO.set _ _ hq).1 (CO.set _ _ hq).2 g.2.2.1 g.2.1 hl rfl U (by rw [← hf'.length]; exact hz) fun h' F' N' => HQ k' () () _ h' _ (.refl _) (T.put (o' := .inst p.1 (put n b p.2)) F' N' ⟨rfl, rfl, _, _, rfl, hf'⟩) trivial P
    | _ => exact (Bool.false_ne_true h.1).elim
theorem sim_methFn (G : Good c) (CO : ClsOK c.tp) {st : St} {s : Shared} (R : Rels c.fm k st s.heap) {i j f : Nat} {fs : List (Str × V)} {n : Str} {x : Value} {pl : Sem Bool} (ha : Conc c.tp k (.obj i) x) (ho : st.heap[i]? = some (.inst j fs))
    (h1 : cattr c.S j n = some (.fn f)) (h2 : lkp n fs = none) {Q : Value × List Value → Shared → Prop} {E : Value → Shared → Prop} (h : Q (.ref (c.af f), [x]) s) : wpAny c.M c.A (getMethod x n pl) Q E s := by
  refine oI_obj (p := (j, fs)) R ho rfl ha fun d es m p1 p2 T hv hf hI => ?_
  subst hv
  have g := CO.attr _ _ _ h1
  have z := hf.look (n := n)
  rw [h2] at z
  exact method_inst R.F G.X hI g.1 g.2.1 g.2.2 z h
end
end Mine
end
section
open PySem PySem.W PySem.Calls PySem.NumText PyProof.Rows
set_option Elab.async false
set_option linter.unusedVariables false
set_option maxRecDepth 100000
namespace Mine
noncomputable def AllHex (cs : List Nat) : Prop := ∀ c ∈ cs, (hexD c).isSome = true
theorem hexD_range {c x : Nat} (h : hexD c = some x) : (48 ≤ c ∧ c ≤ 57 ∨ 97 ≤ c ∧ c ≤ 102 ∨ 65 ≤ c ∧ c ≤ 70) ∧ x < 16 ∧ digit? c = some x := by
  unfold hexD at h
  unfold digit?
  split at h
  · rename_i q
    cases h
    refine ⟨.inl q, by omega, ?_⟩
    rw [if_pos (by simpa using q)]
  · split at h
    · rename_i q1 q
      cases h
      refine ⟨.inr (.inl q), by omega, ?_⟩
      rw [if_neg (by simpa using q1), if_pos (by simp; omega)]
    · split at h
      · rename_i q1 q2 q
        cases h
        refine ⟨.inr (.inr q), by omega, ?_⟩
        rw [if_neg (by simpa using q1), if_neg (by simp; omega), if_pos (by simp; omega)]
      · cases h
theorem hex_range {c : Nat} (h : (hexD c).isSome = true) : 48 ≤ c ∧ c ≤ 102 := by
  obtain ⟨x, hx⟩ := Option.isSome_iff_exists.mp h
  have := (hexD_range hx).1
  omega
theorem hexL_all : ∀ {cs : List Nat} {a n : Nat}, hexL cs a = some n → AllHex cs
  | [], _, _, _ => fun c hc => by cases hc
  | c :: cs, a, n, h => by
    unfold hexL at h
    cases e : hexD c with
    | none => rw [e] at h; cases h
    | some x =>
      rw [e] at h
      intro d hd
      rcases List.mem_cons.mp hd with rfl | hd
      · rw [e]; rfl
      · exact hexL_all h d hd
theorem fold_hex : ∀ {cs : List Nat} {a n : Nat} {ds : Array Nat} (b : Bool), hexL cs a = some n → ds.foldl (fun acc d => acc * 16 + d) 0 = a → ∃ ds' : Array Nat, cs.foldlM (NumText.step 16) (ds, b) = some (ds', b || !cs.isEmpty) ∧ ds'.foldl (fun acc d => acc * 16 + d) 0 = n
  | [], a, n, ds, b, h, e => by
    cases h
    exact ⟨ds, by simp, e⟩
  | c :: cs, a, n, ds, b, h, e => by
    unfold hexL at h
    cases hx : hexD c with
    | none => rw [hx] at h; cases h
    | some x =>
      rw [hx] at h
      obtain ⟨h1, h2, h3⟩ := hexD_range hx
      obtain ⟨ds', h4, h5⟩ := fold_hex (ds := ds.push x) true h (by rw [Array.foldl_push]; simp [e])
      refine ⟨ds', ?_, h5⟩
      have hs : NumText.step 16 (ds, b) c = some (ds.push x, true) := by
        unfold NumText.step
        rw [if_neg (by rw [beq_iff_eq]; omega), h3]
        exact if_pos h2
      rw [List.foldlM_cons, hs]
      show cs.foldlM (NumText.step 16) (ds.push x, true) = _
      rw [h4]
      simp
theorem digits_hex {cs : List Nat} {n : Nat} (h : hexL cs 0 = some n) (hne : cs ≠ []) : ∃ ds : Array Nat, digits? 16 cs = some ds ∧ ds.foldl (fun acc d => acc * 16 + d) 0 = n := by
  obtain ⟨ds, h1, h2⟩ := fold_hex (ds := #[]) false h (by simp)
  refine ⟨ds, ?_, h2⟩
  unfold digits?
  rw [h1]
  cases cs with
  | nil => exact absurd rfl hne
  | cons => rfl
theorem blank_hex {cs : List Nat} (h : AllHex cs) : cs.dropWhile blank = cs := by
  cases cs with
  | nil => rfl
  | cons c cs =>
    have := hex_range (h c (.head _))
    exact dropWhile_of (by omega)
theorem based_hex {cs : List Nat} (h : AllHex cs) : based 16 cs = (16, false, cs) := by
  have key : ∀ p, prefix? cs = some p → p ≠ 16 := by
    intro p hp
    unfold prefix? at hp
    split at hp
    · rename_i c r
      obtain ⟨x, hx⟩ := Option.isSome_iff_exists.mp (h c (.tail _ (.head _)))
      have := (hexD_range hx).1
      rw [if_neg (by simp only [Bool.or_eq_true, beq_iff_eq]; omega)] at hp
      repeat' split at hp
      all_goals first | (cases hp; decide) | cases hp
    · cases hp
  unfold based
  split
  · rename_i p hp
    rw [if_neg]
    simp
    exact fun e => key p hp e.symm
  · rfl
theorem read_hex {cs : List Nat} {n : Nat} (h : hexL cs 0 = some n) (hne : cs ≠ []) : (int_private% "readNumeral") 0 16 cs = (int_private% "Numeral.value") (n : Int) := by
  have ha := hexL_all h
  obtain ⟨ds, h1, h2⟩ := digits_hex h hne
  have hs : sign cs = (false, cs) := by
    cases cs with
    | nil => rfl
    | cons c cs =>
      have := hex_range (ha c (.head _))
      exact sign_of (by omega) (by omega)
  have hr : AllHex cs.reverse := fun c hc => ha c (List.mem_reverse.mp hc)
  refine (readNumeral_eq 0 16 cs).trans ?_
  rw [blank_hex ha, hs]
  dsimp only
  rw [based_hex ha]
  dsimp only
  rw [blank_hex hr, List.reverse_reverse, h1]
  unfold judge
  simp only [h2]
  simp
theorem wp_hex {M : Model} {A : Around} {E : Value → Shared → Prop} {s : Shared} {Q : Value → Shared → Prop} {v : Value} {text : List Nat} {n : Int}
    (hs : (text.takeWhile (· != 0)).length ≤ 640) (hr : (int_private% "readNumeral") 0 16 (text.takeWhile (· != 0)) = (int_private% "Numeral.value") n)
    (ha : ((text.takeWhile (· != 0)).length == text.length) = true) (h : Q (.int n s.toks) { s with toks := s.toks + 1 }) :
    wpAny M A ((int_private% "intFromText") v text 16) Q E s := by
  obtain ⟨hp, g, d, tk, os⟩ := s
  repeat (any_goals (first
    | assumption
    | (with_reducible refine wpAny_ite_true (decide_eq_true hs) ?_)
    | (with_reducible refine wpAny_ite_true (decide_eq_true ha) ?_)
    | wp_step))
  all_goals (try rw [hr])
  all_goals (try dsimp only)
  repeat (any_goals (first
    | assumption
    | (with_reducible refine wpAny_ite_true (decide_eq_true hs) ?_)
    | (with_reducible refine wpAny_ite_true (decide_eq_true ha) ?_)
    | wp_step))
theorem hex_text {x : PySem.Str} (h : AllHex x.cps.toList) : numTextOf x = x.cps.toList ∧ numSeenOf x = x.cps.toList := by
  have e1 : numTextOf x = x.cps.toList := by
    refine if_pos ?_
    rw [← Array.all_toList, List.all_eq_true]
    intro c hc
    have := hex_range (h c hc)
    exact decide_eq_true (by omega)
  refine ⟨e1, ?_⟩
  show (numTextOf x).takeWhile _ = _
  rw [e1]
  refine takeWhile_all fun c hc => ?_
  have := hex_range (h c hc)
  exact bne_iff_ne.mpr (by omega)
set_option maxHeartbeats 4000000 in
theorem gives_hex {x : PySem.Str} {u t : Tok} {n : Nat} (hl : x.cps.size ≤ 640) (hne : 0 < x.cps.size) (hn : hexL x.cps.toList 0 = some n) : Gives (Builtin.«int.__new__» ⟨[.type "int", .str x u, .int 16 t], []⟩) (.int (n : Int)) :=
  .of_wp fun M A E s Q h => by
    obtain ⟨hp, g, d, tk, os⟩ := s
    have f1 := F.conv_sub_int
    have f2 := F.madeHere_int
    have f6 : typeOf (.str x u) = pure (.type "str") := rfl
    obtain ⟨e1, e2⟩ := hex_text (hexL_all hn)
    have hs : (numSeenOf x).length ≤ 640 := by rw [e2, Array.length_toList]; exact hl
    have hr : (int_private% "readNumeral") 0 16 (numSeenOf x) = (int_private% "Numeral.value") (n : Int) ∧ ((numSeenOf x).length == (numTextOf x).length) = true := by
      rw [e1, e2]
      exact ⟨read_hex hn (fun z => by rw [← Array.length_toList, z] at hne; cases hne), beq_self_eq_true _⟩
    have hk := KIN.Hid.mk (And.intro hs hr)
    clear hs hr hl hn e1 e2 hne
    repeat (any_goals (first
      | assumption
      | ((with_reducible show wpAny _ _ ((int_private% "intFromText") _ _ _) _ _ _); refine wp_hex hk.out.1 hk.out.2.1 hk.out.2.2 ?_)
      | wp_step))
    all_goals first | exact ⟨_, rfl, h⟩ | skip
theorem typeCall_int_2 (a b : Value) : checkTypeCall "int" ⟨[a, b], []⟩ = pure () := by kernel_rfl
theorem newCall_int_2 (a b : Value) : checkBuiltinCall "int.__new__" ⟨[.type "int", a, b], []⟩ = pure () := by kernel_rfl
theorem call_hex {prog : Program} {w : World} {A : Around} {E : Value → Shared → Prop} {s : Shared} {Q : Value → Shared → Prop} {x : PySem.Str} {u t : Tok} {n : Nat} (hl : x.cps.size ≤ 640) (hne : 0 < x.cps.size) (hn : hexL x.cps.toList 0 = some n)
    (h : Q (.int (n : Int) s.toks) { s with toks := s.toks + 1 }) : wpAny (model prog w) A (call (.type "int") [.str x u, .int 16 t]) Q E s :=
  callType_new F.called_int F.newNe_int (typeCall_int_2 _ _) (newCall_int_2 _ _) (fun obj => F.args_object_init_3 obj _ _) F.entry_int_new (gives_hex hl hne hn).meets (show (Made.int (n : Int)).post _ s from ⟨rfl, h⟩)
end Mine
end
section
open PySem PySem.W PySem.Calls PyProof.Rows
set_option Elab.async false
set_option linter.unusedVariables false
set_option maxRecDepth 10000
namespace Mine
section
variable {θ : Tp} {k : Kn}
theorem kv_put {q : Int} {x : V} {v : Value} (hx : Conc θ k x v) {es : List (V × V)} : ∀ {kvs : List (Int × Value)} {r : List (V × V)}, Kv V.int θ k es kvs → (kvs.map (·.1)).Nodup → dput q x es = some r → Kv V.int θ k r (stored kvs q v) := by
  induction es with
  | nil => exact fun h _ e => by rw [show _ = [] from h, ← Option.some.inj e]; exact ⟨q, v, [], rfl, hx, rfl, rfl⟩
  | cons p es ih =>
    intro kvs r h hn e
    refine el_3_4 h fun j w us h1 h2 h3 h4 => ?_
    subst h4
    have e : ((asI p.1).bind fun j => if j = q then some ((p.1, x) :: es) else (dput q x es).map ((p.1, p.2) :: ·)) = some r := e
    rw [h1] at e
    have e' : (if j = q then some ((V.int j, x) :: es) else (dput q x es).map ((V.int j, p.2) :: ·)) = some r := e
    clear e
    rw [List.map_cons, List.nodup_cons] at hn
    by_cases z : j = q
    · rw [if_pos z] at e'
      subst z
      rw [← Option.some.inj e', show stored ((j, w) :: us) j v = (j, v) :: us by
        unfold stored
        rw [if_pos (by simp), List.map_cons]
        simp only [if_true]
        congr 1
        refine (List.map_congr_left fun p hp => ?_).trans (List.map_id' us)
        rw [if_neg]
        exact fun e => hn.1 (List.mem_map.mpr ⟨p, hp, e⟩)]
      exact ⟨j, v, us, rfl, hx, h3, rfl⟩
    · rw [if_neg z] at e'
      refine el_1_2 (Option.map_eq_some_iff.mp e') fun r' e1 e2 => ?_
      subst e2
      rw [show stored ((j, w) :: us) q v = (j, w) :: stored us q v by
        unfold stored
        rw [List.any_cons, decide_eq_false (show ¬ (j, w).1 = q from z), Bool.false_or]
        split
        · rw [List.map_cons, if_neg (show ¬ (j, w).1 = q from z)]
        · rfl]
      exact ⟨j, w, _, rfl, h2, ih h3 hn.2 e1, rfl⟩
theorem kv_del {q : Int} {es : List (V × V)} : ∀ {kvs : List (Int × Value)} {r : List (V × V)}, Kv V.int θ k es kvs → (kvs.map (·.1)).Nodup → ddel q es = some r → Kv V.int θ k r (without kvs q) ∧ (valueAt kvs q).isSome = true := by
  induction es with
  | nil => exact fun _ _ e => none_some e
  | cons p es ih =>
    intro kvs r h hn e
    refine el_3_4 h fun j w us h1 h2 h3 h4 => ?_
    subst h4
    have e : ((asI p.1).bind fun j => if j = q then some es else (ddel q es).map ((p.1, p.2) :: ·)) = some r := e
    rw [h1] at e
    have e' : (if j = q then some es else (ddel q es).map ((V.int j, p.2) :: ·)) = some r := e
    clear e
    rw [List.map_cons, List.nodup_cons] at hn
    by_cases z : j = q
    · rw [if_pos z] at e'
      subst z
      rw [← Option.some.inj e', show without ((j, w) :: us) j = us by
        have := without_of_not_mem us j hn.1
        unfold without at this ⊢
        rw [List.filter_cons_of_neg (by simp), this]]
      exact ⟨h3, by simp [valueAt]⟩
    · rw [if_neg z] at e'
      refine el_1_2 (Option.map_eq_some_iff.mp e') fun r' e1 e2 => ?_
      subst e2
      have i := ih h3 hn.2 e1
      unfold without valueAt
      rw [List.filter_cons_of_pos (by simpa using z), List.find?_cons_of_neg (by simpa using z)]
      exact ⟨⟨j, w, _, rfl, h2, i.1, rfl⟩, i.2⟩
theorem kv_key {f : Int → V} {es : List (V × V)} : ∀ {kvs : List (Int × Value)} {j : Nat} {p : V × V} {q : Int} {x : Value}, Kv f θ k es kvs → es[j]? = some p → kvs[j]? = some (q, x) → p.1 = f q := by
  induction es with
  | nil => exact fun _ e _ => none_some e
  | cons p es ih =>
    intro kvs j p' q x h e e'
    refine el_3_4 h fun i w us h1 h2 h3 h4 => ?_
    subst h4
    cases j with
    | zero => rw [← Option.some.inj e, h1, (Prod.mk.inj (Option.some.inj e')).1]
    | succ j => exact ih h3 e e'
theorem Kv.length {K : Type} {f : K → V} {es : List (V × V)} : ∀ {kvs : List (K × Value)}, Kv f θ k es kvs → es.length = kvs.length := by
  induction es with
  | nil => exact fun h => by rw [show _ = [] from h]; rfl
  | cons p es ih => exact fun h => el_3_4 h fun j w us _ _ h3 h4 => by rw [h4, List.length_cons, List.length_cons, ih h3]
end
section
variable {c : Cx} {k : Kn}
theorem dict_nodup {K : Type} [DecidableEq K] {knd : KeyKind c.prog c.w K} {h : Heap} {a : Addr} {kvs : List (K × Value)} (hd : h.DictOf knd a kvs) : (kvs.map (·.1)).Nodup := Exists.elim hd fun _ h => Exists.elim h fun _ h => Exists.elim h fun _ h => h.2.2.2.2.2
theorem oD_obj {φ : Fm} {st : St} {h : Heap} (R : Rels φ k st h) {i : Nat} {ob : O} {es : List (V × V)} (e : st.heap[i]? = some ob) (hp : oD ob = some es) {v : Value} (hv : Conc φ.tp k (.obj i) v) {G : Prop}
    (K : ∀ a kvs, v = .ref a → (a == sysModules) = false → Kv V.int φ.tp k es kvs → h.DictOf (intKind φ.tp.prog φ.tp.w) a kvs → (∀ es' kvs' h', Kv V.int φ.tp k es' kvs' → h'.DictOf (intKind φ.tp.prog φ.tp.w) a kvs' → Heap.SameBut a h h' → Nonempty (Rels φ k ⟨st.loc, st.heap.set i (.dict es')⟩ h')) → G) : G := by
  refine oD_e hp fun q => ?_
  subst q
  refine R.turn e rfl hv fun d hd a ob p1 p2 T => el_1_2 T.body.2.2.2 fun kvs h1 h2 => ?_
  have b2 := T.body.2.1
  subst b2
  exact K d.1 kvs T.hv T.body.2.2.1 h2 (Heap.dictOf_iff.mpr ⟨ob, T.row.1, h1⟩) fun es' kvs' h' k1 k2 k3 => el_1_2 (Heap.dictOf_iff.mp k2) fun o' g1 g2 => ⟨T.but k3 g1 ⟨T.body.1, rfl, T.body.2.2.1, kvs', g2, k1⟩⟩
theorem sim_setItem {a b z : V} {x y v : Value} (ha : Conc c.tp k a x) (hb : Conc c.tp k b y) (hz : Conc c.tp k z v) : Sim c k CU (setItem x y v) (setItemM a b z) := by
  refine .look fun i ea => asO_e ea fun q => .look fun j eb => asI_e eb fun q' => ?_
  subst q q'
  refine Exists.elim (show ∃ t, y = .int j t from hb) fun t q => ?_
  subst q
  refine .rd fun k' st s K X o Q E ob es l R e hp P HQ HE => size_e P fun hl P => dyn_e (u := .ents) P fun (r : List (V × V)) hr P => ?_
  exact oD_obj R e hp (ha.mono l) fun a kvs hv _ h1 h2 H => hv ▸ wpAny_setItem_pairs (intKind_is ..) h2 (fun h' hd hs => (H r _ h' (kv_put (hz.mono l) h1 (dict_nodup h2) hr) hd hs).elim fun R' => HQ k' () () _ h' _ (.refl _) R' trivial P) (by rw [← h1.length]; exact Nat.le_trans hl lim_line)
theorem sim_delItem {a b : V} {x y : Value} (ha : Conc c.tp k a x) (hb : Conc c.tp k b y) : Sim c k CU (delItem x y) (delItemM a b) := by
  refine .look fun i ea => asO_e ea fun q => .look fun j eb => asI_e eb fun q' => ?_
  subst q q'
  refine Exists.elim (show ∃ t, y = .int j t from hb) fun t q => ?_
  subst q
  refine .rd fun k' st s K X o Q E ob es l R e hp P HQ HE => size_e P fun hl P => dyn_e (u := .ents) P fun (r : List (V × V)) hr P => ?_
  refine oD_obj R e hp (ha.mono l) fun a kvs hv _ h1 h2 H => ?_
  subst hv
  have h3 := kv_del h1 (dict_nodup h2) hr
  unfold delItem
  try with_reducible refine wpAny_holding ?_
  refine wpAny_bind (wpAny_sequenceKey h2.typeIs (by decide) (wpAny_bind (wpAny_callSpecial?_slot (name := Str.ofString "__delitem__") h2.typeIs PySem.F.slot_dict_delitem
    (call_meetsIn PySem.F.slot_dict_delitem h2.typeIs PySem.F.entry_dict_delitem (PySem.F.args_dict_delitem_2 _ _) (meets_dict_delitem_pairs _ a (intKind_is ..)) ⟨kvs, h2, (by rw [← h1.length]; exact Nat.le_trans hl lim_line), h3.2, fun h' hd hs => ?_⟩))))
  exact wpAny_pure ((H r _ h' h3.1 hd hs).elim fun R' => HQ k' () () _ h' _ (.refl _) R' trivial P)
theorem oL_obj {φ : Fm} {st : St} {h : Heap} (R : Rels φ k st h) {i : Nat} {ob : O} {xs : List V} (e : st.heap[i]? = some ob) (hp : oL ob = some xs) {v : Value} (hv : Conc φ.tp k (.obj i) v) {G : Prop}
    (K : ∀ a ws n p1 p2 d, v = .ref a → Turn R i (.list xs) v d [] a (listOf (List.toArray ws) n) p1 p2 → Concs φ.tp k xs ws → (∀ xs' ws' n' h', Concs φ.tp k xs' ws' → Fr φ.h₀ φ.env.locals h' R.m → News φ.h₀ φ.env.locals h' ((p1 ++ []) ++ (a, listOf (List.toArray ws') n') :: (p2 ++ (φ.J ++ k.I))) → Nonempty (Rels φ k ⟨st.loc, st.heap.set i (.list xs')⟩ h')) → G) : G := by
  refine oL_e hp fun q => ?_
  subst q
  refine R.turn e rfl hv fun d hd a ob p1 p2 T => el_2_2 T.body.2.2 fun ws n h1 h2 => ?_
  have b1 := T.body.1
  have b2 := T.body.2.1
  subst b1 h1
  exact K a ws n p1 p2 d (b2 ▸ T.hv) T h2 fun xs' ws' n' h' c1 F' N' => ⟨T.put F' N' ⟨rfl, b2, ws', n', rfl, c1⟩⟩
theorem sim_lm {n : String} {i : Nat} {x : Value} {xs : List V} {vs : List Value} (ha : Conc c.tp k (.obj i) x) (hs : Concs c.tp k xs vs) : Sim c k (CV c) (call (.builtin n) (x :: vs)) (lmM n i xs) := by
  cases xs with
  | nil => exact .stuck
  | cons v xs =>
  cases xs with
  | cons => exact .stuck
  | nil =>
  refine el_2_3 hs fun w us hw hu e => ?_
  cases (show us = [] from hu)
  subst e
  refine .rd fun k' st s K X o Q E ob ys l R e hp P HQ HE => ?_
  have hw := hw.mono l
  refine oL_obj R e hp (ha.mono l) fun a ws m p1 p2 d hv T hc H => ?_
  subst hv
  have hlen := hc.length
  have U := fun o' => upd_of (o := listOf (List.toArray ws) m) (o' := o') T.n2 T.n1
  have done : ∀ xs' ws' n' h', Concs c.tp k' xs' ws' → Fr c.h₀ c.env.locals h' R.m → News c.h₀ c.env.locals h' ((p1 ++ []) ++ (a, listOf (List.toArray ws') n') :: (p2 ++ (c.J ++ k'.I))) → ∀ y z, Conc c.tp k' y z → Y c.l o (K y ⟨st.loc, st.heap.set i (.list xs')⟩) → Q z { s with heap := h' } :=
    fun xs' ws' n' h' c1 F' N' y z hz P => (H xs' ws' n' h' c1 F' N').elim fun R' => HQ k' y z _ h' s.toks (.refl _) R' hz P
  by_cases h1 : n = "list.append"
  · subst h1
    have P : Y c.l o (req (okL ys.length) ((setO i (.list (ys ++ [v]))).bind fun _ => .pure V.none) st K X) := P
    refine size_e P fun hl P => append_K R.F T.N (U _) (fun h' F' N' => ?_) (by rw [List.size_toArray, ← hlen]; exact Nat.le_trans hl lim_line)
    exact done (ys ++ [v]) (ws ++ [w]) _ h' ((Concs.one hw).append hc) F' (by simpa using N') .none _ rfl P
  rw [if_neg h1] at P
  by_cases h2 : n = "list.extend"
  · subst h2
    have P : Y c.l o (((liftO (asO v)).bind fun j => req (decide (j ≠ i)) ((rd oL j).bind fun zs => req (okL (ys.length + zs.length)) ((setO i (.list (ys ++ zs))).bind fun _ => .pure V.none))) st K X) := P
    refine look_e P fun j ej P => req_e P fun hj P => rd_e P fun ob₂ zs e2 hp2 P => size_e P fun hl P9 => asO_e ej fun q => ?_
    subst q
    refine R.list e2 hp2 hw fun l₂ us k₂ hv2 hm₂ hs₂ hL₂ => ?_
    subst hv2
    rw [T.all] at hm₂
    have hlen₂ := hs₂.length
    have hd : ¬(!ws.toArray.isEmpty && Builtin.List.listTooLong (ws.toArray.size + us.toArray.size)) = true := by
      unfold Builtin.List.listTooLong
      have q : ¬ (ws.toArray.size + us.toArray.size > sizeLine) := by
        rw [List.size_toArray, List.size_toArray, ← hlen, ← hlen₂]
        exact Nat.not_lt.mpr (Nat.le_trans hl lim_line)
      rw [decide_eq_false q, Bool.and_false]
      exact Bool.false_ne_true
    have hz1 : ws.toArray.toList.length ≤ sizeLine := by
      show ws.length ≤ _
      rw [← hlen]; exact Nat.le_trans (Nat.le_trans (Nat.le_add_right _ _) hl) lim_line
    have hz2 : ws.toArray.size + us.toArray.size ≤ sizeLine + 1 := by
      rw [List.size_toArray, List.size_toArray, ← hlen, ← hlen₂]
      exact Nat.le_trans hl (Nat.le_trans lim_line (Nat.le_add_right _ _))
    have fin := fun h' n' F' N' => done (ys ++ zs) (ws ++ us) n' h' (hs₂.append hc) F' N' .none .none rfl P9
    cases us with
    | nil => exact kxn_extend (its := ws.toArray) (its2 := #[]) R.F T.N hm₂ rfl (U _) hd hz1 hz2 fun h' F' N' => fin h' m F' (by simpa using N')
    | cons u us => exact kl_extend (its := ws.toArray) (its2 := (u :: us).toArray) R.F T.N hm₂ rfl (by simp) (U _) hd hz1 hz2 fun h' F' N' => fin h' _ F' (by simpa using N')
  rw [if_neg h2] at P
  by_cases h3 : n = "list.pop"
  · subst h3
    have P : Y c.l o (((liftO (asI v)).bind fun k => req (decide (k = 0) && okL ys.length) ((dyn .val ys.head?).bind fun v => (setO i (.list ys.tail)).bind fun _ => .pure v)) st K X) := P
    refine look_e P fun j ej P => req_e P fun hj P => dyn_e (u := .val) P fun (z : V) hz P9 => asI_e ej fun q => ?_
    have hj := Bool.and_eq_true_iff.mp hj
    subst q
    have hj0 := of_decide_eq_true hj.1
    subst hj0
    refine Exists.elim (show ∃ t, w = .int 0 t from hw) fun t q => ?_
    subst q
    cases ys with
    | nil => exact none_some hz
    | cons y ys =>
      refine el_2_3 hc fun w ws' h4 h5 e => ?_
      subst e
      refine kl_popAt (its := (w :: ws').toArray) (k := 0) (p := []) (q := ws') R.F T.N (by decide) (by simp [seqIndex?]) rfl (U _) ?_ fun h' F' N' => done ys ws' _ h' h5 F' N' z w (Option.some.inj hz ▸ h4) P9
      show (w :: ws').length ≤ _
      rw [← hlen]; exact Nat.le_trans (Nat.le_of_ble_eq_true hj.2) lim_line
  · rw [if_neg h3] at P; exact P.elim
theorem meth_list {st : St} {s : Shared} (R : Rels c.fm k st s.heap) {i : Nat} {xs : List V} {n : Str} {bid : String} {x : Value} (ha : Conc c.tp k (.obj i) x) (ho : st.heap[i]? = some (.list xs)) (hn : lmId n = some bid)
    {K : Value × List Value → Shared → Prop} {E : Value → Shared → Prop} {pl : Sem Bool} (h : K (.builtin bid, [x]) s) : wpAny c.M c.A (getMethod x n pl) K E s := by
  refine R.list ho rfl ha fun l ws m hv hm hc hL => ?_
  subst hv
  unfold lmId at hn
  by_cases e : n = ("append" : Str)
  · rw [if_pos e] at hn; cases hn; subst e; exact kl_method R.N hm PySem.F.slot_list_append PySem.F.type_list_append h
  rw [if_neg e] at hn
  by_cases e : n = ("extend" : Str)
  · rw [if_pos e] at hn; cases hn; subst e; exact kl_method R.N hm PySem.F.slot_list_extend PySem.F.type_list_extend h
  rw [if_neg e] at hn
  by_cases e : n = ("pop" : Str)
  · rw [if_pos e] at hn; cases hn; subst e; exact kl_method R.N hm PySem.F.slot_list_pop PySem.F.type_list_pop h
  · rw [if_neg e] at hn; exact none_some hn
end
end Mine
end
section
open PySem PySem.W PySem.Calls PyProof.Rows
set_option Elab.async false
set_option linter.unusedVariables false
set_option maxRecDepth 10000
namespace Mine
structure IsiOK (θ : Tp) : Prop where
  yes : ∀ j q, θ.S.cls j = some q → isIn θ.K (.ref (θ.ac j)) (θ.ac j) = true
  no : ∀ j k, j ≠ k → (θ.S.cls j).isSome = true → (θ.S.cls k).isSome = true → kin_not θ.K (θ.ac j) (θ.ac k) = true
  obj : ∀ j q, θ.S.cls j = some q → plainGet θ.K (θ.ac j) "__class__" = true ∧ hasDictIn θ.K (θ.ac j) = true ∧ findIn θ.K (.ref (θ.ac j)) "__class__" = some (some (.builtin "object.__class__")) ∧ mroIn θ.K (θ.ac j) (.type "object") = some true
  get : specialIn θ.K (.builtin "object.__class__") "__get__" = some (some (.builtin "getset_descriptor.__get__")) ∧ takesIn θ.K (.builtin "object.__class__") = some true
section
variable {c : Cx} {k : Kn}
theorem concs1 {θ : Tp} {a : V} {vs : List Value} (h : Concs θ k [a] vs) {P : List Value → Prop} (H : ∀ v, Conc θ k a v → P [v]) : P vs := el_2_3 h fun v us h1 h2 h3 => by rw [h3, show us = [] from h2]; exact H v h1
theorem concs2 {θ : Tp} {a b : V} {vs : List Value} (h : Concs θ k [a, b] vs) {P : List Value → Prop} (H : ∀ v w, Conc θ k a v → Conc θ k b w → P [v, w]) : P vs := el_2_3 h fun v us h1 h2 h3 => by rw [h3]; exact concs1 (P := fun us => P (v :: us)) h2 fun w h4 => H v w h1 h4
theorem sim_isi (G : Good c) (IO : IsiOK c.tp) {a b : V} {x y : Value} (ha : Conc c.tp k a x) (hb : Conc c.tp k b y) : Sim c k (CV c) (call (.builtin "isinstance") [x, y]) (isiM c.S a b) := by
  cases b with
  | cls m =>
    cases a with
    | rcd j fs =>
      rw [show y = .ref (c.ac m) from hb]
      refine .chk fun hk => fun k₁ st s K X o Q E l R P HQ HE => ?_
      have hk := Bool.and_eq_true_iff.mp hk
      have X := G.X.keeps R.F.keep
      refine el_4_4 (ha.mono l) fun x' dx es n' h1 h2 h3 h4 => ?_
      subst h4
      have I : InstAt s.heap x' (instObj (c.ac j) dx) (c.ac j) (some (dictOf es n')) := InstAt.of_news R.N (R.inI h1) (R.inI h2)
      refine Exists.elim (Option.isSome_iff_exists.mp hk.2) fun q hq => ?_
      by_cases e : j = m
      · subst e
        rw [decide_eq_true rfl] at P
        exact isi_call (t := .ref (c.ac j)) X (fun M => I.type) (IO.yes _ _ hq) (fun z => nomatch z) (HQ.now s.toks R (.bool true) P)
      · rw [decide_eq_false e] at P
        have g := IO.obj _ _ hq
        exact kin_callC X I (IO.no _ _ e hk.2 hk.1) g.1 g.2.1 g.2.2.1 IO.get.1 IO.get.2 g.2.2.2 (HQ.now _ R (.bool false) P)
    | _ => exact .stuck
  | ty n =>
    cases a with
    | str t =>
      rw [show y = .type n from hb]
      refine Exists.elim (show ∃ u, x = .str t u from ha) fun u q => ?_
      subst q
      exact .gp fun e => by subst e; exact .still fun _ s _ _ _ h => PySem.IsiPair.str_str (h s.toks _ rfl)
    | _ => exact .stuck
  | _ => cases a <;> exact .stuck
theorem strs_txts {θ : Tp} {xs : List V} : ∀ {vs : List Value} {l : List Str}, Concs θ k xs vs → txts xs = some l → StrsAre vs l := by
  induction xs with
  | nil => exact fun h e => by rw [show _ = [] from h, ← Option.some.inj e]; exact .nil
  | cons x xs ih =>
    refine fun h e => el_2_3 h fun v us h1 h2 h3 => el_1_2 (Option.bind_eq_some_iff.mp e) fun t e1 e2 => el_1_2 (Option.map_eq_some_iff.mp e2) fun l' e3 e4 => asS_e e1 fun q => ?_
    subst q e4
    exact Exists.elim (show ∃ u, v = .str t u from h1) fun u q => by rw [h3, q]; exact .cons _ _ (ih h2 e3)
theorem sim_join {t : Str} {u : Tok} {xs : List V} {vs : List Value} (hs : Concs c.tp k xs vs) : Sim c k (CV c) (call (.builtin "str.join") (.str t u :: vs)) (joinM t xs) := by
  cases xs with
  | nil => exact .stuck
  | cons a xs =>
  cases xs with
  | cons => exact .stuck
  | nil =>
  refine concs1 (P := fun vs => Sim c k (CV c) (call (.builtin "str.join") (.str t u :: vs)) (joinM t [a])) hs fun v hv => .look fun i ei => asO_e ei fun q => ?_
  subst q
  refine .rd fun k' st s K X o Q E ob ys l R e hp P HQ HE => dyn_e (u := .strs) P fun (l' : List Str) hl P => size_e P fun hz P => R.list e hp (hv.mono l) fun a vs n q _ hc hL => ?_
  subst q
  refine join_list hL (by simpa using strs_txts hc hl) ?_ fun t' tk => ?_
  · rw [show l'.length * t.length = t.cps.size * l'.length from Nat.mul_comm _ _]
    exact Nat.le_trans hz (by unfold lim; decide)
  · rw [show Txt.join t l' = Str.join t l' from StrLaws.glued_eq_join t l']; exact HQ.now _ R (.str _ _) P
theorem sim_len (G : Good c) (SO : StaOK c.tp) {a : V} {x : Value} (ha : Conc c.tp k a x) : Sim c k (CV c) (call (.builtin "len") [x]) (lenM c.S a) := by
  unfold lenM
  cases ea : asS a with
  | some t =>
    refine .size fun hl => asS_e ea fun q => ?_
    subst q
    refine Exists.elim (show ∃ u, x = .str t u from ha) fun u q => ?_
    subst q
    refine .still fun _ s _ _ _ h => PySem.P.len_str (fun hq => ?_) (h _ _ ⟨_, rfl⟩)
    have hl : Str.length _ ≤ 1000000 := hl
    have hq := Int.ofNat_le.mp (show ((2 ^ 63 : Nat) : Int) ≤ _ from hq)
    omega
  | none =>
    refine Sim.obj G SO ha fun k' st s K X o Q E ob l R S P HQ HE => ?_
    cases ob with
    | list xs =>
      refine size_e P fun hl P => el_1_2 S fun d hd S => el_1_2 S fun vs h1 h2 => ?_
      have hq := h1.length
      subst hd
      refine call_len_list h2 (by rw [List.size_toArray, ← hq]; have hl : _ ≤ 1000000 := hl; omega) ?_
      rw [List.size_toArray, ← hq]
      exact HQ.now _ R (.int _ _) P
    | _ => exact P.elim
theorem sim_bi (G : Good c) (IO : IsiOK c.tp) (SO : StaOK c.tp) {n : String} {xs : List V} {vs : List Value} (hs : Concs c.tp k xs vs) : Sim c k (CV c) (call (.builtin n) vs) (biM c.S n xs) := by
  cases xs with
  | nil => exact .stuck
  | cons a xs =>
  cases xs with
  | nil =>
    refine concs1 (P := fun vs => Sim c k (CV c) (call (.builtin n) vs) (biM c.S n [a])) hs fun v hv => .ifp (fun e => e ▸ sim_len G SO hv) fun _ => .gp fun e => ?_
    subst e
    refine .int (T := fun v => call (.builtin "chr") [v]) hv fun i t => .guardD fun h => .still fun _ s _ _ _ hq => PySem.P.chr_of_int (by simp only [Bool.or_eq_false_iff, decide_eq_false_iff_not]; omega) (hq _ _ ⟨_, rfl⟩)
  | cons b xs =>
  cases xs with
  | nil => exact concs2 (P := fun vs => Sim c k (CV c) (call (.builtin n) vs) (biM c.S n [a, b])) hs fun v w hv hw => .gp fun e => e ▸ sim_isi G IO hv hw
  | cons => exact .stuck
theorem keys_are {θ : Tp} {es : List (V × V)} : ∀ {kvs : List (Int × Value)} {prog : Program} {w : World} (vs : List Value), Kv V.int θ k es kvs → vs.length = kvs.length → (∀ (j : Nat) (v : Value), vs[j]? = some v → ∃ q x, kvs[j]? = some (q, x) ∧ (intKind prog w).is q v = true) → Concs θ k (es.map (·.1)) vs := by
  induction es with
  | nil => exact fun vs h hl _ => List.length_eq_zero_iff.mp (hl.trans (congrArg List.length (show _ = [] from h)))
  | cons p es ih =>
    intro kvs prog w vs h hl hv
    refine el_3_4 h fun j x us h1 h2 h3 h4 => ?_
    subst h4
    cases vs with
    | nil => cases hl
    | cons v vs =>
      refine el_2_2 (hv 0 v rfl) fun q x' e hk => ?_
      have e := (Prod.mk.inj (Option.some.inj e)).1
      subst e
      exact ⟨v, vs, Exists.elim (Value.isInt_shape hk) fun t z => by show Conc θ k p.1 v; rw [h1, z]; exact ⟨_, rfl⟩, ih vs h3 (by simpa using hl) fun j w e => hv (j + 1) w (by simpa using e), rfl⟩
theorem sim_ty (G : Good c) {n : String} {xs : List V} {vs : List Value} (hs : Concs c.tp k xs vs) : Sim c k (CV c) (call (.type n) vs) (tyM n xs) := by
  cases xs with
  | nil => exact .stuck
  | cons a xs =>
  cases xs with
  | nil =>
    refine concs1 (P := fun vs => Sim c k (CV c) (call (.type n) vs) (tyM n [a])) hs fun v hv => .ifp (fun e => ?_) fun _ => .gp fun e => ?_
    · subst e
      refine .look fun i ei => asO_e ei fun q => ?_
      subst q
      refine .rd fun k' st s K X o Q E ob es l R e hp P HQ HE => size_e P fun hl P => oD_obj R e hp (hv.mono l) fun a kvs hv hm h1 hD _ => ?_
      subst hv
      exact Exists.elim hD.dictAt fun ep hA => kdl_N (kdl_dict hm) G.hd R.F R.N hA (by rw [← h1.length]; exact Nat.le_trans hl lim_line) fun l' cc h' tk vs F' N' hlt hlen hv =>
        HQ ⟨_, k'.I⟩ (.obj st.heap.length) _ ⟨st.loc, st.heap ++ [O.list (es.map (·.1))]⟩ h' tk (KLe.app _) (R.pushList (keys_are vs h1 hlen hv) F' N' hlt) (R.newAt _) P
    · subst e
      refine .int (T := fun v => call (.type "range") [v]) hv fun i t => .req fun h => fun k₁ st s K X o Q E l R P HQ HE => call_range_1 ?_
      refine HQ _ (.rng 0 i) _ st _ _ (KLe.more [(s.heap.objs.size, _)]) (R.pushI (R.F.push _) (News.push R.F R.N _) (nd_one ..) fun q hq p hp => ?_) ⟨s.heap.objs.size, _, _, _, .head _, rfl⟩ P
      rw [List.mem_singleton.mp hq]
      exact Nat.ne_of_lt (Heap.lt_size (R.N p hp).1)
  | cons b xs =>
  cases xs with
  | nil =>
    refine concs2 (P := fun vs => Sim c k (CV c) (call (.type n) vs) (tyM n [a, b])) hs fun v w hv hw => .gp fun e => ?_
    subst e
    refine .str (T := fun v => call (.type "int") [v, w]) hv fun t u => .int (T := fun w => call (.type "int") [.str t u, w]) hw fun i t' => .guardD fun h => .dyn (u := .nat) fun (x : Nat) hx => .still fun _ s _ _ _ hq => ?_
    have h16 := h.1
    subst h16
    exact call_hex (by omega) h.2.1 hx (hq _ _ ⟨_, rfl⟩)
  | cons => exact .stuck
end
end Mine
end
section
open PySem PySem.W PySem.Calls PyProof.Rows
set_option Elab.async false
set_option linter.unusedVariables false
set_option maxRecDepth 10000
namespace Mine
theorem forIn_path {α β : Type} {f : α → β → Sem (ForInStep β)} {g : β → α → β} {b : β} : ∀ (post pre : List α), (∀ pre' a post', pre ++ post = pre' ++ a :: post' → f a (pre'.foldl g b) = pure (.yield (g (pre'.foldl g b) a))) →
    forIn post (pre.foldl g b) f = pure ((pre ++ post).foldl g b)
  | [], pre, h => by rw [List.forIn_nil, List.append_nil]
  | a :: post, pre, h => by
    rw [List.forIn_cons, h pre a post rfl]
    show forIn post (g (List.foldl g b pre) a) f = _
    have := forIn_path post (pre ++ [a]) (f := f) (g := g) (b := b) fun pre' a' post' e => h pre' a' post' (by simpa using e)
    rw [List.foldl_append] at this
    simpa using this
theorem forIn_all {α β : Type} {f : α → β → Sem (ForInStep β)} {g : β → α → β} {b : β} (l : List α) (h : ∀ pre' a post', l = pre' ++ a :: post' → f a (pre'.foldl g b) = pure (.yield (g (pre'.foldl g b) a))) : forIn l b f = pure (l.foldl g b) :=
  forIn_path l [] (by simpa using h)
theorem lookup_none {β : Type} {k : Str} : ∀ {l : List (Str × β)}, k ∉ l.map (·.1) → l.lookup k = none
  | [], _ => rfl
  | (q, v) :: l, h => by
    rw [List.map_cons, List.mem_cons, not_or] at h
    rw [List.lookup_cons, beq_eq_false_iff_ne.mpr h.1]
    exact lookup_none h.2
theorem fold_kw {vs : List (Str × Value)} : ∀ (kw acc : List (Str × Value)), kw.foldl (fun (b : List (Str × Value) × List (Str × Value)) (a : Str × Value) => (b.1 ++ [(a.1, a.2)], b.2)) (acc, []) = (acc ++ kw, [])
  | [], acc => by simp
  | a :: kw, acc => by
    rw [List.foldl_cons, fold_kw (vs := vs)]
    simp
theorem zip_keys {α : Type} : ∀ (ps : List Str) (vs : List α), (ps.zip vs).map (·.1) = ps.take vs.length
  | [], vs => by simp
  | _ :: _, [] => by simp
  | p :: ps, v :: vs => by simp [zip_keys ps vs]
theorem bind_rule {fd : FuncData} {ps : List Str} {vs ds : List Value} {kw : List (Str × Value)} {Q : List (Str × Value) → Shared → Prop} {s : Shared} {M : Model} {A : Around} {E : Value → Shared → Prop}
    (h1 : fd.params.posonlyargs = []) (h2 : fd.params.args.map (·.arg) = ps) (h3 : fd.params.kwonlyargs = []) (h4 : fd.params.vararg = none) (h5 : fd.params.kwarg = none)
    (hd : ∀ {Q : Option (Array Value) → Shared → Prop}, (∀ o, (o.getD #[]).toList = ds → Q o s) → wpAny M A (seqItems? fd.defaults) Q E s)
    (hfit : fits ps vs kw ds = true) (h : Q (boundOf ps vs kw ds) s) : wpAny M A (bindArgs fd ⟨vs, kw⟩) Q E s := by
  unfold fits at hfit
  simp only [Bool.and_eq_true, decide_eq_true_eq, List.all_eq_true, Bool.not_eq_true', List.isEmpty_iff] at hfit
  obtain ⟨⟨⟨⟨hl, hk⟩, hkn⟩, hds⟩, hmiss⟩ := hfit
  unfold bindArgs
  simp only [h1, h2, h3, h4, h5, List.map_nil, List.nil_append, List.append_nil]
  have e1 : ∀ f : Str × Value → List (Str × Value) × List (Str × Value) → Sem (ForInStep (List (Str × Value) × List (Str × Value))), (∀ a b, ps.contains a.1 = true → (b.1.lookup a.1).isSome = false → f a b = pure (.yield (b.1 ++ [(a.1, a.2)], b.2))) →
      forIn kw (ps.zip vs, []) f = pure (ps.zip vs ++ kw, []) := fun f hf => by
    rw [forIn_all (g := fun b a => (b.1 ++ [(a.1, a.2)], b.2)) kw fun pre' a post' e => ?_, fold_kw (vs := [])]
    rw [fold_kw (vs := [])]
    obtain ⟨k1, k2⟩ := hk a (by rw [e]; simp)
    refine hf _ _ k1 ?_
    rw [lookup_none]
    · rfl
    · rw [List.map_append, List.mem_append, not_or, zip_keys]
      refine ⟨fun z => ?_, fun z => ?_⟩
      · rw [List.contains_iff_mem.mpr z] at k2; cases k2
      · rw [e, List.map_append, List.map_cons, List.nodup_append] at hkn
        exact hkn.2.2 a.1 z a.1 (.head _) rfl
  rw [e1 _ fun a b k1 k2 => by simp only [k1, k2, Bool.true_or, if_true, Bool.false_eq_true, if_false]]
  refine wpAny_bind (wpAny_pure ?_)
  refine wpAny_bind (hd fun o ho => ?_)
  rw [if_neg (by simp; omega)]
  simp only [ho]
  have hdrop : ds.drop (ds.length - ps.length) = ds := by rw [show ds.length - ps.length = 0 by omega]; rfl
  simp only [hdrop, hmiss, List.isEmpty_nil, Bool.not_true, Bool.false_eq_true, if_false]
  rw [forIn_all (g := fun acc (p : Str × Value) => if (acc.lookup p.1).isNone then acc ++ [(p.1, p.2)] else acc) _ fun pre' a post' e => ?_]
  · refine wpAny_bind (wpAny_pure ?_)
    simp only [List.forIn_nil]
    exact wpAny_bind (wpAny_pure (wpAny_pure h))
  · split <;> rfl
noncomputable def Kws (θ : Tp) (k : Kn) : List (Str × V) → List (Str × Value) → Prop
  | [], vs => vs = []
  | p :: xs, vs => ∃ v us, Conc θ k p.2 v ∧ Kws θ k xs us ∧ vs = (p.1, v) :: us
section
variable {θ : Tp} {k : Kn}
theorem Kws.mono {k' : Kn} (e : KLe k k') {xs : List (Str × V)} : ∀ {vs : List (Str × Value)}, Kws θ k xs vs → Kws θ k' xs vs := by
  induction xs with
  | nil => exact id
  | cons x xs ih => exact fun ⟨v, us, a, b, c⟩ => ⟨v, us, a.mono e, ih b, c⟩
theorem Kws.keys {xs : List (Str × V)} : ∀ {vs : List (Str × Value)}, Kws θ k xs vs → xs.map (·.1) = vs.map (·.1) := by
  induction xs with
  | nil => exact fun h => by rw [show _ = [] from h]; rfl
  | cons x xs ih => exact fun h => el_2_3 h fun v us _ h e => by rw [e, List.map_cons, List.map_cons, ih h]
theorem Kws.append {xs ys : List (Str × V)} {ws : List (Str × Value)} (hk : Kws θ k ys ws) : ∀ {vs : List (Str × Value)}, Kws θ k xs vs → Kws θ k (xs ++ ys) (vs ++ ws) := by
  induction xs with
  | nil => exact fun h => by rw [show _ = [] from h]; exact hk
  | cons x xs ih => exact fun h => el_2_3 h fun v us h1 h2 e => by rw [e]; exact ⟨v, us ++ ws, h1, ih h2, rfl⟩
theorem Kws.zip {xs : List V} : ∀ (ps : List Str) {vs : List Value}, Concs θ k xs vs → Kws θ k (ps.zip xs) (ps.zip vs) := by
  induction xs with
  | nil => exact fun ps vs h => by rw [show vs = [] from h, List.zip_nil_right, List.zip_nil_right]; rfl
  | cons x xs ih =>
    intro ps vs h
    refine el_2_3 h fun v us h1 h2 e => ?_
    subst e
    cases ps with
    | nil => exact rfl
    | cons p ps => exact ⟨v, _, h1, ih ps h2, rfl⟩
theorem Kws.look (n : Str) {xs : List (Str × V)} : ∀ {vs : List (Str × Value)}, Kws θ k xs vs → (xs.lookup n = none ∧ vs.lookup n = none) ∨ ∃ x v, xs.lookup n = some x ∧ vs.lookup n = some v ∧ Conc θ k x v := by
  induction xs with
  | nil => exact fun h => by rw [show _ = [] from h]; exact .inl ⟨rfl, rfl⟩
  | cons x xs ih =>
    refine fun h => el_2_3 h fun v us h1 h2 e => ?_
    subst e
    rw [List.lookup_cons, List.lookup_cons]
    cases n == x.1 with
    | true => exact .inr ⟨x.2, v, rfl, rfl, h1⟩
    | false => exact ih h2
theorem Kws.isNone (n : Str) {xs : List (Str × V)} {vs : List (Str × Value)} (h : Kws θ k xs vs) : (xs.lookup n).isNone = (vs.lookup n).isNone :=
  (h.look n).elim (fun h => by rw [h.1, h.2]; rfl) fun h => el_2_3 h fun x v a b _ => by rw [a, b]; rfl
theorem Kws.fold {ps : List (Str × V)} : ∀ {xs : List (Str × V)} {qs vs : List (Str × Value)}, Kws θ k ps qs → Kws θ k xs vs →
    Kws θ k (ps.foldl (fun acc p => if (acc.lookup p.1).isNone then acc ++ [(p.1, p.2)] else acc) xs) (qs.foldl (fun acc p => if (acc.lookup p.1).isNone then acc ++ [(p.1, p.2)] else acc) vs) := by
  induction ps with
  | nil => exact fun h hk => by rw [show _ = [] from h]; exact hk
  | cons p ps ih =>
    refine fun h hk => el_2_3 h fun v us h1 h2 e => ?_
    subst e
    rw [List.foldl_cons, List.foldl_cons]
    refine ih h2 ?_
    simp only [hk.isNone p.1]
    split
    · exact Kws.append (ys := [(p.1, p.2)]) (ws := [(p.1, v)]) ⟨v, [], h1, rfl, rfl⟩ hk
    · exact hk
theorem Kws.slots (ps : List Str) {xs : List V} {vs : List Value} {kx : List (Str × V)} {kv : List (Str × Value)} {dx : List V} {dv : List Value} (h : Concs θ k xs vs) (hk : Kws θ k kx kv) (hd : Concs θ k dx dv) :
    Kws θ k (slots ps xs kx dx) (slots ps vs kv dv) := by
  unfold Mine.slots
  rw [hd.length]
  exact Kws.fold (Kws.zip _ hd) (Kws.append hk (Kws.zip ps h))
theorem Kws.bound (ps : List Str) {xs : List V} {vs : List Value} {kx : List (Str × V)} {kv : List (Str × Value)} {dx : List V} {dv : List Value} (h : Concs θ k xs vs) (hk : Kws θ k kx kv) (hd : Concs θ k dx dv) :
    Kws θ k (boundOf ps xs kx dx) (boundOf ps vs kv dv) := by
  have h := Kws.slots ps h hk hd
  unfold boundOf
  generalize Mine.slots ps xs kx dx = X at h
  generalize Mine.slots ps vs kv dv = Y at h
  induction ps with
  | nil => exact rfl
  | cons p ps ih =>
    rw [List.filterMap_cons, List.filterMap_cons]
    exact (h.look p).elim (fun z => by rw [z.1, z.2]; exact ih) fun z => el_2_3 z fun x v a b hc => by rw [a, b]; exact ⟨v, _, hc, ih, rfl⟩
theorem Kws.fits (ps : List Str) {xs : List V} {vs : List Value} {kx : List (Str × V)} {kv : List (Str × Value)} {dx : List V} {dv : List Value} (h : Concs θ k xs vs) (hk : Kws θ k kx kv) (hd : Concs θ k dx dv) :
    fits ps xs kx dx = fits ps vs kv dv := by
  unfold Mine.fits
  have e1 : (kx.all fun p => ps.contains p.1 && !(ps.take xs.length).contains p.1) = kv.all fun p => ps.contains p.1 && !(ps.take vs.length).contains p.1 := by
    rw [h.length]
    have a : ∀ {α : Type} (l : List (Str × α)), (l.all fun p => ps.contains p.1 && !(ps.take vs.length).contains p.1) = (l.map (·.1)).all fun p => ps.contains p && !(ps.take vs.length).contains p := fun l => by rw [List.all_map]; rfl
    rw [a, a, hk.keys]
  have e2 : (fun n => ((ps.zip xs ++ kx).lookup n).isNone) = fun n => ((ps.zip vs ++ kv).lookup n).isNone := funext fun n => (Kws.append hk (Kws.zip ps h)).isNone n
  rw [e1, e2, h.length, hd.length, hk.keys]
end
theorem named_keys {α : Type} (g : Str → Option α) : ∀ ps : List Str, (ps.filterMap fun n => (g n).map (n, ·)).map (·.1) = ps.filter fun n => (g n).isSome
  | [] => rfl
  | p :: ps => by
    rw [List.filterMap_cons, List.filter_cons]
    cases h : g p with
    | none => simp only [Option.map_none, Option.isSome_none, Bool.false_eq_true, if_false]; exact named_keys g ps
    | some v => simp only [Option.map_some, Option.isSome_some, if_true, List.map_cons, named_keys g ps]
theorem boundOf_nodup {α : Type} {ps : List Str} (h : ps.Nodup) (vs : List α) (kw : List (Str × α)) (ds : List α) : ((boundOf ps vs kw ds).map (·.1)).Nodup := by
  unfold boundOf
  rw [named_keys]
  exact h.filter _
theorem boundOf_mem {α : Type} {ps : List Str} {vs : List α} {kw : List (Str × α)} {ds : List α} {x : Str × α} (h : x ∈ boundOf ps vs kw ds) : x.1 ∈ ps := by
  have := List.mem_map_of_mem (f := (·.1)) h
  unfold boundOf at this
  rw [named_keys] at this
  exact (List.mem_filter.mp this).1
end Mine
end
section
open PySem PySem.W PySem.Calls PyProof.Rows
set_option Elab.async false
set_option linter.unusedVariables false
set_option maxRecDepth 10000
namespace Mine
noncomputable def CF (θ : Tp) (k : Kn) : Fl → Flow → Prop
  | .next, f => f = .next
  | .brk, f => f = .brk
  | .cont, f => f = .cont
  | .ret a, f => ∃ v, f = .ret v ∧ Conc θ k a v
theorem cellsFrom_acc (names : List (Str × NameKind)) : ∀ (n : Nat) (acc : List (Str × Addr)) (p : Str × Addr), p ∈ acc → p ∈ cellsFrom n names acc := by
  induction names with
  | nil => exact fun _ _ _ h => h
  | cons q r ih =>
    intro n acc p h
    unfold cellsFrom
    split
    · exact ih _ _ _ (.tail _ h)
    · exact ih _ _ _ h
theorem cellsFrom_has {x : Str} (names : List (Str × NameKind)) : ∀ (n : Nat) (acc : List (Str × Addr)), (x, NameKind.cell) ∈ names → ∃ q, (x, q) ∈ cellsFrom n names acc := by
  induction names with
  | nil => exact fun _ _ h => nomatch h
  | cons q r ih =>
    intro n acc h
    unfold cellsFrom
    refine (List.mem_cons.mp h).elim (fun h => ?_) fun h => ?_
    · rw [← h, if_pos (by rfl)]
      exact ⟨n, cellsFrom_acc r _ _ _ (.head _)⟩
    · split <;> exact ih _ _ h
theorem CellsAre.at {cm : Str → Option Value} {x : Str} {q : Addr} {cs : List (Str × Addr)} {cells : List (Addr × Obj)} (h : CellsAre cm cs cells) : (x, q) ∈ cs → ∃ o, (q, o) ∈ cells ∧ o.data = .cell (cm x) := by
  induction h with
  | nil => exact fun h => nomatch h
  | cons hd hs ih => exact fun h => (List.mem_cons.mp h).elim (fun h => by cases h; exact ⟨_, .head _, hd⟩) fun h => Exists.imp (fun o z => ⟨.tail _ z.1, z.2⟩) (ih h)
theorem lkp_lookup {x : Str} (l : List (Str × V)) : lkp x l = l.lookup x := by
  induction l with
  | nil => rfl
  | cons p l ih =>
    rw [lkp, List.lookup_cons, ih]
    by_cases h : x = p.1
    · rw [if_pos h, beq_iff_eq.mpr h]
    · rw [if_neg h, beq_eq_false_iff_ne.mpr h]
theorem lookup_nodup {β : Type} {x : Str} {b : β} {l : List (Str × β)} : (l.map (·.1)).Nodup → (x, b) ∈ l → l.lookup x = some b := by
  induction l with
  | nil => exact fun _ h => nomatch h
  | cons p l ih =>
    intro hn h
    rw [List.map_cons, List.nodup_cons] at hn
    rw [List.lookup_cons]
    refine (List.mem_cons.mp h).elim (fun h => by rw [← h, beq_self_eq_true]) fun h => ?_
    rw [beq_eq_false_iff_ne.mpr (show x ≠ p.1 from fun e => hn.1 (e ▸ List.mem_map_of_mem (f := (·.1)) h))]
    exact ih hn.2 h
theorem bindL_at {k : Str → Option NameKind} {x : Str} (hk : k x = some .local) {binds : List (Str × Value)} : ∀ {m : Str → Option Value}, (binds.map (·.1)).Nodup → ∀ v, binds.lookup x = some v → bindL k binds m x = some v := by
  induction binds with
  | nil => exact fun _ _ e => none_some e
  | cons p r ih =>
    intro m hn v e
    rw [List.map_cons, List.nodup_cons] at hn
    unfold bindL
    rw [List.lookup_cons] at e
    by_cases h : x = p.1
    · rw [h, beq_self_eq_true] at e
      have hm : ∀ (r : List (Str × Value)) (m : Str → Option Value), x ∉ r.map (·.1) → bindL k r m x = m x := fun r => by
        induction r with
        | nil => exact fun _ _ => rfl
        | cons q r ih2 =>
          intro m h
          rw [List.map_cons, List.mem_cons, not_or] at h
          unfold bindL
          rw [ih2 _ h.2]
          split <;> simp [h.1]
      rw [hm r _ (h ▸ hn.1), ← h, if_pos hk, if_pos rfl, ← Option.some.inj e]
    · rw [beq_eq_false_iff_ne.mpr h] at e
      exact ih hn.2 v e
theorem bindC_at {k : Str → Option NameKind} {x : Str} (hk : k x ≠ some .local) {binds : List (Str × Value)} : ∀ {m : Str → Option Value}, (binds.map (·.1)).Nodup → ∀ v, binds.lookup x = some v → bindC k binds m x = some v := by
  induction binds with
  | nil => exact fun _ _ e => none_some e
  | cons p r ih =>
    intro m hn v e
    rw [List.map_cons, List.nodup_cons] at hn
    unfold bindC
    rw [List.lookup_cons] at e
    by_cases h : x = p.1
    · rw [h, beq_self_eq_true] at e
      have hm : ∀ (r : List (Str × Value)) (m : Str → Option Value), x ∉ r.map (·.1) → bindC k r m x = m x := fun r => by
        induction r with
        | nil => exact fun _ _ => rfl
        | cons q r ih2 =>
          intro m h
          rw [List.map_cons, List.mem_cons, not_or] at h
          unfold bindC
          rw [ih2 _ h.2]
          split <;> simp [h.1]
      rw [hm r _ (h ▸ hn.1), ← h, if_neg hk, if_pos rfl, ← Option.some.inj e]
    · rw [beq_eq_false_iff_ne.mpr h] at e
      exact ih hn.2 v e
theorem bindC_no {k : Str → Option NameKind} {x : Str} {binds : List (Str × Value)} : ∀ {m : Str → Option Value}, binds.lookup x = none → bindC k binds m x = m x := by
  induction binds with
  | nil => exact fun _ => rfl
  | cons p r ih =>
    intro m e
    unfold bindC
    rw [List.lookup_cons] at e
    by_cases h : x = p.1
    · rw [h, beq_self_eq_true] at e; cases e
    · rw [beq_eq_false_iff_ne.mpr h] at e
      rw [ih e]
      split <;> simp [h]
theorem names_sub {names : List (Str × NameKind)} (h : (names.map (·.1)).Nodup) : ∀ (n : Nat) (acc : List (Str × Addr)), (acc.map (·.1)).Nodup → (∀ p ∈ acc, p.1 ∉ names.map (·.1)) → ((cellsFrom n names acc).map (·.1)).Nodup := by
  induction names with
  | nil => exact fun _ _ h _ => h
  | cons q r ih =>
    intro n acc h1 h2
    rw [List.map_cons, List.nodup_cons] at h
    unfold cellsFrom
    split
    · refine ih h.2 _ _ (List.nodup_cons.mpr ⟨fun z => el_1_2 (List.mem_map.mp z) fun p hp e => h2 p hp (by rw [e]; exact .head _), h1⟩) fun p hp => ?_
      exact (List.mem_cons.mp hp).elim (fun e => by rw [e]; exact h.1) fun hp z => h2 p hp (.tail _ z)
    · exact ih h.2 _ _ h1 fun p hp z => h2 p hp (.tail _ z)
theorem entry_in {θ : Tp} {J : Led} {g : Str → Option V} {bx : List (Str × V)} {bv : List (Str × Value)} {cm : Str → Option Value} {cells : Led} (hc : ∀ x u v, bx.lookup x = some u → bv.lookup x = some v → cm x = some v) {names : List (Str × NameKind)} :
    ∀ (n : Nat) (acc : List (Str × Addr)) (os : List O) (D : List (Option DE)), os.length = D.length → (∀ x q, (x, NameKind.cell) ∈ names → (x, q) ∈ cellsFrom n names acc → n ≤ q → ∃ o, (q, o) ∈ cells ∧ o.data = .cell (cm x)) →
    ∃ Dn Mn, (∀ p ∈ Mn, p ∈ cells ∧ n ≤ p.1) ∧ (Mn.map (·.1)).Nodup ∧ (∀ (i : Nat) (d : DE), (D ++ Dn)[i]? = some (some d) → i < D.length → D[i]? = some (some d)) ∧
      (∀ k M, Kws θ k bx bv → HeapR θ J k os D M → HeapR θ J k (entryN g bx names os).2 (D ++ Dn) (M ++ Mn)) ∧
      ∀ x a, lkp x (entryN g bx names os).1 = some a → ((x, NameKind.local) ∈ names ∧ a = (lkp x bx).getD .undef) ∨ ((x, NameKind.globalImplicit) ∈ names ∧ g x = some a) ∨ ((x, NameKind.cell) ∈ names ∧ ∃ i q, a = .cref i ∧ (x, q) ∈ cellsFrom n names acc ∧ (D ++ Dn)[i]? = some (some (q, 0))) := by
  induction names with
  | nil => exact fun n acc os D _ _ => ⟨[], [], (fun _ h => nomatch h), List.nodup_nil, fun i d h _ => by rw [List.append_nil] at h; exact h, fun k M _ h => by rw [List.append_nil, List.append_nil]; exact h, fun x a h => none_some h⟩
  | cons p r ih =>
    intro n acc os D hl H
    have look : ∀ {x : Str} {u a : V} {l : List (Str × V)}, lkp x ((p.1, u) :: l) = some a → (x = p.1 ∧ u = a) ∨ lkp x l = some a := fun {x u a l} h => by
      rw [lkp] at h
      by_cases e : x = p.1
      · rw [if_pos e] at h; exact .inl ⟨e, Option.some.inj h⟩
      · rw [if_neg e] at h; exact .inr h
    by_cases hk : p.2 = .cell
    · have ep : p = (p.1, .cell) := by rw [← hk]
      have e1 : cellsFrom n (p :: r) acc = cellsFrom (n + 1) r ((p.1, n) :: acc) := by rw [ep]; rfl
      have e2 : entryN g bx (p :: r) os = ((p.1, .cref os.length) :: (entryN g bx r (os ++ [.cell ((lkp p.1 bx).getD .undef)])).1, (entryN g bx r (os ++ [.cell ((lkp p.1 bx).getD .undef)])).2) := by rw [ep]; rfl
      rw [e1] at H
      have h0 := cellsFrom_acc r (n + 1) ((p.1, n) :: acc) _ (.head _)
      refine el_1_2 (H p.1 n (by rw [← hk]; exact .head _) h0 (Nat.le_refl _)) fun ob h1 h2 => ?_
      refine Exists.elim (ih (n + 1) ((p.1, n) :: acc) (os ++ [.cell ((lkp p.1 bx).getD .undef)]) (D ++ [some (n, 0)]) (by rw [List.length_append, List.length_append, hl]; rfl) fun x q hx hq hn => H x q (.tail _ hx) hq (Nat.le_of_succ_le hn)) fun Dn h => Exists.elim h fun Mn h => ?_
      refine ⟨some (n, 0) :: Dn, (n, ob) :: Mn, fun q hq => (List.mem_cons.mp hq).elim (fun e => e ▸ ⟨h1, Nat.le_refl _⟩) fun hq => ⟨(h.1 q hq).1, Nat.le_of_succ_le (h.1 q hq).2⟩, ?_, fun i d e hi => by rw [List.getElem?_append_left hi] at e; exact e, fun k M hb hM => ?_, fun x a hx => ?_⟩
      · rw [List.map_cons, List.nodup_cons]
        exact ⟨fun z => el_1_2 (List.mem_map.mp z) fun q hq e => absurd (h.1 q hq).2 (by rw [e]; exact Nat.not_succ_le_self n), h.2.1⟩
      · have z := h.2.2.2.1 k (M ++ [(n, ob)]) hb (HeapR.snoc (o := .cell ((lkp p.1 bx).getD .undef)) (d := some (n, 0)) (L := [(n, ob)]) ⟨(n, 0), [], n, ob, rfl, rfl, rfl, rfl, _, h2, ?_⟩ hM)
        · rw [e2]; simpa using z
        · rw [lkp_lookup]
          exact (hb.look p.1).elim (fun z => by rw [z.1]; exact .inl rfl) fun z => el_2_3 z fun u v a b hc' => by rw [a]; exact .inr ⟨v, hc _ _ _ a b, hc'⟩
      · rw [e2] at hx
        refine (look hx).elim (fun z => .inr (.inr ⟨?_, os.length, n, z.2.symm, ?_, ?_⟩)) fun hx => ((h.2.2.2.2 x a hx).imp (fun z => ⟨.tail _ z.1, z.2⟩) fun z => z.imp (fun z => ⟨.tail _ z.1, z.2⟩) fun z => ⟨.tail _ z.1, ?_⟩)
        · rw [z.1, ← hk]; exact .head _
        · rw [z.1, e1]; exact h0
        · rw [hl, List.getElem?_append_right (Nat.le_refl _), Nat.sub_self]; rfl
        · rw [e1]; simpa using z.2
    · have e1 : cellsFrom n (p :: r) acc = cellsFrom n r acc := by
        cases p with | mk a b => cases b <;> first | exact absurd rfl hk | rfl
      have e3 : (entryN g bx (p :: r) os).2 = (entryN g bx r os).2 := by
        cases p with | mk a b => cases b <;> first | exact absurd rfl hk | rfl
      rw [e1] at H
      refine Exists.elim (ih n acc os D hl fun x q hx hq hn => H x q (.tail _ hx) hq hn) fun Dn h => Exists.elim h fun Mn h => ?_
      refine ⟨Dn, Mn, h.1, h.2.1, h.2.2.1, fun k M hb hM => by rw [e3]; exact h.2.2.2.1 k M hb hM, fun x a hx => ?_⟩
      rw [e1]
      have rest := fun hx => ((h.2.2.2.2 x a hx).imp (fun z => (⟨.tail _ z.1, z.2⟩ : (x, NameKind.local) ∈ p :: r ∧ _)) fun z => z.imp (fun z => (⟨.tail _ z.1, z.2⟩ : (x, NameKind.globalImplicit) ∈ p :: r ∧ _)) fun z => (⟨.tail _ z.1, z.2⟩ : (x, NameKind.cell) ∈ p :: r ∧ _))
      cases p with
      | mk y b =>
        cases b with
        | «local» => exact (look hx).elim (fun z => .inl ⟨by rw [z.1]; exact .head _, by rw [z.1]; exact z.2.symm⟩) rest
        | globalImplicit =>
          have hx : lkp x (match g y with | some v => (y, v) :: (entryN g bx r os).1 | none => (entryN g bx r os).1) = some a := hx
          cases hg : g y with
          | none => rw [hg] at hx; exact rest hx
          | some v =>
            rw [hg] at hx
            exact (look hx).elim (fun z => .inr (.inl ⟨by rw [z.1]; exact .head _, by rw [z.1, hg, z.2]⟩)) rest
        | cell => exact absurd rfl hk
        | _ => exact rest hx
end Mine
end
section
open PySem PySem.W PySem.Calls PyProof.Rows
set_option Elab.async false
set_option linter.unusedVariables false
set_option maxRecDepth 10000
namespace Mine
structure FnD where
  oc : Value
  od : Option Addr
  osl : Array (Option Value)
  name : Str
  qual : Str
  params : Arguments
  dV : Value
  kV : Value
  doc : Value
  pm : Value
  an : Option Addr
  cdv : Value
  ct : Value
noncomputable def FnD.fd (q : FnD) (fn : Fn) : FuncData := fnX q.name q.qual q.params fn.body fn.scope [] q.dV q.kV q.doc q.pm q.an q.cdv q.ct
structure FnOK (θ : Tp) (f : Nat) (fn : Fn) : Prop where
  look : ∃ q : FnD, θ.K.lookup (θ.af f) = some ⟨q.oc, q.od, .func (q.fd fn), q.osl⟩ ∧ codeIn θ.K q.cdv q.qual = true ∧
    q.params.posonlyargs = [] ∧ q.params.args.map (·.arg) = fn.params ∧ q.params.kwonlyargs = [] ∧ q.params.vararg = none ∧ q.params.kwarg = none ∧
    ((q.dV = .none ∧ fn.dflts = []) ∨ ∃ (T : Addr) (ob : Obj) (n : Nat) (vs : List Value), q.dV = .ref T ∧ θ.K.lookup T = some ob ∧ ob.data = .seq (List.toArray vs) n ∧ Concs θ ⟨[], []⟩ fn.dflts vs)
  keep : keepIn θ.K (.ref (θ.af f)) = true
  nodup : fn.params.Nodup
  names : (fn.scope.names.map (·.1)).Nodup
  kinds : ∀ p ∈ fn.params, (p, NameKind.local) ∈ fn.scope.names ∨ (p, NameKind.cell) ∈ fn.scope.names
  dbg : ("__debug__" : Str) ∉ fn.scope.names.map (·.1)
  co : fn.scope.isCoroutine = false
  gen : fn.scope.isGenerator = false
  kind : fn.scope.kind = .function
theorem ground {A : Around} {base h₀ : Heap} {fl : List Env} {L : Addr} {m : Str → Option Value} {news : Led} {R : Result → Shared → Prop} {s : Shared} (hs : base.StaysIn h₀) (F : Fr h₀ L s.heap m) (N : News h₀ L s.heap news) (hA : A.frames = some fl) (ff : (hideAll s.heap (news.map (·.1))).FunFrames base fl) :
    Fr h₀ L (hideAll s.heap (news.map (·.1))) m ∧ Below A base fl (hideAll s.heap (news.map (·.1))) ∧ h₀.StaysIn (hideAll s.heap (news.map (·.1))) ∧
      ∀ v s', LeaveK h₀ L m (hideAll s.heap (news.map (·.1))) R v s' → R (.ok (.ret v)) s' := by
  let env : Env := { scope := ⟨.function, [], false, false, []⟩, locals := L, globals := mainGlobals, cells := [], qual := "", func := none, code := .none, frame := some L, builtins := builtinsNs }
  have B : Below { A with frames := some [] } h₀ [] h₀ := ⟨rfl, fun _ _ e => e, trivial⟩
  obtain ⟨g1, g2, g3, g4⟩ := groundX (A := { A with frames := some [env] }) (env := env) (R := R) B F N rfl rfl rfl
  exact ⟨g1, ⟨hA, fun b o e => g3 b o (hs b o e), ff⟩, g3, g4⟩
theorem callY {prog : Program} {w : World} {A : Around} {s : Shared} {base h₀ : Heap} {fl : List Env} {L : Addr} {m : Str → Option Value} {news : Led} {R : Result → Shared → Prop} {name qual : Str} {params : Arguments} {body : List Stmt} {scope : Scope} {dV kV doc pm cdv ct : Value} {an : Option Addr} {fo : Obj} {f : Addr} {args : Args} {binds : List (Str × Value)}
    (hs : base.StaysIn h₀) (F : Fr h₀ L s.heap m) (N : News h₀ L s.heap news) (hlim : h₀.NoLimit) (hA : A.frames = some fl) (ff : (hideAll s.heap (news.map (·.1))).FunFrames base fl)
    (ho : s.heap.get? f = some fo) (hd : fo.data = .func (fnX name qual params body scope [] dV kV doc pm an cdv ct)) (hcd : s.heap.CodeRec cdv qual) (hroom : A.depth < recursionLimit)
    (hbind : BindsTo s (fnX name qual params body scope [] dV kV doc pm an cdv ct) args binds)
    (hkind : ∀ n, ∀ x ∈ binds, scope.names.lookup x.1 = some .local ∨ (scope.names.lookup x.1 = some .cell ∧ ((cellsFrom n scope.names []).lookup x.1).isSome = true))
    (hnd : ((cellsFrom 0 scope.names []).map (·.1)).Nodup)
    (h : ∀ g L' h₁ tk cells, Fr h₀ L g m → Fr g L' h₁ (bindL (envOfC qual scope L' f cdv).kindOf binds fun _ => none) → News g L' h₁ (cells ++ news) →
      CellsAre (bindC (envOfC qual scope L' f cdv).kindOf binds fun _ => none) (cellsFrom (L' + 1) scope.names []) cells → Below A base fl g → h₀.StaysIn g → (∀ p ∈ news, p.1 < L') →
      ∀ E, wpAny (model prog w) (A.deeper (envOfC qual scope L' f cdv)) (execs body (envOfC qual scope L' f cdv))
        (fun fl s' => LeaveK h₀ L m g R (match fl with | .ret v => v | _ => .none) s') E { s with heap := h₁, toks := tk })
    (hco : scope.isCoroutine = false) (hgen : scope.isGenerator = false) (hk : scope.kind = .function) : codeAny (model prog w) A (.call (.ref f) args) R s := by
  obtain ⟨FG, BG, st, lv⟩ := ground (R := R) hs F N hA ff
  refine codeAny_call_function hroom ho hd hco hgen rfl hcd (hbind _ _ _ _ ?_)
  refine wpAny_newFunctionEnv_cells hk (hkind _) fun env' he s' x => ?_
  subst he
  refine ⟨(hlim.keeps F.keep).keeps x.toInCall.keep, codeAny_func ?_⟩
  obtain ⟨h₁, tk, rfl, _⟩ := x.done
  have hk₁ := x.toInCall.keep
  obtain ⟨cells, NC, Y⟩ := Cl.news (h₀ := s.heap) (Nat.le_refl _) fun n c hm => ⟨x.cell n c (lookup_of_mem_nodup (cellsFrom_names scope.names 0 (s.heap.objs.size + 1) [] [] rfl ▸ hnd) hm), x.above n c hm⟩
  refine wpAny_mono (h _ s.heap.objs.size h₁ tk cells FG ⟨x.toInCall.ns, fun b o e => hk₁ b o (of_hideAll _ e), Nat.le_of_eq (hideAll_size _ _)⟩ (fun p hp => ?_) Y BG st (fun p hp => Heap.lt_size (N p hp).1) _) (fun fl s' hl => lv _ _ hl) fun _ _ y => y
  rcases List.mem_append.mp hp with hp | hp
  · refine ⟨(NC p hp).1, (NC p hp).2.1, ?_⟩
    cases q : (hideAll s.heap (news.map (·.1))).get? p.1 with
    | none => rfl
    | some o => have := of_hideAll _ q; rw [(NC p hp).2.2] at this; cases this
  · exact ⟨hk₁ _ _ (N p hp).1, Nat.ne_of_lt (Heap.lt_size (N p hp).1), hideAll_none _ (List.mem_map_of_mem hp)⟩
noncomputable abbrev calleeC (c : Cx) (env : Env) (g : Heap) : Cx := ⟨⟨c.tp, env, g, c.J⟩, c.A.deeper env, env :: c.outer, c.lv⟩
noncomputable def AftC (c : Cx) (k : Kn) (loc : List (Str × V)) (s : Shared) (K X : V → List O → Out) (o : Except V V × List O) (R : Result → Shared → Prop) : Prop :=
  (∀ k' v b hp h' tk, Y c.l o (K v hp) → KLe k k' → Rels c.fm k' ⟨loc, hp⟩ h' → Conc c.tp k' v b → R (.ok (.ret b)) { s with heap := h', toks := tk }) ∧ ∀ x hp, Y c.l o (X x hp) → False
noncomputable def SimCode (c : Cx) (k₀ : Kn) (code : Code) (f : HM) : Prop :=
  ∀ k st s K X o R, KLe k₀ k → Rels c.fm k st s.heap → Y c.l o (f st.heap K X) → AftC c k st.loc s K X o R → codeAny c.M c.A code R s
theorem aft_rb {c : Cx} {k : Kn} {s : Shared} {loc : List (Str × V)} {K : V → St → Out} {X : V → St → Out} {o : Except V V × List O} {Q : Value → Shared → Prop} {E : Value → Shared → Prop} {R : Result → Shared → Prop}
    (HQ : Aft c (CV c) k s K o Q) (HE : Err c k s X o E) (hR : ∀ v s', Q v s' → R (.ok (.ret v)) s') : AftC c k loc s (fun v h => K v ⟨loc, h⟩) (fun x h => X x ⟨loc, h⟩) o R :=
  ⟨fun k' v b hp h' tk P l R' hc => hR _ _ (HQ k' v b ⟨loc, hp⟩ h' tk l R' hc P), fun x hp P => HE x ⟨loc, hp⟩ P⟩
theorem SimCode.call {c : Cx} {k : Kn} {f : Value} {vs : List Value} {kv : List (Str × Value)} {m : HM} (h : SimCode c k (.call f ⟨vs, kv⟩) m) : Sim c k (CV c) (call f vs kv) (liftH m) :=
  fun k₁ st s K X o Q E l R P HQ HE => wpAny_call (h k₁ st s _ _ o _ l R P (aft_rb HQ HE fun _ _ z => z))
theorem code_callFn {c : Cx} (G : Good c) (hroom : c.A.depth < recursionLimit) {f : Nat} {fn : Fn} (F : FnOK c.tp f fn) (hfn : c.S.fns f = some fn) {r : Rec} {d : Nat}
    (IH : ∀ env g k, Good (calleeC c env g) → Sim (calleeC c env g) k (CF c.tp) (execs fn.body env) (bodyM r d fn))
    {k : Kn} {xs : List V} {vs : List Value} {kx : List (Str × V)} {kv : List (Str × Value)} (hv : Concs c.tp k xs vs) (hk : Kws c.tp k kx kv) : SimCode c k (.call (.ref (c.af f)) ⟨vs, kv⟩) (callM c.S r d f xs kx) := by
  intro k₁ st s KK XX o Q l R P HQ
  have hv := hv.mono l
  have hk := hk.mono l
  refine Exists.elim F.look fun q h => ?_
  have X : c.K.In s.heap := G.X.keeps R.F.keep
  have P : Y c.l o (oB (c.S.fns f) fun fn => oB (bindA fn xs kx) fun b => bodyM r d fn (entry c.S fn.scope b st.heap) (outK KK) (errK XX)) := P
  rw [hfn] at P
  have P : Y c.l o (oB (bindA fn xs kx) fun b => bodyM r d fn (entry c.S fn.scope b st.heap) (outK KK) (errK XX)) := P
  refine look_e P fun bx hb P => gp_e hb fun hfit hb => some_e hb fun hb => ?_
  subst hb
  refine Exists.elim (show ∃ dv, Concs c.tp k₁ fn.dflts dv ∧ ∀ (M : Model) (A : Around) (E : Value → Shared → Prop) (Q : Option (Array Value) → Shared → Prop), (∀ o : Option (Array Value), (o.getD #[]).toList = dv → Q o s) → wpAny M A (seqItems? q.dV) Q E s from ?_) fun dv hd => ?_
  · exact h.2.2.2.2.2.2.2.elim (fun z => ⟨[], by rw [z.2]; rfl, fun M A E Q h => by rw [z.1]; exact wpAny_pure (h none rfl)⟩) fun z => el_4_4 z fun T ob n us z1 z2 z3 z4 => ⟨us, z4.mono (KLe.nil _), fun M A E Q h => by rw [z1]; exact wpAny_seqItems (X _ _ z2) z3 (h _ rfl)⟩
  have hbind : BindsTo s (q.fd fn) ⟨vs, kv⟩ (boundOf fn.params vs kv dv) := fun M A E Q hQ =>
    bind_rule (fd := q.fd fn) h.2.2.1 h.2.2.2.1 h.2.2.2.2.1 h.2.2.2.2.2.1 h.2.2.2.2.2.2.1 (fun h => hd.2 _ _ _ _ h) (by rw [← Kws.fits fn.params hv hk hd.1]; exact hfit) hQ
  have hkws := Kws.bound fn.params hv hk hd.1
  have hbn : ((boundOf fn.params vs kv dv).map (·.1)).Nodup := boundOf_nodup F.nodup _ _ _
  have hkinds : ∀ p ∈ boundOf fn.params vs kv dv, (p.1, NameKind.local) ∈ fn.scope.names ∨ (p.1, NameKind.cell) ∈ fn.scope.names := fun p hp => F.kinds _ (boundOf_mem hp)
  have sub := fun n => names_sub F.names n [] List.nodup_nil (fun _ h => nomatch h)
  refine callY (name := q.name) (qual := q.qual) (params := q.params) (body := fn.body) (scope := fn.scope) (cdv := q.cdv) (binds := boundOf fn.params vs kv dv) G.stays R.F R.N G.nolim G.frames (G.ff _ _ _ R.F R.N) (X _ _ h.1) rfl (codeRec_of X h.2.1) hroom hbind
    (fun n x hx => (hkinds x hx).imp (lookup_nodup F.names) fun h => ⟨lookup_nodup F.names h, Exists.elim (cellsFrom_has fn.scope.names n [] h) fun _ hq => by rw [lookup_nodup (sub n) hq]; rfl⟩) (sub 0) (fun g L' h₁ tk cells Fg F₁ N₁ hcells B₁ st₁ hlt E₁ => ?_) F.co F.gen F.kind
  generalize henv : envOfC q.qual fn.scope L' (c.af f) q.cdv = env at F₁ hcells
  have ek : ∀ x, env.kindOf x = fn.scope.names.lookup x := fun _ => henv ▸ rfl
  have ec : env.cells = cellsFrom (L' + 1) fn.scope.names [] := henv ▸ rfl
  have el : L' = env.locals := henv ▸ rfl
  have F₁ : Fr g env.locals h₁ _ := el ▸ F₁
  have N₁ : News g env.locals h₁ _ := el ▸ N₁
  have G' : Good (calleeC c env g) := ⟨G.top, G.hd, henv ▸ F.kind, henv ▸ rfl, henv ▸ rfl, Around.frames_deeper G.frames, B₁.stays, fun h m news F₂ N => (groundX (R := fun _ _ => True) (s := { s with heap := h }) (env := env) B₁ F₂ N (Around.frames_deeper G.frames) (henv ▸ rfl) (henv ▸ F.kind)).2.1.frames⟩
  have kind := fun {x : Str} {z : NameKind} (hm : (x, z) ∈ fn.scope.names) => (by rw [ek]; exact lookup_nodup F.names hm : env.kindOf x = some z)
  refine Exists.elim (entry_in (θ := c.tp) (J := c.J) (g := c.S.glob) (bx := boundOf fn.params xs kx fn.dflts) (bv := boundOf fn.params vs kv dv) (cm := fun x => (boundOf fn.params vs kv dv).lookup x) (cells := cells) (fun x u v _ h => h) (names := fn.scope.names) (L' + 1) [] st.heap k₁.D R.heap.length fun x a hx hq _ => ?_) fun Dn e => Exists.elim e fun Mn e => ?_
  · refine el_1_2 (CellsAre.at hcells hq) fun ob h1 h2 => ⟨ob, h1, h2.trans (congrArg Data.cell ?_)⟩
    show _ = (boundOf fn.params vs kv dv).lookup x
    cases eb : (boundOf fn.params vs kv dv).lookup x with
    | some v => exact bindC_at (by rw [kind hx]; exact fun z => nomatch z) hbn v eb
    | none => exact bindC_no eb
  have l2 : KLe k₁ ⟨k₁.D ++ Dn, k₁.I⟩ := ⟨fun i d h => (List.getElem?_append_left (List.getElem?_eq_some_iff.mp h).1).trans h, fun _ h => h⟩
  have hR : Rels (calleeC c env g).fm ⟨k₁.D ++ Dn, k₁.I⟩ (entry c.S fn.scope (boundOf fn.params xs kx fn.dflts) st.heap) h₁ := by
    refine ⟨_, R.MO ++ Mn, F₁, fun p hp => ?_, ?_, fun x a hx => ?_, e.2.2.2.1 _ _ (hkws.mono l2) (R.heap.mono l2)⟩
    · exact (List.mem_append.mp hp).elim (fun hp => (List.mem_append.mp hp).elim (fun hp => N₁ p (List.mem_append_right _ (List.mem_append_left _ hp))) fun hp => N₁ p (List.mem_append_left _ (e.1 p hp).1)) fun hp => N₁ p (List.mem_append_right _ (List.mem_append_right _ hp))
    · exact nd_pm (pm_push ..) (nd_app e.2.1 R.nd fun q hq p hp => Nat.ne_of_lt (Nat.lt_trans (hlt p hp) (e.1 q hq).2))
    · have db : ∀ z, (x, z) ∈ fn.scope.names → (x == ("__debug__" : Str)) = false := fun z hm => beq_eq_false_iff_ne.mpr fun e => F.dbg (e ▸ List.mem_map_of_mem (f := (·.1)) hm)
      refine (e.2.2.2.2 x a hx).elim (fun z => ⟨db _ z.1, .inl ⟨kind z.1, ?_⟩⟩) fun z => z.elim (fun z => ⟨db _ z.1, .inr (.inl ⟨kind z.1, z.2, G.top.globSt x a z.2⟩)⟩) fun z => ⟨db _ z.1, .inr (.inr ⟨kind z.1, z.2.elim fun i y => y.elim fun q y => ⟨i, q, 0, y.1, ?_, y.2.2⟩⟩)⟩
      · rw [z.2, lkp_lookup]
        exact (hkws.look x).elim (fun y => by rw [y.1]; exact ⟨rfl, .inl rfl⟩) fun y => el_2_3 y fun u v h1 h2 h3 => by rw [h1]; exact ⟨conc_asC h3, .inr ⟨v, bindL_at (kind z.1) hbn v h2, h3.mono l2⟩⟩
      · show env.cells.lookup x = some q
        rw [ec]; exact lookup_nodup (sub (L' + 1)) y.2.1
  refine IH env g _ G' _ _ _ (outK KK) (errK XX) o _ _ (.refl _) hR P (fun k' fl flow st'' h' tk' l' R'' hcf P' => ?_) fun a st' P' => HQ.2 _ _ P'
  refine leaveK_ R''.F R''.N fun F' N' => ?_
  have R4 : Rels c.fm k' ⟨st.loc, st''.heap⟩ h' := ⟨R.m, R''.MO, F', N', R''.nd, R.loc.mono (l2.trans l'), R''.heap⟩
  cases fl with
  | next => rw [show flow = .next from hcf]; exact HQ.1 k' .none _ _ h' tk' P' (l2.trans l') R4 rfl
  | ret v => exact el_1_2 hcf fun w e hc => by rw [e]; exact HQ.1 k' v w _ h' tk' P' (l2.trans l') R4 hc
  | _ => exact P'.elim
end Mine
end
section
open PySem PySem.W PySem.Calls PyProof.Rows
set_option Elab.async false
set_option linter.unusedVariables false
set_option maxRecDepth 10000
namespace Mine
structure MakeOK (θ : Tp) (k : Nat) (q : Cls) : Prop where
  makes : makesIn θ.K (θ.ac k) = true
  init : findIn θ.K (.ref (θ.ac k)) "__init__" = some (some (.ref (θ.af q.init)))
  fn : typeIn θ.K (.ref (θ.af q.init)) = some (.type "function")
  keep : keepIn θ.K (.ref (θ.ac k)) = true
noncomputable abbrev underC (c : Cx) : Cx := ⟨c.fm, { c.A with depth := c.A.depth + 1, units := c.A.units + 1 }, c.outer, c.lv⟩
theorem under_make (A : Around) (C : Addr) (vs : List Value) (kv : List (Str × Value)) : A.under (.builtin "type.__call__" ⟨.ref C :: vs, kv⟩) = { A with depth := A.depth + 1, units := A.units + 1 } := by
  obtain ⟨hd, dp, fr, gd, un⟩ := A
  cases gd <;> cases fr <;> rfl
theorem Good.under {c : Cx} (G : Good c) : Good (underC c) := ⟨G.top, G.hd, G.kind, G.gl, G.bi, G.frames, G.stays, G.ff⟩
theorem pm_fix (p1 L p2 J I : Led) : List.Perm ((p1 ++ ([] ++ p2)) ++ (J ++ (L ++ I))) ((p1 ++ (L ++ p2)) ++ (J ++ I)) := by
  simp only [List.append_assoc, List.nil_append]
  exact List.Perm.append_left p1 ((List.Perm.append_left p2 (List.perm_append_comm_assoc J L I)).trans (List.perm_append_comm_assoc p2 L (J ++ I)))
theorem freeze_at {φ : Fm} {k : Kn} {st : St} {h : Heap} (R : Rels φ k st h) {i j : Nat} {fs : List (Str × V)} (e : st.heap[i]? = some (.inst j fs)) {d : DE} (hd : k.D[i]? = some (some d)) {G : Prop}
    (K : ∀ L, Rels φ ⟨k.D, L ++ k.I⟩ ⟨st.loc, st.heap.set i .dead⟩ h → Conc φ.tp ⟨k.D, L ++ k.I⟩ (.rcd j fs) (.ref d.1) → G) : G := by
  refine el_4_4 (R.heap.split e) fun d' p1 L p2 e1 e2 e3 H => ?_
  refine el_4_3 (e3.body rfl) fun d₁ hh a ob e4 e5 e6 => ?_
  subst e4
  cases Option.some.inj (Option.some.inj (hd.symm.trans e1))
  refine el_2_2 e6.2.2 fun es n h1 h2 => ?_
  have pm := pm_fix p1 L p2 φ.J k.I
  rw [← e2] at pm
  have z := H .dead (some d) [] rfl
  rw [show k.D.set i (some d) = k.D from List.ext_getElem? fun j => by
    rw [List.getElem?_set]
    split
    · next z => subst z; rw [if_pos (List.getElem?_eq_some_iff.mp hd).1, hd]
    · rfl] at z
  refine K L ⟨R.m, _, R.F, fun p hp => R.N p (pm.mem_iff.mp hp), nd_pm pm R.nd, R.loc.mono (KLe.more L), z.mono (KLe.more L)⟩ ⟨d.1, d.2, es, n, ?_, ?_, h2.mono (KLe.more L), rfl⟩
  · rw [e5, e6.1]; exact .head _
  · rw [e5, e6.1, e6.2.1, h1]; exact .tail _ (.head _)
theorem code_make {c : Cx} (G : Good c) {j : Nat} {q : Cls} (M : MakeOK c.tp j q) (hq : c.S.cls j = some q) {d : Nat}
    {k : Kn} {xs : List V} {vs : List Value} {kx : List (Str × V)} {kv : List (Str × Value)}
    (IH : ∀ k' i v, KLe k k' → Conc c.tp k' (.obj i) v → SimCode (underC c) k' (.call (.ref (c.af q.init)) ⟨v :: vs, kv⟩) (callH d q.init (.obj i :: xs) kx)) :
    SimCode c k (.call (.ref (c.ac j)) ⟨vs, kv⟩) (mkH c.S d j xs kx) := by
  intro k₁ st s KK XX o Q l R P HQ
  have X : c.K.In s.heap := G.X.keeps R.F.keep
  have P : Y c.l o (oB (c.S.cls j) _) := P
  rw [hq] at P
  refine make_K R.F R.N X M.makes M.init M.fn fun x dx h' F' N' hlt hxd => ?_
  rw [under_make]
  have hn : (([(x, instObj (c.ac j) dx), (dx, dictOf [] 0)] : Led).map (·.1)).Nodup := by
    simp only [List.map_cons, List.map_nil, List.nodup_cons, List.mem_singleton, List.not_mem_nil, not_false_eq_true, List.nodup_nil, and_true]
    exact Nat.ne_of_gt hxd
  have hf : ∀ q ∈ ([(x, instObj (c.ac j) dx), (dx, dictOf [] 0)] : Led), ∀ p ∈ R.MO ++ (c.J ++ k₁.I), p.1 ≠ q.1 := fun q hq p hp => (List.mem_cons.mp hq).elim (fun e => by rw [e]; exact Nat.ne_of_lt (Nat.lt_trans (hlt p hp) hxd)) fun hq => by rw [List.mem_singleton.mp hq]; exact Nat.ne_of_lt (hlt p hp)
  have hb : ∀ k', Row c.tp c.J k' (.inst j []) (some (x, dx)) [(x, instObj (c.ac j) dx), (dx, dictOf [] 0)] := fun k' => ⟨(x, dx), [(x, instObj (c.ac j) dx)], dx, _, rfl, rfl, rfl, rfl, [], 0, rfl, rfl⟩
  have P : Y c.l o (match q.kind with
    | .self => at0 st.heap 0 fun o => oB (isVoid o) fun _ => callH d q.init (.obj 0 :: xs) kx (st.heap.set 0 (.inst j [])) (fun u h => bif isN u then KK (.obj 0) h else .none) XX
    | .rcd => callH d q.init (.obj st.heap.length :: xs) kx (st.heap ++ [.inst j []]) (fun u h' => bif isN u then frz st.heap.length h' KK else .none) XX) := P
  revert P
  cases q.kind with
  | rcd =>
    refine fun P => ?_
    refine IH ⟨k₁.D ++ [some (x, dx)], k₁.I⟩ st.heap.length (.ref x) (l.trans (KLe.app _)) (R.newAt (x, dx)) _ ⟨st.loc, st.heap ++ [.inst j []]⟩ { s with heap := h' } _ _ o _ (.refl _) (R.push F' N' (hb _) hn hf) P ⟨fun k' v b hp h'' tk P l' R' hc => ?_, HQ.2⟩
    refine bp_e P fun hv P => isN_e hv fun z => ?_
    subst z
    refine ⟨hc, at0_e P fun ob e1 P => look_e P fun p e2 P => oI_e e2 fun z => ?_⟩
    subst z
    exact freeze_at (d := (x, dx)) R' e1 (l'.1 _ _ (by rw [R.heap.length]; simp)) fun L R2 hc2 => HQ.1 _ (.rcd p.1 p.2) _ _ h'' tk P (((KLe.app _).trans l').trans (KLe.more L)) R2 hc2
  | self =>
    refine fun P => at0_e P fun ob e1 P => look_e P fun _ e2 P => ?_
    have e1 : st.heap[0]? = some .void := by rw [e1]; cases ob <;> first | rfl | exact none_some e2
    refine el_4_4 (R.heap.split e1) fun d' p1 L p2 g1 g2 g3 H => ?_
    have g3 : d' = none ∧ L = [] := g3
    rw [g3.1] at g1
    rw [g3.2] at g2
    have l2 : KLe k₁ ⟨k₁.D.set 0 (some (x, dx)), k₁.I⟩ := by
      refine ⟨fun i d e => ?_, fun _ h => h⟩
      rw [List.getElem?_set]
      by_cases z : 0 = i
      · subst z; rw [g1] at e; cases e
      · rw [if_neg z]; exact e
    have pm : List.Perm ((p1 ++ ([(x, instObj (c.ac j) dx), (dx, dictOf [] 0)] ++ p2)) ++ (c.J ++ k₁.I)) ([(x, instObj (c.ac j) dx), (dx, dictOf [] 0)] ++ (R.MO ++ (c.J ++ k₁.I))) := by
      rw [g2]
      exact (List.Perm.append_right _ (List.perm_append_comm_assoc p1 _ p2)).trans (by simp)
    refine IH ⟨k₁.D.set 0 (some (x, dx)), k₁.I⟩ 0 (.ref x) (l.trans l2) ⟨(x, dx), ?_, rfl⟩ _ ⟨st.loc, st.heap.set 0 (.inst j [])⟩ { s with heap := h' } _ _ o _ (.refl _) ⟨R.m, _, F', fun p hp => N' p (pm.mem_iff.mp hp), nd_pm pm (nd_app hn R.nd hf), R.loc.mono l2, (H (.inst j []) (some (x, dx)) _ (hb _)).mono l2⟩ P ⟨fun k' v b hp h'' tk P l' R' hc => ?_, HQ.2⟩
    · show (k₁.D.set 0 (some (x, dx)))[0]? = _
      rw [List.getElem?_set, if_pos rfl, if_pos (List.getElem?_eq_some_iff.mp g1).1]
    refine bp_e P fun hv P => isN_e hv fun z => ?_
    subst z
    refine ⟨hc, HQ.1 _ (.obj 0) _ _ h'' tk P (l2.trans l') R' ⟨(x, dx), l'.1 _ _ ?_, rfl⟩⟩
    show (k₁.D.set 0 (some (x, dx)))[0]? = _
    rw [List.getElem?_set, if_pos rfl, if_pos (List.getElem?_eq_some_iff.mp g1).1]
end Mine
end
section
open PySem PySem.W PySem.Calls PyProof.Rows
set_option Elab.async false
set_option linter.unusedVariables false
set_option linter.unusedSectionVars false
set_option maxRecDepth 10000
namespace Mine
noncomputable def GoodD (c : Cx) (d : Nat) : Prop := Good c ∧ c.A.units + 8 * d + 20 ≤ cLine ∧ c.A.depth + 2 * d ≤ 900
noncomputable def GoodD1 (c : Cx) (d : Nat) : Prop := Good c ∧ c.A.units + 8 * d + 19 ≤ cLine ∧ c.A.depth + 2 * d ≤ 901
theorem GoodD.one {c : Cx} {d : Nat} (h : GoodD c d) : GoodD1 c d := ⟨h.1, by have := h.2.1; omega, by have := h.2.2; omega⟩
theorem GoodD.under {c : Cx} {d : Nat} (h : GoodD c d) : GoodD1 (underC c) d := ⟨h.1.under, by have := h.2.1; show c.A.units + 1 + 8 * d + 19 ≤ _; omega, by have := h.2.2; show c.A.depth + 1 + 2 * d ≤ _; omega⟩
structure AllOK (θ : Tp) : Prop where
  sta : StaOK θ
  cls : ClsOK θ
  isi : IsiOK θ
  fn : ∀ f fn, θ.S.fns f = some fn → fn.sup = none → FnOK θ f fn
  keep : ∀ f, keepIn θ.K (.ref (θ.af f)) = true
  keepc : ∀ k, keepIn θ.K (.ref (θ.ac k)) = true
  make : ∀ k q, θ.S.cls k = some q → MakeOK θ k q
noncomputable def CallAt (c : Cx) (d : Nat) : Prop := ∀ f k xs vs kx kv, Concs c.tp k xs vs → Kws c.tp k kx kv → SimCode c k (.call (.ref (c.af f)) ⟨vs, kv⟩) (callH d f xs kx)
noncomputable def CalC (c : Cx) (k : Kn) : Cal → Value → List Value → Prop
  | .fn f pre, v, ws => v = .ref (c.af f) ∧ Concs c.tp k pre ws
  | .cls j, v, ws => v = .ref (c.ac j) ∧ ws = []
  | .bi n, v, ws => v = .builtin n ∧ ws = []
  | .ty n, v, ws => v = .type n ∧ ws = []
  | .lm n i, v, ws => v = .builtin n ∧ Concs c.tp k [.obj i] ws
  | .join s, v, ws => v = .builtin "str.join" ∧ Concs c.tp k [.str s] ws
theorem CalC.mono {c : Cx} {k k' : Kn} (e : KLe k k') {q : Cal} {v : Value} {ws : List Value} (h : CalC c k q v ws) : CalC c k' q v ws := by
  cases q with
  | fn f pre => exact ⟨h.1, h.2.mono e⟩
  | lm n i => exact ⟨h.1, h.2.mono e⟩
  | join s => exact ⟨h.1, h.2.mono e⟩
  | _ => exact h
theorem Kws.nil {θ : Tp} {k : Kn} {kx : List (Str × V)} {kv : List (Str × Value)} (h : Kws θ k kx kv) (e : kx.isEmpty = true) : kv = [] := by
  cases kx with
  | nil => exact h
  | cons => cases e
section
variable {c : Cx} {k : Kn}
theorem sim_apply (T : AllOK c.tp) {d : Nat} (G : GoodD c d) (IH : ∀ c' d', c'.tp = c.tp → c'.lv = c.lv → GoodD1 c' d' → CallAt c' d') {q : Cal} {f : Value} {ws : List Value} (hq : CalC c k q f ws)
    {xs : List V} {vs : List Value} {kx : List (Str × V)} {kv : List (Str × Value)} (hv : Concs c.tp k xs vs) (hk : Kws c.tp k kx kv) : Sim c k (CV c) (call f (ws ++ vs) kv) (applyC c.S d q xs kx) := by
  cases q with
  | fn f pre => exact hq.1 ▸ (IH c d rfl rfl G.one f k _ _ _ _ (hv.append hq.2) hk).call
  | cls j =>
    rw [hq.1, hq.2]
    refine fun k₁ st s K X o Q E l R P HQ HE => ?_
    refine Exists.elim (show ∃ q, c.S.cls j = some q from look_e P fun q e _ => ⟨q, e⟩) fun q e => ?_
    exact (code_make (k := k) G.1 (T.make j q e) e fun k' i v l hi => IH (underC c) d rfl rfl G.under q.init k' _ _ _ _ ⟨v, _, hi, hv.mono l, rfl⟩ (hk.mono l)).call k₁ st s K X o Q E l R P HQ HE
  | bi n => exact .chk fun e => by rw [hq.1, hq.2, hk.nil e]; exact sim_bi G.1 T.isi T.sta hv
  | ty n => exact .chk fun e => by rw [hq.1, hq.2, hk.nil e]; exact sim_ty G.1 hv
  | lm n i => exact .chk fun e => by rw [hq.1, hk.nil e]; exact concs1 (P := fun ws => Sim c k (CV c) (call (.builtin n) (ws ++ vs) []) (lmM n i xs)) hq.2 fun x hx => sim_lm hx hv
  | join s => exact .chk fun e => by rw [hq.1, hk.nil e]; exact concs1 (P := fun ws => Sim c k (CV c) (call (.builtin "str.join") (ws ++ vs) []) (joinM s xs)) hq.2 fun x hx => Exists.elim (show ∃ t, x = .str s t from hx) fun t e => by rw [e]; exact sim_join hv
theorem star_plain {e : Expr} (h : noStar e = true) (rest : List Expr) (env : Env) : starEach (e :: rest) env = (false, eval e env) :: starEach rest env := by
  cases e <;> first | rfl | cases h
theorem star_none {pos : Pos} {env : Env} (as : List Expr) : as.all noStar = true → (backTo pos (starEach as env)).any (·.1) = false := by
  induction as with
  | nil => exact fun _ => rfl
  | cons e es ih =>
    intro h
    rw [List.all_cons, Bool.and_eq_true] at h
    rw [star_plain h.1]
    exact ih h.2
theorem kws_named {pos : Pos} {env : Env} (ks : List Keyword) : ks.all named = true → (backToKw pos (keywordEach ks env)).all (·.1.isSome) = true ∧ (backToKw pos (keywordEach ks env)).any (·.1.isNone) = false := by
  induction ks with
  | nil => exact fun _ => ⟨rfl, rfl⟩
  | cons q ks ih =>
    intro h
    rw [List.all_cons, Bool.and_eq_true] at h
    cases q with
    | mk a e p =>
      cases a with
      | none => exact (Bool.false_ne_true h.1).elim
      | some n => exact ih h.2
section
variable {r : Rec} {d : Nat} (ev : ∀ k e, Sim c k (CV c) (eval e c.env) (r.ev d e))
include ev
noncomputable abbrev CVs (c : Cx) (k : Kn) (a : List V) (v : List Value) : Prop := Concs c.tp k a v
theorem sim_evs {pos : Pos} (es : List Expr) : ∀ {k : Kn}, Sim c k (CVs c) (spliced (backTo pos (starEach es c.env))) (evs r d es) := by
  induction es with
  | nil => exact .pure fun _ _ => rfl
  | cons e es ih =>
    refine .chk fun h => ?_
    rw [star_plain h]
    exact .bind (ev _ e) fun k' a v l hv => .via [v] (fun Q E s h => wpAny_pure h) (.bind (.hold ih) fun k'' as vs l' hvs => .pure fun k3 l3 => ⟨v, vs, (hv.mono l').mono l3, hvs.mono l3, rfl⟩)
theorem sim_evks {pos : Pos} (ks : List Keyword) : ∀ {k : Kn}, Sim c k (fun k (a : List (Str × V)) (vs : List Value) => Kws c.tp k a (((backToKw pos (keywordEach ks c.env)).filterMap (·.1)).zip vs)) (evalAll ((backToKw pos (keywordEach ks c.env)).map (·.2))) (evks r d ks) := by
  induction ks with
  | nil => exact .pure fun _ _ => rfl
  | cons q ks ih =>
    cases q with
    | mk a e p =>
      cases a with
      | none => exact .look fun _ e => none_some e
      | some n =>
        intro k
        show Sim c k (fun k (a : List (Str × V)) (vs : List Value) => Kws c.tp k a ((n :: (backToKw pos (keywordEach ks c.env)).filterMap (·.1)).zip vs)) (evalAll ((do let v ← eval e c.env; standAt pos; Pure.pure v) :: (backToKw pos (keywordEach ks c.env)).map (·.2))) ((r.ev d e).bind fun v => (evks r d ks).bind fun vs => .pure ((n, v) :: vs))
        rw [evalAll]
        exact .bind (m := r.ev d e) (C := CV c) (.bind (m := r.ev d e) (ev _ e) (g := .pure) fun k' a v l hv => .stand (.pure fun k3 l3 => hv.mono l3)) fun k' a v l hv => .bind (.hold ih) fun k'' as vs l' hvs => .pure fun k3 l3 => ⟨v, _, (hv.mono l').mono l3, hvs.mono l3, rfl⟩
theorem sim_callWith {pos : Pos} {f : Value} {first : List Value} {as : List Expr} {ks : List Keyword} (hp : plainCall as ks = true) {m : List V → List (Str × V) → M V}
    (hkeep : ∀ h, c.K.In h → ∃ q, (q = Keeper.frame ∨ q = Keeper.machine ∨ q = Keeper.boundFrame) ∧ Looks c.M h (keeperOf f) q) (G : Good c)
    (h : ∀ k' xs vs kx kv, KLe k k' → Concs c.tp k' xs vs → Kws c.tp k' kx kv → Sim c k' (CV c) (call f (first ++ vs) kv) (m xs kx)) :
    Sim c k (CV c) (callWith pos f first (backTo pos (starEach as c.env)) (backToKw pos (keywordEach ks c.env))) ((evs r d as).bind fun vs => (evks r d ks).bind fun kvs => m vs kvs) := by
  have hp := Bool.and_eq_true_iff.mp hp
  have h3 := kws_named (pos := pos) (env := c.env) ks hp.2
  refine fun k₁ st s K X o Q E l R P HQ HE => callWith_of (P := fun h => c.K.In h) (by rw [star_none as hp.1, h3.2]; rfl) (fun h X => hkeep h X) ?_
  have step2 : ∀ {k' xs vs st' h' tk}, KLe k₁ k' → Rels c.fm k' st' h' → Concs c.tp k' xs vs → Y c.l o (((evks r d ks).bind fun kvs => m xs kvs) st' K X) →
      wpAny c.M c.A (evalAll ((backToKw pos (keywordEach ks c.env)).map (·.2))) (fun ws s₂ => c.K.In s₂.heap ∧ wpAny c.M c.A (call f (first ++ vs) (((backToKw pos (keywordEach ks c.env)).filterMap (·.1)).zip ws)) Q E s₂) E { s with heap := h', toks := tk } := fun {k' xs vs st' h' tk} l1 R' hc P' =>
    sim_evks ev ks (pos := pos) k' st' { s with heap := h', toks := tk } _ X o _ E (.refl _) R' P' (fun k'' kx ws st'' h'' tk'' l2 R'' hk P'' => ⟨G.X.keeps R''.F.keep, h k'' xs vs kx _ (l.trans (l1.trans l2)) (hc.mono l2) hk k'' st'' _ K X o Q E (.refl _) R'' P'' (HQ.ext (l1.trans l2)) (HE.ext (l1.trans l2))⟩) (HE.ext l1)
  cases as with
  | nil => exact evalArgs_kw_nil h3.1 (step2 (xs := []) (.refl _) R rfl P)
  | cons e es =>
    have h1 := Bool.and_eq_true_iff.mp ((List.all_cons (f := noStar)).symm.trans hp.1)
    have e1 : backTo pos (starEach (e :: es) c.env) = (false, eval e c.env) :: backTo pos (starEach es c.env) := by rw [star_plain h1.1]; rfl
    rw [e1]
    refine evalArgs_kw h3.1 ?_
    rw [← e1]
    exact sim_evs ev (e :: es) (pos := pos) k₁ st s _ X o _ E (.refl _) R P (fun k' xs vs st' h' tk l1 R' hc P' => step2 l1 R' hc P') HE
end
theorem Sim.operating {α : Type} {C : Kn → α → Value → Prop} {vs : List Value} {t : Sem Value} {m : M α} (h : Sim c k C t m) : Sim c k C (operate vs t) m := fun k₁ st s K X o Q E l R P HQ HE => wpAny_operating (h k₁ st s K X o Q E l R P HQ HE)
theorem Sim.release {α β : Type} {C : Kn → α → β → Prop} {vs ks : List Value} {f : Unit → Sem β} {m : M α} (h : Sim c k C (f ()) m) : Sim c k C (release vs ks >>= f) m := .via () (fun _ _ _ h => wpAny_release h) h
theorem Sim.letgo {α β : Type} {C : Kn → α → β → Prop} {b : Expr} {o r : Value} {f : Unit → Sem β} {m : M α} (h : Sim c k C (f ()) m) : Sim c k C (letTemporaryGo b o r >>= f) m := .via () (fun _ _ _ h => wpAny_letTemporaryGo h) h
theorem marks_plain {op : CmpOp} {e : Expr} {t : Sem Value} (h : noSet e = true) : markedBehindIn op e t = t := by
  refine markedBehindIn_of_false ?_
  cases e <;> first | (cases op <;> rfl) | cases h
section
variable {r : Rec} {d : Nat} (G : GoodD c d) (T : AllOK c.tp) (ev : ∀ k e, Sim c k (CV c) (eval e c.env) (r.ev d e)) (tr : ∀ k e, Sim c k CB (isTrue e c.env (eval e c.env)) (r.tr d e))
include ev in
theorem sim_bool {pos : Pos} {op : BoolOp} (es : List Expr) : ∀ {k : Kn}, Sim c k (CV c) (boolOp pos op (evalEach es c.env)) (boolM r d op es) := by
  induction es with
  | nil => exact .stuck
  | cons e es ih =>
    intro k
    cases es with
    | nil => exact fun k₁ st s K X o Q E l R P HQ HE => ev k e k₁ st s K X o Q E l R P HQ HE
    | cons e2 es =>
      have H : Sim c k (CV c) (eval e c.env >>= fun v => standAt pos >>= fun _ => holding [v] (truthy v) >>= fun t => match (generalizing := false) op, t with
        | .And, false | .Or, true => Pure.pure v
        | _, _ => boolOp pos op (evalEach (e2 :: es) c.env)) ((r.ev d e).bind fun v => (truthM v).bind fun t => match (generalizing := false) op with
        | .Or => ifM t (.pure v) (boolM r d op (e2 :: es))
        | .And => ifM t (boolM r d op (e2 :: es)) (.pure v)) := by
        refine .bind (ev k e) fun k' a v l hv => .stand (.bind (.hold (sim_truth hv)) fun k'' t t' l' ht => ?_)
        cases (show t = t' from ht)
        cases op <;> cases t
        · exact .pure fun k3 l3 => (hv.mono l').mono l3
        · exact ih
        · exact ih
        · exact .pure fun k3 l3 => (hv.mono l').mono l3
      cases op <;> exact H
include tr in
theorem sim_allTr {op : BoolOp} (es : List Expr) : ∀ {k : Kn}, Sim c k CB (allTrue op es c.env) (allTr r d op es) := by
  induction es with
  | nil => cases op <;> exact .pure fun _ _ => rfl
  | cons e es ih =>
    intro k
    have H : Sim c k CB (isTrue e c.env (eval e c.env) >>= fun t => match (generalizing := false) op, t with
      | .And, false => Pure.pure false
      | .Or, true => Pure.pure true
      | _, _ => allTrue op es c.env) ((r.tr d e).bind fun t => match (generalizing := false) op with
      | .Or => ifM t (.pure true) (allTr r d op es)
      | .And => ifM t (allTr r d op es) (.pure false)) := by
      refine .bind (tr k e) fun k' t t' l ht => ?_
      cases (show t = t' from ht)
      cases op <;> cases t
      · exact .pure fun _ _ => rfl
      · exact ih
      · exact ih
      · exact .pure fun _ _ => rfl
    cases op <;> exact H
include G T ev in
theorem sim_chain {pos : Pos} (ops : List CmpOp) : ∀ (es : List Expr) {a : V} {x : Value} {k : Kn}, Conc c.tp k a x → Sim c k CBV (compareChain pos x ops (markedEach ops es (evalEach es c.env))) (chain c.S r d a ops es) := by
  induction ops with
  | nil => exact fun _ {_ _ _} _ => by unfold chain; exact .stuck
  | cons op ops ih =>
    intro es a x k h
    cases es with
    | nil => unfold chain; exact .stuck
    | cons e es =>
      unfold chain
      refine .chk fun hs => ?_
      cases ops with
      | nil =>
        cases es with
        | nil =>
          show Sim c k CBV (compareChain pos x [op] [markedBehindIn op e (eval e c.env)]) _
          rw [marks_plain (Bool.and_eq_true_iff.mp hs).1]
          show Sim c k CBV (holding [x] (eval e c.env) >>= fun rv => standAt pos >>= fun _ => operate [x, rv] (compareOp op x rv)) ((r.ev d e).bind fun b => (cmpM c.S op a b).bind .pure)
          exact .bind (.hold (ev k e)) fun k' b y l hb => .stand (.operating (sim_cmp G.1 T.sta (h.mono l) hb))
        | cons => exact (Bool.false_ne_true ((Bool.and_false _).symm.trans hs)).elim
      | cons op2 ops =>
        show Sim c k CBV (holding [x] (eval e c.env) >>= fun rv => standAt pos >>= fun _ => holding [x, rv] (compareOp op x rv) >>= fun q => release [x, rv] [q] >>= fun _ => holding [q, rv] (truthy q) >>= fun t => if t = true then compareChain pos rv (op2 :: ops) (markedEach (op2 :: ops) es (evalEach es c.env)) else Pure.pure q) ((r.ev d e).bind fun b => (cmpM c.S op a b).bind fun t => ifM t (chain c.S r d b (op2 :: ops) es) (.pure false))
        refine .bind (.hold (ev k e)) fun k' b y l hb => .stand (.bind (.hold (sim_cmp G.1 T.sta (h.mono l) hb)) fun k'' t q l' hq => .release ?_)
        rw [show q = .bool t from hq]
        refine .via t (fun Q E s h => wpAny_holding (wpAny_truthy_bool h)) ?_
        cases t
        · exact .pure fun _ _ => rfl
        · exact ih es (hb.mono l')
end
end
end Mine
end
section
open PySem PySem.W PySem.Calls PyProof.Rows
set_option Elab.async false
set_option linter.unusedVariables false
set_option linter.unusedSectionVars false
set_option maxRecDepth 10000
namespace Mine
theorem const_eval {prog : Program} {w : World} {A : Around} {env : Env} {q : Const} {n : Nat} {pos : Pos} {x : V} {s : Shared} {Q : Value → Shared → Prop} {E : Value → Shared → Prop} (e : constV q = some x)
    (h : ∀ v tk, (∀ θ k, Conc θ k x v) → Q v { s with toks := tk }) : wpAny (model prog w) A (eval (.Constant q n pos) env) Q E s := by
  cases q with
  | none => exact wpAny_Constant_none (h _ s.toks fun _ _ => Option.some.inj e ▸ rfl)
  | bool b => exact wpAny_Constant_bool (h _ s.toks fun _ _ => Option.some.inj e ▸ rfl)
  | int i => exact wpAny_Constant_int (h _ _ fun _ _ => Option.some.inj e ▸ ⟨_, rfl⟩)
  | str t => exact wpAny_Constant_str (h _ _ fun _ _ => Option.some.inj e ▸ ⟨_, rfl⟩)
  | _ => exact none_some e
noncomputable def asE (l : List (Int × V)) : List (V × V) := l.map fun p => (.int p.1, p.2)
theorem constE_e {e : Expr} {x : V} (h : constE e = some x) {P : Expr → Prop} (H : ∀ q n p, constV q = some x → P (.Constant q n p)) : P e := by
  cases e with
  | Constant q n p => exact H q n p h
  | _ => exact none_some h
theorem dictL_e {o : Option Expr} {ks : List (Option Expr)} {e : Expr} {vs : List Expr} {l : List (Int × V)} (h : dictL (o :: ks) (e :: vs) = some l) {P : Option Expr → Expr → List (Int × V) → Prop}
    (H : ∀ q n p q' n' p' i b l', constV q = some (.int i) → constV q' = some b → dictL ks vs = some l' → P (some (.Constant q n p)) (.Constant q' n' p') ((i, b) :: l')) : P o e l := by
  refine el_1_2 (Option.bind_eq_some_iff.mp h) fun a e1 h => el_1_2 (Option.bind_eq_some_iff.mp h) fun i e2 h => el_1_2 (Option.bind_eq_some_iff.mp h) fun b e3 h => el_1_2 (Option.map_eq_some_iff.mp h) fun l' e4 e5 => asI_e e2 fun z => ?_
  subst z e5
  cases o with
  | none => exact none_some e1
  | some e0 => exact constE_e (P := fun e0 => P (some e0) e ((i, b) :: l')) e1 fun q n p e1 => constE_e (P := fun e => P (some (.Constant q n p)) e ((i, b) :: l')) e3 fun q' n' p' e3 => H q n p q' n' p' i b l' e1 e3 e4
theorem dictL_len {ks : List (Option Expr)} : ∀ {vs : List Expr} {l : List (Int × V)}, dictL ks vs = some l → ks.all (·.isSome) = true ∧ ks.length = vs.length ∧ l.length = ks.length := by
  induction ks with
  | nil =>
    intro vs l e
    cases vs with
    | nil => exact Option.some.inj e ▸ ⟨rfl, rfl, rfl⟩
    | cons => exact none_some e
  | cons o ks ih =>
    intro vs l e
    cases vs with
    | nil => exact none_some e
    | cons v vs => exact dictL_e (P := fun o v l => (o :: ks).all (·.isSome) = true ∧ (o :: ks).length = (v :: vs).length ∧ l.length = (o :: ks).length) e fun q n p q' n' p' i b l' _ _ e => ⟨(ih e).1, congrArg (· + 1) (ih e).2.1, congrArg (· + 1) (ih e).2.2⟩
theorem stored_nodup {acc : List (Int × Value)} {k : Int} {v : Value} (h : (acc.map (·.1)).Nodup) : ((stored acc k v).map (·.1)).Nodup := by
  unfold stored
  by_cases q : acc.any (fun kv => kv.1 = k) = true
  · rw [if_pos q]
    have : (acc.map fun kv => if kv.1 = k then (kv.1, v) else kv).map (·.1) = acc.map (·.1) := by
      rw [List.map_map]
      refine List.map_congr_left fun p hp => ?_
      simp only [Function.comp]
      split <;> rfl
    rw [this]; exact h
  · rw [if_neg q, List.map_append, List.nodup_append]
    refine ⟨h, List.nodup_cons.mpr ⟨(fun h => nomatch h), List.nodup_nil⟩, fun a ha b hb e => q ?_⟩
    refine el_1_2 (List.mem_map.mp ha) fun p hp e' => List.any_eq_true.mpr ⟨p, hp, decide_eq_true ?_⟩
    exact e'.trans (e.trans (List.mem_singleton.mp hb))
theorem forIn_gather2 (f : (Option (Sem Value) × Sem Value) → (Option Addr × List (Sem Value × Sem Value)) → Sem (ForInStep (Option Addr × List (Sem Value × Sem Value)))) (tail : List (Option (Sem Value) × Sem Value))
    (hf : ∀ (p : Sem Value × Sem Value) (run : List (Sem Value × Sem Value)), run.length + 1 < 17 → f (some p.1, p.2) (none, run) = pure (.yield (none, run ++ [p]))) (items : List (Sem Value × Sem Value)) :
    ∀ (run : List (Sem Value × Sem Value)), run.length + items.length < 17 → forIn ((items.map fun p => (some p.1, p.2)) ++ tail) ((none : Option Addr), run) f = forIn tail (none, run ++ items) f := by
  induction items with
  | nil => exact fun run _ => by rw [List.append_nil]; rfl
  | cons p rest ih =>
    intro run h
    rw [List.length_cons] at h
    rw [List.map_cons, List.cons_append, List.forIn_cons, hf p run (by omega), pure_bind]
    have := ih (run ++ [p]) (by rw [List.length_append, List.length_singleton]; omega)
    rwa [List.append_assoc] at this
theorem dictDisplay_17 (pairs : List (Sem Value × Sem Value)) (hlen : pairs.length = 17) : dictDisplay (pairs.map fun p => (some p.1, p.2)) = (do let d ← subDict pairs; pure (.ref d)) := by
  have hne : pairs ≠ [] := fun z => by subst z; cases hlen
  have hi : pairs.dropLast.length = 16 := by rw [List.length_dropLast, hlen]
  rw [← List.dropLast_concat_getLast hne]
  generalize pairs.dropLast = init at hi
  generalize pairs.getLast hne = x
  unfold dictDisplay
  dsimp only
  rw [List.map_append, forIn_gather2 _ _ (fun p run h => by
    have hne : ((run ++ [(p.1, p.2)]).length == 17) = false := by simp; omega
    simp only [hne, Bool.false_eq_true, if_false]) init [] (by rw [List.length_nil]; omega)]
  simp [hi]
section
variable {c : Cx} {k : Kn}
theorem pairs_first (θ₀ : Tp) {env : Env} {pos : Pos} {E : Value → Shared → Prop} (ks : List (Option Expr)) : ∀ (vs : List Expr) (l : List (Int × V)) (s : Shared) (Q : List (Value × Value) → Shared → Prop), dictL ks vs = some l →
    (∀ us kvs tk, Carries (intKind c.prog c.w) us kvs → (∀ θ k, Kv V.int θ k (asE l) kvs) → Q us { s with toks := tk }) → wpAny c.M c.A (evalPairs (pairTrees ks vs env pos)) Q E s := by
  induction ks with
  | nil =>
    intro vs l s Q e h
    cases vs with
    | nil => exact pairTrees_nil_walk (h [] [] s.toks trivial fun _ _ => Option.some.inj e ▸ rfl)
    | cons => exact none_some e
  | cons o ks ih =>
    intro vs l s Q e h
    cases vs with
    | nil => exact none_some e
    | cons v vs =>
      revert h
      refine dictL_e (P := fun o v l => (∀ us kvs tk, Carries (intKind c.prog c.w) us kvs → (∀ θ k, Kv V.int θ k (asE l) kvs) → Q us { s with toks := tk }) → wpAny c.M c.A (evalPairs (pairTrees (o :: ks) (v :: vs) env pos)) Q E s) e fun q n p q' n' p' i b l' e1 e2 e3 h => ?_
      refine pairTrees_cons_walk (const_eval e1 fun kv tk hk => const_eval e2 fun vv tk' hv => ih vs l' _ _ e3 fun us kvs tk2 hc hkv => ?_)
      exact Exists.elim (show ∃ t, kv = .int i t from hk θ₀ ⟨[], []⟩) fun t z => by rw [z]; exact h ((.int i t, vv) :: us) ((i, vv) :: kvs) tk2 ⟨intKind_is .., rfl, hc⟩ fun θ k => ⟨i, vv, kvs, rfl, hv θ k, hkv θ k, rfl⟩
theorem pairs_long (θ₀ : Tp) {env : Env} {pos : Pos} {E : Value → Shared → Prop} {d : Addr} (ks : List (Option Expr)) : ∀ (vs : List Expr) (l : List (Int × V)) (acc : List (Int × Value)) (s : Shared) (Q : PUnit → Shared → Prop), dictL ks vs = some l →
    s.heap.DictOf (intKind c.prog c.w) d acc → acc.length + l.length ≤ sizeLine → (∀ h' kvs tk, (∀ θ k, Kv V.int θ k (asE l) kvs) → h'.DictOf (intKind c.prog c.w) d (merged acc kvs) → Heap.SameBut d s.heap h' → Q PUnit.unit { s with heap := h', toks := tk }) →
    wpAny c.M c.A (forIn (pairTrees ks vs env pos) PUnit.unit fun (x : Sem Value × Sem Value) (_ : PUnit) => (do let kv ← x.1; let vv ← holding [kv] x.2; holding [kv, vv] (dictSet d kv vv); pure (ForInStep.yield PUnit.unit) : Sem (ForInStep PUnit))) Q E s := by
  induction ks with
  | nil =>
    intro vs l acc s Q e hd _ h
    cases vs with
    | nil => exact wpAny_pure (h s.heap [] s.toks (fun _ _ => Option.some.inj e ▸ rfl) hd (.refl _ _))
    | cons => exact none_some e
  | cons o ks ih =>
    intro vs l acc s Q e hd hsz h
    cases vs with
    | nil => exact none_some e
    | cons v vs =>
      revert h hsz
      refine dictL_e (P := fun o v l => acc.length + l.length ≤ sizeLine → (∀ h' kvs tk, (∀ θ k, Kv V.int θ k (asE l) kvs) → h'.DictOf (intKind c.prog c.w) d (merged acc kvs) → Heap.SameBut d s.heap h' → Q PUnit.unit { s with heap := h', toks := tk }) → wpAny c.M c.A (forIn (pairTrees (o :: ks) (v :: vs) env pos) PUnit.unit fun (x : Sem Value × Sem Value) (_ : PUnit) => (do let kv ← x.1; let vv ← holding [kv] x.2; holding [kv, vv] (dictSet d kv vv); pure (ForInStep.yield PUnit.unit) : Sem (ForInStep PUnit))) Q E s) e fun q n p q' n' p' i b l' e1 e2 e3 hsz h => ?_
      show wpAny c.M c.A (forIn (_ :: pairTrees ks vs env pos) PUnit.unit _) Q E s
      rw [List.forIn_cons]
      rw [List.length_cons] at hsz
      refine wpAny_bind (wpAny_bind (const_eval (n := n) (pos := p) e1 fun kv tk hk => wpAny_bind (wpAny_holding (wpAny_bind (const_eval (n := n') (pos := p') e2 fun vv tk' hv => wpAny_bind (wpAny_standAt (wpAny_pure ?_)))))))
      refine Exists.elim (show ∃ t, kv = .int i t from hk θ₀ ⟨[], []⟩) fun t z => ?_
      subst z
      refine wpAny_bind (wpAny_holding (wpAny_dictSet_pairs (hsz := by omega) (intKind_is ..) hd fun h₁ hm₁ hs₁ => wpAny_pure ?_))
      refine ih vs l' (stored acc i vv) _ Q e3 hm₁ (by have e := stored_length_le acc i vv; omega) fun h' kvs tk2 hkv hm' hs' => ?_
      exact h h' ((i, vv) :: kvs) tk2 (fun θ k => ⟨i, vv, kvs, rfl, hv θ k, hkv θ k, rfl⟩) hm' (hs₁.trans hs')
theorem dmake_kv {l : List (Int × V)} : ∀ {kvs : List (Int × Value)} {es : List (V × V)} {acc : List (Int × Value)} {r : List (V × V)}, Kv V.int c.tp k (asE l) kvs → Kv V.int c.tp k es acc → (acc.map (·.1)).Nodup → dmake es l = some r → Kv V.int c.tp k r (merged acc kvs) := by
  induction l with
  | nil => exact fun h ha _ e => by rw [show _ = [] from h, ← Option.some.inj e]; exact ha
  | cons p l ih =>
    intro kvs es acc r h ha hn e
    refine el_3_4 h fun j v us h1 h2 h3 h4 => el_1_2 (Option.bind_eq_some_iff.mp e) fun es' e1 e2 => ?_
    subst h4
    have h1 : p.1 = j := V.int.inj h1
    subst h1
    exact ih (acc := stored acc p.1 v) h3 (kv_put h2 ha hn e1) (stored_nodup hn) e2
noncomputable def push_dict (G : Good c) {st : St} {s : Shared} {h' : Heap} (R : Rels c.fm k st s.heap) (hk : ∀ b o, s.heap.get? b = some o → h'.get? b = some o) {kvs : List (Int × Value)} {es : List (V × V)} {ob : Obj}
    (ho : h'.get? s.heap.objs.size = some ob) (hd : ob.IsDictOf (intKind c.prog c.w) kvs) (hkv : Kv V.int c.tp k es kvs) : Rels c.fm ⟨k.D ++ [some (s.heap.objs.size, 0)], k.I⟩ ⟨st.loc, st.heap ++ [.dict es]⟩ h' := by
  have LT : c.env.locals < s.heap.objs.size := R.F.ns.lt
  refine R.push (o := .dict es) (d := some (s.heap.objs.size, 0)) (L := [(s.heap.objs.size, ob)]) (R.F.keeps hk) (fun p hp => ?_) ⟨(s.heap.objs.size, 0), [], s.heap.objs.size, ob, rfl, rfl, rfl, rfl, ?_, kvs, hd, hkv⟩ (nd_one ..) fun q hq p hp => ?_
  · exact (List.mem_cons.mp hp).elim (fun e => by rw [e]; exact ⟨ho, Nat.ne_of_gt LT, none_at_size R.F⟩) fun hp => ⟨hk _ _ (R.N p hp).1, (R.N p hp).2⟩
  · exact beq_eq_false_iff_ne.mpr fun z => absurd (Nat.lt_of_lt_of_le (modules_low G.nolim) R.F.above) (by rw [← z]; exact Nat.not_lt.mpr (Nat.le_of_lt LT))
  · rw [List.mem_singleton.mp hq]
    exact Nat.ne_of_lt (Heap.lt_size (R.N p hp).1)
theorem sim_dict (G : Good c) {ks : List (Option Expr)} {vs : List Expr} {pos : Pos} (hn : ks.length ≤ 17) : Sim c k (CV c) (eval (.Dict ks vs pos) c.env) ((liftO (dictL ks vs)).bind fun l => (liftO (dmake [] l)).bind fun es => newO (.dict es)) := by
  refine .look fun l e => .look fun es hm => fun k₁ st s K X o Q E l₁ R P HQ HE => ?_
  have fin : ∀ h' tk kvs, (∀ b o, s.heap.get? b = some o → h'.get? b = some o) → h'.DictOf (intKind c.prog c.w) s.heap.objs.size kvs → Kv V.int c.tp k₁ es kvs → Q (.ref s.heap.objs.size) { s with heap := h', toks := tk } := fun h' tk kvs hk hd hkv =>
    el_1_2 (Heap.dictOf_iff.mp hd) fun ob g1 g2 => HQ _ (.obj st.heap.length) _ ⟨st.loc, st.heap ++ [O.dict es]⟩ h' tk (KLe.app _) (push_dict G R hk g1 g2 hkv) (R.newAt (s.heap.objs.size, 0)) P
  have old : ∀ {h' : Heap}, Heap.SameBut s.heap.objs.size (s.heap.push { cls := .type "dict", data := .dict #[] }) h' → ∀ b o, s.heap.get? b = some o → h'.get? b = some o := fun hs b o e =>
    (hs.2 b (Nat.ne_of_lt (Heap.lt_size e))).trans (Heap.get?_push_of_some _ e)
  have h := dictL_len e
  by_cases h0 : ks = []
  · subst h0
    cases vs with
    | cons => exact none_some e
    | nil =>
      rw [eval_Dict_empty]
      refine wpAny_bind (wpAny_standAt ?_)
      unfold newDict
      refine wpAny_bind (wpAny_alloc (wpAny_pure (fin _ s.toks [] (fun b o e => Heap.get?_push_of_some _ e) (Heap.DictOf.new s.heap) ?_)))
      rw [← Option.some.inj e] at hm
      exact Option.some.inj hm ▸ rfl
  have hp := pairTrees_length ks vs c.env pos h.1 h.2.1
  have e17 : dictDisplay ((pairTrees ks vs c.env pos).map fun p => (some p.1, p.2)) = (do let d ← subDict (pairTrees ks vs c.env pos); pure (.ref d)) := by
    by_cases h : (pairTrees ks vs c.env pos).length = 17
    · exact dictDisplay_17 _ h
    · exact dictDisplay_pairs _ (fun z => by rw [z] at hp; exact h0 (List.length_eq_zero_iff.mp hp.symm)) (by omega)
  rw [arm_eval_Dict, zip_pairTrees ks vs c.env pos h.1 h.2.1, e17]
  have big : 1000 ≤ sizeLine := by rw [sizeLine_eq]; omega
  have hl : l.length ≤ 17 := by rw [h.2.2]; exact hn
  refine wpAny_bind (wpAny_standAt (wpAny_bind ?_))
  unfold subDict
  refine wpAny_bind (wpAny_alloc (wpAny_bind (wpAny_holding ?_)))
  by_cases hn : (pairTrees ks vs c.env pos).length ≤ 15
  · rw [if_pos hn]
    refine wpAny_bind (pairs_first (c := c) c.tp ks vs l _ _ e fun us kvs tk hc hkv => wpAny_holding (wpAny_bind (wpAny_storeAll us kvs [] _ _ hc (Heap.DictOf.new s.heap) ?_ fun h' hm' hs => wpAny_pure (wpAny_pure (wpAny_pure (fin h' _ _ (old hs) hm' (dmake_kv (hkv _ _) (show Kv V.int c.tp k₁ [] [] from rfl) List.nodup_nil hm)))))))
    have := (hkv c.tp k).length
    rw [show (asE l).length = l.length from List.length_map _] at this
    rw [List.length_nil]; omega
  · rw [if_neg hn]
    exact wpAny_bind (wpAny_rule (wpAny_bind (pairs_long (c := c) c.tp ks vs l [] _ _ e (Heap.DictOf.new s.heap) (by rw [List.length_nil]; omega) fun h' kvs tk hkv hm' hs => wpAny_pure (wpAny_pure (wpAny_pure (fin h' _ _ (old hs) hm' (dmake_kv (hkv _ _) (show Kv V.int c.tp k₁ [] [] from rfl) List.nodup_nil hm)))))))
end
end Mine
end
section
open PySem PySem.W PySem.Calls PyProof.Rows
set_option Elab.async false
set_option linter.unusedVariables false
set_option linter.unusedSectionVars false
set_option maxRecDepth 10000
namespace Mine
theorem base_plain {o : Expr} (h : noSup o = true) (attr : Str) (env : Env) (whole : Sem Value) : attributeBase o attr env whole = whole := by
  unfold attributeBase
  split
  · cases h
  · rfl
section
variable {c : Cx} {k : Kn}
noncomputable abbrev CQ (c : Cx) (k : Kn) (q : Cal) (p : Value × List Value) : Prop := CalC c k q p.1 p.2
theorem sim_meth (G : Good c) (T : AllOK c.tp) {a : V} {x : Value} {n : Str} {pl : Sem Bool} (ha : Conc c.tp k a x) : Sim c k (CQ c) (getMethod x n pl) (meth c.S a n) := by
  unfold meth
  cases ea : asS a with
  | some t =>
    refine asS_e ea fun q => .gp fun h => ?_
    subst q h
    exact Exists.elim (show ∃ u, x = .str t u from ha) fun u q => by rw [q]; exact .still fun _ s _ _ _ h => PySem.GM.join (h s.toks (.builtin "str.join", [.str t u]) ⟨rfl, _, [], ⟨_, rfl⟩, rfl, rfl⟩)
  | none =>
    refine .look fun i ei => asO_e ei fun q => ?_
    subst q
    refine fun k₁ st s K X o Q E l R P HQ HE => at0_e P fun ob e1 P1 => look_e P1 fun z e2 P2 => ?_
    cases ob with
    | inst j fs =>
      cases ca : cattr c.S j n with
      | none => rw [show methO c.S n i (.inst j fs) = methF n fs i (cattr c.S j n) from rfl, ca] at e2; exact none_some e2
      | some q =>
        rw [show methO c.S n i (.inst j fs) = methF n fs i (cattr c.S j n) from rfl, ca] at e2
        cases q with
        | fn f => exact gp_e e2 fun h1 h2 => some_e h2 fun h2 => sim_methFn G T.cls R (ha.mono l) e1 ca (Option.isNone_iff_eq_none.mp h1) (HQ.now (b := (_, [x])) s.toks R (h2 ▸ ⟨rfl, x, [], ha.mono l, rfl, rfl⟩) P2)
        | _ => exact none_some e2
    | list xs => exact el_1_2 (Option.map_eq_some_iff.mp e2) fun bid h1 h2 => meth_list R (ha.mono l) e1 h1 (HQ.now (b := (_, [x])) s.toks R (h2 ▸ ⟨rfl, x, [], ha.mono l, rfl, rfl⟩) P2)
    | _ => exact none_some e2
theorem calC_keep (T : AllOK c.tp) {q : Cal} {f : Value} {ws : List Value} (hq : CalC c k q f ws) : ∀ h, c.K.In h → ∃ q, (q = Keeper.frame ∨ q = Keeper.machine ∨ q = Keeper.boundFrame) ∧ Looks c.M h (keeperOf f) q := by
  have hm : ∀ {n : String} (h : Heap), ∃ q, (q = Keeper.frame ∨ q = Keeper.machine ∨ q = Keeper.boundFrame) ∧ Looks c.M h (keeperOf (.builtin n)) q := fun h => ⟨.machine, .inr (.inl rfl), Looks.of_pure rfl⟩
  cases q with
  | fn f => exact fun h X => hq.1 ▸ keeps_K (T.keep _) h X
  | cls => exact fun h X => hq.1 ▸ keeps_K (T.keepc _) h X
  | ty => exact fun h X => hq.1 ▸ ⟨.machine, .inr (.inl rfl), Looks.of_pure rfl⟩
  | _ => exact fun h X => hq.1 ▸ hm h
theorem sim_cal {a : V} {x : Value} (ha : Conc c.tp k a x) : Sim c k (fun k q (p : Value) => CalC c k q p []) (Pure.pure x) (calV a) := by
  cases a with
  | fn f => exact .pure fun _ _ => ⟨ha, rfl⟩
  | cls f => exact .pure fun _ _ => ⟨ha, rfl⟩
  | bi f => exact .pure fun _ _ => ⟨ha, rfl⟩
  | ty f => exact .pure fun _ _ => ⟨ha, rfl⟩
  | _ => exact .stuck
theorem sim_newList {xs : List V} {vs : List Value} (hs : Concs c.tp k xs vs) (hl : xs.length ≤ lim) : Sim c k (CV c) (newList vs) (newO (.list xs)) :=
  fun k₁ st s K X o Q E l R P HQ HE => newList_K R.F R.N (fun a h' F' N' hlt => HQ _ (.obj st.heap.length) _ ⟨st.loc, st.heap ++ [O.list xs]⟩ h' s.toks (KLe.app _) (R.pushList (hs.mono l) F' N' hlt) (R.newAt _) P) (by rw [← hs.length]; exact Nat.le_trans hl lim_line)
theorem sim_newTuple {xs : List V} {vs : List Value} (hs : Concs c.tp k xs vs) (hl : xs.length ≤ lim) : Sim c k (CV c) (newTuple vs) (.pure (.tup xs)) :=
  fun k₁ st s K X o Q E l R P HQ HE => newTuple_N R.F R.N (fun h' F' N' => HQ _ (.tup xs) _ st h' s.toks (KLe.more [(s.heap.objs.size, tupO vs 0)]) (R.pushI F' N' (nd_one ..) fun q hq p hp => by
    rw [List.mem_singleton.mp hq]
    exact Nat.ne_of_lt (Heap.lt_size (R.N p hp).1)) ⟨_, 0, vs, .head _, (hs.mono l).mono (KLe.more _), rfl⟩ P) (by rw [← hs.length]; exact Nat.le_trans hl lim_line)
section
variable {r : Rec} {d : Nat} (G : GoodD c d) (T : AllOK c.tp) (ev : ∀ k e, Sim c k (CV c) (eval e c.env) (r.ev d e)) (tr : ∀ k e, Sim c k CB (isTrue e c.env (eval e c.env)) (r.tr d e))
  (ca : ∀ c' d', c'.tp = c.tp → c'.lv = c.lv → GoodD1 c' d' → CallAt c' d')
include G T ev ca
theorem sim_callE {f : Expr} {as : List Expr} {ks : List Keyword} {pos : Pos} : Sim c k (CV c) (eval (.Call f as ks pos) c.env) (callE c.S r d f as ks pos) := by
  refine .chk fun h => ?_
  have h := Bool.and_eq_true_iff.mp h
  have fin : ∀ {k : Kn} {q : Cal} {f : Value} {ws : List Value}, CalC c k q f ws → Sim c k (CV c) (callWith pos f ws (backTo pos (starEach as c.env)) (backToKw pos (keywordEach ks c.env))) ((evs r d as).bind fun vs => (evks r d ks).bind fun kvs => applyC c.S d q vs kvs) := fun hq =>
    sim_callWith ev h.2 (calC_keep T hq) G.1 fun k' xs vs kx kv l hv hk => sim_apply T G ca (hq.mono l) hv hk
  cases f with
  | Name x xp =>
    show Sim c k (CV c) (eval (.Name x xp) c.env >>= fun x => callWith pos x [] (backTo pos (starEach as c.env)) (backToKw pos (keywordEach ks c.env))) _
    refine .bind (ev k _) fun k' a x l hx => ?_
    show Sim c k' (CV c) ((Pure.pure x : Sem Value) >>= fun x => callWith pos x [] (backTo pos (starEach as c.env)) (backToKw pos (keywordEach ks c.env))) _
    exact .bind (sim_cal hx) fun k'' q y l' hq => fin hq
  | Attribute o n ap =>
    refine .chk fun h' => ?_
    have h' := Bool.and_eq_true_iff.mp h'
    rw [arm_eval_Call, base_plain h'.2]
    refine .bind (ev k o) fun k' a x l hx => .stand ?_
    have hp := Bool.and_eq_true_iff.mp h.2
    have h1 : methodCallForm (as.length + ks.length) (backTo pos (starEach as c.env)) (backToKw pos (keywordEach ks c.env)) = true := by
      unfold methodCallForm
      have a3 : (backTo pos (starEach as c.env)).all (!·.1) = true := by
        have a1 := List.any_eq_false.mp (star_none (pos := pos) (env := c.env) as hp.1)
        exact List.all_eq_true.mpr fun y hy => by rw [Bool.not_eq_true']; exact Bool.eq_false_iff.mpr (a1 y hy)
      have hl := of_decide_eq_true h.1
      rw [a3, (kws_named (pos := pos) (env := c.env) ks hp.2).1, Bool.true_and, Bool.true_and, decide_eq_true_eq]
      split <;> omega
    have h2 : methodCallPos true o c.env ap pos = Pure.pure pos := by unfold methodCallPos; simp [of_decide_eq_true h'.1]
    unfold methodCall
    rw [h1, h2]
    exact .bind (.hold (sim_meth G.1 T hx)) fun k'' q p l' hq => .via pos (fun Q E s h => wpAny_pure h) (fin hq)
  | _ => exact .stuck
theorem sim_subE {v i : Expr} {pos : Pos} : Sim c k (CV c) (eval (.Subscript v i pos) c.env) (subE c.S r d v i) := by
  have e : eval (.Subscript v i pos) c.env = (eval v c.env >>= fun o => holding [o] (eval i c.env) >>= fun j => standAt pos >>= fun _ => subscriptTail v i o j) := by rw [arm_eval_Subscript]; rfl
  have part : ∀ (x : Option Expr) {k : Kn}, Sim c k (CV c) (evalPart x c.env) (evo r d x) := fun x {k} => by
    cases x with
    | none => exact .pure fun _ _ => rfl
    | some e => exact ev k e
  rw [e]
  unfold subE
  cases hs : sliceE i with
  | none => exact .bind (ev k v) fun k' a x l hx => .bind (.hold (ev k' i)) fun k'' b y l' hy => .stand (sim_sub G.1 T.sta (hx.mono l') hy)
  | some q =>
    refine .bind (ev k v) fun k' a x l hx => fun k₁ st s K X o Q E l₁ R P HQ HE => ?_
    cases i with
    | Slice lo hi stp p =>
      cases stp with
      | some z => exact none_some hs
      | none =>
        have hs := Option.some.inj hs
        subst hs
        refine wpAny_bind (wpAny_holding (wpAny_Slice ?_))
        exact part lo k₁ st s _ X o _ _ (.refl _) R P (fun k1 la lv st1 h1 t1 l2 R1 hl P1 => part hi k1 st1 _ _ X o _ _ (.refl _) R1 P1 (fun k2 ua uv st2 h2 t2 l3 R2 hu P2 =>
          wpAny_of_eq (a := .none) rfl (wpAny_bind (wpAny_standAt (sim_slice (s := { s with heap := h2, toks := t2 }) G.1 T.sta (hx.mono (l₁.trans (l2.trans l3))) (hl.mono l3) hu R2 P2 (HQ.ext (l2.trans l3)))))) (HE.ext l2)) HE
    | _ => exact none_some hs
include tr in
theorem sim_evF (cm : ∀ k elt t iter ifs sc pos, Sim c k (CV c) (eval (.ListComp elt [⟨t, iter, ifs, 0⟩] sc pos) c.env) (compM c.S r d elt t iter ifs sc)) (e : Expr) : Sim c k (CV c) (eval e c.env) (evF c.S r d e) := by
  cases e with
  | Constant q n p => exact .const
  | Name x p => exact .name G.1
  | BoolOp op vs p => exact sim_bool ev _
  | BinOp a op b p =>
    rw [arm_eval_BinOp]
    show Sim c k (CV c) _ ((r.ev d a).bind fun x => (r.ev d b).bind fun y => binM op x y)
    exact .bind (ev k _) fun k' a x l hx => .bind (.hold (ev k' _)) fun k'' b y l' hy => .stand (.operating (sim_bin (hx.mono l') hy))
  | UnaryOp op a p =>
    rw [arm_eval_UnaryOp]
    show Sim c k (CV c) _ ((r.ev d a).bind fun a => unM op a)
    exact .bind (ev k _) fun k' a x l hx => .stand (.hold (sim_un hx))
  | IfExp t a b p =>
    rw [arm_eval_IfExp]
    show Sim c k (CV c) _ ((r.tr d t).bind fun q => ifM q (r.ev d a) (r.ev d b))
    refine .bind (tr k _) fun k' t t' l ht => ?_
    cases (show t = t' from ht)
    exact .ite (fun h => by subst h; exact ev k' _) fun h => by subst h; exact ev k' _
  | Dict ks vs p => exact .chk fun h => sim_dict G.1 (Nat.le_of_ble_eq_true h)
  | List es p =>
    rw [arm_eval_List]
    show Sim c k (CV c) _ ((evs r d es).bind fun vs => chk (okL vs.length) (newO (.list vs)))
    exact .stand (.bind (sim_evs ev _) fun k' xs vs l hs => .sizeS fun hl => sim_newList hs hl)
  | Tuple es p =>
    rw [arm_eval_Tuple]
    show Sim c k (CV c) _ ((evs r d es).bind fun vs => chk (okL vs.length) (.pure (.tup vs)))
    exact .stand (.bind (sim_evs ev _) fun k' xs vs l hs => .sizeS fun hl => sim_newTuple hs hl)
  | Compare a ops es p =>
    rw [arm_eval_Compare]
    show Sim c k (CV c) _ ((r.ev d a).bind fun a => (chain c.S r d a ops es).bind fun b => .pure (.bool b))
    exact .bind (ev k _) fun k' a x l hx => fun k₁ st s K X o Q E l₁ R P HQ HE => sim_chain G T ev _ _ hx k₁ st s _ X o _ E l₁ R P (fun k'' t q st' h' tk l' R' hq P' => HQ k'' (.bool t) q st' h' tk l' R' hq P') HE
  | Call f as ks p => exact sim_callE G T ev ca
  | Attribute o n p =>
    refine .chk (m := (r.ev d o).bind fun ov => attrM c.S ov n) fun hs => ?_
    rw [arm_eval_Attribute, base_plain hs]
    exact .bind (ev k o) fun k' a x l hx => .stand (.bind (m := attrM c.S a n) (g := .pure) (.hold (sim_attr G.1 T.cls hx)) fun k'' b y l' hy => .letgo (.pure fun k3 l3 => hy.mono l3))
  | Subscript v i p => exact sim_subE G T ev ca
  | ListComp elt gs sc p =>
    refine .look fun g hg => ?_
    cases gs with
    | nil => exact none_some hg
    | cons g1 gs =>
      cases g1 with
      | mk t iter ifs n =>
        cases gs with
        | cons => exact none_some hg
        | nil =>
          refine gp_e hg fun h0 hg' => some_e hg' fun hg' => ?_
          subst h0 hg'
          exact cm k elt t iter ifs sc p
  | _ => exact .stuck
end
end
end Mine
end
section
open PySem PySem.W PySem.Calls PyProof.Rows
set_option Elab.async false
set_option linter.unusedVariables false
set_option linter.unusedSectionVars false
set_option maxRecDepth 10000
namespace Mine
theorem while_one {prog : Program} {w : World} {A : Around} {test : Expr} {body orelse : List Stmt} {env : Env} {R : Result → Shared → Prop} {s : Shared}
    (h : ∀ E, wpAny (model prog w) A (isTrue test env (eval test env)) (fun b s₂ =>
        if b then wpAny (model prog w) A (execs body env) (fun f s₃ => match f with
            | .next | .cont => codeAny (model prog w) A (.whileLoop test body orelse env) R s₃
            | .brk => R (.ok .next) s₃
            | .ret v => R (.ok (.ret v)) s₃) E s₂
        else wpAny (model prog w) A (execs orelse env) (fun f s₃ => R (.ok f) s₃) E s₂) E s) : codeAny (model prog w) A (.whileLoop test body orelse env) R s := by
  refine codeAny_of_tree ?_
  show wpAny _ A ((whileTurn test body orelse env).onRaise (fun x => do noteFrame x env; theTreesLotGoes x)) _ _ s
  refine wpAny_noted ?_
  simp only [whileTurn]
  refine wpAny_bind (wpAny_mono (h _) (fun b s₂ h₂ => ?_) fun _ _ h' => h')
  cases b with
  | false =>
    simp only [Bool.false_eq_true, if_false] at h₂ ⊢
    exact wpAny_bind (wpAny_mono h₂ (fun f s₃ h₃ => wpAny_pure h₃) fun _ _ h' => h')
  | true =>
    simp only [if_true] at h₂ ⊢
    refine wpAny_bind (wpAny_mono h₂ (fun f s₃ h₃ => ?_) fun _ _ h' => h')
    cases f with
    | next => exact wpAny_pure ⟨rfl, h₃⟩
    | cont => exact wpAny_pure ⟨rfl, h₃⟩
    | brk => exact wpAny_pure h₃
    | ret v => exact wpAny_pure h₃
theorem for_one {prog : Program} {w : World} {A : Around} {target : Expr} {it : Value} {body orelse : List Stmt} {env : Env} {R : Result → Shared → Prop} {s : Shared}
    (h : ∀ E, wpAny (model prog w) A (pyNext it) (fun r s₁ => match r with
      | none => wpAny (model prog w) A (execs orelse env) (fun f s₃ => R (.ok f) s₃) (notedBy (model prog w) A env fun e s' => R (.error e) s') s₁
      | some v => wpAny (model prog w) A (letOwnedTupleGo target it v) (fun _ s₁' =>
          wpAny (model prog w) A (assign target env v) (fun _ s₂ => wpAny (model prog w) A (execs body env) (fun f s₃ => match f with
            | .next | .cont => codeAny (model prog w) A (.forLoop target it body orelse env) R s₃
            | .brk => R (.ok .next) s₃
            | .ret v => R (.ok (.ret v)) s₃) E s₂) E s₁') E s₁) E s) : codeAny (model prog w) A (.forLoop target it body orelse env) R s := by
  refine codeAny_of_tree ?_
  show wpAny _ A ((forTurn target it body orelse env).onRaise (fun x => do noteFrame x env; theTreesLotGoes x)) _ _ s
  refine wpAny_noted ?_
  simp only [forTurn]
  refine wpAny_bind (wpAny_standAt (wpAny_bind (wpAny_onRaise (wpAny_mono (h _) (fun r s₁ h₁ => ?_) fun _ _ h' => wpAny_standAt h'))))
  cases r with
  | none => exact wpAny_pure ⟨rfl, codeAny_block h₁⟩
  | some v =>
    refine wpAny_bind (wpAny_mono h₁ (fun _ s₁' h₁' => ?_) fun _ _ h' => h')
    refine wpAny_bind (wpAny_mono h₁' (fun _ s₂ h₂ => wpAny_bind (wpAny_mono h₂ (fun f s₃ h₃ => ?_) fun _ _ h' => h')) fun _ _ h' => h')
    cases f with
    | next => exact wpAny_pure ⟨rfl, h₃⟩
    | cont => exact wpAny_pure ⟨rfl, h₃⟩
    | brk => exact wpAny_pure h₃
    | ret v => exact wpAny_pure h₃
noncomputable def SimFl (c : Cx) (k₀ : Kn) (code : Code) (m : M Fl) : Prop :=
  ∀ k st s K X o R, KLe k₀ k → Rels c.fm k st s.heap → Y c.l o (m st K X) → Aft c (CF c.tp) k s K o (fun f s' => R (.ok f) s') → Err c k s X o (fun e s' => R (.error e) s') → codeAny c.M c.A code R s
theorem CF.mono {θ : Tp} {k k' : Kn} (e : KLe k k') {f : Fl} {g : Flow} (h : CF θ k f g) : CF θ k' f g := by
  cases f with
  | ret v => exact Exists.imp (fun _ h => ⟨h.1, h.2.mono e⟩) h
  | _ => exact h
section
variable {c : Cx} {k : Kn}
theorem sim_exs {r : Rec} {d : Nat} (ex : ∀ k s, Sim c k (CF c.tp) (exec s c.env) (r.ex d s)) (ss : List Stmt) : ∀ {k : Kn}, Sim c k (CF c.tp) (execs ss c.env) (exs r d ss) := by
  induction ss with
  | nil => exact .pure fun _ _ => rfl
  | cons s ss ih =>
    intro k
    rw [execs_cons]
    refine .bind (ex k s) fun k' f fl l hf => ?_
    cases f with
    | next => rw [show fl = .next from hf]; exact ih
    | brk => rw [show fl = .brk from hf]; exact .pure fun _ _ => rfl
    | cont => rw [show fl = .cont from hf]; exact .pure fun _ _ => rfl
    | ret v => exact el_1_2 hf fun w e hc => by rw [e]; exact .pure fun _ l' => ⟨w, rfl, hc.mono l'⟩
theorem turn_on {m : M Fl} {fl : Fl} {flow : Flow} {st : St} {s : Shared} {K : Fl → St → Out} {X : V → St → Out} {o : Except V V × List O} {R : Result → Shared → Prop} {code : Code} (hf : CF c.tp k fl flow) (Rl : Rels c.fm k st s.heap) (P : Y c.l o (turnF m fl st K X))
    (HQ : Aft c (CF c.tp) k s K o (fun f s' => R (.ok f) s')) (HE : Err c k s X o (fun e s' => R (.error e) s')) (hm : SimFl c k code m) : match (generalizing := false) flow with
      | .next | .cont => codeAny c.M c.A code R s
      | .brk => R (.ok .next) s
      | .ret v => R (.ok (.ret v)) s := by
  cases fl with
  | next => rw [show flow = .next from hf]; exact hm k st s K X o R (.refl _) Rl P HQ HE
  | cont => rw [show flow = .cont from hf]; exact hm k st s K X o R (.refl _) Rl P HQ HE
  | brk => rw [show flow = .brk from hf]; exact HQ.now s.toks Rl (show CF c.tp k .next .next from rfl) P
  | ret v => exact el_1_2 hf fun w e hc => by rw [e]; exact HQ.now s.toks Rl (show CF c.tp k (.ret v) (.ret w) from ⟨w, rfl, hc⟩) P
theorem sim_whl {r : Rec} {d : Nat} (tr : ∀ k e, Sim c k CB (isTrue e c.env (eval e c.env)) (r.tr d e)) (ex : ∀ k s, Sim c k (CF c.tp) (exec s c.env) (r.ex d s)) {t : Expr} {b : List Stmt}
    (wl : ∀ k, SimFl c k (.whileLoop t b [] c.env) (whlN d t b)) : SimFl c k (.whileLoop t b [] c.env) (whlF r d t b) := by
  intro k₁ st s K X o R l Rl P HQ HE
  refine while_one fun E => tr k₁ t k₁ st s _ X o _ E (.refl _) Rl P (fun k1 q q' st1 h1 t1 l1 R1 hq P1 => ?_) HE.re
  cases (show q = q' from hq)
  cases q with
  | false => exact wpAny_execs_nil (HQ k1 .next .next st1 h1 t1 l1 R1 rfl P1)
  | true => exact sim_exs ex b k1 st1 _ _ X o _ E (.refl _) R1 P1 (fun k2 fl flow st2 h2 t2 l2 R2 hf P2 => turn_on (s := { s with heap := h2, toks := t2 }) hf R2 P2 (HQ.ext (l1.trans l2)) (HE.ext (l1.trans l2)) (wl k2)) (HE.ext l1).re
theorem sim_names (G : Good c) (ts : List Expr) : ∀ {xs : List V} {vs : List Value} {k : Kn}, (ts.all fun t => (nameE t).isSome) = true → Concs c.tp k xs vs → Sim c k CU (assignInOrder ((assignEach ts c.env).map (·.2)) vs) (assignNames ts xs) := by
  induction ts with
  | nil =>
    intro xs vs k _ hs
    cases xs with
    | nil => rw [show vs = [] from hs]; exact .pure fun _ _ => trivial
    | cons => exact .stuck
  | cons t ts ih =>
    intro xs vs k h hs
    have h := Bool.and_eq_true_iff.mp (List.all_cons.symm.trans h)
    cases xs with
    | nil => exact .stuck
    | cons a xs =>
      refine el_2_3 hs fun v us h1 h2 e => ?_
      subst e
      cases t with
      | Name x p =>
        refine .look fun x' e => some_e e fun e => ?_
        subst e
        show Sim c k CU (holding us (standAt p >>= fun _ => bindName c.env x v) >>= fun _ => assignInOrder ((assignEach ts c.env).map (·.2)) us) _
        exact .bind (.hold (.stand (.bindName G h1))) fun k' _ _ l _ => ih h.2 (h2.mono l)
      | _ => exact (Bool.false_ne_true h.1).elim
theorem sim_unpack (G : Good c) {xs : List V} {v : Value} {n : Nat} (h : Conc c.tp k (.tup xs) v) (hn : n = xs.length) : Sim c k (fun k (a : Unit) (vs : List Value) => Concs c.tp k xs vs) (unpackItems v n none) (.pure ()) := by
  refine fun k₁ st s K X o Q E l R P HQ HE => el_3_3 (h.mono l) fun a m vs h1 h2 h3 => ?_
  subst h3
  have ht : IsTup s.heap a vs.toArray := ⟨_, R.bears _ h1, rfl, _, rfl⟩
  exact unpackItemsN_ R.F R.N ht G.hd (by rw [List.size_toArray, ← h2.length]; exact hn) fun h' F' N' => HQ k₁ () _ st h' s.toks (.refl _) (R.same F' N') (by simpa using h2) P
theorem star_names (ts : List Expr) (env : Env) : (ts.all fun t => (nameE t).isSome) = true → (assignEach ts env).findIdx? (·.1) = none ∧ (assignEach ts env).length = ts.length := by
  induction ts with
  | nil => exact fun _ => ⟨rfl, rfl⟩
  | cons t ts ih =>
    intro h
    have h := Bool.and_eq_true_iff.mp (List.all_cons.symm.trans h)
    cases t with
    | Name x p =>
      show ((false, assign (.Name x p) env) :: assignEach ts env).findIdx? (·.1) = none ∧ _
      rw [List.findIdx?_cons, (ih h.2).1]
      exact ⟨rfl, congrArg (· + 1) (ih h.2).2⟩
    | _ => exact (Bool.false_ne_true h.1).elim
section
variable {r : Rec} {d : Nat} (G : GoodD c d) (T : AllOK c.tp) (ev : ∀ k e, Sim c k (CV c) (eval e c.env) (r.ev d e))
include G T ev
theorem sim_assign (t : Expr) {a : V} {v : Value} {k : Kn} (hv : Conc c.tp k a v) : Sim c k CU (assign t c.env v) (assignM c.S r d t a) := by
  cases t with
  | Name x p => exact .stand (.bindName G.1 hv)
  | Attribute o n p =>
    show Sim c k CU (holding [v] (eval o c.env) >>= fun ov => standAt p.atName >>= fun _ => holding [v, ov] (setAttr ov n v) >>= fun _ => release [v, ov] []) ((r.ev d o).bind fun ov => setAttrM c.S ov n a)
    exact .bind (.hold (ev k o)) fun k' b x l hx => .stand fun k₁ st s K X o Q E l₁ R P HQ HE => wpAny_bind (wpAny_holding (sim_setAttr G.1 T.cls hx (hv.mono l) k₁ st s K X o _ E l₁ R P (fun k2 _ _ st2 h2 t2 l2 R2 _ P2 => wpAny_release (HQ k2 () () st2 h2 t2 l2 R2 trivial P2)) HE))
  | Subscript o i p =>
    show Sim c k CU (holding [v] (eval o c.env) >>= fun ov => holding [v, ov] (eval i c.env) >>= fun iv => standAt p >>= fun _ => holding [v, ov, iv] (setItem ov iv v) >>= fun _ => release (match i with | .Slice _ _ none _ => [iv, v, ov] | _ => [v, ov, iv]) []) ((r.ev d o).bind fun ov => (r.ev d i).bind fun iv => setItemM ov iv a)
    exact .bind (.hold (ev k o)) fun k' b x l hx => .bind (.hold (ev k' i)) fun k'' e y l' hy => .stand fun k₁ st s K X o Q E l₁ R P HQ HE => wpAny_bind (wpAny_holding (sim_setItem (hx.mono l') hy ((hv.mono l).mono l') k₁ st s K X o _ E l₁ R P (fun k2 _ _ st2 h2 t2 l2 R2 _ P2 => wpAny_release (HQ k2 () () st2 h2 t2 l2 R2 trivial P2)) HE))
  | Tuple ts kk p =>
    refine .look fun xs ex => asT_e ex fun q => .chk fun h => ?_
    subst q
    have h := Bool.and_eq_true_iff.mp h
    have h2 := star_names ts c.env h.2
    show Sim c k CU (standAt p >>= fun _ => unpack v (assignEach ts c.env)) _
    refine .stand ?_
    unfold unpack
    rw [h2.1, h2.2]
    exact .bind (m := .pure ()) (g := fun _ => assignNames ts xs) (.hold (sim_unpack G.1 hv (of_decide_eq_true h.1))) fun k' _ vs l hs => sim_names G.1 ts h.2 hs
  | _ => exact .stuck
theorem sim_testChain {pos : Pos} (ops : List CmpOp) : ∀ (es : List Expr) {a : V} {x : Value} {k : Kn}, Conc c.tp k a x → Sim c k CB (testChain pos x ops (markedEach ops es (evalEach es c.env))) (chain c.S r d a ops es) := by
  induction ops with
  | nil => exact fun _ {_ _ _} _ => by unfold chain; exact .stuck
  | cons op ops ih =>
    intro es a x k h
    cases es with
    | nil => unfold chain; exact .stuck
    | cons e es =>
      unfold chain
      refine .chk fun hs => ?_
      cases ops with
      | nil =>
        cases es with
        | nil =>
          show Sim c k CB (testChain pos x [op] [markedBehindIn op e (eval e c.env)]) _
          rw [marks_plain (Bool.and_eq_true_iff.mp hs).1]
          show Sim c k CB (holding [x] (eval e c.env) >>= fun rv => standAt pos >>= fun _ => operate [x, rv] (compareOp op x rv) >>= fun q => holding [q] (truthy q)) ((r.ev d e).bind fun b => (cmpM c.S op a b).bind fun t => .pure t)
          refine .bind (.hold (ev k e)) fun k' b y l hb => .stand (.bind (.operating (sim_cmp G.1 T.sta (h.mono l) hb)) fun k'' t q l' hq => ?_)
          rw [show q = .bool t from hq]
          exact .hold (.still fun _ s _ _ _ h => wpAny_truthy_bool (h s.toks _ rfl))
        | cons => exact (Bool.false_ne_true ((Bool.and_false _).symm.trans hs)).elim
      | cons op2 ops =>
        show Sim c k CB (holding [x] (eval e c.env) >>= fun rv => standAt pos >>= fun _ => holding [x, rv] (compareOp op x rv) >>= fun q => release [x, rv] [q] >>= fun _ => holding [q, rv] (truthy q) >>= fun t => if t = true then testChain pos rv (op2 :: ops) (markedEach (op2 :: ops) es (evalEach es c.env)) else Pure.pure false) ((r.ev d e).bind fun b => (cmpM c.S op a b).bind fun t => ifM t (chain c.S r d b (op2 :: ops) es) (.pure false))
        refine .bind (.hold (ev k e)) fun k' b y l hb => .stand (.bind (.hold (sim_cmp G.1 T.sta (h.mono l) hb)) fun k'' t q l' hq => .release ?_)
        rw [show q = .bool t from hq]
        refine .via t (fun Q E s h => wpAny_holding (wpAny_truthy_bool h)) ?_
        cases t
        · exact .pure fun _ _ => rfl
        · exact ih es (hb.mono l')
theorem sim_trF {k : Kn} (tr : ∀ k e, Sim c k CB (isTrue e c.env (eval e c.env)) (r.tr d e)) (e : Expr) : Sim c k CB (isTrue e c.env (eval e c.env)) (trF c.S r d e) := by
  have plain : isTst e = false → (isTrue e c.env (eval e c.env) = (eval e c.env >>= fun v => standAt e.pos >>= fun _ => holding [v] (truthy v))) → Sim c k CB (isTrue e c.env (eval e c.env)) ((r.ev d e).bind truthM) := fun _ h => by
    rw [h]
    exact .bind (ev k e) fun k' a x l hx => .stand (.hold (sim_truth hx))
  cases e with
  | UnaryOp op x p =>
    cases op with
    | Not =>
      show Sim c k CB (isTrue x c.env (eval x c.env) >>= fun t => Pure.pure (!t)) ((r.tr d x).bind fun b => .pure (!b))
      exact .bind (tr k x) fun k' t t' l ht => .pure fun _ _ => congrArg (!·) ht
    | _ => exact .stuck
  | BoolOp op vs p => exact sim_allTr tr _
  | IfExp t a b p => exact .stuck
  | Compare a ops es p =>
    show Sim c k CB (eval a c.env >>= fun x => testChain p x ops (markedEach ops es (evalEach es c.env))) ((r.ev d a).bind fun a => chain c.S r d a ops es)
    exact .bind (ev k a) fun k' a x l hx => sim_testChain G T ev ops es hx
  | _ => exact plain rfl rfl
end
end
end Mine
end
section
open PySem PySem.W PySem.Calls PyProof.Rows
set_option Elab.async false
set_option linter.unusedVariables false
set_option linter.unusedSectionVars false
set_option maxRecDepth 10000
namespace Mine
noncomputable def tupIters : List String := ["enumerate", "zip", "dict_itemiterator", "dict_reverseitemiterator", "odict_iterator", "itertools.zip_longest", "itertools.pairwise"]
theorem letgo_plain {prog : Program} {w : World} {A : Around} {t : Expr} {a : Addr} {v : Value} {o : Obj} {n : String} {Q : Unit → Shared → Prop} {E : Value → Shared → Prop} {s : Shared} (ho : s.heap.get? a = some o) (hc : o.cls = .type n) (hn : tupIters.contains n = false) (h : Q () s) :
    wpAny (model prog w) A (letOwnedTupleGo t (.ref a) v) Q E s := by
  have key : wpAny (model prog w) A (do
      let (.ref r, .ref a) := (Value.ref a, v) | return
      let o ← load r
      match o.cls, o.data with
      | .type n, .fields vs =>
        if ["enumerate", "zip", "dict_itemiterator", "dict_reverseitemiterator", "odict_iterator", "itertools.zip_longest", "itertools.pairwise"].contains n && vs[0]? == some (rawInt a) then
          rule "for.unpacks-the-owned-tuple"
          updateField r 0 .none
      | _, _ => pure ()) Q E s := by
    cases v with
    | ref b =>
      refine wpAny_bind (wpAny_load ho ?_)
      obtain ⟨c, dd, dt, sl⟩ := o
      simp only at hc
      subst hc
      cases dt <;> first
        | exact wpAny_pure h
        | (simp only
           rw [show (["enumerate", "zip", "dict_itemiterator", "dict_reverseitemiterator", "odict_iterator", "itertools.zip_longest", "itertools.pairwise"].contains n) = false from hn]
           exact wpAny_pure h)
    | _ => exact wpAny_pure h
  unfold letOwnedTupleGo
  split
  · exact key
  · exact key
  · exact wpAny_pure h
noncomputable abbrev wJ (c : Cx) (L : Led) : Cx := ⟨⟨c.tp, c.env, c.h₀, L ++ c.J⟩, c.A, c.outer, c.lv⟩
theorem Good.wJ {c : Cx} (G : Good c) (L : Led) : Good (wJ c L) := ⟨G.top, G.hd, G.kind, G.gl, G.bi, G.frames, G.stays, G.ff⟩
theorem GoodD.wJ {c : Cx} {d : Nat} (G : GoodD c d) (L : Led) : GoodD (wJ c L) d := ⟨G.1.wJ L, G.2.1, G.2.2⟩
noncomputable def InAt (c : Cx) (k : Kn) : It → Nat → Addr → Obj → Prop
  | .list i _, j, _, o => ∃ d : DE, k.D[i]? = some (some d) ∧ o.cls = .type "list_iterator" ∧ o.data = .fields #[.ref d.1, .int j 0]
  | .str s _, j, _, o => ∃ n t, (n = "str_ascii_iterator" ∨ n = "str_iterator") ∧ o.cls = .type n ∧ o.data = .fields #[.str s t, .int j 0] ∧ j ≤ s.cps.size
  | .rng x y, j, _, o => o = { cls := .type "range_iterator", dict := none, data := .fields #[rawInt (x + j * 1), rawInt (((y - x).toNat : Int) - j), rawInt 1], slots := #[] } ∧ j ≤ (y - x).toNat
  | .dict i, j, a, o => ∃ (d : DE) (ob : Obj) (es : Array DictEntry) (ep : Nat), k.D[i]? = some (some d) ∧ (d.1, ob) ∈ c.J ∧ ob.data = .dict es ep ∧ o.cls = .type "dict_keyiterator" ∧ o.data = .fields #[.ref d.1, .int j 0, .int es.size 0, .int ep 0] ∧ j ≤ es.size
noncomputable def enumObj (a : Addr) (j : Nat) (old : Value) : Obj := { cls := .type "enumerate", dict := none, data := .fields #[.none, .bool false, .ref a, rawInt j, .none, old], slots := #[] }
noncomputable def ItAt (c : Cx) (k : Kn) (it : It) (j : Nat) (p : Addr) (L : Led) : Prop := ∃ a o, InAt c k it j a o ∧ ((isEnumI it = false ∧ p = a ∧ L = [(a, o)]) ∨ (isEnumI it = true ∧ p ≠ a ∧ ∃ old, L = [(p, enumObj a j old), (a, o)]))
section
variable {c : Cx} {k k' : Kn} {it : It} {j : Nat} {p a : Addr} {o : Obj} {L : Led}
theorem InAt.mono (e : KLe k k') (h : InAt c k it j a o) : InAt c k' it j a o := by
  cases it with
  | list i en => exact Exists.imp (fun d h => ⟨e.1 _ _ h.1, h.2⟩) h
  | dict i => exact Exists.imp (fun d => Exists.imp fun ob => Exists.imp fun es => Exists.imp fun ep h => ⟨e.1 _ _ h.1, h.2⟩) h
  | _ => exact h
theorem ItAt.mono (e : KLe k k') (h : ItAt c k it j p L) : ItAt c k' it j p L := Exists.imp (fun a => Exists.imp fun o h => ⟨h.1.mono e, h.2⟩) h
theorem InAt.cls (h : InAt c k it j a o) : ∃ n, o.cls = .type n ∧ n ≠ "dict" ∧ tupIters.contains n = false := by
  cases it with
  | list i en => exact Exists.elim h fun d h => ⟨_, h.2.1, by decide, by decide⟩
  | str s en => exact Exists.elim h fun n h => Exists.elim h fun t h => ⟨n, h.2.1, h.1.elim (fun e => e ▸ by decide) fun e => e ▸ by decide, h.1.elim (fun e => e ▸ by decide) fun e => e ▸ by decide⟩
  | rng x y => exact ⟨"range_iterator", h.1 ▸ rfl, by decide, by decide⟩
  | dict i => exact Exists.elim h fun d h => Exists.elim h fun ob h => Exists.elim h fun es h => Exists.elim h fun ep h => ⟨_, h.2.2.2.1, by decide, by decide⟩
noncomputable def Bare (c : Cx) (L : Led) : Prop := ∀ p ∈ L, ∀ kvs, ¬ p.2.IsDictOf (intKind c.prog c.w) kvs
theorem bare_cls {n : String} (h : o.cls = .type n) (hn : n ≠ "dict") : ∀ kvs, ¬ o.IsDictOf (intKind c.prog c.w) kvs := fun kvs z => Exists.elim z fun es z => Exists.elim z fun ep z => hn (Value.type.inj (h.symm.trans z.1.1))
theorem ItAt.bare (h : ItAt c k it j p L) : Bare c L := by
  refine Exists.elim h fun a h => Exists.elim h fun o h => Exists.elim h.1.cls fun n hn => h.2.elim (fun z => ?_) fun z => z.2.2.elim fun old e => ?_
  · rw [z.2.2]
    exact fun q hq => by rw [List.mem_singleton.mp hq]; exact bare_cls hn.1 hn.2.1
  · rw [e]
    exact fun q hq => (List.mem_cons.mp hq).elim (fun e => by rw [e]; exact bare_cls (n := "enumerate") rfl (by decide)) fun hq => by rw [List.mem_singleton.mp hq]; exact bare_cls hn.1 hn.2.1
end
structure Inner (c : Cx) (k : Kn) (s : Shared) (it : It) (j : Nat) (a : Addr) (q : Option V) (n : Nat) (P : Nat → Value → Prop) (St : Nat → Heap → Prop) (fp : List Addr) : Prop where
  W : isEnumI it = false → Walks c.prog c.w c.A a fp [a] n P St
  D : isEnumI it = true → Draws c.prog c.w c.A.in1 a fp n P St
  fp : ∀ b ∈ fp, b = a ∨ ∃ o n, s.heap.get? b = some o ∧ o.cls = .type n ∧ n ≠ "enumerate"
  st : St j s.heap
  no : q = none → j = n
  yes : ∀ x, q = some x → j < n ∧ ∀ v, P j v → Conc c.tp k x v
  live : ∀ h', j < n → St (j + 1) h' → ∃ o', h'.get? a = some o' ∧ InAt c k it (j + 1) a o'
theorem map_wrp (q : Option V) (j : Nat) : q.map (wrp false j) = q := by cases q <;> rfl
section
variable {c : Cx} {k : Kn} {j : Nat} {a : Addr} {o : Obj} {s : Shared}
theorem inner_str (G : Good c) {x : Str} {en : Bool} (H : InAt c k (.str x en) j a o) (ho : s.heap.get? a = some o) : ∃ n P St fp, Inner c k s (.str x en) j a (x.cps[j]?.map ch1) n P St fp := by
  refine Exists.elim H fun n H => Exists.elim H fun t H => ?_
  have key : ∀ ty, n = ty → Walks c.prog c.w c.A a [a] [a] x.cps.size (SignAt x) (fun i h => h.IsStrIter a ty x t i) → Draws c.prog c.w c.A.in1 a [a] x.cps.size (fun i v => ∃ q u, x.cps[i]? = some q ∧ v = .str ⟨#[q]⟩ u) (fun i h => h.IsStrIter a ty x t i) → (ty = "str_ascii_iterator" ∨ ty = "str_iterator") → ∃ n P St fp, Inner c k s (.str x en) j a (x.cps[j]?.map ch1) n P St fp := fun ty e W D hty => by
    subst e
    refine ⟨x.cps.size, SignAt x, fun i h => h.IsStrIter a n x t i, [a], fun _ => W, fun _ => D, fun b hb => .inl (List.mem_singleton.mp hb), ⟨o, ho, H.2.1, H.2.2.1⟩, fun e => ?_, fun z e => ?_, fun h' hl st => el_1_3 st fun o' h1 h2 h3 => ⟨o', h1, n, t, hty, h2, h3, hl⟩⟩
    · exact Nat.le_antisymm H.2.2.2 (Array.getElem?_eq_none_iff.mp (Option.map_eq_none_iff.mp e))
    · exact el_1_2 (Option.map_eq_some_iff.mp e) fun q e1 e2 => ⟨(Array.getElem?_eq_some_iff.mp e1).1, fun v hv => Exists.elim hv fun q' hv => el_1_2 hv fun u h1 h2 => by
        rw [h1] at e1
        rw [← e2, h2, Option.some.inj e1]
        exact ⟨u, rfl⟩⟩
  exact H.1.elim (fun e => key _ e (Walks.strAscii G.hd a x t) (Draws.strAscii (A := c.A.in1) G.hd a x t) (.inl rfl)) fun e => key _ e (Walks.strWide G.hd a x t) (Draws.strWide (A := c.A.in1) G.hd a x t) (.inr rfl)
theorem inner_list (G : Good c) {L : Led} {st : St} (R : Rels (wJ c L).fm k st s.heap) {i : Nat} {en : Bool} {ob : O} {xs : List V} (H : InAt c k (.list i en) j a o) (ho : s.heap.get? a = some o) (e : st.heap[i]? = some ob) (hp : oL ob = some xs) (hj : j ≤ xs.length) : ∃ n P St fp, Inner c k s (.list i en) j a xs[j]? n P St fp := by
  refine Exists.elim H fun d H => R.list (c := wJ c L) e hp (v := .ref d.1) ⟨d, H.1, rfl⟩ fun l vs n hv _ hs hL => ?_
  rw [← Value.ref.inj hv] at hL
  have hne : d.1 ≠ a := fun z => el_1_2 hL fun o' h1 h2 => by rw [z, ho] at h1; rw [← Option.some.inj h1, H.2.1] at h2; exact absurd (Value.type.inj h2.1) (by decide)
  have hlen := hs.length
  refine ⟨vs.toArray.size, _, _, [a, d.1], fun _ => Walks.list G.hd a d.1 hne vs.toArray, fun _ => Draws.list (A := c.A.in1) G.hd a d.1 hne vs.toArray, fun b hb => (List.mem_cons.mp hb).imp id fun hb => el_1_2 hL fun o' h1 h2 => ⟨o', "list", by rw [List.mem_singleton.mp hb]; exact h1, h2.1, by decide⟩, ⟨⟨o, ho, H.2.1, H.2.2⟩, hL⟩, fun e => ?_, fun z e => ?_, fun h' _ st => el_1_3 st.1 fun o' h1 h2 h3 => ⟨o', h1, d, H.1, h2, h3⟩⟩
  · rw [List.size_toArray, ← hlen]
    exact Nat.le_antisymm hj (List.getElem?_eq_none_iff.mp e)
  · refine el_1_2 (hs.get e) fun v h1 h2 => ⟨by rw [List.size_toArray, ← hlen]; exact (List.getElem?_eq_some_iff.mp e).1, fun w hw => ?_⟩
    have hw : vs.toArray[j]? = some w := hw
    rw [List.getElem?_toArray, h1] at hw
    exact Option.some.inj hw ▸ h2
theorem inner_rng (G : Good c) {x y : Int} (H : InAt c k (.rng x y) j a o) (ho : s.heap.get? a = some o) : ∃ n P St fp, Inner c k s (.rng x y) j a (if x + j < y then some (.int (x + j)) else none) n P St fp := by
  refine ⟨(y - x).toNat, _, _, [a], fun _ => Walks.range G.hd a x 1 _, fun e => (Bool.false_ne_true e).elim, fun b hb => .inl (List.mem_singleton.mp hb), ho.trans (congrArg some H.1), fun e => ?_, fun z e => gp_e e fun h e => ⟨by omega, fun v hv => Exists.elim hv fun t hv => ?_⟩, fun h' hl st => ⟨_, st, rfl, hl⟩⟩
  · have hj := H.2
    by_cases h : x + j < y
    · rw [if_pos h] at e; cases e
    · omega
  · rw [← Option.some.inj e, hv, Int.mul_one]; exact ⟨t, rfl⟩
theorem inner_dict (G : Good c) {L : Led} {st : St} (R : Rels (wJ c L).fm k st s.heap) {i : Nat} {ob : O} {es : List (V × V)} (H : InAt c k (.dict i) j a o) (ho : s.heap.get? a = some o) (e : st.heap[i]? = some ob) (hp : oF ob = some es) : ∃ n P St fp, Inner c k s (.dict i) j a (es[j]?.map (·.1)) n P St fp := by
  refine oF_e hp fun q => ?_
  subst q
  refine Exists.elim H fun d H => Exists.elim H fun obj H => Exists.elim H fun ds H => Exists.elim H fun ep H => el_4_4 (R.heap.split e) fun d' p1 L' p2 e1 _ e3 _ => el_2_3 e3.2 fun d₁ ob' e4 e5 e6 => ?_
  cases Option.some.inj ((Option.some.inj (H.1.symm.trans e1)).trans e4)
  have get : ∀ {p}, p ∈ (wJ c L).J → s.heap.get? p.1 = some p.2 := fun hp => (R.N _ (List.mem_append_right _ (List.mem_append_left _ hp))).1
  have g1 := get (List.mem_append_right L H.2.1)
  have g2 := get e5
  cases Option.some.inj (g1.symm.trans g2)
  refine el_1_2 e6.2.2.2 fun kvs h1 h2 => Exists.elim h1 fun ds' h1 => Exists.elim h1 fun ep' h1 => ?_
  have z := H.2.2.1.symm.trans h1.2.1
  injection z with z1 z2
  subst z1 z2
  have hne : d.1 ≠ a := fun z => by rw [z, ho] at g1; rw [Option.some.inj g1] at H; exact absurd (Value.type.inj (H.2.2.2.1.symm.trans h1.1.1)) (by decide)
  have hn : ds.size = kvs.length := by rw [← Array.length_toList]; exact h1.2.2.2.1.length
  have hlen := h2.length
  rw [hn] at H
  refine ⟨kvs.length, _, _, [a, d.1], fun _ => Walks.dictKeys (knd := intKind c.prog c.w) G.hd a d.1 hne kvs ep, fun e => (Bool.false_ne_true e).elim, fun b hb => (List.mem_cons.mp hb).imp id fun hb => ⟨_, "dict", by rw [List.mem_singleton.mp hb]; exact g1, h1.1.1, by decide⟩, ⟨⟨o, ho, H.2.2.2.1, H.2.2.2.2.1⟩, _, ds, g1, h1.1, h1.2.1, h1.2.2⟩, fun e => ?_, fun z e => ?_, fun h' hl st => el_1_3 st.1 fun o' g3 g4 g5 => ⟨o', g3, d, _, ds, ep, H.1, H.2.1, h1.2.1, g4, by rw [g5, hn], by rw [hn]; exact hl⟩⟩
  · have := List.getElem?_eq_none_iff.mp (Option.map_eq_none_iff.mp e)
    have := H.2.2.2.2.2
    omega
  · refine el_1_2 (Option.map_eq_some_iff.mp e) fun p e1 e2 => ⟨by rw [← hlen]; exact (List.getElem?_eq_some_iff.mp e1).1, fun v hv => Exists.elim hv fun q hv => el_1_2 hv fun x h3 h4 => ?_⟩
    subst e2
    exact Exists.elim (Value.isInt_shape h4) fun t ht => by rw [kv_key h2 e1 h3, ht]; exact ⟨t, rfl⟩
theorem inner_at (G : Good c) {L : Led} {st : St} (R : Rels (wJ c L).fm k st s.heap) {it : It} (H : InAt c k it j a o) (ho : s.heap.get? a = some o) {α : Type} {g : Option V → M α} {K : α → St → Out} {X : V → St → Out} {out : Except V V × List O} (P : Y c.l out (((nextIt it j).bind g) st K X)) {Gl : Prop}
    (fin : ∀ q n P St fp, Y c.l out (g (q.map (wrp (isEnumI it) j)) st K X) → Inner c k s it j a q n P St fp → Gl) : Gl := by
  have fin' : ∀ q, Y c.l out (g (q.map (wrp (isEnumI it) j)) st K X) → (∃ n P St fp, Inner c k s it j a q n P St fp) → Gl := fun q P h => Exists.elim h fun n h => Exists.elim h fun Pr h => Exists.elim h fun St h => Exists.elim h fun fp h => fin q n Pr St fp P h
  cases it with
  | list i en => exact rd_e P fun ob xs e1 e2 P => req_e P fun hj P => fin' xs[j]? P (inner_list G R H ho e1 e2 (Nat.le_of_ble_eq_true hj))
  | str x en => exact fin' (x.cps[j]?.map ch1) P (inner_str G H ho)
  | rng x y => exact fin' (if x + j < y then some (.int (x + j)) else none) (by rw [show isEnumI (.rng x y) = false from rfl, map_wrp]; exact P) (inner_rng G H ho)
  | dict i => exact rd_e P fun ob es e1 e2 P => fin' (es[j]?.map (·.1)) (by rw [show isEnumI (.dict i) = false from rfl, map_wrp]; exact P) (inner_dict G R H ho e1 e2)
noncomputable def EndC (c : Cx) (s : Shared) (a : Addr) (L : Led) : Prop :=
  ∀ Q E, (∀ h' tk, (∀ b o, b ∉ L.map (·.1) → s.heap.get? b = some o → h'.get? b = some o) → Q none { s with heap := h', toks := tk }) → wpAny c.M c.A (pyNext (.ref a)) Q E s
noncomputable def StepC (c : Cx) (k : Kn) (s : Shared) (it : It) (j : Nat) (a : Addr) (L : Led) (x : V) : Prop :=
  ∀ (t : Expr) (Q : Value → Shared → Prop) E, okFor it t = true → (∀ h' tk v L' I', L'.map (·.1) = L.map (·.1) → ItAt c k it (j + 1) a L' → (∀ p ∈ L', h'.get? p.1 = some p.2) → (∀ b o, b ∉ L.map (·.1) → s.heap.get? b = some o → h'.get? b = some o) →
      (I' = [] ∨ ∃ T ob, I' = [(T, ob)] ∧ s.heap.objs.size ≤ T ∧ h'.get? T = some ob) → Conc c.tp ⟨k.D, I' ++ k.I⟩ x v → Q v { s with heap := h', toks := tk }) →
    wpAny c.M c.A (pyNext (.ref a)) (fun r s₁ => match r with | none => False | some v => wpAny c.M c.A (letOwnedTupleGo t (.ref a) v) (fun _ s₂ => Q v s₂) E s₁) E s
theorem it_next (G : Good c) {p : Addr} {L : Led} {st : St} {it : It} (H : ItAt c k it j p L) (R : Rels (wJ c L).fm k st s.heap) {α : Type} {g : Option V → M α} {K : α → St → Out} {X : V → St → Out} {out : Except V V × List O} (P : Y c.l out (((nextIt it j).bind g) st K X)) {Gl : Prop}
    (fin : ∀ q, Y c.l out (g q st K X) → (match (generalizing := false) q with | none => EndC c s p L | some v => StepC c k s it j p L v) → Gl) : Gl := by
  refine Exists.elim H fun a H => Exists.elim H fun o H => ?_
  have B : ∀ q ∈ L, s.heap.get? q.1 = some q.2 := fun q hq => (R.N q (List.mem_append_right _ (List.mem_append_left _ (List.mem_append_left _ hq)))).1
  have ho : s.heap.get? a = some o := H.2.elim (fun z => B (a, o) (by rw [z.2.2]; exact .head _)) fun z => z.2.2.elim fun old e => B (a, o) (by rw [e]; exact .tail _ (.head _))
  refine inner_at (c := c) G R H.1 ho P fun q n Pr St fp P N => fin _ P ?_
  refine H.2.elim (fun z => ?_) fun z => z.2.2.elim fun old e => ?_
  · have W := N.W z.1
    rw [z.1, map_wrp, z.2.1, z.2.2]
    have out : ∀ {h' : Heap}, (∀ b o, b ∉ [a] → s.heap.get? b = some o → h'.get? b = some o) → ∀ b ob, b ∉ ([(a, o)] : Led).map (·.1) → s.heap.get? b = some ob → h'.get? b = some ob := fun hk b ob hb eb => hk b ob hb eb
    cases q with
    | none => exact fun Q E h => W.done s Q E (N.no rfl ▸ N.st) fun h' tk hk => h h' tk (out hk)
    | some x =>
      intro t Q E ht h
      refine W.item j s _ _ (N.yes x rfl).1 N.st fun v h' tk hP st' hk => el_1_2 (N.live h' (N.yes x rfl).1 st') fun o' h1 h2 => Exists.elim h2.cls fun m hm => letgo_plain h1 hm.1 hm.2.2 ?_
      exact h h' tk v [(a, o')] [] rfl ⟨a, o', h2, .inl ⟨z.1, rfl, rfl⟩⟩ (fun p hp => by rw [List.mem_singleton.mp hp]; exact h1) (out hk) (.inl rfl) ((N.yes x rfl).2 v hP)
  · have D := N.D z.1
    have hen : IsEnum s.heap p a j old := B _ (by rw [e]; exact .head _)
    have hfp : p ∉ fp := fun hp => (N.fp p hp).elim z.2.1 fun w => Exists.elim w fun o w => Exists.elim w fun n w => w.2.2 (Value.type.inj (w.2.1.symm.trans (congrArg Obj.cls (Option.some.inj (w.1.symm.trans hen)))))
    rw [z.1, e]
    have keep : ∀ {h' : Heap}, (∀ b o, b ≠ p → b ≠ a → s.heap.get? b = some o → h'.get? b = some o) → ∀ b ob, b ∉ ([(p, enumObj a j old), (a, o)] : Led).map (·.1) → s.heap.get? b = some ob → h'.get? b = some ob := fun hk b ob hb eb => hk b ob (fun z => hb (z ▸ .head _)) (fun z => hb (z ▸ .tail _ (.head _))) eb
    cases q with
    | none => exact fun Q E h => wpAny_pyNext_enum_endD D hen (N.no rfl ▸ N.st) fun h' hk => h h' s.toks (keep fun b o h1 h2 h3 => hk b o h2 h3)
    | some x =>
      intro t Q E ht h
      refine wpAny_pyNext_enum_itemD D hen N.st (N.yes x rfl).1 z.2.1 hfp fun v h' tk hP hout st' hT hsz hk => ?_
      cases t with
      | Tuple elts kk pos =>
        refine wpAny_letOwnedTupleGo_enum hout fun h2 hen2 hsb => el_1_2 (N.live h' (N.yes x rfl).1 st') fun o' g1 g2 => ?_
        have hp := Heap.lt_size hen
        refine h h2 _ (.ref s.heap.objs.size) [(p, enumObj a (j + 1) v), (a, o')] [(s.heap.objs.size, tupO [.int j tk, v] 0)] rfl ⟨a, o', g2, .inr ⟨z.1, z.2.1, v, rfl⟩⟩ (fun q hq => ?_) (keep fun b ob h1 h2 h3 => (hsb.2 b h1).trans (hk b ob h1 h2 h3)) (.inr ⟨_, _, rfl, Nat.le_refl _, (hsb.2 _ (Nat.ne_of_gt hp)).trans hT⟩)
          ⟨s.heap.objs.size, 0, [.int j tk, v], .head _, ⟨_, _, ⟨tk, rfl⟩, ⟨v, [], ((N.yes x rfl).2 v hP).mono (KLe.more _), rfl, rfl⟩, rfl⟩, rfl⟩
        refine (List.mem_cons.mp hq).elim (fun e => ?_) fun hq => ?_
        · rw [e, show enumObj a (j + 1) v = { cls := .type "enumerate", dict := none, data := .fields #[.none, .bool false, .ref a, rawInt ((j : Int) + 1), .none, v], slots := #[] } from by unfold enumObj; push_cast; rfl]; exact hen2
        · rw [List.mem_singleton.mp hq]; exact (hsb.2 _ (Ne.symm z.2.1)).trans g1
      | _ => exact (Bool.false_ne_true (by rw [← ht]; unfold okFor; rw [z.1]; rfl)).elim
end
end Mine
end
section
open PySem PySem.W PySem.Calls PyProof.Rows
set_option Elab.async false
set_option linter.unusedVariables false
set_option linter.unusedSectionVars false
set_option maxRecDepth 10000
namespace Mine
theorem pm_J (M L J I : Led) : List.Perm (M ++ ((L ++ J) ++ I)) (L ++ (M ++ (J ++ I))) := by
  rw [List.append_assoc]; exact List.perm_append_comm_assoc M L (J ++ I)
section
variable {c : Cx} {k : Kn} {st : St} {h h' : Heap} {L : Led}
noncomputable def Rels.addJ (R : Rels c.fm k st h) (F' : Fr c.h₀ c.env.locals h' R.m) (N' : News c.h₀ c.env.locals h' (L ++ (R.MO ++ (c.J ++ k.I)))) (hn : (L.map (·.1)).Nodup) (hf : ∀ q ∈ L, ∀ p ∈ R.MO ++ (c.J ++ k.I), p.1 ≠ q.1) : Rels (wJ c L).fm k st h' :=
  ⟨R.m, R.MO, F', fun p hp => N' p ((pm_J ..).mem_iff.mp hp), nd_pm (pm_J ..) (nd_app hn R.nd hf), R.loc, R.heap.imp (.refl _) fun p _ hp _ => List.mem_append_right _ hp⟩
noncomputable def Rels.addIt (R : Rels c.fm k st h) (o : Obj) (hf : o.isFreed = false) : Rels (wJ c [(h.objs.size, o)]).fm k st (h.push o) :=
  R.addJ (L := [(h.objs.size, o)]) (R.F.push o) (News.push R.F R.N o hf) (nd_one ..) fun q hq p hp => by
    rw [List.mem_singleton.mp hq]
    exact Nat.ne_of_lt (Heap.lt_size (R.N p hp).1)
theorem Rels.ndJ (R : Rels (wJ c L).fm k st h) : ((L ++ (R.MO ++ (c.J ++ k.I))).map (·.1)).Nodup := nd_pm (pm_J ..).symm R.nd
theorem Rels.inJ (R : Rels (wJ c L).fm k st h) {p : Addr × Obj} (hp : p ∈ L) : h.get? p.1 = some p.2 ∧ p.1 ≠ c.env.locals ∧ c.h₀.get? p.1 = none := R.N p ((pm_J ..).mem_iff.mpr (List.mem_append_left _ hp))
theorem Rels.apart (R : Rels (wJ c L).fm k st h) {p : Addr × Obj} (hp : p ∈ R.MO ++ (c.J ++ k.I)) : p.1 ∉ L.map (·.1) := fun z => by
  have nd := R.ndJ
  rw [List.map_append, List.nodup_append] at nd
  exact el_1_2 (List.mem_map.mp z) fun q hq e => nd.2.2 q.1 (List.mem_map_of_mem hq) p.1 (List.mem_map_of_mem hp) e
theorem Rels.frJ (R : Rels (wJ c L).fm k st h) (hk : ∀ b o, b ∉ L.map (·.1) → h.get? b = some o → h'.get? b = some o) : Fr c.h₀ c.env.locals h' R.m := by
  have nA : ∀ b ∈ L.map (·.1), b ≠ c.env.locals ∧ c.h₀.get? b = none := fun b hb => el_1_2 (List.mem_map.mp hb) fun p hp e => e ▸ (R.inJ hp).2
  refine ⟨R.F.ns.at fun o e => hk _ o (fun z => (nA _ z).1 rfl) e, fun b o e => hk b o (fun z => by rw [(nA _ z).2] at e; cases e) (R.F.keep b o e), R.F.above⟩
noncomputable def Rels.extJ (R : Rels (wJ c L).fm k st h) {L' I' : Led} (hl : L'.map (·.1) = L.map (·.1)) (hd : Bare c L) (hk : ∀ b o, b ∉ L.map (·.1) → h.get? b = some o → h'.get? b = some o) (hL : ∀ p ∈ L', h'.get? p.1 = some p.2)
    (hI : I' = [] ∨ ∃ T ob, I' = [(T, ob)] ∧ h.objs.size ≤ T ∧ h'.get? T = some ob) : Rels (wJ c L').fm ⟨k.D, I' ++ k.I⟩ st h' := by
  have hN : News c.h₀ c.env.locals h' (L' ++ (R.MO ++ (c.J ++ k.I))) := fun p hp => (List.mem_append.mp hp).elim (fun hp => ⟨hL p hp, el_1_2 (List.mem_map.mp (hl ▸ List.mem_map_of_mem hp : p.1 ∈ L.map (·.1))) fun q hq e => e ▸ (R.inJ hq).2⟩) fun hp =>
    have g := R.N p ((pm_J ..).mem_iff.mpr (List.mem_append_right _ hp)); ⟨hk _ _ (R.apart hp) g.1, g.2⟩
  have nd : ((L' ++ (R.MO ++ (c.J ++ k.I))).map (·.1)).Nodup := by rw [List.map_append, hl, ← List.map_append]; exact R.ndJ
  have hlt : ∀ p ∈ L' ++ (R.MO ++ (c.J ++ k.I)), p.1 < h.objs.size := fun p hp => (List.mem_append.mp hp).elim (fun hp => el_1_2 (List.mem_map.mp (hl ▸ List.mem_map_of_mem hp : p.1 ∈ L.map (·.1))) fun q hq e => e ▸ Heap.lt_size (R.inJ hq).1) fun hp => Heap.lt_size (R.N p ((pm_J ..).mem_iff.mpr (List.mem_append_right _ hp))).1
  let base : Rels (wJ c L').fm k st h' := ⟨R.m, R.MO, R.frJ hk, fun p hp => hN p ((pm_J ..).mem_iff.mp hp), nd_pm (pm_J ..) nd, R.loc, R.heap.imp (.refl _) fun p kvs hp z => (List.mem_append.mp hp).elim (fun hp => (hd p hp kvs z).elim) fun hp => List.mem_append_right _ hp⟩
  have up : ∀ {T ob}, h.objs.size ≤ T → h'.get? T = some ob → T ≠ c.env.locals ∧ c.h₀.get? T = none := fun {T ob} hT _ => by
    refine ⟨fun z => absurd (Nat.lt_of_lt_of_le R.F.ns.lt hT) (by rw [z]; exact Nat.lt_irrefl _), ?_⟩
    cases e : c.h₀.get? T with
    | none => rfl
    | some o => exact absurd (Nat.lt_of_lt_of_le (Heap.lt_size (R.F.keep _ o e)) hT) (Nat.lt_irrefl _)
  refine base.pushI (L := I') base.F (fun p hp => (List.mem_append.mp hp).elim (fun hp => ?_) fun hp => base.N p hp) ?_ fun q hq p hp => ?_
  · exact hI.elim (fun e => by rw [e] at hp; cases hp) fun e => el_2_3 e fun T ob e hT ho => by rw [e] at hp; rw [List.mem_singleton.mp hp]; exact ⟨ho, up hT ho⟩
  · exact hI.elim (fun e => by rw [e]; exact List.nodup_nil) fun e => el_2_3 e fun T ob e hT ho => by rw [e]; exact nd_one ..
  · exact hI.elim (fun e => by rw [e] at hq; cases hq) fun e => el_2_3 e fun T ob e hT ho => by
      rw [e] at hq
      rw [List.mem_singleton.mp hq]
      exact Nat.ne_of_lt (Nat.lt_of_lt_of_le (hlt p ((pm_J ..).mem_iff.mp hp)) hT)
noncomputable def Rels.endJ (R : Rels (wJ c L).fm k st h) (hd : Bare c L) (hk : ∀ b o, b ∉ L.map (·.1) → h.get? b = some o → h'.get? b = some o) : Rels c.fm k st h' :=
  ⟨R.m, R.MO, R.frJ hk, fun p hp => have g := R.N p ((pm_J ..).mem_iff.mpr (List.mem_append_right _ hp)); ⟨hk _ _ (R.apart hp) g.1, g.2⟩, (List.nodup_append.mp (List.map_append ▸ R.ndJ : (L.map (·.1) ++ (R.MO ++ (c.J ++ k.I)).map (·.1)).Nodup)).2.1, R.loc,
    R.heap.imp (.refl _) fun p kvs hp z => (List.mem_append.mp hp).elim (fun hp => (hd p hp kvs z).elim) id⟩
end
noncomputable def ForAt (c : Cx) (d : Nat) : Prop :=
  ∀ t b it j p L k st s K X o R, ItAt c k it j p L → okFor it t = true → Rels (wJ c L).fm k st s.heap → Y c.l o (frlN d t it j b st K X) → Aft c (CF c.tp) k s K o (fun f s' => R (.ok f) s') → Err c k s X o (fun e s' => R (.error e) s') → codeAny c.M c.A (.forLoop t (.ref p) b [] c.env) R s
section
variable {c : Cx} {k : Kn}
theorem sim_frl {r : Rec} {d : Nat} (G : GoodD c d) (T : AllOK c.tp) (ev : ∀ c', c'.tp = c.tp → c'.lv = c.lv → GoodD c' d → ∀ k e, Sim c' k (CV c') (eval e c'.env) (r.ev d e)) (ex : ∀ c', c'.tp = c.tp → c'.lv = c.lv → GoodD c' d → ∀ k s, Sim c' k (CF c'.tp) (exec s c'.env) (r.ex d s))
    (fr : ForAt c d) {t : Expr} {b : List Stmt} {it : It} {j : Nat} {p : Addr} {L : Led} {st : St} {s : Shared} {K : Fl → St → Out} {X : V → St → Out} {o : Except V V × List O} {R : Result → Shared → Prop} (H : ItAt c k it j p L) (hok : okFor it t = true) (Rl : Rels (wJ c L).fm k st s.heap)
    (P : Y c.l o (frlF c.S r d t it j b st K X)) (HQ : Aft c (CF c.tp) k s K o (fun f s' => R (.ok f) s')) (HE : Err c k s X o (fun e s' => R (.error e) s')) : codeAny c.M c.A (.forLoop t (.ref p) b [] c.env) R s := by
  refine for_one fun E => it_next G.1 H Rl P fun q P => ?_
  cases q with
  | none => exact fun ho => ho _ _ fun h' tk hk => wpAny_execs_nil (HQ k .next .next st h' tk (.refl _) (Rl.endJ H.bare hk) rfl P)
  | some v =>
    refine fun ho => wpAny_mono (ho t (fun v s₂ => wpAny c.M c.A (assign t c.env v) (fun _ s₂ => wpAny c.M c.A (execs b c.env) (fun f s₃ => match f with
        | .next | .cont => codeAny c.M c.A (.forLoop t (.ref p) b [] c.env) R s₃
        | .brk => R (.ok .next) s₃
        | .ret v => R (.ok (.ret v)) s₃) E s₂) E s₂) E hok fun h' tk u L' I' hl hat hg hk hI hc => ?_) (fun o s₁ h => ?_) fun _ _ h => h
    · have c1 := G.wJ L'
      have R2 := Rl.extJ hl H.bare hk hg hI
      refine sim_assign c1 T (ev (wJ c L') rfl rfl c1) t hc _ st _ _ X o _ E (.refl _) R2 P (fun k2 _ _ st2 h2 t2 l2 R3 _ P2 => ?_) (HE.any rfl)
      refine sim_exs (ex (wJ c L') rfl rfl c1) b k2 st2 _ _ X o _ E (.refl _) R3 P2 (fun k3 fl flow st3 h3 t3 l3 R4 hf P3 => ?_) (HE.any rfl)
      have lk : KLe k k3 := (KLe.more I').trans (l2.trans l3)
      have hat3 := hat.mono lk
      have done : ∀ fl flow, CF c.tp k3 fl flow → Y c.l o (K fl st3) → R (.ok flow) { s with heap := h3, toks := t3 } := fun fl flow hf P => HQ k3 fl flow st3 h3 t3 lk (R4.endJ hat3.bare fun _ _ _ e => e) hf P
      cases fl with
      | next => rw [show flow = .next from hf]; exact fr t b it (j + 1) p L' k3 st3 _ K X o R hat3 hok R4 P3 (HQ.ext lk) (HE.ext lk)
      | cont => rw [show flow = .cont from hf]; exact fr t b it (j + 1) p L' k3 st3 _ K X o R hat3 hok R4 P3 (HQ.ext lk) (HE.ext lk)
      | brk => rw [show flow = .brk from hf]; exact done .next .next rfl P3
      | ret v => exact el_1_2 hf fun w e hc => by rw [e]; exact done (.ret v) (.ret w) ⟨w, rfl, hc⟩ P3
    · cases o with
      | none => exact h.elim
      | some v => exact wpAny_mono h (fun _ _ h => h) fun _ _ h => h
end
end Mine
end
section
open PySem PySem.W PySem.Calls PyProof.Rows
set_option Elab.async false
set_option linter.unusedVariables false
set_option linter.unusedSectionVars false
set_option maxRecDepth 10000
namespace Mine
theorem iterType_two (s : Str) : strIterType s = "str_ascii_iterator" ∨ strIterType s = "str_iterator" := by
  unfold strIterType
  split <;> simp
noncomputable def Begun (c : Cx) (k : Kn) (it : It) (st : St) (h : Heap) (v : Value) : Prop :=
  ∃ Jd p L, v = .ref p ∧ ItAt (wJ c Jd) k it 0 p L ∧ Nonempty (Rels (wJ (wJ c Jd) L).fm k st h) ∧ ((endIt it = .pure () ∧ Jd = []) ∨ ∃ (i : Nat) (d : DE) (ob : Obj), it = .dict i ∧ Jd = [(d.1, ob)] ∧ k.D[i]? = some (some d))
theorem enumE_e {iter x : Expr} (h : enumE iter = some x) {P : Expr → Prop} (H : ∀ np pos, P (.Call (.Name ("enumerate" : Str) np) [x] [] pos)) : P iter := by
  cases iter with
  | Call f as ks pos =>
    refine el_1_2 (Option.bind_eq_some_iff.mp h) fun n e1 h => gp_e h fun hn h => gp_e h fun hl h' => ?_
    cases f with
    | Name y np =>
      rw [show y = ("enumerate" : Str) from (Option.some.inj e1).trans hn.1, List.isEmpty_iff.mp hn.2]
      cases as with
      | nil => cases hl
      | cons z as =>
        cases as with
        | nil => exact Option.some.inj h' ▸ H np pos
        | cons => cases hl
    | _ => exact none_some e1
  | _ => exact none_some h
theorem HeapR.noFro {θ : Tp} {J J' : Led} {k : Kn} {os : List O} : ∀ {D : List (Option DE)} {M : Led}, os.all notFro = true → HeapR θ J k os D M → HeapR θ J' k os D M := by
  induction os with
  | nil => exact fun _ h => h
  | cons o os ih =>
    intro D M ha h
    have ha := Bool.and_eq_true_iff.mp (List.all_cons.symm.trans ha)
    refine el_4_4 h fun d ds L M' h1 h2 h3 h4 => ⟨d, ds, L, M', h1, h2, ?_, ih ha.2 h4⟩
    cases o with
    | fro es => exact (Bool.false_ne_true ha.1).elim
    | _ => exact h3
section
variable {c : Cx} {k : Kn}
theorem begun_plain {it : It} {st : St} {h : Heap} {p : Addr} {o : Obj} (he : endIt it = .pure ()) (hn : isEnumI it = false) (H : InAt c k it 0 p o) (R : Rels (wJ c [(p, o)]).fm k st h) : Begun c k it st h (.ref p) :=
  ⟨[], p, [(p, o)], rfl, ⟨p, o, H, .inl ⟨hn, rfl, rfl⟩⟩, ⟨R⟩, .inl ⟨he, rfl⟩⟩
theorem sim_itOf (G : Good c) {st : St} {s : Shared} (R : Rels c.fm k st s.heap) {a : V} {x : Value} (ha : Conc c.tp k a x) {α : Type} {g : It → M α} {K : α → St → Out} {X : V → St → Out} {o : Except V V × List O} (P : Y c.l o (((itOf a).bind g) st K X)) {Q : Value → Shared → Prop} {E : Value → Shared → Prop}
    (fin : ∀ it st' v h', Y c.l o (g it st' K X) → Begun c k it st' h' v → Q v { s with heap := h' }) : wpAny c.M c.A (pyIter x) Q E s := by
  cases a with
  | obj i =>
    refine at0_e P fun ob e1 P1 => look_e P1 fun ob' e2 P2 => ?_
    cases Option.some.inj e2
    cases ob with
    | list xs =>
      exact R.list e1 rfl ha fun l vs n hv _ hs hL => by
        subst hv
        exact el_1_2 ha fun d hd hv => wpAny_pyIter_list hL (fin (.list i false) st _ _ P2 (begun_plain rfl rfl ⟨d, hd, rfl, by rw [Value.ref.inj hv]; rfl⟩ (R.addIt { cls := .type "list_iterator", data := .fields #[.ref l, .int 0 0] } rfl)))
    | dict es =>
      refine req_e P2 fun _ P => el_1_2 ha fun d hd hv => ?_
      subst hv
      refine el_4_4 (R.heap.split e1) fun d' p1 L p2 g1 g2 g3 _ => el_4_3 g3 fun d₁ hh a ob g4 g5 g6 => ?_
      cases Option.some.inj ((Option.some.inj (hd.symm.trans g1)).trans g4)
      have b1 := g6.1
      have b2 := g6.2.1
      subst b1 b2
      have g5 : L = [(d.1, ob)] := g5
      have hJ : ∀ p ∈ c.J, p ∈ [(d.1, ob)] ++ c.J := fun p hp => List.mem_append_right _ hp
      refine el_4_4 ((R.heap.imp (J' := [(d.1, ob)] ++ c.J) (.refl _) fun p _ hp _ => hJ p hp).split e1) fun d' p1 L' p2 k1 k2 k3 H => el_4_3 k3 fun d₁ hh' a' ob' k4 k5 k6 => ?_
      cases Option.some.inj ((Option.some.inj (hd.symm.trans k1)).trans k4)
      have b1 := k6.1
      have b2 := k6.2.1
      subst b1 b2
      have row := fun {ob} (hm : (d.1, ob) ∈ R.MO) => (R.N (d.1, ob) (List.mem_append_left _ hm)).1
      have hob : ob' = ob := Option.some.inj ((row (by rw [k2, k5]; exact List.mem_append_right _ (.head _))).symm.trans (row (by rw [g2, g5]; exact List.mem_append_right _ (.head _))))
      subst hob
      have pm : List.Perm ((p1 ++ ([] ++ p2)) ++ (([(d.1, ob')] ++ c.J) ++ k.I)) (R.MO ++ (c.J ++ k.I)) := by
        rw [k2, k5, List.append_assoc [(d.1, ob')]]
        simp only [List.append_assoc, List.nil_append]
        exact List.Perm.append_left p1 (List.perm_append_comm_assoc p2 [(d.1, ob')] (c.J ++ k.I))
      have z := H (.fro es) (some d) [] ⟨rfl, d, ob', rfl, List.mem_append_left _ (.head _), k6⟩
      rw [show k.D.set i (some d) = k.D from List.ext_getElem? fun j => by
        rw [List.getElem?_set]
        split
        · next z => subst z; rw [if_pos (List.getElem?_eq_some_iff.mp hd).1, hd]
        · rfl] at z
      refine el_1_2 k6.2.2.2 fun kvs h1 h2 => Exists.elim h1 fun ds h1 => Exists.elim h1 fun ep h1 => ?_
      have hat : s.heap.DictAt (intKind c.prog c.w) d.1 kvs ep := ⟨ob', ds, row (by rw [k2, k5]; exact List.mem_append_right _ (.head _)), h1.1, h1.2.1, h1.2.2⟩
      refine wpAny_pyIter_dict k6.2.2.1 hat (fin (.dict i) ⟨st.loc, st.heap.set i (.fro es)⟩ _ _ P ?_)
      have hn : ds.size = kvs.length := by rw [← Array.length_toList]; exact h1.2.2.2.1.length
      have R1 : Rels (wJ c [(d.1, ob')]).fm k ⟨st.loc, st.heap.set i (.fro es)⟩ s.heap := ⟨R.m, _, R.F, fun p hp => R.N p (pm.mem_iff.mp hp), nd_pm pm R.nd, R.loc, z⟩
      exact ⟨[(d.1, ob')], s.heap.objs.size, _, rfl, ⟨_, _, ⟨d, ob', ds, ep, hd, List.mem_append_left _ (.head _), h1.2.1, rfl, by rw [hn]; rfl, Nat.zero_le _⟩, .inl ⟨rfl, rfl, rfl⟩⟩, ⟨R1.addIt { cls := .type "dict_keyiterator", data := .fields #[.ref d.1, .int 0 0, .int kvs.length 0, .int ep 0] } rfl⟩, .inr ⟨i, d, ob', rfl, rfl, hd⟩⟩
    | _ => exact P2.elim
  | str t =>
    exact Exists.elim (show ∃ u, x = .str t u from ha) fun u e => by
      rw [e]
      exact wpAny_pyIter_strU (fin (.str t false) st _ _ P (begun_plain rfl rfl ⟨_, u, iterType_two t, rfl, rfl, Nat.zero_le _⟩ (R.addIt { cls := .type (strIterType t), data := .fields #[.str t u, .int 0 0] } rfl)))
  | rng y z =>
    refine req_e P fun h P => el_4_2 ha fun l t u w hI e => ?_
    subst e
    have h := Bool.and_eq_true_iff.mp h
    have ha : y.natAbs ≤ 1000000 := Nat.le_of_ble_eq_true h.1
    have hb : z.natAbs ≤ 1000000 := Nat.le_of_ble_eq_true h.2
    refine wpAny_pyIter_range (R.bears _ hI : IsRange s.heap l y z 1 t u w) (small_one (by omega) (by omega) (by omega) (by omega)) (fin (.rng y z) st _ _ P (begun_plain rfl rfl ⟨?_, Nat.zero_le _⟩ (R.addIt { cls := .type "range_iterator", data := .fields #[rawInt y, rawInt (Builtin.Range.rangeSize y z 1), rawInt 1] } rfl)))
    have e1 : y + ((0 : Nat) : Int) * 1 = y := by omega
    have e2 : Builtin.Range.rangeSize y z 1 = ((z - y).toNat : Int) - ((0 : Nat) : Int) := by
      rw [rangeSize_one]
      split <;> omega
    rw [e1, e2]
  | _ => exact P.elim
theorem sim_enumOf (G : Good c) {st : St} {s : Shared} (R : Rels c.fm k st s.heap) {a : V} {x : Value} (ha : Conc c.tp k a x) {α : Type} {g : It → M α} {K : α → St → Out} {X : V → St → Out} {o : Except V V × List O} (P : Y c.l o (((enumOf a).bind g) st K X)) {Q : Value → Shared → Prop} {E : Value → Shared → Prop}
    (fin : ∀ it v h', Y c.l o (g it st K X) → Begun c k it st h' v → (∀ (A : Around) (K : Value → Shared → Prop) E', K v { s with heap := h' } → wpAny c.M A (pyIter v) K E' { s with heap := h' }) → Q v { s with heap := h' }) : wpAny c.M c.A (call (.type "enumerate") [x]) Q E s := by
  have add : ∀ {it : It} {o1 o2 : Obj} {h' : Heap}, isEnumI it = true → endIt it = .pure () → InAt c k it 0 s.heap.objs.size o2 → h'.get? (s.heap.objs.size + 1) = some o1 → o1 = enumObj s.heap.objs.size 0 .none → h'.get? s.heap.objs.size = some o2 → (∀ b o, s.heap.get? b = some o → h'.get? b = some o) → Begun c k it st h' (.ref (s.heap.objs.size + 1)) := fun {it o1 o2 h'} he hd H h1 e1 h2 hk => by
    subst e1
    have LT := R.F.ns.lt
    have no : ∀ a, s.heap.objs.size ≤ a → c.h₀.get? a = none := fun a ha => by
      cases e : c.h₀.get? a with
      | none => rfl
      | some o => exact absurd (Nat.lt_of_lt_of_le (Heap.lt_size (R.F.keep a o e)) ha) (Nat.lt_irrefl _)
    refine ⟨[], s.heap.objs.size + 1, [(s.heap.objs.size + 1, enumObj s.heap.objs.size 0 .none), (s.heap.objs.size, o2)], rfl, ⟨s.heap.objs.size, o2, H, .inr ⟨he, Nat.succ_ne_self _, .none, rfl⟩⟩, ⟨R.addJ (R.F.keeps hk) (fun p hp => ?_) (by simp) fun q hq p hp => ?_⟩, .inl ⟨hd, rfl⟩⟩
    · exact (List.mem_cons.mp hp).elim (fun e => by rw [e]; exact ⟨h1, Nat.ne_of_gt (Nat.lt_succ_of_lt LT), no _ (Nat.le_succ _)⟩) fun hp => (List.mem_cons.mp hp).elim (fun e => by rw [e]; exact ⟨h2, Nat.ne_of_gt LT, no _ (Nat.le_refl _)⟩) fun hp => ⟨hk _ _ (R.N p hp).1, (R.N p hp).2⟩
    · have lt := Heap.lt_size (R.N p hp).1
      exact (List.mem_cons.mp hq).elim (fun e => by rw [e]; exact Nat.ne_of_lt (Nat.lt_succ_of_lt lt)) fun hq => by rw [List.mem_singleton.mp hq]; exact Nat.ne_of_lt lt
  cases a with
  | obj i =>
    refine rd_e P fun ob xs e1 e2 P => R.list e1 e2 ha fun l vs n hv _ hs hL => ?_
    subst hv
    exact el_1_2 ha fun d hd hv => call_enumerate_list hL fun h' hen hit hsz hk => el_1_3 hit fun o2 ho2 hc2 hd2 => fin (.list i true) _ h' P (add rfl rfl ⟨d, hd, hc2, by rw [hd2, Value.ref.inj hv]⟩ hen rfl ho2 hk) fun A K E' hK => wpAny_pyIter_enum hen hK
  | str t =>
    exact Exists.elim (show ∃ u, x = .str t u from ha) fun u e => by
      rw [e]
      exact call_enumerate_str fun h' hen hit hsz hk => el_1_3 hit fun o2 ho2 hc2 hd2 => fin (.str t true) _ h' P (add rfl rfl ⟨_, u, iterType_two t, hc2, hd2, Nat.zero_le _⟩ hen rfl ho2 hk) fun A K E' hK => wpAny_pyIter_enum hen hK
  | _ => exact P.elim
theorem dict_end {i : Nat} {d : DE} {ob : Obj} {es : List (V × V)} {st : St} {h : Heap} (R : Rels (wJ c [(d.1, ob)]).fm k st h) (hd : k.D[i]? = some (some d)) (e : st.heap[i]? = some (.fro es)) (hall : (st.heap.set i (.dict es)).all notFro = true) : Nonempty (Rels c.fm k ⟨st.loc, st.heap.set i (.dict es)⟩ h) := by
  refine el_4_4 (R.heap.split e) fun d' p1 L p2 e1 e2 e3 H => el_2_3 e3.2 fun d₁ ob' e4 e5 e6 => ?_
  cases Option.some.inj ((Option.some.inj (hd.symm.trans e1)).trans e4)
  have row := fun {p} (hp : p ∈ (wJ c [(d.1, ob)]).J) => (R.N p (List.mem_append_right _ (List.mem_append_left _ hp))).1
  have hob : ob' = ob := Option.some.inj ((row e5).symm.trans (row (List.mem_append_left _ (.head _))))
  subst hob
  have z := H (.dict es) (some d) [(d.1, ob')] ⟨d, [], d.1, ob', rfl, rfl, e6⟩
  rw [show k.D.set i (some d) = k.D from List.ext_getElem? fun j => by
    rw [List.getElem?_set]
    split
    · next z => subst z; rw [if_pos (List.getElem?_eq_some_iff.mp hd).1, hd]
    · rfl] at z
  have e2 : R.MO = p1 ++ ([] ++ p2) := by rw [e2, e3.1]
  have pm : List.Perm ((p1 ++ ([(d.1, ob')] ++ p2)) ++ (c.J ++ k.I)) (R.MO ++ (([(d.1, ob')] ++ c.J) ++ k.I)) := by
    rw [e2, List.append_assoc [(d.1, ob')]]
    simp only [List.append_assoc, List.nil_append]
    exact List.Perm.append_left p1 (List.perm_append_comm_assoc p2 [(d.1, ob')] (c.J ++ k.I)).symm
  exact ⟨⟨R.m, _, R.F, fun p hp => R.N p (pm.mem_iff.mp hp), nd_pm pm R.nd, R.loc, z.noFro hall⟩⟩
section
variable {r : Rec} {d : Nat} (G : GoodD c d) (ev : ∀ k e, Sim c k (CV c) (eval e c.env) (r.ev d e)) (fr : ∀ c', c'.tp = c.tp → c'.lv = c.lv → GoodD c' d → ForAt c' d)
include G fr in
theorem for_begun {t : Expr} {b : List Stmt} {it : It} {st : St} {s : Shared} {v : Value} {K : Fl → St → Out} {X : V → St → Out} {o : Except V V × List O} {R : Result → Shared → Prop} (hb : Begun c k it st s.heap v)
    (P : Y c.l o ((chk (okFor it t) ((frlN d t it 0 b).bind fun f => (endIt it).bind fun _ => .pure f)) st K X)) (HQ : Aft c (CF c.tp) k s K o (fun f s' => R (.ok f) s')) (HE : Err c k s X o (fun e s' => R (.error e) s')) : codeAny c.M c.A (.forLoop t v b [] c.env) R s := by
  refine chk_e P fun hok P => Exists.elim hb fun Jd hb => Exists.elim hb fun p hb => Exists.elim hb fun L hb => hb.2.2.1.elim fun Rl => ?_
  rw [hb.1]
  refine fr (wJ c Jd) rfl rfl (G.wJ Jd) t b it 0 p L k st s _ X o R hb.2.1 hok Rl P (fun k' fl flow st' h' tk l R' hf P' => ?_) (HE.any rfl)
  refine hb.2.2.2.elim (fun z => ?_) fun z => Exists.elim z fun i z => Exists.elim z fun dd z => Exists.elim z fun ob z => ?_
  · have Jd0 := z.2
    subst Jd0
    rw [z.1] at P'
    exact HQ k' fl flow st' h' tk l R' hf P'
  · have z1 := z.1
    have z2 := z.2.1
    subst z1 z2
    have P' : Y c.l o (((rd oF i).bind fun es => fun s k (_ : V → St → Out) => .ite ((s.heap.set i (.dict es)).all notFro) (k () ⟨s.loc, s.heap.set i (.dict es)⟩) .none) st' (fun _ s => K fl s) X) := P'
    exact rd_e (K := fun _ s => K fl s) P' fun ob' es e1 e2 P' => ite_e P' fun hall P' => oF_e e2 fun q => (dict_end R' (l.1 _ _ z.2.2) (q ▸ e1) hall).elim fun R2 => HQ k' fl flow _ h' tk l R2 hf P'
include G ev in
theorem sim_iterE {iter : Expr} {st : St} {s : Shared} {α : Type} {g : It → M α} {K : α → St → Out} {X : V → St → Out} {o : Except V V × List O} {Q : Value → Shared → Prop} {E : Value → Shared → Prop} (R : Rels c.fm k st s.heap) (P : Y c.l o (((iterE r d iter).bind g) st K X)) (HE : Err c k s X o E)
    (fin : ∀ k' it st' v h' tk, KLe k k' → Y c.l o (g it st' K X) → Begun c k' it st' h' v → Q v { s with heap := h', toks := tk }) :
    (∀ x, foldedSetIterable iter c.env x = Pure.pure x) ∧ wpAny c.M c.A (eval iter c.env) (fun x s₁ => wpAny c.M c.A (pyIter x) Q E s₁) E s := by
  have P : Y c.l o (((chk (noSet iter) (match enumE iter with
    | some x => chk (noStar x) ((nameM "enumerate").bind fun f => chk (isTyE f) ((r.ev d x).bind enumOf))
    | none => (r.ev d iter).bind itOf)).bind g) st K X) := P
  refine chk_e (m := (match enumE iter with
    | some x => chk (noStar x) ((nameM "enumerate").bind fun f => chk (isTyE f) ((r.ev d x).bind enumOf))
    | none => (r.ev d iter).bind itOf)) P fun hns P => ?_
  refine ⟨fun x => by cases iter <;> first | rfl | exact (Bool.false_ne_true hns).elim, ?_⟩
  revert P
  cases he : enumE iter with
  | none =>
    exact fun P => ev k iter k st s _ X o _ _ (.refl _) R P (fun k1 a x st1 h1 t1 l1 R1 hx P1 => sim_itOf (s := { s with heap := h1, toks := t1 }) G.1 R1 hx P1 fun it st' v h' P2 hb => fin _ _ _ _ _ _ l1 P2 hb) HE
  | some x =>
    refine enumE_e (P := fun iter => _ → wpAny c.M c.A (eval iter c.env) _ E s) he fun np pos' P => ?_
    refine chk_e (m := (nameM "enumerate").bind fun f => chk (isTyE f) ((r.ev d x).bind enumOf)) P fun hs P => ?_
    refine wpAny_bind (Sim.name G.1 k st s _ X o _ _ (.refl _) R P (fun k1 a f st1 h1 t1 l1 R1 hf P1 => ?_) HE)
    cases a with
    | ty m =>
      refine chk_e (m := (r.ev d x).bind enumOf) P1 fun hm P1 => ?_
      have hm : m = "enumerate" := beq_iff_eq.mp hm
      subst hm
      rw [show f = .type "enumerate" from hf]
      show wpAny c.M c.A (callWith pos' (.type "enumerate") [] (backTo pos' (starEach [x] c.env)) []) _ E _
      refine callWith_type1 (env := c.env) (e := x) (rest := []) ?_ (star_plain hs [] c.env)
      rw [star_plain hs]
      refine spliced_cons (ev k1 x k1 st1 _ _ X o _ _ (.refl _) R1 P1 (fun k2 a v st2 h2 t2 l2 R2 hv P2 => spliced_nil (sim_enumOf (s := { s with heap := h2, toks := t2 }) G.1 R2 hv P2 fun it u h' P3 hb hit => hit _ _ _ (fin _ _ _ _ _ _ (l1.trans l2) P3 hb))) (HE.any rfl))
    | _ => exact P1.elim
include G ev fr in
theorem sim_For {t iter : Expr} {b : List Stmt} {pos : Pos} : Sim c k (CF c.tp) (exec (.For t iter b [] pos) c.env) ((iterE r d iter).bind fun it => chk (okFor it t) ((frlN d t it 0 b).bind fun f => (endIt it).bind fun _ => .pure f)) := by
  intro k₁ st s K X o Q E l R P HQ HE
  refine (fun z => wpAny_For z.2 z.1) (sim_iterE (Q := fun v s' => codeAny c.M c.A (.forLoop t v b [] c.env) (fun r s'' => match r with | .ok f => Q f s'' | .error e => cameBackBy c.M c.A c.env E e s'') s') G ev R P HE.re ?_)
  exact fun k' it st' v h' tk l' P' hb => for_begun G fr hb P' (HQ.ext l') (HE.any rfl)
end
end
end Mine
end
section
open PySem PySem.W PySem.Calls PyProof.Rows
set_option Elab.async false
set_option linter.unusedVariables false
set_option linter.unusedSectionVars false
set_option maxRecDepth 10000
namespace Mine
theorem swaps_no {e : Expr} (h : isComp e = false) (t : Option Expr) (n : Nat) (env : Env) : swapsWith e t n env = Pure.pure false := by
  unfold swapsWith
  cases e <;> first | rfl | cases h
theorem swapped_no {t e : Expr} (h : okAsg t e = true) (env : Env) : isComp e = false ∧ swappedStores [t] e env = Pure.pure none := by
  cases t with
  | Name x p => exact ⟨by revert h; show (!isComp e) = true → _; cases isComp e <;> simp, rfl⟩
  | Attribute o n p => exact ⟨by revert h; show (!isComp e) = true → _; cases isComp e <;> simp, rfl⟩
  | Subscript o i p => exact ⟨by revert h; show (!isComp e) = true → _; cases isComp e <;> simp, rfl⟩
  | Tuple ts n p =>
    cases e with
    | Subscript v i q => exact ⟨rfl, rfl⟩
    | _ => exact (Bool.false_ne_true h).elim
  | _ => exact (Bool.false_ne_true h).elim
section
variable {c : Cx} {k : Kn} {r : Rec} {d : Nat} (G : GoodD c d) (T : AllOK c.tp) (ev : ∀ k e, Sim c k (CV c) (eval e c.env) (r.ev d e)) (tr : ∀ k e, Sim c k CB (isTrue e c.env (eval e c.env)) (r.tr d e))
  (ex : ∀ k s, Sim c k (CF c.tp) (exec s c.env) (r.ex d s)) (wl : ∀ k t b, SimFl c k (.whileLoop t b [] c.env) (whlN d t b)) (fr : ∀ c', c'.tp = c.tp → c'.lv = c.lv → GoodD c' d → ForAt c' d)
theorem one_e {α : Type} {l : List α} {a : α} (h : one? l = some a) : l = [a] := by
  cases l with
  | nil => exact none_some h
  | cons b l =>
    cases l with
    | nil => exact congrArg (fun x => [x]) (Option.some.inj h)
    | cons => exact none_some h
include G T ev in
theorem sim_Assign {ts : List Expr} {e : Expr} {pos : Pos} : Sim c k (CF c.tp) (exec (.Assign ts e pos) c.env) ((liftO (one? ts)).bind fun t => chk (okAsg t e) ((r.ev d e).bind fun v => (assignM c.S r d t v).bind fun _ => .pure .next)) := by
  refine .look fun t ht => .chk fun h => ?_
  rw [one_e ht]
  have h2 := swapped_no h c.env
  have e1 : exec (.Assign [t] e pos) c.env = (standAt pos >>= fun _ => eval e c.env >>= fun v => assignAll v [assign t c.env] >>= fun _ => Pure.pure .next) := by
    rw [arm_exec_Assign]
    show (standAt pos >>= fun _ => swapsWith e (some t) pos.line c.env >>= _) = _
    rw [swaps_no h2.1, h2.2]
    cases t <;> first | rfl | exact (Bool.false_ne_true h).elim
  rw [e1]
  exact .stand (.bind (ev k e) fun k' a v l hv => .bind (sim_assign G T ev t hv) fun _ _ _ _ _ => .pure fun _ _ => rfl)
include G T ev in
theorem sim_augE {t : Expr} {op : Operator} {e : Expr} {pos : Pos} : Sim c k (CF c.tp) (exec (.AugAssign t op e pos) c.env) (augE c.S r d t op e) := by
  cases t with
  | Name x p =>
    rw [arm_exec_AugAssign]
    show Sim c k (CF c.tp) _ ((nameM x).bind fun old => (r.ev d e).bind fun v => (augM op old v).bind fun n => (setLoc x n).bind fun _ => .pure .next)
    exact .stand (.bind (.load G.1) fun k1 a v l1 hv => .bind (.hold (ev k1 e)) fun k2 b w l2 hw => .stand (.bind (.operating (sim_aug (hv.mono l2) hw)) fun k3 n u l3 hu => .stand (.bind (.bindName G.1 hu) fun _ _ _ _ _ => .pure fun _ _ => rfl)))
  | Attribute o n p =>
    rw [arm_exec_AugAssign_2]
    show Sim c k (CF c.tp) _ ((r.ev d o).bind fun ov => (attrM c.S ov n).bind fun old => (r.ev d e).bind fun v => (augM op old v).bind fun m => (setAttrM c.S ov n m).bind fun _ => .pure .next)
    refine .stand (.bind (ev k o) fun k0 a x l0 hx => fun k₁ st s K X o Q E l R P HQ HE => wpAny_bind (wpAny_holding (wpAny_bind (wpAny_standAt (wpAny_bind ?_)))))
    refine sim_attr G.1 T.cls (hx.mono l) k₁ st s _ X o _ _ (.refl _) R P (fun k1 old ov st1 h1 t1 l1 R1 ho P1 => wpAny_bind (wpAny_holding ?_)) HE
    refine ev k1 e k1 st1 _ _ X o _ _ (.refl _) R1 P1 (fun k2 b y st2 h2 t2 l2 R2 hy P2 => wpAny_bind (wpAny_standAt (wpAny_operating ?_))) (HE.any rfl)
    refine sim_aug (ho.mono l2) hy k2 st2 _ _ X o _ _ (.refl _) R2 P2 (fun k3 n nv st3 h3 t3 l3 R3 hn P3 => wpAny_bind (wpAny_standAt (wpAny_bind (wpAny_holding ?_)))) (HE.any rfl)
    exact sim_setAttr G.1 T.cls (hx.mono (l.trans (l1.trans (l2.trans l3)))) hn k3 st3 _ _ X o _ _ (.refl _) R3 P3 (fun k4 _ _ st4 h4 t4 l4 R4 _ P4 => wpAny_bind (wpAny_release (wpAny_pure (HQ k4 .next .next st4 h4 t4 (l1.trans (l2.trans (l3.trans l4))) R4 rfl P4)))) (HE.any rfl)
  | _ => exact .stuck
include G T ev tr ex wl fr in
theorem sim_exF (st : Stmt) : Sim c k (CF c.tp) (exec st c.env) (exF c.S r d st) := by
  cases st with
  | Expr e pos =>
    exact .chk fun h => fun k₁ st s K X o Q E l R P HQ HE => wpAny_Expr_any (ev k₁ e k₁ st s _ X o _ _ (.refl _) R P (fun k1 v x st1 h1 t1 l1 R1 hx P1 => HQ k1 .next .next st1 h1 t1 l1 R1 rfl P1) (HE.any rfl)) (by unfold interactive; rw [G.1.kind]; rfl) (swaps_no (by revert h; cases isComp e <;> simp) _ _ _)
  | Return v pos =>
    cases v with
    | none => exact .stand (.pure fun _ _ => ⟨.none, rfl, rfl⟩)
    | some e =>
      show Sim c k (CF c.tp) (standAt pos >>= fun _ => eval e c.env >>= fun v => Pure.pure (.ret v)) ((r.ev d e).bind fun v => .pure (.ret v))
      exact .stand (.bind (ev k e) fun k' a v l hv => .pure fun _ l' => ⟨v, rfl, hv.mono l'⟩)
  | Assign ts e pos => exact sim_Assign G T ev
  | AugAssign t op e pos => exact sim_augE G T ev
  | Delete ts pos =>
    refine .look fun t ht => .look fun q hq => ?_
    rw [one_e ht, arm_exec_Delete]
    cases t with
    | Subscript o i sp =>
      cases Option.some.inj hq
      show Sim c k (CF c.tp) (standAt pos >>= fun _ => (delete (.Subscript o i sp) c.env >>= fun _ => Pure.pure ()) >>= fun _ => Pure.pure .next) _
      refine .stand fun k₁ st s K X o' Q E l R P HQ HE => wpAny_bind (wpAny_bind (delete_Subscript ?_))
      refine ev k₁ o k₁ st s _ X o' _ _ (.refl _) R P (fun k1 a x st1 h1 t1 l1 R1 hx P1 => ?_) (HE.any rfl)
      refine ev k1 i k1 st1 _ _ X o' _ _ (.refl _) R1 P1 (fun k2 b y st2 h2 t2 l2 R2 hy P2 => ?_) (HE.any rfl)
      exact sim_delItem (hx.mono l2) hy k2 st2 _ _ X o' _ _ (.refl _) R2 P2 (fun k3 _ _ st3 h3 t3 l3 R3 _ P3 => wpAny_pure (wpAny_pure (HQ k3 .next .next st3 h3 t3 (l1.trans (l2.trans l3)) R3 rfl P3))) (HE.any rfl)
    | _ => exact none_some hq
  | If t b o pos =>
    rw [arm_exec_If]
    show Sim c k (CF c.tp) _ ((r.tr d t).bind fun q => ifM q (exs r d b) (exs r d o))
    refine .stand (.bind (tr k t) fun k' q q' l hq => ?_)
    cases (show q = q' from hq)
    exact .ite (fun h => by subst h; exact sim_exs ex b) fun h => by subst h; exact sim_exs ex o
  | While t b o pos =>
    refine .chk fun h => ?_
    rw [List.isEmpty_iff.mp h]
    exact fun k₁ st s K X o Q E l R P HQ HE => wpAny_While (wl k₁ t b k₁ st s K X o _ (.refl _) R P HQ (HE.any rfl))
  | For t iter b o pos =>
    refine .chk fun h => ?_
    rw [List.isEmpty_iff.mp h]
    exact sim_For G ev fr
  | Try b hs o f pos =>
    refine .chk fun h => ?_
    have h := Bool.and_eq_true_iff.mp h
    rw [List.isEmpty_iff.mp h.1, List.isEmpty_iff.mp h.2, arm_exec_Try]
    refine .stand fun k₁ st s K X o Q E l R P HQ HE => ?_
    unfold tryStmt
    refine wpAny_bind (wpAny_attempt (sim_exs ex b k₁ st s _ _ o _ _ (.refl _) R P (fun k1 fl flow st1 h1 t1 l1 R1 hf P1 => ?_) Err.no))
    have q := HQ k1 fl flow st1 h1 t1 l1 R1 hf P1
    cases flow with
    | next => exact wpAny_execs_nil q
    | _ => exact wpAny_pure q
  | _ => exact .stuck
end
end Mine
end
section
open PySem PySem.W PySem.Calls PyProof.Rows
set_option Elab.async false
set_option linter.unusedVariables false
set_option linter.unusedSectionVars false
set_option maxRecDepth 10000
namespace Mine
noncomputable abbrev testsOf (ifs : List Expr) (env : Env) (b : Bool) : Sem Bool := forIn ifs b fun c r => if r = true then do let ok ← isTrue c env (eval c env); pure (ForInStep.yield ok) else pure (ForInStep.yield r)
theorem comp_one {prog : Program} {w : World} {A : Around} {R : Result → Shared → Prop} {s : Shared} {elt target iter : Expr} {ifs : List Expr} {scope : Scope} {pos : Pos} {it acc : Value} {env : Env}
    (h : ∀ E, wpAny (model prog w) A (pyNext it) (fun r s₁ => match r with
      | none => R (.ok .next) s₁
      | some v => wpAny (model prog w) A (letOwnedTupleGo target it v) (fun _ s₁' => wpAny (model prog w) A (assign target env v) (fun _ s₂ =>
          wpAny (model prog w) A (testsOf ifs env true) (fun ok s₃ =>
            if ok = true then wpAny (model prog w) A (eval elt env) (fun x s₄ =>
              wpAny (model prog w) A (call (.builtin "list.append") [acc, x]) (fun _ s₅ => codeAny (model prog w) A (.compLoop (.ListComp elt [⟨target, iter, ifs, 0⟩] scope pos) 0 it acc env) R s₅) E s₄) E s₃
            else codeAny (model prog w) A (.compLoop (.ListComp elt [⟨target, iter, ifs, 0⟩] scope pos) 0 it acc env) R s₃) E s₂) E s₁') E s₁) E s) :
    codeAny (model prog w) A (.compLoop (.ListComp elt [⟨target, iter, ifs, 0⟩] scope pos) 0 it acc env) R s := by
  refine codeAny_of_tree ?_
  show wpAny _ A ((compTurn (.ListComp elt [⟨target, iter, ifs, 0⟩] scope pos) 0 it acc env).onRaise (fun x => do noteFrame x env; theTreesLotGoes x)) _ _ s
  refine wpAny_noted ?_
  rw [compTurn_list]
  refine wpAny_bind (wpAny_standAt (wpAny_bind (wpAny_mono (h _) (fun r s₁ h₁ => ?_) fun _ _ h' => h')))
  cases r with
  | none => exact wpAny_pure h₁
  | some v =>
    refine wpAny_bind (wpAny_mono h₁ (fun _ s₁' h₁' => ?_) fun _ _ h' => h')
    refine wpAny_bind (wpAny_mono h₁' (fun _ s₂ h₂ => wpAny_bind (wpAny_mono h₂ (fun ok s₃ h₃ => ?_) fun _ _ h' => h')) fun _ _ h' => h')
    cases ok with
    | false => exact wpAny_pure ⟨rfl, h₃⟩
    | true => exact wpAny_bind (wpAny_bind (wpAny_mono h₃ (fun x s₄ h₄ => wpAny_bind (wpAny_mono h₄ (fun _ s₅ h₅ => wpAny_pure (wpAny_pure ⟨rfl, h₅⟩)) fun _ _ h' => h')) fun _ _ h' => h'))
theorem tests_false (env : Env) (ifs : List Expr) : testsOf ifs env false = pure false := by
  induction ifs with
  | nil => rfl
  | cons e es ih =>
    unfold testsOf at ih ⊢
    rw [List.forIn_cons]
    simp only [Bool.false_eq_true, if_false]
    exact ih
theorem sim_tests {c : Cx} {r : Rec} {d : Nat} (tr : ∀ k e, Sim c k CB (isTrue e c.env (eval e c.env)) (r.tr d e)) (ifs : List Expr) : ∀ {k : Kn}, Sim c k CB (testsOf ifs c.env true) (allTr r d .And ifs) := by
  induction ifs with
  | nil => exact .pure fun _ _ => rfl
  | cons e es ih =>
    intro k
    unfold testsOf
    rw [List.forIn_cons]
    simp only [if_true]
    show Sim c k CB _ ((r.tr d e).bind fun t => ifM t (allTr r d .And es) (.pure false))
    intro k₁ st s K X o Q E l R P HQ HE
    refine wpAny_bind (wpAny_bind (tr k₁ e k₁ st s _ X o _ _ (.refl _) R P (fun k1 q q' st1 h1 t1 l1 R1 hq P1 => wpAny_pure ?_) HE))
    cases (show q = q' from hq)
    cases q with
    | false =>
      show wpAny c.M c.A (testsOf es c.env false) Q E _
      rw [tests_false]
      exact wpAny_pure (HQ k1 false false st1 h1 t1 l1 R1 rfl P1)
    | true => exact ih k1 st1 _ K X o Q E (.refl _) R1 P1 (HQ.ext l1) (HE.ext l1)
noncomputable def CmpAt (c : Cx) (d : Nat) : Prop :=
  ∀ elt t iter ifs sc pos it j p i x L k st s K X o Q, ItAt c k it j p L → okFor it t = true → Conc c.tp k (.obj i) x → Rels (wJ c L).fm k st s.heap → Y c.l o (cmpN d elt t ifs it j i st K X) →
    Aft c CU k s K o (fun _ s' => Q (.ok .next) s') → Err c k s X o (fun e s' => Q (.error e) s') → codeAny c.M c.A (.compLoop (.ListComp elt [⟨t, iter, ifs, 0⟩] sc pos) 0 (.ref p) x c.env) Q s
theorem sim_cmpF {c : Cx} {r : Rec} {d : Nat} (G : GoodD c d) (T : AllOK c.tp) (ev : ∀ c', c'.tp = c.tp → c'.lv = c.lv → GoodD c' d → ∀ k e, Sim c' k (CV c') (eval e c'.env) (r.ev d e)) (tr : ∀ c', c'.tp = c.tp → c'.lv = c.lv → GoodD c' d → ∀ k e, Sim c' k CB (isTrue e c'.env (eval e c'.env)) (r.tr d e))
    (cm : CmpAt c d) {elt t iter : Expr} {ifs : List Expr} {sc : Scope} {pos : Pos} {it : It} {j i : Nat} {p : Addr} {xv : Value} {L : Led} {k : Kn} {st : St} {s : Shared} {K : Unit → St → Out} {X : V → St → Out} {o : Except V V × List O} {Q : Result → Shared → Prop} (H : ItAt c k it j p L) (hok : okFor it t = true) (hx : Conc c.tp k (.obj i) xv) (Rl : Rels (wJ c L).fm k st s.heap)
    (P : Y c.l o (cmpF c.S r d elt t ifs it j i st K X)) (HQ : Aft c CU k s K o (fun _ s' => Q (.ok .next) s')) (HE : Err c k s X o (fun e s' => Q (.error e) s')) : codeAny c.M c.A (.compLoop (.ListComp elt [⟨t, iter, ifs, 0⟩] sc pos) 0 (.ref p) xv c.env) Q s := by
  refine comp_one fun E => it_next G.1 H Rl P fun q P => ?_
  cases q with
  | none => exact fun ho => ho _ _ fun h' tk hk => HQ k () () st h' tk (.refl _) (Rl.endJ H.bare hk) trivial P
  | some v =>
    refine fun ho => wpAny_mono (ho t (fun v s₂ => wpAny c.M c.A (assign t c.env v) (fun _ s₂ =>
        wpAny c.M c.A (testsOf ifs c.env true) (fun ok s₃ =>
          if ok = true then wpAny c.M c.A (eval elt c.env) (fun y s₄ =>
            wpAny c.M c.A (call (.builtin "list.append") [xv, y]) (fun _ s₅ => codeAny c.M c.A (.compLoop (.ListComp elt [⟨t, iter, ifs, 0⟩] sc pos) 0 (.ref p) xv c.env) Q s₅) E s₄) E s₃
          else codeAny c.M c.A (.compLoop (.ListComp elt [⟨t, iter, ifs, 0⟩] sc pos) 0 (.ref p) xv c.env) Q s₃) E s₂) E s₂) E hok fun h' tk u L' I' hl hat hg hk hI hc => ?_) (fun o s₁ h => ?_) fun _ _ h => h
    · have c1 := G.wJ L'
      have R2 := Rl.extJ hl H.bare hk hg hI
      refine sim_assign c1 T (ev (wJ c L') rfl rfl c1) t hc _ st _ _ X o _ E (.refl _) R2 P (fun k2 _ _ st2 h2 t2 l2 R3 _ P2 => ?_) (HE.any rfl)
      refine sim_tests (c := wJ c L') (tr (wJ c L') rfl rfl c1) ifs k2 st2 _ _ X o _ E (.refl _) R3 P2 (fun k3 ok ok' st3 h3 t3 l3 R4 hok' P3 => ?_) (HE.any rfl)
      cases (show ok = ok' from hok')
      have lk : KLe k k3 := (KLe.more I').trans (l2.trans l3)
      have hat3 := hat.mono lk
      cases ok with
      | false => exact cm elt t iter ifs sc pos it (j + 1) p i xv L' k3 st3 _ K X o Q hat3 hok (hx.mono lk) R4 P3 (HQ.ext lk) (HE.ext lk)
      | true =>
        refine ev (wJ c L') rfl rfl c1 k3 elt k3 st3 _ _ X o _ E (.refl _) R4 P3 (fun k4 y yv st4 h4 t4 l4 R5 hy P4 => ?_) (HE.any rfl)
        refine sim_lm (c := wJ c L') (hx.mono (lk.trans l4)) (Concs.one hy) k4 st4 _ _ X o _ E (.refl _) R5 P4 (fun k5 _ _ st5 h5 t5 l5 R6 _ P5 => ?_) (HE.any rfl)
        have lk5 := lk.trans (l4.trans l5)
        exact cm elt t iter ifs sc pos it (j + 1) p i xv L' k5 st5 _ K X o Q (hat3.mono (l4.trans l5)) hok (hx.mono lk5) R6 P5 (HQ.ext lk5) (HE.ext lk5)
    · cases o with
      | none => exact h.elim
      | some v => exact wpAny_mono h (fun _ _ h => h) fun _ _ h => h
end Mine
end
section
open PySem PySem.W PySem.Calls PyProof.Rows
set_option Elab.async false
set_option linter.unusedVariables false
set_option linter.unusedSectionVars false
set_option maxRecDepth 10000
namespace Mine
noncomputable def closList (cells : List (Str × Addr)) : List (Str × NameKind) → List (Str × Addr) → List (Str × Addr)
  | [], acc => acc
  | p :: r, acc => closList cells r (if (p.2 == NameKind.free) = true then (p.1, (cells.lookup p.1).getD 0) :: acc else acc)
theorem closure_list {scope : Scope} {env : Env} (h : ∀ n, (n, NameKind.free) ∈ scope.names → ∃ q, env.cells.lookup n = some q) : closureFor scope env = pure (closList env.cells scope.names []) := by
  have key : ∀ (names : List (Str × NameKind)) (acc : List (Str × Addr)), (∀ n, (n, NameKind.free) ∈ names → ∃ q, env.cells.lookup n = some q) →
      (forIn (m := Sem) names acc fun x r => if (x.2 == NameKind.free) = true then do let a ← cellOf env x.1; pure (ForInStep.yield ((x.1, a) :: r)) else pure (ForInStep.yield r)) = pure (closList env.cells names acc) := fun names => by
    induction names with
    | nil => exact fun acc _ => rfl
    | cons p r ih =>
      intro acc h
      rw [List.forIn_cons]
      unfold closList
      have ih := fun acc => ih acc fun n hn => h n (.tail _ hn)
      by_cases hk : (p.2 == NameKind.free) = true
      · rw [if_pos hk, if_pos hk]
        refine Exists.elim (h p.1 (by rw [← eq_of_beq hk]; exact .head _)) fun q hq => ?_
        have e1 : cellOf env p.1 = pure q := by unfold cellOf; rw [hq]
        rw [e1, hq, ← ih]
        rfl
      · rw [if_neg hk, if_neg hk, ← ih]
        rfl
  have k := key scope.names [] h
  unfold closureFor
  exact (congrArg (fun m : Sem (List (Str × Addr)) => m >>= fun cs => pure cs) k).trans rfl
theorem clos_mem {cells : List (Str × Addr)} {p : Str × Addr} (names : List (Str × NameKind)) : ∀ {acc : List (Str × Addr)}, p ∈ closList cells names acc → p ∈ acc ∨ ((p.1, NameKind.free) ∈ names ∧ p.2 = (cells.lookup p.1).getD 0) := by
  induction names with
  | nil => exact fun h => .inl h
  | cons q r ih =>
    intro acc h
    refine (ih h).elim (fun h => ?_) fun h => .inr ⟨.tail _ h.1, h.2⟩
    by_cases hk : (q.2 == NameKind.free) = true
    · rw [if_pos hk] at h
      exact (List.mem_cons.mp h).elim (fun e => .inr ⟨by rw [e, ← eq_of_beq hk]; exact .head _, by rw [e]⟩) .inl
    · rw [if_neg hk] at h
      exact .inl h
theorem clos_acc {cells : List (Str × Addr)} {p : Str × Addr} (names : List (Str × NameKind)) : ∀ {acc : List (Str × Addr)}, p ∈ acc → p ∈ closList cells names acc := by
  induction names with
  | nil => exact fun h => h
  | cons q r ih => exact fun h => ih (by split <;> first | exact .tail _ h | exact h)
theorem clos_has {cells : List (Str × Addr)} {x : Str} (names : List (Str × NameKind)) : ∀ {acc : List (Str × Addr)}, (x, NameKind.free) ∈ names → (x, (cells.lookup x).getD 0) ∈ closList cells names acc := by
  induction names with
  | nil => exact fun h => nomatch h
  | cons q r ih =>
    intro acc h
    exact (List.mem_cons.mp h).elim (fun e => by rw [← e]; exact clos_acc r (.head _)) fun h => ih h
theorem lookup_uniq {β : Type} {x : Str} {q : β} {l : List (Str × β)} : (x, q) ∈ l → (∀ q', (x, q') ∈ l → q' = q) → l.lookup x = some q := by
  induction l with
  | nil => exact fun h => nomatch h
  | cons p l ih =>
    intro h u
    rw [List.lookup_cons]
    by_cases e : x = p.1
    · rw [beq_iff_eq.mpr e, u p.2 (by rw [e]; exact .head _)]
    · rw [beq_eq_false_iff_ne.mpr e]
      exact (List.mem_cons.mp h).elim (fun h => absurd (congrArg (·.1) h) e) fun h => ih h fun q' hq => u q' (.tail _ hq)
theorem clos_look {cells : List (Str × Addr)} {names : List (Str × NameKind)} {x : Str} {q : Addr} (hm : (x, NameKind.free) ∈ names) (hq : cells.lookup x = some q) : (closList cells names []).lookup x = some q := by
  refine lookup_uniq (by have := clos_has (cells := cells) names (acc := []) hm; rw [hq] at this; exact this) fun q' h => (clos_mem names h).elim (fun h => nomatch h) fun h => ?_
  exact h.2.trans (by rw [hq]; rfl)
structure CompS (c : Cx) (sc : Scope) : Prop where
  kind : sc.kind = .function
  names : (sc.names.map (·.1)).Nodup
  dbg : ("__debug__" : Str) ∉ sc.names.map (·.1)
  cell : ∀ x ∈ sc.names, x.2 ≠ .cell
  free : ∀ n, (n, NameKind.free) ∈ sc.names → c.env.kindOf n = some .cell ∧ ∃ q, c.env.cells.lookup n = some q
noncomputable abbrev compC (c : Cx) (sc : Scope) (C : Addr) (g : Heap) : Cx := ⟨⟨c.tp, compEnvC sc (closList c.env.cells sc.names []) C c.env, g, c.J⟩, c.A, c.outer, c.lv⟩
section
variable {c : Cx} {k : Kn} {sc : Scope}
theorem compS_of {st : St} {h : Heap} (R : Rels c.fm k st h) (e : compOK sc st.loc = true) : CompS c sc := by
  have e1 := Bool.and_eq_true_iff.mp e
  have e2 := Bool.and_eq_true_iff.mp e1.1
  have e3 := Bool.and_eq_true_iff.mp e2.1
  have ek := List.all_eq_true.mp e1.2
  refine ⟨?_, of_decide_eq_true e3.2, fun h => ?_, fun x hx hk => ?_, fun n hn => ?_⟩
  · have z := e3.1
    revert z
    cases sc.kind <;> first | exact fun _ => rfl | exact fun z => (Bool.false_ne_true z).elim
  · have z := e2.2
    rw [List.contains_iff_mem.mpr h] at z
    exact Bool.false_ne_true z
  · have z := ek x hx
    unfold kOK at z
    rw [hk] at z
    exact Bool.false_ne_true z
  · have z : ((lkp n st.loc).bind asC).isSome = true := ek _ hn
    refine Exists.elim (Option.isSome_iff_exists.mp z) fun i z => el_1_2 (Option.bind_eq_some_iff.mp z) fun a hl ha => ?_
    refine (R.loc n a hl).2.elim (fun y => absurd (y.2.1.symm.trans ha) (fun y => nomatch y)) fun y => y.elim (fun y => ?_) fun y => ⟨y.1, y.2.elim fun j y => y.elim fun q y => y.elim fun _ y => ⟨q, y.2.1⟩⟩
    cases a <;> first | exact none_some ha | exact (Bool.false_ne_true y.2.2).elim
theorem relabel_at (G : Good c) (S : CompS c sc) {C : Addr} {x : Str} {q : NameKind} (hm : (x, q) ∈ sc.names) : (compEnvC sc (closList c.env.cells sc.names []) C c.env).kindOf x = some (if q = .free then .cell else q) := by
  show (relabel sc c.env).names.lookup x = _
  unfold relabel
  refine lookup_nodup ?_ ?_
  · have : (sc.names.map fun (n, k) => if (k == NameKind.free && c.env.scope.kind == ScopeKind.function && c.env.kindOf n == some NameKind.cell) then (n, NameKind.cell) else (n, k)).map (·.1) = sc.names.map (·.1) := by
      rw [List.map_map]
      refine List.map_congr_left fun p hp => ?_
      show (if _ then (p.1, NameKind.cell) else (p.1, p.2)).1 = p.1
      split <;> rfl
    rw [this]; exact S.names
  · refine List.mem_map.mpr ⟨(x, q), hm, ?_⟩
    by_cases hk : q = .free
    · subst hk
      simp only [(S.free x hm).1, G.kind, if_true]
      rfl
    · have e1 : (q == NameKind.free) = false := beq_eq_false_iff_ne.mpr hk
      simp only [e1, Bool.false_and, Bool.false_eq_true, if_false, if_neg hk]
theorem compLoc_look {g : Str → Option V} {loc : List (Str × V)} {x : Str} {a : V} {names : List (Str × NameKind)} : lkp x (compLocN g loc names) = some a →
    ((x, NameKind.local) ∈ names ∧ a = .undef) ∨ ((x, NameKind.free) ∈ names ∧ lkp x loc = some a) ∨ ((x, NameKind.globalImplicit) ∈ names ∧ g x = some a) := by
  induction names with
  | nil => exact fun h => none_some h
  | cons p r ih =>
    intro h
    have look : ∀ {u : V}, lkp x ((p.1, u) :: compLocN g loc r) = some a → (x = p.1 ∧ u = a) ∨ lkp x (compLocN g loc r) = some a := fun {u} h => by
      rw [lkp] at h
      by_cases e : x = p.1
      · rw [if_pos e] at h; exact .inl ⟨e, Option.some.inj h⟩
      · rw [if_neg e] at h; exact .inr h
    have go := fun h => (ih h).imp (fun z => (⟨.tail _ z.1, z.2⟩ : (x, NameKind.local) ∈ p :: r ∧ _)) fun z => z.imp (fun z => (⟨.tail _ z.1, z.2⟩ : (x, NameKind.free) ∈ p :: r ∧ _)) fun z => (⟨.tail _ z.1, z.2⟩ : (x, NameKind.globalImplicit) ∈ p :: r ∧ _)
    cases p with
    | mk y q =>
      cases q with
      | «local» => exact (look h).elim (fun z => .inl ⟨by rw [z.1]; exact .head _, z.2.symm⟩) go
      | free =>
        have h : lkp x (match lkp y loc with | some v => (y, v) :: compLocN g loc r | none => compLocN g loc r) = some a := h
        cases e : lkp y loc with
        | none => rw [e] at h; exact go h
        | some v => rw [e] at h; exact (look h).elim (fun z => .inr (.inl ⟨by rw [z.1]; exact .head _, by rw [z.1, e, z.2]⟩)) go
      | globalImplicit =>
        have h : lkp x (match g y with | some v => (y, v) :: compLocN g loc r | none => compLocN g loc r) = some a := h
        cases e : g y with
        | none => rw [e] at h; exact go h
        | some v => rw [e] at h; exact (look h).elim (fun z => .inr (.inr ⟨by rw [z.1]; exact .head _, by rw [z.1, e, z.2]⟩)) go
      | _ => exact go h
theorem Rels.compLoc (G : Good c) (S : CompS c sc) {st : St} {h : Heap} (R : Rels c.fm k st h) {C : Addr} {g : Heap} {m' : Str → Option Value} : LocR (compC c sc C g).fm k m' (compLocN c.S.glob st.loc sc.names) := fun x a hx => by
  have dbg : ∀ {q}, (x, q) ∈ sc.names → (x == ("__debug__" : Str)) = false := fun hm => beq_eq_false_iff_ne.mpr fun e => S.dbg (e ▸ List.mem_map_of_mem (f := (·.1)) hm)
  refine (compLoc_look hx).elim (fun z => ⟨dbg z.1, .inl ⟨relabel_at G S z.1, by rw [z.2]; exact ⟨rfl, .inl rfl⟩⟩⟩) fun z => z.elim (fun z => ⟨dbg z.1, ?_⟩) fun z => ⟨dbg z.1, .inr (.inl ⟨relabel_at G S z.1, z.2, G.top.globSt _ _ z.2⟩)⟩
  have hc := (S.free x z.1).1
  refine (R.loc x a z.2).2.elim (fun y => absurd (Option.some.inj (hc.symm.trans y.1)) (fun y => nomatch y)) fun y => y.elim (fun y => absurd (Option.some.inj (hc.symm.trans y.1)) (fun y => nomatch y)) fun y => .inr (.inr ⟨relabel_at G S z.1, y.2.elim fun i y => y.elim fun q y => y.elim fun w y => ⟨i, q, w, y.1, clos_look z.1 y.2.1, y.2.2⟩⟩)
theorem good_comp (G : Good c) (S : CompS c sc) {C : Addr} {g : Heap} (B : Below c.A c.base c.outer g) : Good (compC c sc C g) := by
  refine ⟨G.top, G.hd, S.kind, G.gl, G.bi, G.frames, B.stays, fun h m nw F N => ?_⟩
  refine funFrames_hideAll (B.frames.of_keeps fun b o e _ => ⟨o, F.keep b o e, rfl⟩) fun env he a ha hf => ?_
  refine el_2_2 (funFrames_in B.frames env he) fun L₁ o₁ hf₁ ho₁ => el_1_2 (List.mem_map.mp ha) fun p hp e => ?_
  have h1 : g.get? p.1 = none := (N p hp).2.2
  have h2 : L₁ = p.1 := (Option.some.inj (hf₁.symm.trans hf)).trans e.symm
  rw [h2] at ho₁
  exact none_some (h1.symm.trans ho₁)
end
end Mine
end
section
open PySem PySem.W PySem.Calls PyProof.Rows
set_option Elab.async false
set_option linter.unusedVariables false
set_option linter.unusedSectionVars false
set_option maxRecDepth 10000
namespace Mine
section
variable {c : Cx} {k : Kn}
theorem it_self (G : Good c) {it : It} {j : Nat} {p : Addr} {L : Led} {s : Shared} (H : ItAt c k it j p L) (hnd : notDict it = true) (B : ∀ q ∈ L, s.heap.get? q.1 = some q.2) {Q : Value → Shared → Prop} {E : Value → Shared → Prop} (h : Q (.ref p) s) :
    wpAny c.M c.A (pyIter (.ref p)) Q E s := by
  refine Exists.elim H fun a H => Exists.elim H fun o H => H.2.elim (fun z => ?_) fun z => z.2.2.elim fun old e => ?_
  · have ho : s.heap.get? a = some o := B (a, o) (by rw [z.2.2]; exact .head _)
    rw [z.2.1]
    rw [z.2.1] at h
    have H := H.1
    cases it with
    | list i en => exact Exists.elim H fun d H => wpAny_pyIter_listiter ⟨o, ho, H.2.1, H.2.2⟩ h
    | str x en =>
      refine Exists.elim H fun n H => Exists.elim H fun t H => ?_
      have st : s.heap.IsStrIter a n x t j := ⟨o, ho, H.2.1, H.2.2.1⟩
      exact H.1.elim (fun e => by subst e; exact (Walks.strAscii (prog := c.prog) (w := c.w) G.hd a x t).self j s Q E st h) fun e => by subst e; exact (Walks.strWide (prog := c.prog) (w := c.w) G.hd a x t).self j s Q E st h
    | rng x y => exact (Walks.range (prog := c.prog) (w := c.w) G.hd a x 1 _).self j s Q E (ho.trans (congrArg some H.1)) h
    | dict i => exact (Bool.false_ne_true hnd).elim
  · have hen : IsEnum s.heap p a j old := B _ (by rw [e]; exact .head _)
    exact wpAny_pyIter_enum hen h
section
variable {r : Rec} {d : Nat} (G : GoodD c d) (ev : ∀ k e, Sim c k (CV c) (eval e c.env) (r.ev d e)) (cm : ∀ c', c'.tp = c.tp → c'.lv = c.lv → GoodD c' d → CmpAt c' d)
include G cm in
theorem comp_in {elt t iter : Expr} {ifs : List Expr} {sc : Scope} {pos : Pos} {it : It} {i : Nat} {p : Addr} {L : Led} {st : St} {s : Shared} {xv : Value} {K : V → St → Out} {X : V → St → Out} {o : Except V V × List O} {Q : Value → Shared → Prop} {E : Value → Shared → Prop} (S : CompS c sc) (H : ItAt c k it 0 p L) (hnd : notDict it = true) (hok : okFor it t = true) (hx : Conc c.tp k (.obj i) xv)
    (R : Rels (wJ c L).fm k st s.heap) (P : Y c.l o (((compIn c.S sc (cmpN d elt t ifs it 0 i)).bind fun _ => .pure (.obj i)) st K X)) (HQ : Aft c (CV c) k s K o Q) (HE : Err c k s X o E) :
    wpAny c.M c.A (newFunctionEnv sc c.env.globals (closList c.env.cells sc.names []) [] c.env.qual none .none (some c.env)) (fun cenv s₄ =>
      codeAny c.M c.A (.compStart (.ListComp elt [⟨t, iter, ifs, 0⟩] sc pos) 0 (.ref p) xv { cenv with scope := relabel sc c.env }) (compPost c.M c.A E none Q xv cenv.locals) s₄) E s := by
  refine wpAny_newFunctionEnv S.cell (fun _ h => nomatch h) (fun h₃ hns hsb => ?_) S.kind
  have LT := R.F.ns.lt
  have gr := fun Gl : Prop => ground (A := c.A) (s := s) (R := fun _ _ => Gl) G.1.stays R.F R.N G.1.frames (G.1.ff _ _ _ R.F R.N)
  have BG := (gr True).2.1
  generalize hg : hideAll s.heap ((R.MO ++ ((wJ c L).J ++ k.I)).map (·.1)) = g at gr BG
  have old : ∀ b o, s.heap.get? b = some o → h₃.get? b = some o := fun b o e => hsb.extBut b o (Nat.ne_of_lt (Heap.lt_size e)) (Heap.get?_push_of_some _ e)
  have G₂ : GoodD (compC c sc s.heap.objs.size g) d := ⟨good_comp G.1 S BG, G.2.1, G.2.2⟩
  have R5 : Rels (wJ (compC c sc s.heap.objs.size g) L).fm k ⟨compLocN c.S.glob st.loc sc.names, st.heap⟩ h₃ := by
    refine ⟨_, R.MO, ⟨hns, fun b o e => old b o (of_hideAll _ (hg ▸ e)), Nat.le_of_eq (by rw [← hg]; exact hideAll_size _ _)⟩, fun p hp => ?_, R.nd, Rels.compLoc (c := wJ c L) (G.1.wJ L) ⟨S.kind, S.names, S.dbg, S.cell, S.free⟩ R, R.heap⟩
    exact ⟨old _ _ (R.N p hp).1, Nat.ne_of_lt (Heap.lt_size (R.N p hp).1), by rw [← hg]; exact hideAll_none _ (List.mem_map_of_mem hp)⟩
  refine bp_e P fun hco P => ?_
  have loop : codeAny c.M c.A (.compLoop (.ListComp elt [⟨t, iter, ifs, 0⟩] sc pos) 0 (.ref p) xv (compEnvC sc (closList c.env.cells sc.names []) s.heap.objs.size c.env)) (compPost c.M c.A E none Q xv s.heap.objs.size) { s with heap := h₃, toks := s.toks + 0 } := by
    refine cm (compC c sc s.heap.objs.size g) rfl rfl G₂ elt t iter ifs sc pos it 0 p i xv L k ⟨compLocN c.S.glob st.loc sc.names, st.heap⟩ _ _ _ o _ H hok hx R5 P (fun k4 _ _ st4 h4 t4 l4 R4 _ P4 => ?_) fun a st' P' => (HE a _ P').elim
    refine (gr _).2.2.2 .none { s with heap := h4 } (leaveK_ R4.F R4.N fun F' N' => ?_)
    refine ⟨R4.m, R4.F.ns, fun h'' hs => ?_⟩
    have ne : ∀ q ∈ R4.MO ++ (c.J ++ k4.I), q.1 ≠ s.heap.objs.size := fun q hq => (R4.N q hq).2.1
    exact HQ k4 (.obj i) xv ⟨st.loc, st4.heap⟩ h'' t4 l4 ⟨R.m, R4.MO, ⟨F'.ns.sameBut hs (Nat.ne_of_lt LT), fun b o e => (hs.2 b (Nat.ne_of_lt (Nat.lt_of_lt_of_le (Heap.lt_size e) (Nat.le_trans F'.above (Nat.le_of_lt LT))))).trans (F'.keep b o e), F'.above⟩,
      fun q hq => ⟨(hs.2 q.1 (ne q hq)).trans (N' q hq).1, (N' q hq).2⟩, R4.nd, R.loc.mono l4, R4.heap⟩ (hx.mono l4) P4
  exact codeAny_compStart_list loop (it_self (c := compC c sc s.heap.objs.size g) G₂.1 H hnd (fun q hq => (R5.inJ hq).1) loop)
include G ev cm in
theorem sim_comp {elt t iter : Expr} {ifs : List Expr} {sc : Scope} {pos : Pos} : Sim c k (CV c) (eval (.ListComp elt [⟨t, iter, ifs, 0⟩] sc pos) c.env) (compM c.S r d elt t iter ifs sc) := by
  intro k₁ st s K X o Q E l R P HQ HE
  rw [eval_ListComp]
  refine bp_e P fun hco P => ?_
  have S := compS_of R hco
  have z := sim_iterE (E := E) (Q := fun it s₂ => wpAny c.M c.A (newList []) (fun acc s₃ =>
      wpAny c.M c.A (newFunctionEnv sc c.env.globals (closList c.env.cells sc.names []) [] c.env.qual none .none (some c.env)) (fun cenv s₄ =>
        codeAny c.M c.A (.compStart (.ListComp elt [⟨t, iter, ifs, 0⟩] sc pos) 0 it acc { cenv with scope := relabel sc c.env }) (compPost c.M c.A E none Q acc cenv.locals) s₄) E s₃) E s₂) G ev R P HE ?_
  · exact wpAny_comprehension_free (use := none) rfl z.1 (closure_list fun n hn => (S.free n hn).2) S.kind (fun x hx hl => lookup_nodup S.names (by rw [← hl]; exact hx)) z.2
  intro k1 it st1 v h1 t1 l1 P1 hb
  refine chk_e P1 fun hc P1 => ?_
  have hc := Bool.and_eq_true_iff.mp hc
  refine Exists.elim hb fun Jd hb => Exists.elim hb fun p hb => Exists.elim hb fun L hb => ?_
  have hJ : Jd = [] := hb.2.2.2.elim (fun z => z.2) fun z => Exists.elim z fun i z => Exists.elim z fun dd z => Exists.elim z fun ob z => by
    rw [z.1] at hc
    exact (Bool.false_ne_true hc.1).elim
  subst hJ
  rw [hb.1]
  refine hb.2.2.1.elim fun R1 => ?_
  refine sim_newList (c := wJ c L) (k := k1) (xs := []) (vs := []) rfl (Nat.zero_le _) k1 st1 { s with heap := h1, toks := t1 } _ X o _ E (.refl _) R1 P1 (fun k2 a acc st2 h2 t2 l2 R2 hacc P2 => ?_) (HE.any rfl)
  refine look_e P2 fun i hi P2 => ?_
  cases a with
  | obj j =>
    cases Option.some.inj hi
    exact comp_in G cm (s := { s with heap := h2, toks := t2 }) S (ItAt.mono l2 (hb.2.1 : ItAt c k1 it 0 p L)) hc.1 hc.2 hacc R2 P2 (HQ.ext (l1.trans l2)) (HE.any rfl)
  | _ => exact none_some hi
end
end
end Mine
end
section
open PySem PySem.W PySem.Calls PyProof.Rows
set_option Elab.async false
set_option linter.unusedVariables false
set_option linter.unusedSectionVars false
set_option maxRecDepth 10000
namespace Mine
structure SupD extends FnD where
  cda : Addr
  cc : Addr
  ps : Str
  px : Str
  ar : Arg
  rest : List Stmt
  p0 : Pos
  p1 : Pos
  p2 : Pos
  p3 : Pos
  p4 : Pos
  p5 : Pos
  ccl : Value
  cdd : Option Addr
  vs : Array Value
  ccs : Array (Option Value)
  file : Str
  tf : Tok
  cl : Value
  cld : Option Addr
  csl : Array (Option Value)
  D : Addr
  cdD : ClassData
noncomputable def SupD.fd (q : SupD) (fn : Fn) : FuncData := ksFn q.name q.qual q.params fn.body fn.scope q.dV q.kV q.doc q.pm q.an (.ref q.cda) q.ct q.cc
structure SupAt (θ : Tp) (f : Nat) (fn : Fn) (g k : Nat) (q : SupD) : Prop where
  look : θ.K.lookup (θ.af f) = some ⟨q.oc, q.od, .func (q.fd fn), q.osl⟩
  code : codeIn θ.K (.ref q.cda) q.qual = true
  po : q.params.posonlyargs = []
  as : q.params.args.map (·.arg) = fn.params
  ko : q.params.kwonlyargs = []
  va : q.params.vararg = none
  ka : q.params.kwarg = none
  dV : q.dV = .none
  ps : fn.params = [q.ps, q.px]
  ar : q.params.args.head? = some q.ar
  arg : q.ar.arg = q.ps
  body : fn.body = .Expr (.Call (.Attribute (.Call (.Name "super" q.p0) [] [] q.p1) "__init__" q.p2) [.Name q.px q.p3] [] q.p4) q.p5 :: q.rest
  pos : q.p2.endLine = q.p4.line
  cda : θ.K.lookup q.cda = some ⟨q.ccl, q.cdd, .fields q.vs, q.ccs⟩
  vs : q.vs[2]? = some (.str q.file q.tf)
  file : ((θ.prog.main.file : Str) == q.file) = true
  cc : θ.K.lookup q.cc = some ⟨q.cl, q.cld, .cell (some (.ref q.D)), q.csl⟩
  D : clsIn θ.K q.D = some q.cdD
  mro : mroIn θ.K (θ.ac k) (.ref q.D) = some true
  sup : ks_superIn θ.K (θ.ac k) q.D "__init__" = some (some (.ref (θ.af g)))
  kps : fn.scope.names.lookup q.ps = some .local
  dflts : fn.dflts = []
  nodup : fn.params.Nodup
  names : (fn.scope.names.map (·.1)).Nodup
  kinds : ∀ p ∈ fn.params, (p, NameKind.local) ∈ fn.scope.names
  nocell : ∀ x ∈ fn.scope.names, x.2 ≠ .cell
  dbg : ("__debug__" : Str) ∉ fn.scope.names.map (·.1)
  ksup : fn.scope.names.lookup ("super" : Str) = some .globalImplicit
  kcls : fn.scope.names.lookup ("__class__" : Str) = some .free
  co : fn.scope.isCoroutine = false
  gen : fn.scope.isGenerator = false
  kind : fn.scope.kind = .function
  top : (θ.prog.main.scope.names.lookup ("super" : Str)).isSome = false
  boot : bootBuiltins "super" = some (.type "super")
  nosup : nsIn θ.K mainGlobals "super" = some none
  third : nsIn θ.K cStatics "thirdparty.any" = some none
  ty : typeIn θ.K (.ref (θ.af g)) = some (.type "function")
  fng : fnIn θ.K (θ.af g) = true
theorem callZ {prog : Program} {w : World} {A : Around} {s : Shared} {base h₀ : Heap} {fl : List Env} {L : Addr} {m : Str → Option Value} {news : Led} {R : Result → Shared → Prop} {name qual : Str} {params : Arguments} {body : List Stmt} {scope : Scope} {dV kV doc pm cdv ct : Value} {an : Option Addr} {fo : Obj} {f cc : Addr} {args : Args} {binds : List (Str × Value)}
    (hs : base.StaysIn h₀) (F : Fr h₀ L s.heap m) (N : News h₀ L s.heap news) (hlim : h₀.NoLimit) (hA : A.frames = some fl) (ff : (hideAll s.heap (news.map (·.1))).FunFrames base fl)
    (ho : s.heap.get? f = some fo) (hd : fo.data = .func (ksFn name qual params body scope dV kV doc pm an cdv ct cc)) (hcd : s.heap.CodeRec cdv qual) (hroom : A.depth < recursionLimit)
    (hbind : BindsTo s (ksFn name qual params body scope dV kV doc pm an cdv ct cc) args binds) (hcell : ∀ x ∈ scope.names, x.2 ≠ .cell) (hloc : ∀ x ∈ binds, scope.names.lookup x.1 = some .local)
    (h : ∀ g L' h₁ tk, Fr h₀ L g m → Fr g L' h₁ (fun y => binds.reverse.lookup y) → News g L' h₁ news → Below A base fl g → h₀.StaysIn g → (∀ p ∈ news, p.1 < L') →
      ∀ E, _root_.PySem.wpAt (model prog w) (A.deeper (ksEnv qual scope L' f cdv cc)) (.func body (ksEnv qual scope L' f cdv cc)) (execs body (ksEnv qual scope L' f cdv cc))
        (fun fl s' => LeaveK h₀ L m g R (match fl with | .ret v => v | _ => .none) s') E { s with heap := h₁, toks := tk })
    (hco : scope.isCoroutine = false) (hgen : scope.isGenerator = false) (hk : scope.kind = .function) : codeAny (model prog w) A (.call (.ref f) args) R s := by
  obtain ⟨FG, BG, st, lv⟩ := ground (R := R) hs F N hA ff
  refine ks_codeAny_call_defAt (fd := ksFn name qual params body scope dV kV doc pm an cdv ct cc) (body := body) (binds := binds) hroom ho hd (hlim.keeps F.keep) hcd rfl hbind hcell hloc (fun h₁ hns hk₁ => ?_) hco hgen hk
  exact ks_wpAt_mono (h _ s.heap.objs.size h₁ _ FG ⟨hns, fun b o e => hk₁ b o (of_hideAll _ e), Nat.le_of_eq (hideAll_size _ _)⟩
    (fun p hp => ⟨hk₁ _ _ (N p hp).1, Nat.ne_of_lt (Heap.lt_size (N p hp).1), hideAll_none _ (List.mem_map_of_mem hp)⟩) BG st (fun p hp => Heap.lt_size (N p hp).1) _) (fun fl s' hl => lv _ _ hl) fun _ _ y => y
theorem lookup_rev {β : Type} {x : Str} {l : List (Str × β)} (h : (l.map (·.1)).Nodup) : l.reverse.lookup x = l.lookup x := by
  have h2 : (l.reverse.map (·.1)).Nodup := by rw [List.map_reverse]; exact (List.reverse_perm _).nodup_iff.mpr h
  cases e : l.lookup x with
  | none => exact lookup_none fun z => el_1_2 (List.mem_map.mp z) fun p hp e' => none_some (e.symm.trans (lookup_nodup (b := p.2) h (by rw [← e']; exact List.mem_reverse.mp hp)))
  | some v => exact lookup_nodup h2 (List.mem_reverse.mpr (mem_of_lookup e))
theorem entry_loc {θ : Tp} (T : Top θ) {env : Env} {h₀ : Heap} {J : Led} {k : Kn} {bx : List (Str × V)} {bv : List (Str × Value)} (hb : Kws θ k bx bv) (hbn : (bv.map (·.1)).Nodup)
    (hn : (env.scope.names.map (·.1)).Nodup) (hd : ("__debug__" : Str) ∉ env.scope.names.map (·.1)) (hc : ∀ x ∈ env.scope.names, x.2 ≠ .cell) {os : List O} {M : Led} (H : HeapR θ J k os k.D M) : LocR ⟨θ, env, h₀, J⟩ k (fun y => bv.reverse.lookup y) (entry θ.S env.scope bx os).loc ∧ HeapR θ J k (entry θ.S env.scope bx os).heap k.D M := by
  have nc : ∀ {x}, (x, NameKind.cell) ∈ env.scope.names → False := fun h => hc _ h rfl
  have stay : ∀ (names : List (Str × NameKind)) (os : List O), (∀ x ∈ names, x.2 ≠ .cell) → (entryN θ.S.glob bx names os).2 = os := fun names => by
    induction names with
    | nil => exact fun _ _ => rfl
    | cons p r ih =>
      intro os hc
      have ih := ih os fun x hx => hc x (.tail _ hx)
      cases p with
      | mk y q =>
        cases q with
        | cell => exact absurd rfl (hc _ (.head _))
        | _ => exact ih
  refine ⟨?_, by rw [show (entry θ.S env.scope bx os).heap = os from stay _ _ hc]; exact H⟩
  refine Exists.elim (entry_in (θ := θ) (J := J) (g := θ.S.glob) (bx := bx) (bv := bv) (cm := fun x => bv.lookup x) (cells := []) (fun x u v _ h => h) (names := env.scope.names) 0 [] os k.D H.length fun x a hx => (nc hx).elim) fun Dn e => Exists.elim e fun Mn e => fun x a hx => ?_
  have kind := fun {z : NameKind} (hm : (x, z) ∈ env.scope.names) => (lookup_nodup hn hm : env.kindOf x = some z)
  have db : ∀ z, (x, z) ∈ env.scope.names → (x == ("__debug__" : Str)) = false := fun z hm => beq_eq_false_iff_ne.mpr fun e => hd (e ▸ List.mem_map_of_mem (f := (·.1)) hm)
  refine (e.2.2.2.2 x a hx).elim (fun z => ⟨db _ z.1, .inl ⟨kind z.1, ?_⟩⟩) fun z => z.elim (fun z => ⟨db _ z.1, .inr (.inl ⟨kind z.1, z.2, T.globSt x a z.2⟩)⟩) fun z => (nc z.1).elim
  rw [z.2, lkp_lookup]
  exact (hb.look x).elim (fun y => by rw [y.1]; exact ⟨rfl, .inl rfl⟩) fun y => el_2_3 y fun u v h1 h2 h3 => by rw [h1]; exact ⟨conc_asC h3, .inr ⟨v, (lookup_rev hbn).trans h2, h3⟩⟩
end Mine
end
section
open PySem PySem.W PySem.Calls PyProof.Rows
set_option Elab.async false
set_option linter.unusedVariables false
set_option linter.unusedSectionVars false
set_option maxRecDepth 10000
namespace Mine
section
variable {c : Cx} {k : Kn} {r : Rec} {d : Nat}
theorem sup_first {f g j : Nat} {fn : Fn} {q : SupD} (K : SupAt c.tp f fn g j q) (G : Good c) {L : Addr} (henv : c.env = ksEnv q.qual fn.scope L (c.af f) (.ref q.cda) q.cc) (IHc : ∀ k xs vs, Concs c.tp k xs vs → SimCode c k (.call (.ref (c.af g)) ⟨vs, []⟩) (callH d g xs []))
    (IHx : ∀ k, Sim c k (CF c.tp) (execs (fn.body.drop 1) c.env) (exs r d (fn.body.drop 1)))
    {st : St} {s : Shared} {K' : Fl → St → Out} {X : V → St → Out} {o : Except V V × List O} {Q : Flow → Shared → Prop} {E : Value → Shared → Prop} (R : Rels c.fm k st s.heap) (P : Y c.l o (supM r d g j fn st K' X)) (HQ : Aft c (CF c.tp) k s K' o Q) (HE : Err c k s X o E) :
    _root_.PySem.wpAt c.M c.A (.func fn.body (ksEnv q.qual fn.scope L (c.af f) (.ref q.cda) q.cc)) (execs fn.body (ksEnv q.qual fn.scope L (c.af f) (.ref q.cda) q.cc)) Q E s := by
  cases c with
  | mk φ A outer lv =>
  cases φ with
  | mk tp env h₀ J =>
  have henv : env = ksEnv q.qual fn.scope L (tp.af f) (.ref q.cda) q.cc := henv
  subst henv
  refine G.top.TT.elim fun mean TT => ?_
  have TT := TT.keeps G.stays
  have P : Y ⟨tp.S, lv⟩ o ((match fn.params with
    | [ps, px] => (nameM ps).bind fun a => (liftO (asO a)).bind fun i => (rd oI i).bind fun p => chk (decide (p.1 = j)) ((nameM px).bind fun b => (liftH (callH d g [.obj i, b] [])).bind fun _ => exs r d (fn.body.drop 1))
    | _ => stuck) st K' X) := P
  rw [K.ps] at P
  have hkps : (ksEnv q.qual fn.scope L (tp.af f) (.ref q.cda) q.cc).kindOf q.ps = some .local := K.kps
  refine look_e P fun a ea P => ?_
  refine (R.loc q.ps a ea).2.elim (fun h => ?_) fun h => h.elim (fun h => absurd (Option.some.inj (hkps.symm.trans h.1)) fun z => nomatch z) fun h => absurd (Option.some.inj (hkps.symm.trans h.1)) fun z => nomatch z
  rw [h.2.1] at P
  refine look_e P fun b eb P => defd_e eb fun hu e => ?_
  subst e
  refine h.2.2.elim (fun z => (hu z).elim) fun h => el_1_2 h fun v hv hc => ?_
  refine look_e P fun i ei P => asO_e ei fun e => ?_
  subst e
  refine rd_e P fun ob p e1 e2 P => ?_
  refine chk_e P fun hj P5 => ?_
  have hj : p.1 = j := of_decide_eq_true hj
  subst hj
  refine oI_obj R e1 e2 hc fun dd es n p1 p2 T hvd hfl hI => ?_
  subst hvd
  rw [K.body]
  refine ks_wpAt_execs_cons (ks_wpAt_Expr_any (ks_wpAt_MethodCall (pl := (do return (← importBound (.Call (.Name "super" q.p0) [] [] q.p1) (ksEnv q.qual fn.scope L (tp.af f) (.ref q.cda) q.cc)).getD true)) ?_ ?_) ?_ rfl)
  · refine ks_node R.F G.X R.N TT K.look (by rw [show (q.fd fn).params = q.params from rfl, K.po]; exact K.ar) (by rw [K.arg]; exact hv) hI K.cda K.vs K.file K.cc K.D K.mro K.nosup (by decide) K.ksup K.kcls (by rw [K.arg]; exact K.kps) K.kind K.top K.boot fun so h1 F1 N1 lt1 => ?_
    have R1 := R.pushI (L := [(so, ks_superObj q.D dd.1 (tp.ac p.1))]) F1 N1 (nd_one ..) fun z hz y hy => by rw [List.mem_singleton.mp hz]; exact Nat.ne_of_lt (lt1 y hy)
    have l1 : KLe k ⟨k.D, [(so, ks_superObj q.D dd.1 (tp.ac p.1))] ++ k.I⟩ := KLe.more _
    refine oI_obj R1 e1 e2 (hc.mono l1) fun dd' es' n' p1' p2' T' hvd' hfl' hI1 => ?_
    have ed : dd = dd' := Option.some.inj (Option.some.inj (T.hD.symm.trans T'.hD))
    subst ed
    refine ks_method R1.F G.X R1.N (R1.inI (.head _)) hI1 K.third K.sup K.ty (by decide) fun y h2 F2 N2 lt2 => ?_
    have R2 := R1.pushI (L := [(y, methodObj (.ref (tp.af g)) (.ref dd.1))]) F2 N2 (nd_one ..) fun z hz y hy => by rw [List.mem_singleton.mp hz]; exact Nat.ne_of_lt (lt2 _ hy)
    have l2 := l1.trans (KLe.more (k := ⟨k.D, [(so, ks_superObj q.D dd.1 (tp.ac p.1))] ++ k.I⟩) [(y, methodObj (.ref (tp.af g)) (.ref dd.1))])
    refine callWith_M (K := tp.K) G.X R2.N (R2.inI (.head _)) K.fng (spliced_cons ?_) rfl rfl
    refine Sim.name G _ st { s with heap := h2, toks := s.toks + 1 } _ X o _ _ (.refl _) R2 P5 (fun k3 b bv st3 h3 t3 l3 R3 hb P3 => spliced_nil ?_) (HE.any rfl)
    have hq3 := R3.inI (l3.2 _ (.head _))
    refine ⟨⟨(R3.N _ hq3).1, G.X.keeps R3.F.keep⟩, call_meth R3.N hq3 ?_⟩
    have hx3 := hc.mono (l2.trans l3)
    refine IHc k3 [.obj i, b] [.ref dd.1, bv] ⟨_, _, hx3, .one hb, rfl⟩ k3 st3 { s with heap := h3, toks := t3 } _ _ o _ (.refl _) R3 P3 (aft_rb (E := E) (K := fun _ s => exs r d (fn.body.drop 1) s K' X) (fun k4 _ _ st4 h4 t4 l4 R4 _ P4 => ?_) (HE.any rfl) fun _ _ z => z)
    refine wpAt_of_wpAny ?_
    have e15 : q.rest = fn.body.drop 1 := by rw [K.body]; rfl
    rw [e15]
    exact IHx k4 k4 st4 _ K' X o _ E (.refl _) R4 P4 (HQ.ext (l2.trans (l3.trans l4))) (HE.any rfl)
  · rw [arm_eval_Call]
    have h1 : methodCallForm ([Expr.Name q.px q.p3].length + ([] : List Keyword).length) (backTo q.p4 (starEach [Expr.Name q.px q.p3] (ksEnv q.qual fn.scope L (tp.af f) (.ref q.cda) q.cc))) (backToKw q.p4 (keywordEach [] (ksEnv q.qual fn.scope L (tp.af f) (.ref q.cda) q.cc))) = true := rfl
    have h2 : methodCallPos true (.Call (.Name "super" q.p0) [] [] q.p1) (ksEnv q.qual fn.scope L (tp.af f) (.ref q.cda) q.cc) q.p2 q.p4 = Pure.pure q.p4 := by unfold methodCallPos; simp [K.pos]
    unfold methodCall
    rw [h1, h2]
    rfl
  · unfold interactive
    show (fn.scope.kind == _ && _) = false
    rw [K.kind]; rfl
theorem code_callSup (G : Good c) (hroom : c.A.depth < recursionLimit) {f g j : Nat} {fn : Fn} (hK : ∃ q, SupAt c.tp f fn g j q) (hfn : c.S.fns f = some fn) (hsup : fn.sup = some (g, j))
    (IHc : ∀ env g', Good (calleeC c env g') → ∀ k xs vs, Concs c.tp k xs vs → SimCode (calleeC c env g') k (.call (.ref (c.af g)) ⟨vs, []⟩) (callH d g xs []))
    (IHx : ∀ env g', Good (calleeC c env g') → ∀ k, Sim (calleeC c env g') k (CF c.tp) (execs (fn.body.drop 1) env) (exs r d (fn.body.drop 1)))
    {xs : List V} {vs : List Value} {kx : List (Str × V)} {kv : List (Str × Value)} (hv : Concs c.tp k xs vs) (hk : Kws c.tp k kx kv) : SimCode c k (.call (.ref (c.af f)) ⟨vs, kv⟩) (callM c.S r d f xs kx) := by
  intro k₁ st s KK XX o Q l R P HQ
  refine hK.elim fun q K => ?_
  have hv := hv.mono l
  have hk := hk.mono l
  have X : c.K.In s.heap := G.X.keeps R.F.keep
  have P : Y c.l o (oB (c.S.fns f) fun fn => oB (bindA fn xs kx) fun b => bodyM r d fn (entry c.S fn.scope b st.heap) (outK KK) (errK XX)) := P
  rw [hfn] at P
  have P : Y c.l o (oB (bindA fn xs kx) fun b => (match fn.sup with | none => exs r d fn.body | some gk => supM r d gk.1 gk.2 fn) (entry c.S fn.scope b st.heap) (outK KK) (errK XX)) := P
  rw [hsup] at P
  refine look_e P fun bx hb P => gp_e hb fun hfit hb => some_e hb fun hb => ?_
  subst hb
  have hdv : Concs c.tp k₁ fn.dflts [] := by rw [K.dflts]; rfl
  have hbind : BindsTo s (q.fd fn) ⟨vs, kv⟩ (boundOf fn.params vs kv []) := fun M A E Q hQ =>
    bind_rule (fd := q.fd fn) K.po K.as K.ko K.va K.ka (fun h => by rw [show (q.fd fn).defaults = .none from K.dV]; exact wpAny_pure (h none rfl)) (by rw [← Kws.fits fn.params hv hk hdv]; exact hfit) hQ
  have hkws := Kws.bound fn.params hv hk hdv
  have hbn : ((boundOf fn.params vs kv ([] : List Value)).map (·.1)).Nodup := boundOf_nodup K.nodup _ _ _
  refine callZ (name := q.name) (qual := q.qual) (params := q.params) (body := fn.body) (scope := fn.scope) (cdv := .ref q.cda) (cc := q.cc) (binds := boundOf fn.params vs kv []) G.stays R.F R.N G.nolim G.frames (G.ff _ _ _ R.F R.N) (X _ _ K.look) rfl (codeRec_of X K.code) hroom hbind K.nocell
    (fun x hx => lookup_nodup K.names (K.kinds _ (boundOf_mem hx))) (fun g' L' h₁ tk Fg F₁ N₁ B₁ st₁ hlt E₁ => ?_) K.co K.gen K.kind
  have G' : Good (calleeC c (ksEnv q.qual fn.scope L' (c.af f) (.ref q.cda) q.cc) g') :=
    ⟨G.top, G.hd, K.kind, rfl, rfl, Around.frames_deeper G.frames, B₁.stays, fun h m news F N => (groundX (R := fun _ _ => True) (s := { s with heap := h }) (env := ksEnv q.qual fn.scope L' (c.af f) (.ref q.cda) q.cc) B₁ F N (Around.frames_deeper G.frames) rfl K.kind).2.1.frames⟩
  have el := entry_loc (env := ksEnv q.qual fn.scope L' (c.af f) (.ref q.cda) q.cc) (h₀ := g') (J := c.J) G.top hkws hbn K.names K.dbg K.nocell R.heap
  have hR : Rels (calleeC c (ksEnv q.qual fn.scope L' (c.af f) (.ref q.cda) q.cc) g').fm k₁ (entry c.S fn.scope (boundOf fn.params xs kx fn.dflts) st.heap) h₁ := ⟨_, R.MO, F₁, N₁, R.nd, el.1, el.2⟩
  refine sup_first (c := calleeC c (ksEnv q.qual fn.scope L' (c.af f) (.ref q.cda) q.cc) g') (j := j) K G' rfl (IHc _ g' G') (IHx _ g' G') hR P (fun k' fl flow st'' h' tk' l' R'' hcf P' => ?_) fun a st' P' => HQ.2 _ _ P'
  refine leaveK_ R''.F R''.N fun F' N' => ?_
  have R4 : Rels c.fm k' ⟨st.loc, st''.heap⟩ h' := ⟨R.m, R''.MO, F', N', R''.nd, R.loc.mono l', R''.heap⟩
  cases fl with
  | next => rw [show flow = .next from hcf]; exact HQ.1 k' .none _ _ h' tk' P' l' R4 rfl
  | ret v => exact el_1_2 hcf fun w e hc => by rw [e]; exact HQ.1 k' v w _ h' tk' P' l' R4 hc
  | _ => exact P'.elim
end
end Mine
end
section
open PySem PySem.W PySem.Calls PyProof.Rows
set_option Elab.async false
set_option linter.unusedVariables false
set_option linter.unusedSectionVars false
set_option maxRecDepth 10000
namespace Mine
theorem Y1_up {rc rc' : Out → Prop} {o : Except V V × List O} (h : ∀ t, rc t → rc' t) (t : Out) : Y1 rc o t → Y1 rc' o t := by
  induction t with
  | none => exact id
  | ret r h => exact id
  | ite b x y ihx ihy => cases b <;> assumption
  | opt u a k ih =>
    cases a with
    | none => exact id
    | some x => exact ih x
  | _ => exact h _
theorem rc_up {S : Stat} {o : Except V V × List O} (n : Nat) : ∀ t, rc S o n t → rc S o (n + 1) t := by
  induction n with
  | zero => exact fun t h => h.elim
  | succ n ih => exact fun t h => Y1_up ih _ h
theorem Y_up {S : Stat} {n : Nat} {o : Except V V × List O} {t : Out} (h : Y ⟨S, n⟩ o t) : Y ⟨S, n + 1⟩ o t := Y1_up (rc_up n) t h
noncomputable abbrev Cx.dn (c : Cx) (n : Nat) : Cx := ⟨c.fm, c.A, c.outer, n⟩
theorem Aft.dn {α β : Type} {c : Cx} {C : Kn → α → β → Prop} {k : Kn} {s : Shared} {K : α → St → Out} {o : Except V V × List O} {Q : β → Shared → Prop} {n : Nat} (e : c.lv = n + 1) (H : Aft c C k s K o Q) : Aft (c.dn n) C k s K o Q :=
  fun k' a b st' h' tk l R hc P => H k' a b st' h' tk l R hc (by show Y ⟨c.S, c.lv⟩ o _; rw [e]; exact Y_up P)
theorem Err.dn {c : Cx} {k : Kn} {s : Shared} {X : V → St → Out} {o : Except V V × List O} {E E' : Value → Shared → Prop} {n : Nat} (e : c.lv = n + 1) (H : Err c k s X o E) : Err (c.dn n) k s X o E' :=
  fun a st' P => H a st' (by show Y ⟨c.S, c.lv⟩ o _; rw [e]; exact Y_up P)
theorem node_dn {S : Stat} {lv n : Nat} {o : Except V V × List O} {t t' : Out} (e : lv = n + 1) (h : Y ⟨S, lv⟩ o t) (hn : ∀ rc : Out → Prop, Y1 rc o t → rc t) (ht : stp S t = t') : Y ⟨S, n⟩ o t' := by
  subst e ht
  exact hn _ h
theorem GoodD.dn {c : Cx} {d n : Nat} (G : GoodD c d) : GoodD (c.dn n) d := ⟨⟨G.1.top, G.1.hd, G.1.kind, G.1.gl, G.1.bi, G.1.frames, G.1.stays, G.1.ff⟩, G.2.1, G.2.2⟩
theorem GoodD1.dn {c : Cx} {d n : Nat} (G : GoodD1 c d) : GoodD1 (c.dn n) d := ⟨⟨G.1.top, G.1.hd, G.1.kind, G.1.gl, G.1.bi, G.1.frames, G.1.stays, G.1.ff⟩, G.2.1, G.2.2⟩
structure Sound (θ : Tp) (n : Nat) : Prop where
  whl : ∀ c d, c.tp = θ → c.lv = n → GoodD c d → ∀ k t b, SimFl c k (.whileLoop t b [] c.env) (whlN d t b)
  frl : ∀ c d, c.tp = θ → c.lv = n → GoodD c d → ForAt c d
  cmp : ∀ c d, c.tp = θ → c.lv = n → GoodD c d → CmpAt c d
  call : ∀ c d, c.tp = θ → c.lv = n → GoodD1 c d → CallAt c d
structure SoundE (θ : Tp) (n : Nat) (r : Rec) : Prop where
  ev : ∀ c d, c.tp = θ → c.lv = n → GoodD c d → ∀ k e, Sim c k (CV c) (eval e c.env) (r.ev d e)
  tr : ∀ c d, c.tp = θ → c.lv = n → GoodD c d → ∀ k e, Sim c k CB (isTrue e c.env (eval e c.env)) (r.tr d e)
  ex : ∀ c d, c.tp = θ → c.lv = n → GoodD c d → ∀ k s, Sim c k (CF c.tp) (exec s c.env) (r.ex d s)
theorem GoodD.callee {c : Cx} {d : Nat} (G : GoodD1 c (d + 1)) {env : Env} {g : Heap} (h : Good (calleeC c env g)) : GoodD (calleeC c env g) d := by
  have h1 := G.2.1
  have h2 := G.2.2
  refine ⟨h, ?_, ?_⟩
  · show c.A.units + 3 + 8 * d + 20 ≤ cLine
    omega
  · show c.A.depth + 1 + 2 * d ≤ 900
    omega
noncomputable def SupAll (θ : Tp) : Prop := ∀ f fn g k, θ.S.fns f = some fn → fn.sup = some (g, k) → ∃ q, SupAt θ f fn g k q
theorem sound_E {θ : Tp} (T : AllOK θ) {n : Nat} (Z : Sound θ n) (m : Nat) : SoundE θ n (E θ.S m) := by
  induction m with
  | zero => exact ⟨fun c d _ _ _ k e => .stuck, fun c d _ _ _ k e => .stuck, fun c d _ _ _ k e => .stuck⟩
  | succ m ih =>
    refine ⟨fun c d h hn G k e => ?_, fun c d h hn G k e => ?_, fun c d h hn G k s => ?_⟩
    · subst h
      exact sim_evF G T (ih.ev c d rfl hn G) (ih.tr c d rfl hn G) (fun c' d' h h' g => Z.call c' d' h (h'.trans hn) g) (fun k elt t iter ifs sc pos => sim_comp G (ih.ev c d rfl hn G) (fun c' h h' g => Z.cmp c' d h (h'.trans hn) g)) e
    · subst h
      exact sim_trF G T (ih.ev c d rfl hn G) (ih.tr c d rfl hn G) e
    · subst h
      exact sim_exF G T (ih.ev c d rfl hn G) (ih.tr c d rfl hn G) (ih.ex c d rfl hn G) (Z.whl c d rfl hn G) (fun c' h h' g => Z.frl c' d h (h'.trans hn) g) s
theorem sound_up {θ : Tp} (T : AllOK θ) (T2 : SupAll θ) {n : Nat} (Z : Sound θ n) : Sound θ (n + 1) := by
  have ZE := sound_E T Z 40
  refine ⟨fun c d h hn G k t b => ?_, fun c d h hn G => ?_, fun c d h hn G => ?_, fun c d h hn G f k xs vs kx kv hv hk => ?_⟩
  · subst h
    intro k₁ st s K X o R l Rl P HQ HE
    exact sim_whl (c := c.dn n) (ZE.tr (c.dn n) d rfl rfl G.dn) (ZE.ex (c.dn n) d rfl rfl G.dn) (fun k => Z.whl (c.dn n) d rfl rfl G.dn k t b) k₁ st s K X o R l Rl (node_dn hn P (fun _ h => h) rfl) (HQ.dn hn) (HE.dn hn)
  · subst h
    intro t b it j p L k st s K X o R H hok Rl P HQ HE
    exact sim_frl (c := c.dn n) G.dn T (fun c' h h' g => ZE.ev c' d h h' g) (fun c' h h' g => ZE.ex c' d h h' g) (Z.frl (c.dn n) d rfl rfl G.dn) H hok Rl (node_dn hn P (fun _ h => h) rfl) (HQ.dn hn) (HE.dn hn)
  · subst h
    intro elt t iter ifs sc pos it j p i x L k st s K X o Q H hok hx Rl P HQ HE
    exact sim_cmpF (c := c.dn n) G.dn T (fun c' h h' g => ZE.ev c' d h h' g) (fun c' h h' g => ZE.tr c' d h h' g) (Z.cmp (c.dn n) d rfl rfl G.dn) H hok hx Rl (node_dn hn P (fun _ h => h) rfl) (HQ.dn hn) (HE.dn hn)
  · subst h
    have hroom : c.A.depth < recursionLimit := by
      have := G.2.2
      show c.A.depth < 1000
      omega
    cases d with
    | zero => exact fun k₁ st s K X o Q _ _ P => P.elim
    | succ d =>
      intro k₁ st s KK XX o Q l R P HQ
      have P : Y (c.dn n).l o (callM c.S (E c.S 40) d f xs kx st.heap KK XX) := node_dn hn P (fun _ h => h) rfl
      have HQ : AftC (c.dn n) k₁ st.loc s KK XX o Q := ⟨fun k' v b hp h' tk P l R' hc => HQ.1 k' v b hp h' tk (by show Y ⟨c.S, c.lv⟩ o _; rw [hn]; exact Y_up P) l R' hc, fun x hp P => HQ.2 x hp (by show Y ⟨c.S, c.lv⟩ o _; rw [hn]; exact Y_up P)⟩
      refine (show SimCode (c.dn n) k (.call (.ref (c.af f)) ⟨vs, kv⟩) (callM c.S (E c.S 40) d f xs kx) from ?_) k₁ st s KK XX o Q l R P HQ
      cases hfn : c.S.fns f with
      | none =>
        intro k₁ st s KK XX o Q _ _ P
        have P : Y (c.dn n).l o (oB (c.S.fns f) fun fn => oB (bindA fn xs kx) fun b => bodyM (E c.S 40) d fn (entry c.S fn.scope b st.heap) (outK KK) (errK XX)) := P
        rw [hfn] at P
        exact P.elim
      | some fn =>
        have G1 : Good (c.dn n) := (GoodD1.dn G).1
        cases hsup : fn.sup with
        | none =>
          refine code_callFn G1 hroom (T.fn f fn hfn hsup) hfn (fun env g k h => ?_) hv hk
          have G' := GoodD.callee (GoodD1.dn G) h
          unfold bodyM
          rw [hsup]
          exact sim_exs (c := calleeC (c.dn n) env g) (ZE.ex (calleeC (c.dn n) env g) d rfl rfl G') fn.body
        | some gk =>
          exact code_callSup G1 hroom (T2 f fn gk.1 gk.2 hfn hsup) hfn hsup (fun env g' h k xs vs hv => Z.call (calleeC (c.dn n) env g') d rfl rfl (GoodD.callee (GoodD1.dn G) h).one gk.1 k xs vs [] [] hv rfl) (fun env g' h k => by
            have G' := GoodD.callee (GoodD1.dn G) h
            exact sim_exs (c := calleeC (c.dn n) env g') (ZE.ex (calleeC (c.dn n) env g') d rfl rfl G') _) hv hk
theorem sound {θ : Tp} (T : AllOK θ) (T2 : SupAll θ) (n : Nat) : Sound θ n := by
  induction n with
  | zero => exact ⟨fun c d _ hn _ k t b k₁ st s K X o Q _ _ P => by have P : Y ⟨c.S, c.lv⟩ o _ := P; rw [hn] at P; exact P.elim, fun c d _ hn _ t b it j p L k st s K X o R _ _ _ P => by have P : Y ⟨c.S, c.lv⟩ o _ := P; rw [hn] at P; exact P.elim,
    fun c d _ hn _ elt t iter ifs sc pos it j p i x L k st s K X o Q _ _ _ _ P => by have P : Y ⟨c.S, c.lv⟩ o _ := P; rw [hn] at P; exact P.elim, fun c d _ hn _ f k xs vs kx kv _ _ k₁ st s K X o Q _ _ P => by
      have P : Y ⟨c.S, c.lv⟩ o _ := P
      rw [hn] at P
      cases d <;> exact P.elim⟩
  | succ n ih => exact sound_up T T2 ih
end Mine
end
section
open PySem PySem.W PySem.Calls PyProof.Rows
set_option Elab.async false
set_option linter.unusedVariables false
set_option linter.unusedSectionVars false
set_option genSizeOf false
set_option linter.constructorNameAsVariable false
namespace Mine
noncomputable def Yes (S : Stat) (o : Except V V × List O) (t : Out) : Prop := ∃ n, Y ⟨S, n⟩ o t
noncomputable def CallS (S : Stat) (d f : Nat) (vs : List V) (kws : List (Str × V)) (h : List O) (v : V) (h' : List O) : Prop := ∀ k e o, Yes S o (k v h') → Yes S o (.call d f vs kws h k e)
noncomputable def WhlS (S : Stat) (d : Nat) (t : Expr) (b : List Stmt) (s : St) (f : Fl) (s' : St) : Prop := ∀ k e o, Yes S o (k f s') → Yes S o (.whl d t b s k e)
noncomputable def FrlS (S : Stat) (d : Nat) (t : Expr) (it : It) (j : Nat) (b : List Stmt) (s : St) (f : Fl) (s' : St) : Prop := ∀ k e o, Yes S o (k f s') → Yes S o (.frl d t it j b s k e)
noncomputable def CmpS (S : Stat) (d : Nat) (elt t : Expr) (ifs : List Expr) (it : It) (j i : Nat) (s s' : St) : Prop := ∀ k e o, Yes S o (k () s') → Yes S o (.cmp d elt t ifs it j i s k e)
inductive Item where
  | a (n : Nat)
  | t | f
  | v (u : U) (x : u.T)
  | c (v : V) (h : List O)
  | i
  | w (f : Fl) (s : St)
  | m (s : St)
noncomputable def castU : (u u' : U) → u.T → Option u'.T
  | .nat, .nat, x => some x
  | .vals, .vals, x => some x
  | .strs, .strs, x => some x
  | .ob, .ob, x => some x
  | .val, .val, x => some x
  | .oval, .oval, x => some x
  | .ents, .ents, x => some x
  | .bool, .bool, x => some x
  | _, _, _ => none
noncomputable def auto : Nat → Out → Out
  | 0, t => t
  | n + 1, .ite b x y => auto n (bif b then x else y)
  | n + 1, .opt _ (some a) k => auto n (k a)
  | _ + 1, t => t
noncomputable def also (p : Prop) (q : Prop × Out) : Prop × Out := (p ∧ q.1, q.2)
noncomputable def pick (S : Stat) : List Item → Out → Prop × Out
  | [], t => (True, t)
  | q :: r, t => match q, t with
    | .a n, t => pick S r (auto n t)
    | .t, .ite b x _ => also (b = true) (pick S r x)
    | .f, .ite b _ y => also (b = false) (pick S r y)
    | .v u x, .opt u' o k => match castU u u' x with
      | some z => also (o = some z) (pick S r (k z))
      | none => (False, .none)
    | .c v h', .call d f vs kws h k _ => also (CallS S d f vs kws h v h') (pick S r (k v h'))
    | .i, t => pick S r (stp S t)
    | .w f s', .whl d t b s k _ => also (WhlS S d t b s f s') (pick S r (k f s'))
    | .w f s', .frl d t it j b s k _ => also (FrlS S d t it j b s f s') (pick S r (k f s'))
    | .m s', .cmp d elt t ifs it j i s k _ => also (CmpS S d elt t ifs it j i s s') (pick S r (k () s'))
    | _, _ => (False, .none)
theorem Y_auto {l : Lv} {o : Except V V × List O} (n : Nat) : ∀ t, Y l o (auto n t) → Y l o t := by
  induction n with
  | zero => exact fun t h => h
  | succ n ih =>
    intro t h
    cases t with
    | ite b x y =>
      cases b with
      | true => exact ih x h
      | false => exact ih y h
    | opt u a k =>
      cases a with
      | none => exact h
      | some a => exact ih (k a) h
    | _ => exact h
theorem Yes.stp {S : Stat} {o : Except V V × List O} {t : Out} (h : Yes S o (stp S t)) : Yes S o t := by
  refine h.elim fun n h => ?_
  cases t <;> first | exact ⟨n, h⟩ | exact ⟨n + 1, h⟩
theorem pick_ok {S : Stat} {o : Except V V × List O} : ∀ (is : List Item) (t : Out), (pick S is t).1 → Yes S o (pick S is t).2 → Yes S o t
  | [], t, _, h => h
  | q :: r, t, hp, h => by
    have ih := pick_ok (S := S) (o := o) r
    cases q with
    | a n => exact (ih _ hp h).imp fun m h => Y_auto n t h
    | i => exact (ih _ hp h).stp
    | t =>
      cases t with
      | ite b x y =>
        have hp : b = true ∧ (pick S r x).1 := hp
        have := ih x hp.2 h
        rw [hp.1]
        exact this
      | _ => exact hp.elim
    | f =>
      cases t with
      | ite b x y =>
        have hp : b = false ∧ (pick S r y).1 := hp
        have := ih y hp.2 h
        rw [hp.1]
        exact this
      | _ => exact hp.elim
    | v u x =>
      cases t with
      | opt u' a k =>
        have hp : (match castU u u' x with
          | some z => also (a = some z) (pick S r (k z))
          | none => (False, .none)).1 := hp
        have h : Yes S o (match castU u u' x with
          | some z => also (a = some z) (pick S r (k z))
          | none => (False, .none)).2 := h
        cases e : castU u u' x with
        | none => rw [e] at hp; exact hp.elim
        | some z =>
          rw [e] at hp h
          have hp : a = some z ∧ (pick S r (k z)).1 := hp
          have := ih _ hp.2 h
          rw [hp.1]
          exact this
      | _ => exact hp.elim
    | c v h' =>
      cases t with
      | call d f vs kws h1 k e =>
        have hp : CallS S d f vs kws h1 v h' ∧ (pick S r (k v h')).1 := hp
        exact hp.1 k e o (ih _ hp.2 h)
      | _ => exact hp.elim
    | w f s' =>
      cases t with
      | whl d t b s k e =>
        have hp : WhlS S d t b s f s' ∧ (pick S r (k f s')).1 := hp
        exact hp.1 k e o (ih _ hp.2 h)
      | frl d t it j b s k e =>
        have hp : FrlS S d t it j b s f s' ∧ (pick S r (k f s')).1 := hp
        exact hp.1 k e o (ih _ hp.2 h)
      | _ => exact hp.elim
    | m s' =>
      cases t with
      | cmp d elt t ifs it j i s k e =>
        have hp : CmpS S d elt t ifs it j i s s' ∧ (pick S r (k () s')).1 := hp
        exact hp.1 k e o (ih _ hp.2 h)
      | _ => exact hp.elim
theorem pick_to {S : Stat} {o : Except V V × List O} {is : List Item} {t t' : Out} {p : Prop} (hp : p) (e : pick S is t = (p, t')) (h : Yes S o t') : Yes S o t :=
  pick_ok is t (by rw [e]; exact hp) (by rw [e]; exact h)
theorem CallS.by {S : Stat} {d f : Nat} {vs : List V} {kws : List (Str × V)} {h : List O} {v : V} {h' : List O} (is : List Item) {p : Prop} (hp : p) (e : ∀ k e, pick S is (callM S (E S 40) d f vs kws h k e) = (p, k v h')) : CallS S d f vs kws h v h' :=
  fun k e' o y => (pick_to hp (e k e') y).stp
theorem WhlS.by {S : Stat} {d : Nat} {t : Expr} {b : List Stmt} {s : St} {f : Fl} {s' : St} (is : List Item) {p : Prop} (hp : p) (e : ∀ k e, pick S is (whlF (E S 40) d t b s k e) = (p, k f s')) : WhlS S d t b s f s' :=
  fun k e' o y => (pick_to hp (e k e') y).stp
theorem WhlS.go {S : Stat} {d : Nat} {t : Expr} {b : List Stmt} {s s1 : St} {f : Fl} {s' : St} (is : List Item) (n : WhlS S d t b s1 f s') {p : Prop} (hp : p) (e : ∀ k e, pick S is (whlF (E S 40) d t b s k e) = (p, .whl d t b s1 k e)) : WhlS S d t b s f s' :=
  fun k e' o y => (pick_to hp (e k e') (n k e' o y)).stp
theorem FrlS.by {S : Stat} {d : Nat} {t : Expr} {it : It} {j : Nat} {b : List Stmt} {s : St} {f : Fl} {s' : St} (is : List Item) {p : Prop} (hp : p) (e : ∀ k e, pick S is (frlF S (E S 40) d t it j b s k e) = (p, k f s')) : FrlS S d t it j b s f s' :=
  fun k e' o y => (pick_to hp (e k e') y).stp
theorem FrlS.go {S : Stat} {d : Nat} {t : Expr} {it : It} {j : Nat} {b : List Stmt} {s s1 : St} {f : Fl} {s' : St} (is : List Item) (n : FrlS S d t it (j + 1) b s1 f s') {p : Prop} (hp : p) (e : ∀ k e, pick S is (frlF S (E S 40) d t it j b s k e) = (p, .frl d t it (j + 1) b s1 k e)) : FrlS S d t it j b s f s' :=
  fun k e' o y => (pick_to hp (e k e') (n k e' o y)).stp
theorem CmpS.by {S : Stat} {d : Nat} {elt t : Expr} {ifs : List Expr} {it : It} {j i : Nat} {s s' : St} (is : List Item) {p : Prop} (hp : p) (e : ∀ k e, pick S is (cmpF S (E S 40) d elt t ifs it j i s k e) = (p, k () s')) : CmpS S d elt t ifs it j i s s' :=
  fun k e' o y => (pick_to hp (e k e') y).stp
theorem CmpS.go {S : Stat} {d : Nat} {elt t : Expr} {ifs : List Expr} {it : It} {j i : Nat} {s s1 s' : St} (is : List Item) (n : CmpS S d elt t ifs it (j + 1) i s1 s') {p : Prop} (hp : p) (e : ∀ k e, pick S is (cmpF S (E S 40) d elt t ifs it j i s k e) = (p, .cmp d elt t ifs it (j + 1) i s1 k e)) : CmpS S d elt t ifs it j i s s' :=
  fun k e' o y => (pick_to hp (e k e') (n k e' o y)).stp
end Mine
end
section
open PySem PySem.W PyProof.Rows
set_option linter.unusedVariables false
set_option maxRecDepth 100000
namespace Mine
noncomputable def topB : List Stmt := PySem.Challenge.pw_te0006_03.main.body
noncomputable def sAt : List Stmt → Nat → Stmt
  | [], _ => .Pass default
  | s :: _, 0 => s
  | _ :: r, n + 1 => sAt r n
noncomputable def dOf : Stmt → Option (Arguments × List Stmt × Scope)
  | .FunctionDef _ a b _ _ _ sc _ _ _ => some (a, b, sc)
  | _ => none
noncomputable def bOf : Stmt → List Stmt
  | .ClassDef _ _ _ b _ _ _ _ _ _ _ => b
  | _ => []
noncomputable def eOf : Stmt → Expr
  | .Assign _ e _ => e
  | _ => .Constant .none 0 default
noncomputable def dfltV : Expr → V
  | .Constant .none _ _ => .none
  | .Constant (.int i) _ _ => .int i
  | .Constant (.str x) _ _ => .str x
  | _ => .undef
noncomputable def mkFn (sup : Option (Nat × Nat)) (d : Option (Arguments × List Stmt × Scope)) : Option Fn := d.map fun (a, b, sc) => { params := a.args.map (·.arg), dflts := a.defaults.map dfltV, body := b, scope := sc, sup }
noncomputable def dAt (i : Nat) (j : Option Nat) : Option (Arguments × List Stmt × Scope) := dOf (match j with | none => sAt topB i | some j => sAt (bOf (sAt topB i)) j)
noncomputable def places : List (Option (Nat × Nat) × Nat × Option Nat) := [
  (none, 2, some 0),
  (none, 4, some 0),
  (none, 7, none),
  (none, 8, some 0),
  (none, 8, some 1),
  (none, 8, some 2),
  (none, 8, some 3),
  (none, 8, some 4),
  (none, 8, some 5),
  (none, 8, some 6),
  (none, 10, some 0),
  (none, 14, some 1),
  (none, 30, some 1),
  (none, 33, some 0),
  (some (3, 8), 34, some 0),
  (none, 34, some 3),
  (none, 34, some 4),
  (none, 34, some 5),
  (none, 34, some 6),
  (none, 34, some 7),
  (none, 34, some 8),
  (none, 34, some 9),
  (none, 34, some 10),
  (none, 34, some 11),
  (none, 34, some 12),
  (none, 34, some 13),
  (none, 34, some 25),
  (none, 34, some 34),
  (none, 34, some 35),
  (none, 34, some 36),
  (none, 34, some 41),
  (none, 34, some 39),
  (none, 34, some 40),
  (none, 34, some 45),
  (none, 34, some 61),
  (none, 34, some 64),
  (none, 34, some 65),
  (none, 34, some 66),
  (none, 34, some 72),
  (none, 36, none),
  (none, 37, none),
  (none, 38, none),
  (none, 39, none),
  (none, 40, none),
  (none, 41, none),
  (none, 42, none),
  (none, 43, none),
  (none, 44, none)]
noncomputable def fnsT (k : Nat) : Option Fn := places[k]?.bind fun q => mkFn q.1 (dAt q.2.1 q.2.2)
noncomputable def fnN (k : Nat) : Fn := (fnsT k).getD ⟨[], [], [], ⟨.function, [], false, false, []⟩, none⟩
noncomputable def bodyN (k : Nat) : List Stmt := (fnN k).body
noncomputable def cls0 : Cls := { kind := .rcd, init := 0, attrs := [(("name" : Str), .free), (("index" : Str), .free), (("line" : Str), .free), (("column" : Str), .free), (("buffer" : Str), .free), (("pointer" : Str), .free)] }
noncomputable def cls1 : Cls := { kind := .rcd, init := 11, attrs := [(("start_mark" : Str), .free), (("end_mark" : Str), .free), (("encoding" : Str), .free)] }
noncomputable def cls2 : Cls := { kind := .rcd, init := 10, attrs := [(("start_mark" : Str), .free), (("end_mark" : Str), .free)] }
noncomputable def cls3 : Cls := { kind := .rcd, init := 10, attrs := [(("start_mark" : Str), .free), (("end_mark" : Str), .free)] }
noncomputable def cls4 : Cls := { kind := .rcd, init := 10, attrs := [(("start_mark" : Str), .free), (("end_mark" : Str), .free)] }
noncomputable def cls5 : Cls := { kind := .rcd, init := 10, attrs := [(("start_mark" : Str), .free), (("end_mark" : Str), .free)] }
noncomputable def cls6 : Cls := { kind := .rcd, init := 12, attrs := [(("value" : Str), .free), (("plain" : Str), .free), (("start_mark" : Str), .free), (("end_mark" : Str), .free), (("style" : Str), .free)] }
noncomputable def cls7 : Cls := { kind := .rcd, init := 13, attrs := [(("token_number" : Str), .free), (("required" : Str), .free), (("index" : Str), .free), (("line" : Str), .free), (("column" : Str), .free), (("mark" : Str), .free)] }
noncomputable def cls8 : Cls := { kind := .self, init := 14, attrs := [(("name" : Str), .free), (("stream" : Str), .free), (("stream_pointer" : Str), .free), (("eof" : Str), .free), (("buffer" : Str), .free), (("pointer" : Str), .free), (("raw_buffer" : Str), .free), (("raw_decode" : Str), .free), (("encoding" : Str), .free), (("index" : Str), .free), (("line" : Str), .free), (("column" : Str), .free), (("done" : Str), .free), (("flow_level" : Str), .free), (("tokens" : Str), .free), (("tokens_taken" : Str), .free), (("indent" : Str), .free), (("indents" : Str), .free), (("allow_simple_key" : Str), .free), (("possible_simple_keys" : Str), .free), (("peek" : Str), .fn 4), (("prefix" : Str), .fn 5), (("forward" : Str), .fn 6), (("get_mark" : Str), .fn 7), (("check_printable" : Str), .fn 8), (("update" : Str), .fn 9), (("get_token" : Str), .fn 15), (("need_more_tokens" : Str), .fn 16), (("fetch_more_tokens" : Str), .fn 17), (("next_possible_simple_key" : Str), .fn 18), (("stale_possible_simple_keys" : Str), .fn 19), (("save_possible_simple_key" : Str), .fn 20), (("remove_possible_simple_key" : Str), .fn 21), (("unwind_indent" : Str), .fn 22), (("add_indent" : Str), .fn 23), (("fetch_stream_start" : Str), .fn 24), (("fetch_stream_end" : Str), .fn 25), (("fetch_block_entry" : Str), .fn 26), (("fetch_single" : Str), .fn 27), (("fetch_double" : Str), .fn 28), (("fetch_flow_scalar" : Str), .fn 29), (("check_block_entry" : Str), .fn 30), (("check_document_start" : Str), .fn 31), (("check_document_end" : Str), .fn 32), (("scan_to_next_token" : Str), .fn 33), (("scan_flow_scalar" : Str), .fn 34), (("scan_flow_scalar_non_spaces" : Str), .fn 35), (("scan_flow_scalar_spaces" : Str), .fn 36), (("scan_flow_scalar_breaks" : Str), .fn 37), (("scan_line_break" : Str), .fn 38), (("ESCAPE_REPLACEMENTS" : Str), .sta 0), (("ESCAPE_CODES" : Str), .sta 1)] }
noncomputable def clsT (k : Nat) : Option Cls := [cls0, cls1, cls2, cls3, cls4, cls5, cls6, cls7, cls8][k]?
noncomputable def globL : List (Str × V) := [
  (("_is_printable" : Str), .fn 2),
  (("_law_CODES" : Str), .fn 39),
  (("_law_SHORT" : Str), .fn 40),
  (("_law_ENDS" : Str), .fn 41),
  (("_law_PADS" : Str), .fn 42),
  (("_law_LEADS" : Str), .fn 43),
  (("_law_code" : Str), .fn 44),
  (("_law_figures" : Str), .fn 45),
  (("_law_ways" : Str), .fn 46),
  (("law" : Str), .fn 47),
  (("Mark" : Str), .cls 0),
  (("StreamStartToken" : Str), .cls 1),
  (("StreamEndToken" : Str), .cls 2),
  (("BlockSequenceStartToken" : Str), .cls 3),
  (("BlockEndToken" : Str), .cls 4),
  (("BlockEntryToken" : Str), .cls 5),
  (("ScalarToken" : Str), .cls 6),
  (("SimpleKey" : Str), .cls 7),
  (("Scanner" : Str), .cls 8),
  (("len" : Str), .bi "len"),
  (("isinstance" : Str), .bi "isinstance"),
  (("chr" : Str), .bi "chr"),
  (("all" : Str), .bi "all"),
  (("range" : Str), .ty "range"),
  (("enumerate" : Str), .ty "enumerate"),
  (("list" : Str), .ty "list"),
  (("int" : Str), .ty "int"),
  (("str" : Str), .ty "str")]
noncomputable def dictV : Expr → List (V × V)
  | .Dict ks vs _ => (ks.zip vs).map fun p => ((p.1.map dfltV).getD .undef, dfltV p.2)
  | _ => []
noncomputable def listV : Expr → List V
  | .List es _ => es.map dfltV
  | _ => []
noncomputable def staT : Nat → O
  | 0 => .dict (dictV (eOf (sAt (bOf (sAt topB 34)) 62)))
  | 1 => .dict (dictV (eOf (sAt (bOf (sAt topB 34)) 63)))
  | _ => .dead
noncomputable def S (ns : List Int) : Stat := { fns := fnsT, cls := clsT, glob := fun x => lkp x globL, sta := fun n => match n with | 9 => .list (ns.map .int) | n => staT n }
noncomputable def lawId : Nat := 47
end Mine
end
section
open PySem PySem.W PySem.Calls PyProof.Rows
set_option Elab.async false
set_option linter.unusedVariables false
set_option linter.unusedSectionVars false
set_option maxRecDepth 100000
namespace Mine
noncomputable def AllL (P : Nat → Prop) : List Nat → Prop
  | [] => True
  | i :: l => P i ∧ AllL P l
theorem AllL.get {P : Nat → Prop} : ∀ {l : List Nat}, AllL P l → ∀ {i : Nat}, i ∈ l → P i
  | _ :: _, h, _, .head _ => h.1
  | _ :: _, h, _, .tail _ m => AllL.get h.2 m
noncomputable def objAt (K : Frag) (a : Addr) : Obj := (K.lookup a).getD { cls := .none, dict := none, data := .plain, slots := #[] }
noncomputable def fdOf (K : Frag) (a : Addr) : FuncData := match (objAt K a).data with | .func fd => fd | _ => { name := "", qualname := "", params := ⟨[], [], none, [], [], none, []⟩, body := .stmts [], scope := ⟨.function, [], false, false, []⟩, globals := 0, closure := [], defaults := .none, kwdefaults := .none, doc := .none, pyModule := .none, annotations := none, code := .none, closureTuple := .none, builtins := 0 }
noncomputable def concB : V → Value → Bool
  | .none, .none => true
  | .bool a, .bool b => a == b
  | .int a, .int b _ => decide (a = b)
  | .str a, .str b _ => decide (a = b)
  | _, _ => false
noncomputable def concsB : List V → List Value → Bool
  | [], [] => true
  | x :: xs, v :: vs => concB x v && concsB xs vs
  | _, _ => false
theorem concB_sound {θ : Tp} {k : Kn} {x : V} {v : Value} (h : concB x v = true) : Conc θ k x v := by
  unfold concB at h
  split at h
  · rfl
  · cases eq_of_beq h; rfl
  · cases of_decide_eq_true h; exact ⟨_, rfl⟩
  · cases of_decide_eq_true h; exact ⟨_, rfl⟩
  · cases h
theorem concsB_sound {θ : Tp} {k : Kn} : ∀ {xs : List V} {vs : List Value}, concsB xs vs = true → Concs θ k xs vs
  | [], [], _ => rfl
  | _ :: _, _ :: _, h => by
    unfold concsB at h
    rw [Bool.and_eq_true] at h
    exact .cons (concB_sound h.1) (concsB_sound h.2)
  | [], _ :: _, h => by cases h
  | _ :: _, [], h => by cases h
noncomputable def rowsB : List (V × V) → List DictEntry → Bool
  | [], [] => true
  | (.str n, x) :: es, ⟨h, .str m _, v⟩ :: ds => decide (n = m) && concB x v && rowsB es ds
  | _, _ => false
noncomputable def strK : V → Str
  | .str n => n
  | _ => ""
theorem rows_of {θ : Tp} {k : Kn} : ∀ {es : List (V × V)} {ds : List DictEntry}, rowsB es ds = true → ds.map (·.hash) = es.map (fun p => hashStr θ.w (strK p.1)) →
    ∃ kvs : List (Str × Value), Kv V.str θ k es kvs ∧ Pairs (strKind θ.prog θ.w) ds kvs ∧ (∀ e ∈ ds, ∃ k, (strKind θ.prog θ.w).is k e.key = true ∧ e.hash = (strKind θ.prog θ.w).hash k) ∧ kvs.map (·.1) = es.map fun p => strK p.1 := by
  intro es
  induction es with
  | nil =>
    intro ds h _
    cases ds with
    | nil => exact ⟨[], rfl, .nil, (fun _ h => nomatch h), rfl⟩
    | cons => cases h
  | cons p es ih =>
    intro ds h hh
    obtain ⟨x, y⟩ := p
    cases ds with
    | nil => cases x <;> cases h
    | cons d ds =>
      obtain ⟨hs, q, v⟩ := d
      cases x <;> first | (cases h; done) | skip
      cases q <;> first | (cases h; done) | skip
      rename_i n m t
      unfold rowsB at h
      simp only [Bool.and_eq_true] at h
      obtain ⟨⟨e1, e2⟩, e3⟩ := h
      cases of_decide_eq_true e1
      simp only [List.map_cons, List.cons.injEq] at hh
      obtain ⟨h1, h2⟩ := hh
      obtain ⟨kvs, a, b, c, e⟩ := ih e3 h2
      have hi : (strKind θ.prog θ.w).is n (.str n t) = true := by
        show Value.isStrOf n (.str n t) = true
        simp [Value.isStrOf]
      refine ⟨(n, v) :: kvs, ⟨n, v, kvs, rfl, concB_sound e2, a, rfl⟩, .cons hi rfl b, fun z hz => ?_, congrArg (List.cons n) e⟩
      rcases List.mem_cons.mp hz with rfl | hz
      · exact ⟨n, hi, h1⟩
      · exact c z hz
noncomputable def nAt (o : Obj) : Nat := match o.data with | .seq _ n => n | .dict _ n => n | _ => 0
noncomputable def esAt (o : Obj) : List DictEntry := match o.data with | .dict es _ => es.toList | _ => []
noncomputable def idx48 : List Nat := [0, 1, 2, 3, 4, 5, 6, 7, 8, 9, 10, 11, 12, 13, 15, 16, 17, 18, 19, 20, 21, 22, 23, 24, 25, 26, 27, 28, 29, 30, 31, 32, 33, 34, 35, 36, 37, 38, 39, 40, 41, 42, 43, 44, 45, 46, 47]
noncomputable def afT : Nat → Addr
  | 0 => 35
  | 1 => 85
  | 2 => 130
  | 3 => 144
  | 4 => 152
  | 5 => 160
  | 6 => 168
  | 7 => 175
  | 8 => 182
  | 9 => 189
  | 10 => 210
  | 11 => 275
  | 12 => 496
  | 13 => 527
  | 14 => 550
  | 15 => 573
  | 16 => 580
  | 17 => 587
  | 18 => 594
  | 19 => 601
  | 20 => 608
  | 21 => 615
  | 22 => 622
  | 23 => 629
  | 24 => 636
  | 25 => 643
  | 26 => 727
  | 27 => 790
  | 28 => 797
  | 29 => 804
  | 30 => 839
  | 31 => 825
  | 32 => 832
  | 33 => 867
  | 34 => 979
  | 35 => 989
  | 36 => 996
  | 37 => 1003
  | 38 => 1045
  | 39 => 1057
  | 40 => 1064
  | 41 => 1071
  | 42 => 1078
  | 43 => 1085
  | 44 => 1092
  | 45 => 1097
  | 46 => 1104
  | 47 => 1111
  | _ => 1111
noncomputable def acT : Nat → Addr
  | 0 => 53
  | 1 => 278
  | 2 => 290
  | 3 => 302
  | 4 => 326
  | 5 => 410
  | 6 => 499
  | 7 => 530
  | 8 => 1048
  | _ => 53
noncomputable def asA (a : Addr) : Nat → Addr
  | 0 => 980
  | 1 => 982
  | _ => a
noncomputable def th (w : World) (K : Frag) (p : Program) (base : Heap) (ns : List Int) (a : Addr) (loose : List Str) (mg mb : Str → Option Value) : Tp :=
  { prog := PySem.Challenge.rw_te0006_03.row.prog, w, base, K, S := S ns, af := afT, ac := acT, as := asA a, p, loose, mg, mb }
noncomputable def fdT (K : Frag) (f : Nat) : FuncData := fdOf K (afT f)
noncomputable abbrev FnE (K : Frag) (f : Nat) : Prop :=
  K.lookup (afT f) = some ⟨(objAt K (afT f)).cls, (objAt K (afT f)).dict, .func (fnX (fdT K f).name (fdT K f).qualname (fdT K f).params (fnN f).body (fnN f).scope [] (fdT K f).defaults (fdT K f).kwdefaults (fdT K f).doc (fdT K f).pyModule (fdT K f).annotations (fdT K f).code (fdT K f).closureTuple), (objAt K (afT f)).slots⟩
noncomputable def dfB (K : Frag) (d : Value) (xs : List V) : Bool := match d with
  | .none => xs.isEmpty
  | .ref T => (match K.lookup T with | some ob => (match ob.data with | .seq vs _ => concsB xs vs.toList | _ => false) | none => false)
  | _ => false
noncomputable def fnB (K : Frag) (f : Nat) : Bool :=
  codeIn K (fdT K f).code (fdT K f).qualname && (fdT K f).params.posonlyargs.isEmpty && (fdT K f).params.kwonlyargs.isEmpty && (fdT K f).params.vararg.isNone && (fdT K f).params.kwarg.isNone && decide ((fdT K f).params.args.map (·.arg) = (fnN f).params) && dfB K (fdT K f).defaults (fnN f).dflts
noncomputable def fnS (f : Nat) : Bool :=
  decide (fnN f).params.Nodup && decide ((fnN f).scope.names.map (·.1)).Nodup && !((fnN f).scope.names.map (·.1)).contains ("__debug__" : Str) && !(fnN f).scope.isCoroutine && !(fnN f).scope.isGenerator && (match (fnN f).scope.kind with | .function => true | _ => false) &&
  (fnN f).params.all fun p => (fnN f).scope.names.any fun q => decide (q.1 = p) && (match q.2 with | .local => true | .cell => true | _ => false)
theorem fnS_all : (List.range 48).all fnS = true := by kernel_rfl
noncomputable def attrB (K : Frag) (k : Nat) (n : Str) : CA → Bool
  | .free => plainGet K (acT k) n && hasDictIn K (acT k) && (takerIn K (acT k) n == some none) && (match findIn K (.ref (acT k)) n with | some attr => noGet K attr | none => false)
  | .fn f => plainGet K (acT k) n && (findIn K (.ref (acT k)) n == some (some (.ref (afT f)))) && isFn K (.ref (afT f))
  | .sta m => plainGet K (acT k) n && hasDictIn K (acT k) && (findIn K (.ref (acT k)) n == some (some (.ref (asA 0 m)))) && (specialIn K (.ref (asA 0 m)) "__get__" == some none) && !copiedNames.contains n && decide (m < 2)
noncomputable def clsN (k : Nat) : Cls := (clsT k).getD cls0
noncomputable def clsB (K : Frag) (k : Nat) : Bool :=
  (clsN k).attrs.all (fun p => attrB K k p.1 p.2) && (findIn K (.ref (acT k)) "__setattr__" == some (some (.builtin "object.__setattr__"))) && plainOver K (acT k) &&
  isIn K (.ref (acT k)) (acT k) && plainGet K (acT k) "__class__" && hasDictIn K (acT k) && (findIn K (.ref (acT k)) "__class__" == some (some (.builtin "object.__class__"))) && (mroIn K (acT k) (.type "object") == some true) &&
  makesIn K (acT k) && (findIn K (.ref (acT k)) "__init__" == some (some (.ref (afT (clsN k).init)))) && (typeIn K (.ref (afT (clsN k).init)) == some (.type "function")) && keepIn K (.ref (acT k))
noncomputable def notB (K : Frag) (j : Nat) : Bool := (List.range 9).all fun k => j == k || kin_not K (acT j) (acT k)
noncomputable def glB (K : Frag) (q : Str × V) : Bool := match q.2 with
  | .fn f => nsIn K mainGlobals q.1 == some (some (.ref (afT f)))
  | .cls k => nsIn K mainGlobals q.1 == some (some (.ref (acT k)))
  | .bi id => nsIn K mainGlobals q.1 == some none
  | .ty id => nsIn K mainGlobals q.1 == some none
  | _ => false
noncomputable def glS (q : Str × V) : Prop := match q.2 with
  | .bi id => bootBuiltins q.1 = some (.builtin id) ∧ q.1 ≠ "__name__"
  | .ty id => bootBuiltins q.1 = some (.type id) ∧ q.1 ≠ "__name__"
  | _ => True
end Mine
end
section
open PySem PySem.W PySem.Calls PyProof.Rows
set_option Elab.async false
set_option linter.unusedVariables false
set_option linter.unusedSectionVars false
set_option maxRecDepth 100000
namespace Mine
noncomputable def posX : Stmt → Pos × Pos × Pos × Pos × Pos × Pos
  | .Expr (.Call (.Attribute (.Call (.Name _ p0) _ _ p1) _ p2) [.Name _ p3] _ p4) p5 => (p0, p1, p2, p3, p4, p5)
  | _ => default
noncomputable def cdaT (K : Frag) : Addr := match (fdT K 14).code with | .ref a => a | _ => 0
noncomputable def ccT (K : Frag) : Addr := ((fdT K 14).closure.head?.map (·.2)).getD 0
noncomputable def vsT (K : Frag) : Array Value := match (objAt K (cdaT K)).data with | .fields vs => vs | _ => #[]
noncomputable def fileT (K : Frag) : Str × Tok := match ((vsT K)[2]? : Option Value) with | some (.str f t) => (f, t) | _ => ("", 0)
noncomputable def cdDT (K : Frag) : ClassData := match (objAt K (acT 8)).data with | .cls cd => cd | _ => default
noncomputable def hd14 : Pos × Pos × Pos × Pos × Pos × Pos := posX (sAt (bodyN 14) 0)
noncomputable def supD (K : Frag) : SupD :=
  { oc := (objAt K (afT 14)).cls, od := (objAt K (afT 14)).dict, osl := (objAt K (afT 14)).slots, name := (fdT K 14).name, qual := (fdT K 14).qualname, params := (fdT K 14).params, dV := (fdT K 14).defaults, kV := (fdT K 14).kwdefaults, doc := (fdT K 14).doc, pm := (fdT K 14).pyModule, an := (fdT K 14).annotations, cdv := (fdT K 14).code, ct := (fdT K 14).closureTuple
    cda := cdaT K, cc := ccT K, ps := "self", px := "stream", ar := ((fdT K 14).params.args.head?).getD ⟨"", none, default⟩, rest := (bodyN 14).drop 1, p0 := hd14.1, p1 := hd14.2.1, p2 := hd14.2.2.1, p3 := hd14.2.2.2.1, p4 := hd14.2.2.2.2.1, p5 := hd14.2.2.2.2.2
    ccl := (objAt K (cdaT K)).cls, cdd := (objAt K (cdaT K)).dict, vs := vsT K, ccs := (objAt K (cdaT K)).slots, file := (fileT K).1, tf := (fileT K).2, cl := (objAt K (ccT K)).cls, cld := (objAt K (ccT K)).dict, csl := (objAt K (ccT K)).slots, D := acT 8, cdD := cdDT K }
structure SupK (K : Frag) : Prop where
  look : K.lookup (afT 14) = some ⟨(supD K).oc, (supD K).od, .func ((supD K).fd (fnN 14)), (supD K).osl⟩
  code : codeIn K (.ref (cdaT K)) (fdT K 14).qualname = true
  po : (fdT K 14).params.posonlyargs = []
  as : (fdT K 14).params.args.map (·.arg) = (fnN 14).params
  ko : (fdT K 14).params.kwonlyargs = []
  va : (fdT K 14).params.vararg = none
  ka : (fdT K 14).params.kwarg = none
  dV : (fdT K 14).defaults = .none
  ar : (fdT K 14).params.args.head? = some (supD K).ar
  arg : (supD K).ar.arg = "self"
  cda : K.lookup (cdaT K) = some ⟨(supD K).ccl, (supD K).cdd, .fields (vsT K), (supD K).ccs⟩
  vs : (vsT K)[2]? = some (.str (fileT K).1 (fileT K).2)
  file : ((PySem.Challenge.rw_te0006_03.row.prog.main.file : Str) == (fileT K).1) = true
  cc : K.lookup (ccT K) = some ⟨(supD K).cl, (supD K).cld, .cell (some (.ref (acT 8))), (supD K).csl⟩
  D : clsIn K (acT 8) = some (cdDT K)
  mro : mroIn K (acT 8) (.ref (acT 8)) = some true
  sup : ks_superIn K (acT 8) (acT 8) "__init__" = some (some (.ref (afT 3)))
  nosup : nsIn K mainGlobals "super" = some none
  third : nsIn K cStatics "thirdparty.any" = some none
  ty : typeIn K (.ref (afT 3)) = some (.type "function")
  fng : fnIn K (afT 3) = true
noncomputable def esN (n : Nat) : List (V × V) := match staT n with | .dict es => es | _ => []
structure StaK (w : World) (K : Frag) (n : Nat) : Prop where
  look : K.lookup (asA 0 n) = some ⟨.type "dict", none, .dict (esAt (objAt K (asA 0 n))).toArray (nAt (objAt K (asA 0 n))), #[]⟩
  rows : rowsB (esN n) (esAt (objAt K (asA 0 n))) = true
  hash : (esAt (objAt K (asA 0 n))).map (·.hash) = (esN n).map fun p => hashStr w (strK p.1)
structure Chk (w : World) (K : Frag) : Prop where
  fnE : AllL (FnE K) idx48
  fnB : idx48.all (fnB K) = true
  keep : (List.range 48).all (fun f => keepIn K (.ref (afT f))) = true
  cls : (List.range 9).all (clsB K) = true
  nots : (List.range 9).all (notB K) = true
  get : specialIn K (.builtin "object.__class__") "__get__" = some (some (.builtin "getset_descriptor.__get__"))
  takes : takesIn K (.builtin "object.__class__") = some true
  gl : globL.all (glB K) = true
  sup : SupK K
  st0 : StaK w K 0
  st1 : StaK w K 1
theorem fnsT_lt {k : Nat} {fn : Fn} (h : fnsT k = some fn) : k < 48 := by
  refine Nat.lt_of_not_le fun hk => ?_
  unfold fnsT at h
  rw [List.getElem?_eq_none (show places.length ≤ k from hk)] at h
  cases h
theorem fnN_of {k : Nat} {fn : Fn} (h : fnsT k = some fn) : fn = fnN k := by
  unfold fnN
  rw [h]; rfl
theorem clsT_lt {k : Nat} {q : Cls} (h : clsT k = some q) : k < 9 := by
  refine Nat.lt_of_not_le fun hk => ?_
  unfold clsT at h
  rw [List.getElem?_eq_none (show ([cls0, cls1, cls2, cls3, cls4, cls5, cls6, cls7, cls8] : List Cls).length ≤ k from hk)] at h
  cases h
theorem clsN_of {k : Nat} {q : Cls} (h : clsT k = some q) : q = clsN k := by
  unfold clsN
  rw [h]; rfl
theorem sup_none : (idx48.all fun k => (fnN k).sup.isNone) = true := by kernel_rfl
theorem sup_14 : (fnN 14).sup = some (3, 8) := by kernel_rfl
theorem in_idx {f : Nat} (h : f < 48) (h' : f ≠ 14) : f ∈ idx48 := by
  have q : ((List.range 48).all fun f => f == 14 || idx48.contains f) = true := by decide +kernel
  have := List.all_eq_true.mp q f (List.mem_range.mpr h)
  rw [Bool.or_eq_true] at this
  rcases this with e | e
  · exact absurd (eq_of_beq e) h'
  · exact List.contains_iff_mem.mp e
section
variable {w : World} {K : Frag} {p : Program} {base : Heap} {ns : List Int} {a : Addr} {loose : List Str} {mg mb : Str → Option Value}
theorem dfB_sound {θ : Tp} {d : Value} {xs : List V} (h : dfB θ.K d xs = true) : (d = .none ∧ xs = []) ∨ ∃ (T : Addr) (ob : Obj) (n : Nat) (vs : List Value), d = .ref T ∧ θ.K.lookup T = some ob ∧ ob.data = .seq (List.toArray vs) n ∧ Concs θ ⟨[], []⟩ xs vs := by
  unfold dfB at h
  split at h
  · exact .inl ⟨rfl, List.isEmpty_iff.mp h⟩
  · rename_i T
    split at h
    · rename_i ob hob
      split at h
      · rename_i vs n hd
        exact .inr ⟨T, ob, n, vs.toList, rfl, hob, by rw [hd], concsB_sound h⟩
      · cases h
    · cases h
  · cases h
theorem fnOK_of (C : Chk w K) {f : Nat} (hf : f < 48) (h' : f ≠ 14) : FnOK (th w K p base ns a loose mg mb) f (fnN f) := by
  have hi := in_idx hf h'
  have h1 := C.fnE.get hi
  have h2 := List.all_eq_true.mp C.fnB f hi
  have h3 := List.all_eq_true.mp fnS_all f (List.mem_range.mpr hf)
  have h4 := List.all_eq_true.mp C.keep f (List.mem_range.mpr hf)
  unfold fnB at h2
  unfold fnS at h3
  simp only [Bool.and_eq_true, decide_eq_true_eq, Bool.not_eq_true', Option.isNone_iff_eq_none, List.isEmpty_iff] at h2 h3
  obtain ⟨⟨⟨⟨⟨⟨a1, a2⟩, a3⟩, a4⟩, a5⟩, a6⟩, a7⟩ := h2
  obtain ⟨⟨⟨⟨⟨⟨b1, b2⟩, b3⟩, b4⟩, b5⟩, b6⟩, b7⟩ := h3
  refine ⟨⟨⟨(objAt K (afT f)).cls, (objAt K (afT f)).dict, (objAt K (afT f)).slots, (fdT K f).name, (fdT K f).qualname, (fdT K f).params, (fdT K f).defaults, (fdT K f).kwdefaults, (fdT K f).doc, (fdT K f).pyModule, (fdT K f).annotations, (fdT K f).code, (fdT K f).closureTuple⟩, h1, a1, a2, a6, a3, a4, a5, dfB_sound a7⟩, h4, b1, b2, fun p hp => ?_, fun h => ?_, b4, b5, ?_⟩
  · have := List.all_eq_true.mp b7 p hp
    obtain ⟨q, hq, e⟩ := List.any_eq_true.mp this
    rw [Bool.and_eq_true, decide_eq_true_eq] at e
    obtain ⟨x, k⟩ := q
    obtain ⟨e1, e2⟩ := e
    have e1 : x = p := e1
    subst e1
    cases k <;> first | exact .inl hq | exact .inr hq | cases e2
  · rw [List.contains_iff_mem.mpr h] at b3; cases b3
  · cases hk : (fnN f).scope.kind <;> rw [hk] at b6 <;> first | rfl | cases b6
theorem clsB_get (C : Chk w K) {k : Nat} (hk : k < 9) : clsB K k = true := List.all_eq_true.mp C.cls k (List.mem_range.mpr hk)
theorem attr_of {k : Nat} {n : Str} {ca : CA} (h : attrB K k n ca = true) : AttrOK (th w K p base ns a loose mg mb) k n ca := by
  cases ca with
  | free =>
    unfold attrB at h
    simp only [Bool.and_eq_true, beq_iff_eq] at h
    obtain ⟨⟨⟨h1, h2⟩, h3⟩, h4⟩ := h
    refine ⟨h1, h2, h3, ?_⟩
    show ∃ attr, findIn K (.ref (acT k)) n = some attr ∧ noGet K attr = true
    cases e : findIn K (.ref (acT k)) n with
    | none => rw [e] at h4; cases h4
    | some attr => rw [e] at h4; exact ⟨attr, rfl, h4⟩
  | fn f =>
    unfold attrB at h
    simp only [Bool.and_eq_true, beq_iff_eq] at h
    exact ⟨h.1.1, h.1.2, h.2⟩
  | sta m =>
    unfold attrB at h
    simp only [Bool.and_eq_true, beq_iff_eq, Bool.not_eq_true', decide_eq_true_eq] at h
    obtain ⟨⟨⟨⟨⟨h1, h2⟩, h3⟩, h4⟩, h5⟩, h6⟩ := h
    match m, h6, h3, h4 with
    | 0, _, h3, h4 => exact ⟨h1, h2, h3, h4, h5⟩
    | 1, _, h3, h4 => exact ⟨h1, h2, h3, h4, h5⟩
theorem clsOK (C : Chk w K) : ClsOK (th w K p base ns a loose mg mb) := by
  refine ⟨fun k n ca e => ?_, fun k q e => ?_⟩
  · unfold cattr at e
    cases hq : (th w K p base ns a loose mg mb).S.cls k with
    | none => rw [hq] at e; cases e
    | some q =>
      have hk := clsT_lt hq
      have hN := clsN_of hq
      rw [hq] at e
      have e : (q.attrs.find? fun r => r.1 = n).map (·.2) = some ca := e
      obtain ⟨p', hp, rfl⟩ := Option.map_eq_some_iff.mp e
      have h1 := List.mem_of_find?_eq_some hp
      have h2 := List.find?_some hp
      have h2 : p'.1 = n := of_decide_eq_true h2
      subst h2
      have h3 := clsB_get C hk
      unfold clsB at h3
      simp only [Bool.and_eq_true] at h3
      rw [hN] at h1
      exact attr_of (List.all_eq_true.mp h3.1.1.1.1.1.1.1.1.1.1.1 p' h1)
  · have h3 := clsB_get C (clsT_lt e)
    unfold clsB at h3
    simp only [Bool.and_eq_true, beq_iff_eq] at h3
    exact ⟨h3.1.1.1.1.1.1.1.1.1.1.2, h3.1.1.1.1.1.1.1.1.1.2⟩
theorem isiOK (C : Chk w K) : IsiOK (th w K p base ns a loose mg mb) := by
  refine ⟨fun k q h => ?_, fun j k hjk hj hk => ?_, fun j q h => ?_, C.get, C.takes⟩
  · have h3 := clsB_get C (clsT_lt h)
    unfold clsB at h3
    simp only [Bool.and_eq_true, beq_iff_eq] at h3
    exact h3.1.1.1.1.1.1.1.1.2
  · obtain ⟨q, hq⟩ := Option.isSome_iff_exists.mp hj
    obtain ⟨q', hq'⟩ := Option.isSome_iff_exists.mp hk
    have := List.all_eq_true.mp C.nots j (List.mem_range.mpr (clsT_lt hq))
    have := List.all_eq_true.mp this k (List.mem_range.mpr (clsT_lt hq'))
    rw [Bool.or_eq_true] at this
    rcases this with e | e
    · exact absurd (eq_of_beq e) hjk
    · exact e
  · have h3 := clsB_get C (clsT_lt h)
    unfold clsB at h3
    simp only [Bool.and_eq_true, beq_iff_eq] at h3
    exact ⟨h3.1.1.1.1.1.1.1.2, h3.1.1.1.1.1.1.2, h3.1.1.1.1.1.2, h3.1.1.1.1.2⟩
theorem afT_ge {f : Nat} (h : 48 ≤ f) : afT f = afT 47 := by
  obtain ⟨n, rfl⟩ := Nat.exists_eq_add_of_le h
  rw [Nat.add_comm]; rfl
theorem acT_ge {k : Nat} (h : 9 ≤ k) : acT k = acT 0 := by
  obtain ⟨n, rfl⟩ := Nat.exists_eq_add_of_le h
  rw [Nat.add_comm]; rfl
theorem keep_of (C : Chk w K) (f : Nat) : keepIn K (.ref (afT f)) = true := by
  by_cases h : f < 48
  · exact List.all_eq_true.mp C.keep f (List.mem_range.mpr h)
  · rw [afT_ge (Nat.le_of_not_lt h)]
    exact List.all_eq_true.mp C.keep 47 (List.mem_range.mpr (by decide))
theorem keepc_of (C : Chk w K) (k : Nat) : keepIn K (.ref (acT k)) = true := by
  by_cases h : k < 9
  · have h3 := clsB_get C h
    unfold clsB at h3
    rw [Bool.and_eq_true] at h3
    exact h3.2
  · rw [acT_ge (Nat.le_of_not_lt h)]
    have h3 := clsB_get C (k := 0) (by decide)
    unfold clsB at h3
    rw [Bool.and_eq_true] at h3
    exact h3.2
theorem make_of (C : Chk w K) (k : Nat) (q : Cls) (h : clsT k = some q) : MakeOK (th w K p base ns a loose mg mb) k q := by
  have h3 := clsB_get C (clsT_lt h)
  have hN := clsN_of h
  subst hN
  unfold clsB at h3
  simp only [Bool.and_eq_true, beq_iff_eq] at h3
  exact ⟨h3.1.1.1.2, h3.1.1.2, h3.1.2, h3.2⟩
theorem sta_dict (C : StaK w K n) (X : K.In base) (hs : asA a n = asA 0 n) (hn : ((esN n).map fun p => strK p.1).Nodup) (he : (esN n).isEmpty = false) (hm : (asA 0 n == sysModules) = false) :
    ∃ kvs, Kv V.str (th w K p base ns a loose mg mb) ⟨[], []⟩ (esN n) kvs ∧ base.DictOf (PySem.strKind (th w K p base ns a loose mg mb).prog w) (asA a n) kvs ∧ (asA a n == sysModules) = false ∧ (esN n).isEmpty = false := by
  obtain ⟨kvs, h1, h2, h3, h4⟩ := rows_of (θ := th w K p base ns a loose mg mb) (k := ⟨[], []⟩) C.rows C.hash
  rw [hs]
  refine ⟨kvs, h1, ⟨_, _, _, X _ _ C.look, ⟨rfl, rfl, rfl⟩, rfl, fun e he => h3 e ?_, h2, ?_⟩, hm, he⟩
  · simpa using he
  · rw [h4]; exact hn
theorem staOK (C : Chk w K) (X : K.In base) {vs : List Value} (hv : Concs (th w K p base ns a loose mg mb) ⟨[], []⟩ (ns.map .int) vs) (hL : base.IsList a vs.toArray) : StaOK (th w K p base ns a loose mg mb) := by
  refine ⟨fun n xs h => ?_, fun n es h => ?_⟩
  · have h : (S ns).sta n = .list xs := h
    match n, h with
    | 0, h => cases h
    | 1, h => cases h
    | 2, h => cases h
    | 3, h => cases h
    | 4, h => cases h
    | 5, h => cases h
    | 6, h => cases h
    | 7, h => cases h
    | 8, h => cases h
    | 9, h =>
      cases h
      exact ⟨vs, hv, hL⟩
    | n + 10, h => cases h
  · have h : (S ns).sta n = .dict es := h
    match n, h with
    | 0, h =>
      cases h
      exact sta_dict C.st0 X rfl (by decide +kernel) rfl (by decide)
    | 1, h =>
      cases h
      exact sta_dict C.st1 X rfl (by decide +kernel) rfl (by decide)
    | 2, h => cases h
    | 3, h => cases h
    | 4, h => cases h
    | 5, h => cases h
    | 6, h => cases h
    | 7, h => cases h
    | 8, h => cases h
    | 9, h => cases h
    | n + 10, h => cases h
theorem allOK (C : Chk w K) (X : K.In base) {vs : List Value} (hv : Concs (th w K p base ns a loose mg mb) ⟨[], []⟩ (ns.map .int) vs) (hL : base.IsList a vs.toArray) : AllOK (th w K p base ns a loose mg mb) := by
  refine ⟨staOK C X hv hL, clsOK C, isiOK C, fun f fn h hs => ?_, keep_of C, keepc_of C, make_of C⟩
  have hf := fnsT_lt h
  have hN := fnN_of h
  subst hN
  refine fnOK_of C hf fun e => ?_
  subst e
  rw [sup_14] at hs
  cases hs
theorem supAll (C : Chk w K) : SupAll (th w K p base ns a loose mg mb) := by
  intro f fn g k h hs
  have hf := fnsT_lt h
  have hN := fnN_of h
  subst hN
  by_cases e : f = 14
  · subst e
    rw [sup_14] at hs
    cases hs
    have S := C.sup
    refine ⟨supD K, S.look, S.code, S.po, S.as, S.ko, S.va, S.ka, S.dV, by kernel_rfl, S.ar, S.arg, by kernel_rfl, by kernel_rfl, S.cda, S.vs, S.file, S.cc, S.D, S.mro, S.sup, by kernel_rfl, by kernel_rfl, by decide +kernel, by decide +kernel, fun q hq => ?_, fun x hx => ?_, ?_, by kernel_rfl, by kernel_rfl, by kernel_rfl, by kernel_rfl, by kernel_rfl, by kernel_rfl, by first | boot_by_name | rfl | kernel_rfl, S.nosup, S.third, S.ty, S.fng⟩
    · have hq : q ∈ (["self", "stream"] : List Str) := hq
      rcases List.mem_cons.mp hq with rfl | hq
      · exact mem_of_lookup (by kernel_rfl)
      · rw [List.mem_singleton.mp hq]
        exact mem_of_lookup (by kernel_rfl)
    · have q : ((fnN 14).scope.names.all fun x => match x.2 with | .cell => false | _ => true) = true := by kernel_rfl
      have := List.all_eq_true.mp q x hx
      intro e
      rw [e] at this; cases this
    · intro h
      have q : ((fnN 14).scope.names.map (·.1)).contains ("__debug__" : Str) = false := by kernel_rfl
      rw [List.contains_iff_mem.mpr h] at q; cases q
  · have := List.all_eq_true.mp sup_none f (in_idx hf e)
    rw [hs] at this
    cases this
theorem lkp_mem {x : Str} {v : V} : ∀ {l : List (Str × V)}, lkp x l = some v → (x, v) ∈ l
  | [], h => by cases h
  | (y, u) :: l, h => by
    rw [lkp] at h
    split at h
    · rename_i e; cases h; subst e; exact .head _
    · exact .tail _ (lkp_mem h)
theorem glS_all : ∀ q ∈ globL, glS q := by
  unfold globL
  repeat' first
    | exact List.forall_mem_nil _
    | refine List.forall_mem_cons.mpr ⟨?_, ?_⟩
    | exact trivial
    | exact ⟨by first | boot_by_name | rfl | kernel_rfl, by decide⟩
theorem glSt : (globL.all fun q => isSt q.2) = true := by kernel_rfl
theorem glob_of (C : Chk w K) {x : Str} {v : V} (h : (S ns).glob x = some v) : ∃ u, Conc (th w K p base ns a loose mg mb) ⟨[], []⟩ v u ∧ (nsIn K mainGlobals x = some (some u) ∨ (nsIn K mainGlobals x = some none ∧ bootBuiltins x = some u ∧ x ≠ "__name__")) := by
  have hm := lkp_mem h
  have h1 := List.all_eq_true.mp C.gl _ hm
  have h2 := glS_all _ hm
  unfold glB at h1
  unfold glS at h2
  cases v <;> first | (cases h1; done) | skip
  · exact ⟨_, rfl, .inl (eq_of_beq h1)⟩
  · exact ⟨_, rfl, .inl (eq_of_beq h1)⟩
  · exact ⟨_, rfl, .inr ⟨eq_of_beq h1, h2⟩⟩
  · exact ⟨_, rfl, .inr ⟨eq_of_beq h1, h2⟩⟩
theorem topOK (C : Chk w K) {mean : ExcName → Option Value} (X : K.In base) (T : PyProof.Rows.Top p loose mean mg mb base) : Top (th w K p base ns a loose mg mb) :=
  ⟨X, topRead_of T, ⟨mean, T⟩, T.nolimit, fun x v h => List.all_eq_true.mp glSt _ (lkp_mem h), fun x v h => glob_of C h⟩
end
end Mine
end
section
open PySem PySem.W PySem.Calls PyProof.Rows
set_option Elab.async false
set_option linter.unusedVariables false
set_option linter.unusedSectionVars false
set_option maxRecDepth 100000
namespace Mine
theorem join_core {θ : Tp} (AO : AllOK θ) (SU : SupAll θ) (TO : Top θ) {env : Env} (hk : env.scope.kind = .function) (hgl : env.globals = mainGlobals) (hbi : env.builtins = builtinsNs) (hcells : env.cells = []) (hfr : env.frame = some env.locals)
    (K0 : Below callerA θ.base [] θ.base) {s : Shared} {bx : List (Str × V)} {bv : List (Str × Value)} (F : Fr θ.base env.locals s.heap fun y => bv.reverse.lookup y) (hb : Kws θ ⟨[none], []⟩ bx bv) (hbn : (bv.map (·.1)).Nodup)
    (hn : (env.scope.names.map (·.1)).Nodup) (hd : ("__debug__" : Str) ∉ env.scope.names.map (·.1)) (hc : ∀ x ∈ env.scope.names, x.2 ≠ .cell) {body : List Stmt} {hp : List O} {n : Nat}
    (run : Y ⟨θ.S, n⟩ (.ok (.bool true), hp) (exs (E θ.S 40) 16 body (entry θ.S env.scope bx [.void]) (outK fun v h => .ret (.ok v) h) (errK fun _ _ => .none))) {Q : Flow → Shared → Prop} {E : Value → Shared → Prop}
    (fin : ∀ h' tk m', Fr θ.base env.locals h' m' → Q (.ret (.bool true)) { s with heap := h', toks := tk }) : wpAny (model θ.prog θ.w) (callerA.deeper env) (execs body env) Q E s := by
  have G : Good ⟨⟨θ, env, θ.base, []⟩, callerA.deeper env, [env], n⟩ := by
    refine ⟨TO, rfl, hk, hgl, hbi, rfl, fun _ _ e => e, fun h m news F N => ?_⟩
    exact (groundX (A := callerA.deeper env) (R := fun _ _ => True) (s := { s with heap := h }) K0 F N rfl hfr hk).2.1.frames
  have GD : GoodD ⟨⟨θ, env, θ.base, []⟩, callerA.deeper env, [env], n⟩ 16 := ⟨G, by show (callerA.units + 3) + 8 * 16 + 20 ≤ cLine; decide, by show callerA.depth + 1 + 2 * 16 ≤ 900; decide⟩
  have el := entry_loc (env := env) (h₀ := θ.base) (J := []) (os := [.void]) (M := []) TO hb hbn hn hd hc ⟨none, [], [], [], rfl, rfl, ⟨rfl, rfl⟩, rfl, rfl⟩
  have Z := sound AO SU n
  have ZE := sound_E AO Z 40
  refine sim_exs (c := ⟨⟨θ, env, θ.base, []⟩, callerA.deeper env, [env], n⟩) (ZE.ex _ 16 rfl rfl GD) body (k := ⟨[none], []⟩) _ _ s _ _ _ Q E (KLe.refl _) ⟨_, [], F, (fun p hp => nomatch hp), List.nodup_nil, el.1, el.2⟩ run (fun k' fl flow st' h' tk l R hcf P => ?_) fun a st' P => P.elim
  cases fl with
  | next =>
    have P : (Except.ok V.none, st'.heap) = (Except.ok (V.bool true), hp) := P
    cases P
  | ret v =>
    have P : (Except.ok v, st'.heap) = (Except.ok (V.bool true), hp) := P
    have e : v = .bool true := by cases P; rfl
    subst e
    exact el_1_2 hcf fun u e hu => by
      have hu : u = .bool true := hu
      rw [e, hu]; exact fin h' tk _ R.F
  | _ => exact P.elim
theorem run_of {ns : List Int} {h' : List O} (H : CallS (S ns) 16 47 [.sta 9] [] [.void] (.bool true) h') : ∃ n, Y ⟨S ns, n⟩ (.ok (.bool true), h') (exs (E (S ns) 40) 16 (bodyN 47) (entry (S ns) (fnN 47).scope [("script", .sta 9)] [.void]) (outK fun v h => .ret (.ok v) h) (errK fun _ _ => .none)) := by
  have ⟨m, hm⟩ := H (fun v h => .ret (.ok v) h) (fun _ _ => .none) (.ok (.bool true), h') ⟨0, rfl⟩
  cases m with
  | zero => exact hm.elim
  | succ m =>
    refine ⟨m, ?_⟩
    have hm : Y ⟨S ns, m⟩ (.ok (.bool true), h') (callM (S ns) (E (S ns) 40) 16 47 [.sta 9] [] [.void] (fun v h => .ret (.ok v) h) (fun _ _ => .none)) := hm
    have e : callM (S ns) (E (S ns) 40) 16 47 [.sta 9] [] [.void] (fun v h => .ret (.ok v) h) (fun _ _ => .none) = exs (E (S ns) 40) 16 (bodyN 47) (entry (S ns) (fnN 47).scope [("script", .sta 9)] [.void]) (outK fun v h => .ret (.ok v) h) (errK fun _ _ => .none) := by kernel_rfl
    rw [e] at hm
    exact hm
theorem concs_ints {θ : Tp} {k : Kn} : ∀ {ns : List Int} {vs : List Value}, IntsAre vs ns → Concs θ k (ns.map .int) vs := by
  intro ns vs h
  induction h with
  | nil => rfl
  | cons n t h ih => exact .cons (.int _ _) ih
theorem nd47 : ((fnN 47).scope.names.map (·.1)).Nodup := by decide +kernel
theorem db47 : ("__debug__" : Str) ∉ (fnN 47).scope.names.map (·.1) := by decide +kernel
theorem nc47 : ∀ x ∈ (fnN 47).scope.names, x.2 ≠ .cell := by
  have q : ((fnN 47).scope.names.all fun x => match x.2 with | .cell => false | _ => true) = true := by kernel_rfl
  intro x hx e
  have := List.all_eq_true.mp q x hx
  rw [e] at this; cases this
theorem join_law {w : World} {K : Frag} {p : Program} {base : Heap} {ns : List Int} {a : Addr} {loose : List Str} {mg mb : Str → Option Value} (C : Chk w K) {mean : ExcName → Option Value} (X : K.In base) (T : PyProof.Rows.Top p loose mean mg mb base)
    {vs : List Value} (hI : IntsAre vs ns) (hL : base.IsList a vs.toArray) {h' : List O} (H : CallS (S ns) 16 47 [.sta 9] [] [.void] (.bool true) h')
    {env : Env} (hs : env.scope = (fnN 47).scope) (hgl : env.globals = mainGlobals) (hbi : env.builtins = builtinsNs) (hcells : env.cells = []) (hfr : env.frame = some env.locals)
    (K0 : Below callerA base [] base) {s : Shared} (F : Fr base env.locals s.heap fun y => ([("script", .ref a)] : List (Str × Value)).reverse.lookup y) {body : List Stmt} (hbody : body = bodyN 47) {Q : Flow → Shared → Prop} {E : Value → Shared → Prop}
    (fin : ∀ h' tk m', Fr base env.locals h' m' → Q (.ret (.bool true)) { s with heap := h', toks := tk }) : wpAny (model PySem.Challenge.rw_te0006_03.row.prog w) (callerA.deeper env) (execs body env) Q E s := by
  have ⟨n, hr⟩ := run_of H
  subst hbody
  have hv : Concs (th w K p base ns a loose mg mb) ⟨[], []⟩ (ns.map .int) vs := concs_ints hI
  refine join_core (θ := th w K p base ns a loose mg mb) (bx := [("script", .sta 9)]) (bv := [("script", .ref a)]) (hp := h') (n := n) (allOK C X hv hL) (supAll C) (topOK C X T) ?_ hgl hbi hcells hfr K0 F ⟨_, [], rfl, rfl, rfl⟩ ?_ ?_ ?_ ?_ ?_ fin
  · rw [hs]; kernel_rfl
  · exact List.nodup_cons.mpr ⟨List.not_mem_nil, List.nodup_nil⟩
  · rw [hs]; exact nd47
  · rw [hs]; exact db47
  · rw [hs]; exact nc47
  · rw [hs]; exact hr
end Mine
end
section
open PySem PySem.W PyProof.Rows
set_option Elab.async false
set_option linter.unusedVariables false
set_option linter.unusedSectionVars false
set_option maxRecDepth 100000
namespace Mine
universe u0 u1 u2 u3
theorem el_1_4 {α0 : Sort u0} {A0 : α0 → Prop} {A1 : α0 → Prop} {A2 : α0 → Prop} {A3 : α0 → Prop} {G : Prop} (h : ∃ x0 : α0, A0 x0 ∧ A1 x0 ∧ A2 x0 ∧ A3 x0) (k : ∀ x0, A0 x0 → A1 x0 → A2 x0 → A3 x0 → G) : G := Exists.elim h fun x0 h => k x0 h.1 h.2.1 h.2.2.1 h.2.2.2
theorem el_2_4 {α0 : Sort u0} {α1 : Sort u1} {A0 : α0 → α1 → Prop} {A1 : α0 → α1 → Prop} {A2 : α0 → α1 → Prop} {A3 : α0 → α1 → Prop} {G : Prop} (h : ∃ x0 : α0, ∃ x1 : α1, A0 x0 x1 ∧ A1 x0 x1 ∧ A2 x0 x1 ∧ A3 x0 x1) (k : ∀ x0 x1, A0 x0 x1 → A1 x0 x1 → A2 x0 x1 → A3 x0 x1 → G) : G := Exists.elim h fun x0 h => Exists.elim h fun x1 h => k x0 x1 h.1 h.2.1 h.2.2.1 h.2.2.2
theorem el_2_5 {α0 : Sort u0} {α1 : Sort u1} {A0 : α0 → α1 → Prop} {A1 : α0 → α1 → Prop} {A2 : α0 → α1 → Prop} {A3 : α0 → α1 → Prop} {A4 : α0 → α1 → Prop} {G : Prop} (h : ∃ x0 : α0, ∃ x1 : α1, A0 x0 x1 ∧ A1 x0 x1 ∧ A2 x0 x1 ∧ A3 x0 x1 ∧ A4 x0 x1) (k : ∀ x0 x1, A0 x0 x1 → A1 x0 x1 → A2 x0 x1 → A3 x0 x1 → A4 x0 x1 → G) : G := Exists.elim h fun x0 h => Exists.elim h fun x1 h => k x0 x1 h.1 h.2.1 h.2.2.1 h.2.2.2.1 h.2.2.2.2
theorem el_3_2 {α0 : Sort u0} {α1 : Sort u1} {α2 : Sort u2} {A0 : α0 → α1 → α2 → Prop} {A1 : α0 → α1 → α2 → Prop} {G : Prop} (h : ∃ x0 : α0, ∃ x1 : α1, ∃ x2 : α2, A0 x0 x1 x2 ∧ A1 x0 x1 x2) (k : ∀ x0 x1 x2, A0 x0 x1 x2 → A1 x0 x1 x2 → G) : G := Exists.elim h fun x0 h => Exists.elim h fun x1 h => Exists.elim h fun x2 h => k x0 x1 x2 h.1 h.2
theorem el_3_5 {α0 : Sort u0} {α1 : Sort u1} {α2 : Sort u2} {A0 : α0 → α1 → α2 → Prop} {A1 : α0 → α1 → α2 → Prop} {A2 : α0 → α1 → α2 → Prop} {A3 : α0 → α1 → α2 → Prop} {A4 : α0 → α1 → α2 → Prop} {G : Prop} (h : ∃ x0 : α0, ∃ x1 : α1, ∃ x2 : α2, A0 x0 x1 x2 ∧ A1 x0 x1 x2 ∧ A2 x0 x1 x2 ∧ A3 x0 x1 x2 ∧ A4 x0 x1 x2) (k : ∀ x0 x1 x2, A0 x0 x1 x2 → A1 x0 x1 x2 → A2 x0 x1 x2 → A3 x0 x1 x2 → A4 x0 x1 x2 → G) : G := Exists.elim h fun x0 h => Exists.elim h fun x1 h => Exists.elim h fun x2 h => k x0 x1 x2 h.1 h.2.1 h.2.2.1 h.2.2.2.1 h.2.2.2.2
structure Sc where
  B : List Nat
  p : Nat
  ix : Nat
  ln : Nat
  cl : Nat
  dn : Bool
  tk : Nat
  tn : Nat
  ind : Nat
  ask : Bool
  keys : Nat
noncomputable def scF (σ : Sc) : List (Str × V) :=
  [("name", .str "<unicode string>"), ("stream", .none), ("stream_pointer", .int 0), ("eof", .bool true), ("buffer", .str ⟨σ.B.toArray⟩), ("pointer", .int (σ.p : Int)), ("raw_buffer", .none), ("raw_decode", .none), ("encoding", .none), ("index", .int (σ.ix : Int)), ("line", .int (σ.ln : Int)), ("column", .int (σ.cl : Int)), ("done", .bool σ.dn), ("flow_level", .int 0), ("tokens", .obj (σ.tk + 1)), ("tokens_taken", .int (σ.tn : Int)), ("indent", .int (-1)), ("indents", .obj (σ.ind + 1)), ("allow_simple_key", .bool σ.ask), ("possible_simple_keys", .obj (σ.keys + 1))]
noncomputable def scO (σ : Sc) : O := .inst 8 (scF σ)
theorem okL_t {n : Nat} (h : n ≤ lim) : okL n = true := Nat.ble_eq_true_of_le h
theorem idx_ok {n k : Nat} (h : k < n) (hz : n ≤ lim) : idx (k : Int) n = some k := by
  have hz' : n ≤ 1000000 := hz
  unfold idx
  rw [if_pos hz', if_pos (by omega), if_pos (by omega)]
  rfl
theorem at_get {B : List Nat} {k c : Nat} (h : B[k]? = some c) : k < B.length := (List.getElem?_eq_some_iff.mp h).1
noncomputable def parts : Stmt → Expr × List Stmt × List Stmt
  | .While t b _ _ => (t, b, [])
  | .For t _ b _ _ => (t, b, [])
  | .If t b e _ => (t, b, e)
  | _ => (.Constant .none 0 default, [], [])
noncomputable def wT (s : Stmt) : Expr := (parts s).1
noncomputable def wB (s : Stmt) : List Stmt := (parts s).2.1
noncomputable def wE (s : Stmt) : List Stmt := (parts s).2.2
theorem an {a b : Prop} (x : a) (y : b) : a ∧ b := ⟨x, y⟩
theorem contains1 (t : Str) (c : Nat) : Txt.contains t ⟨#[c]⟩ = decide (c ∈ t.cps.toList) := by
  have h := StrLaws.found_iff t ⟨#[c]⟩
  have h2 : (∃ i, i + (⟨#[c]⟩ : Str).length ≤ t.length ∧ Builtin.Str.subAt t ⟨#[c]⟩ i = true) ↔ c ∈ t.cps.toList := by
    constructor
    · rintro ⟨i, hi⟩
      exact List.mem_of_getElem? ((StrLaws.subAt_one t c i).mp hi)
    · intro hm
      obtain ⟨i, hi⟩ := List.getElem?_of_mem hm
      exact ⟨i, (StrLaws.subAt_one t c i).mpr hi⟩
  show (!(Builtin.Str.occurrences t ⟨#[c]⟩ 0 t.length 1).isEmpty) = _
  rw [Bool.eq_iff_iff, h, h2, decide_eq_true_eq]
theorem in_lit (t : String) (c : Nat) {L : List Nat} (h : t.toList.map Char.toNat = L) : Txt.contains (Str.ofString t) ⟨#[c]⟩ = decide (c ∈ L) := by
  rw [contains1, signs_ofString, h]
theorem in_t {t : String} {c : Nat} {L : List Nat} (h : t.toList.map Char.toNat = L) (m : c ∈ L) : Txt.contains (Str.ofString t) ⟨#[c]⟩ = true := (in_lit t c h).trans (decide_eq_true m)
theorem in_f {t : String} {c : Nat} {L : List Nat} (h : t.toList.map Char.toNat = L) (m : c ∉ L) : Txt.contains (Str.ofString t) ⟨#[c]⟩ = false := (in_lit t c h).trans (decide_eq_false m)
theorem str_eq {a b : Str} : a = b ↔ a.cps.toList = b.cps.toList := by
  constructor
  · exact fun h => by rw [h]
  · intro h
    obtain ⟨a⟩ := a
    obtain ⟨b⟩ := b
    have h : a.toList = b.toList := h
    rw [Array.toList_inj.mp h]
theorem one_f {t : String} {c k : Nat} (h : t.toList.map Char.toNat = [k]) (n : c ≠ k) : decide ((⟨#[c]⟩ : Str) = Str.ofString t) = false :=
  decide_eq_false fun e => by rw [str_eq, signs_ofString, h] at e; exact n (List.cons.inj e).1
theorem lst_f {t : String} {l L : List Nat} (h : t.toList.map Char.toNat = L) (n : l ≠ L) : decide ((⟨l.toArray⟩ : Str) = Str.ofString t) = false :=
  decide_eq_false fun e => by rw [str_eq, signs_ofString, h] at e; exact n e
theorem lst_t {t : String} {l L : List Nat} (h : t.toList.map Char.toNat = L) (n : l = L) : decide ((⟨l.toArray⟩ : Str) = Str.ofString t) = true :=
  decide_eq_true (by rw [str_eq, signs_ofString, h]; exact n)
theorem nl4_t {c : Nat} (h : c ∈ [10, 133, 8232, 8233]) : Txt.contains (Str.ofString "\n\u0085\u2028\u2029") ⟨#[c]⟩ = true := in_t (by decide) h
theorem nl4_f {c : Nat} (h : c ∉ [10, 133, 8232, 8233]) : Txt.contains (Str.ofString "\n\u0085\u2028\u2029") ⟨#[c]⟩ = false := in_f (by decide) h
theorem cr3_t {c : Nat} (h : c ∈ [13, 10, 133]) : Txt.contains (Str.ofString "\u000d\n\u0085") ⟨#[c]⟩ = true := in_t (by decide) h
theorem cr3_f {c : Nat} (h : c ∉ [13, 10, 133]) : Txt.contains (Str.ofString "\u000d\n\u0085") ⟨#[c]⟩ = false := in_f (by decide) h
theorem us2_t {c : Nat} (h : c ∈ [8232, 8233]) : Txt.contains (Str.ofString "\u2028\u2029") ⟨#[c]⟩ = true := in_t (by decide) h
theorem us2_f {c : Nat} (h : c ∉ [8232, 8233]) : Txt.contains (Str.ofString "\u2028\u2029") ⟨#[c]⟩ = false := in_f (by decide) h
theorem brk_t {c : Nat} (h : c ∈ [13, 10, 133, 8232, 8233]) : Txt.contains (Str.ofString "\u000d\n\u0085\u2028\u2029") ⟨#[c]⟩ = true := in_t (by decide) h
theorem brk_f {c : Nat} (h : c ∉ [13, 10, 133, 8232, 8233]) : Txt.contains (Str.ofString "\u000d\n\u0085\u2028\u2029") ⟨#[c]⟩ = false := in_f (by decide) h
theorem zbrk_t {c : Nat} (h : c ∈ [0, 13, 10, 133, 8232, 8233]) : Txt.contains (Str.ofString "\u0000\u000d\n\u0085\u2028\u2029") ⟨#[c]⟩ = true := in_t (by decide) h
theorem zbrk_f {c : Nat} (h : c ∉ [0, 13, 10, 133, 8232, 8233]) : Txt.contains (Str.ofString "\u0000\u000d\n\u0085\u2028\u2029") ⟨#[c]⟩ = false := in_f (by decide) h
theorem zblk_t {c : Nat} (h : c ∈ [0, 32, 9, 13, 10, 133, 8232, 8233]) : Txt.contains (Str.ofString "\u0000 \t\u000d\n\u0085\u2028\u2029") ⟨#[c]⟩ = true := in_t (by decide) h
theorem zblk_f {c : Nat} (h : c ∉ [0, 32, 9, 13, 10, 133, 8232, 8233]) : Txt.contains (Str.ofString "\u0000 \t\u000d\n\u0085\u2028\u2029") ⟨#[c]⟩ = false := in_f (by decide) h
theorem stop_t {c : Nat} (h : c ∈ [39, 34, 92, 0, 32, 9, 13, 10, 133, 8232, 8233]) : Txt.contains (Str.ofString "'\"\\\u0000 \t\u000d\n\u0085\u2028\u2029") ⟨#[c]⟩ = true := in_t (by decide) h
theorem stop_f {c : Nat} (h : c ∉ [39, 34, 92, 0, 32, 9, 13, 10, 133, 8232, 8233]) : Txt.contains (Str.ofString "'\"\\\u0000 \t\u000d\n\u0085\u2028\u2029") ⟨#[c]⟩ = false := in_f (by decide) h
theorem qb_t {c : Nat} (h : c ∈ [34, 92]) : Txt.contains (Str.ofString "\"\\") ⟨#[c]⟩ = true := in_t (by decide) h
theorem qb_f {c : Nat} (h : c ∉ [34, 92]) : Txt.contains (Str.ofString "\"\\") ⟨#[c]⟩ = false := in_f (by decide) h
theorem blk_t {c : Nat} (h : c ∈ [32, 9]) : Txt.contains (Str.ofString " \t") ⟨#[c]⟩ = true := in_t (by decide) h
theorem blk_f {c : Nat} (h : c ∉ [32, 9]) : Txt.contains (Str.ofString " \t") ⟨#[c]⟩ = false := in_f (by decide) h
theorem hex_t {c : Nat} (h : c ∈ [48, 49, 50, 51, 52, 53, 54, 55, 56, 57, 65, 66, 67, 68, 69, 70, 97, 98, 99, 100, 101, 102]) : Txt.contains (Str.ofString "0123456789ABCDEFabcdef") ⟨#[c]⟩ = true := in_t (by decide) h
theorem hex_f {c : Nat} (h : c ∉ [48, 49, 50, 51, 52, 53, 54, 55, 56, 57, 65, 66, 67, 68, 69, 70, 97, 98, 99, 100, 101, 102]) : Txt.contains (Str.ofString "0123456789ABCDEFabcdef") ⟨#[c]⟩ = false := in_f (by decide) h
theorem prt_t {c : Nat} (h : c ∈ [9, 10, 13, 133]) : Txt.contains (Str.ofString "\t\n\u000d\u0085") ⟨#[c]⟩ = true := in_t (by decide) h
theorem prt_f {c : Nat} (h : c ∉ [9, 10, 13, 133]) : Txt.contains (Str.ofString "\t\n\u000d\u0085") ⟨#[c]⟩ = false := in_f (by decide) h
theorem cr_t : decide ((⟨#[13]⟩ : Str) = Str.ofString "\u000d") = true := by decide +kernel
theorem cr_f {c : Nat} (h : c ≠ 13) : decide ((⟨#[c]⟩ : Str) = Str.ofString "\u000d") = false := one_f (by decide) h
theorem nl_t : decide ((⟨#[10]⟩ : Str) = Str.ofString "\n") = true := by decide +kernel
theorem nl_f {c : Nat} (h : c ≠ 10) : decide ((⟨#[c]⟩ : Str) = Str.ofString "\n") = false := one_f (by decide) h
theorem bom_t : decide ((⟨#[65279]⟩ : Str) = Str.ofString "\ufeff") = true := by decide +kernel
theorem bom_f {c : Nat} (h : c ≠ 65279) : decide ((⟨#[c]⟩ : Str) = Str.ofString "\ufeff") = false := one_f (by decide) h
theorem dq_t : decide ((⟨#[34]⟩ : Str) = Str.ofString "\"") = true := by decide +kernel
theorem dq_f {c : Nat} (h : c ≠ 34) : decide ((⟨#[c]⟩ : Str) = Str.ofString "\"") = false := one_f (by decide) h
theorem sq_t : decide ((⟨#[39]⟩ : Str) = Str.ofString "'") = true := by decide +kernel
theorem sq_f {c : Nat} (h : c ≠ 39) : decide ((⟨#[c]⟩ : Str) = Str.ofString "'") = false := one_f (by decide) h
theorem bs_t : decide ((⟨#[92]⟩ : Str) = Str.ofString "\\") = true := by decide +kernel
theorem bs_f {c : Nat} (h : c ≠ 92) : decide ((⟨#[c]⟩ : Str) = Str.ofString "\\") = false := one_f (by decide) h
theorem nul_t : decide ((⟨#[0]⟩ : Str) = Str.ofString "\u0000") = true := by decide +kernel
theorem nul_f {c : Nat} (h : c ≠ 0) : decide ((⟨#[c]⟩ : Str) = Str.ofString "\u0000") = false := one_f (by decide) h
theorem sp_t : decide ((⟨#[32]⟩ : Str) = Str.ofString " ") = true := by decide +kernel
theorem sp_f {c : Nat} (h : c ≠ 32) : decide ((⟨#[c]⟩ : Str) = Str.ofString " ") = false := one_f (by decide) h
theorem hash_t : decide ((⟨#[35]⟩ : Str) = Str.ofString "#") = true := by decide +kernel
theorem hash_f {c : Nat} (h : c ≠ 35) : decide ((⟨#[c]⟩ : Str) = Str.ofString "#") = false := one_f (by decide) h
theorem dash_t : decide ((⟨#[45]⟩ : Str) = Str.ofString "-") = true := by decide +kernel
theorem dash_f {c : Nat} (h : c ≠ 45) : decide ((⟨#[c]⟩ : Str) = Str.ofString "-") = false := one_f (by decide) h
theorem crlf_t {l : List Nat} (n : l = [13, 10]) : decide ((⟨l.toArray⟩ : Str) = Str.ofString "\u000d\n") = true := lst_t (by decide) n
theorem crlf_f {l : List Nat} (n : l ≠ [13, 10]) : decide ((⟨l.toArray⟩ : Str) = Str.ofString "\u000d\n") = false := lst_f (by decide) n
theorem dash3_t {l : List Nat} (n : l = [45, 45, 45]) : decide ((⟨l.toArray⟩ : Str) = Str.ofString "---") = true := lst_t (by decide) n
theorem dash3_f {l : List Nat} (n : l ≠ [45, 45, 45]) : decide ((⟨l.toArray⟩ : Str) = Str.ofString "---") = false := lst_f (by decide) n
theorem dots_t {l : List Nat} (n : l = [46, 46, 46]) : decide ((⟨l.toArray⟩ : Str) = Str.ofString "...") = true := lst_t (by decide) n
theorem dots_f {l : List Nat} (n : l ≠ [46, 46, 46]) : decide ((⟨l.toArray⟩ : Str) = Str.ofString "...") = false := lst_f (by decide) n
theorem toA {B : List Nat} {k c : Nat} (h : B[k]? = some c) : B.toArray[k]? = some c := List.getElem?_toArray.trans h
theorem ltI_t {a b : Nat} (h : a < b) : decide ((a : Int) < (b : Int)) = true := decide_eq_true (Int.ofNat_lt.mpr h)
theorem ltI_f {a b : Nat} (h : b ≤ a) : decide ((a : Int) < (b : Int)) = false := decide_eq_false fun z => Nat.not_lt.mpr h (Int.ofNat_lt.mp z)
theorem leI_t {a b : Nat} (h : a ≤ b) : decide ((a : Int) ≤ (b : Int)) = true := decide_eq_true (Int.ofNat_le.mpr h)
theorem leI_f {a b : Nat} (h : b < a) : decide ((a : Int) ≤ (b : Int)) = false := decide_eq_false fun z => Nat.not_le.mpr h (Int.ofNat_le.mp z)
theorem eqI_t {a : Int} : decide (a = a) = true := decide_eq_true rfl
theorem eqI_f {a b : Nat} (h : a ≠ b) : decide ((a : Int) = (b : Int)) = false := decide_eq_false fun z => h (Int.ofNat.inj z)
theorem nzI_t {a : Nat} : decide (((a + 1 : Nat) : Int) ≠ 0) = true := decide_eq_true (by omega)
theorem nzL_t {α : Type} {a : α} {l : List α} : decide ((a :: l).length ≠ 0) = true := decide_eq_true (by simp)
theorem bnd_nat {n k d : Nat} : bnd n (.int (k : Int)) d = some (min k n) := by
  show some (if 0 ≤ (k : Int) then min (k : Int).toNat n else ((k : Int) + n).toNat) = _
  rw [if_pos (by omega)]
  rfl
theorem slice_pre {B : List Nat} (p n : Nat) : sliceL B (min p B.length) (min (p + n) B.length) = (B.drop p).take n := by
  unfold sliceL
  rw [List.drop_take]
  by_cases h : p ≤ B.length
  · rw [Nat.min_eq_left h]
    by_cases q : p + n ≤ B.length
    · rw [Nat.min_eq_left q]; congr 1; omega
    · rw [Nat.min_eq_right (by omega)]
      rw [List.take_of_length_le (by rw [List.length_drop]; omega), List.take_of_length_le (by rw [List.length_drop]; omega)]
  · rw [List.drop_eq_nil_of_le (by omega), List.drop_eq_nil_of_le (by omega)]; simp
theorem pop_ok {n : Nat} (h : n ≤ lim) : (decide ((0 : Int) = 0) && okL n) = true := by rw [okL_t h]; rfl
theorem gs {l : List O} {n : Nat} {o o' : O} (h : l[n]? = some o) : (l.set n o')[n]? = some o' := List.getElem?_set_self (List.getElem?_eq_some_iff.mp h).1
theorem gn {l : List O} {n m : Nat} {o o' : O} (e : m ≠ n) (h : l[n]? = some o) : (l.set m o')[n]? = some o := (List.getElem?_set_ne e).trans h
theorem ga {l r : List O} {o : O} : (l ++ o :: r)[l.length]? = some o := by rw [List.getElem?_append_right (Nat.le_refl _), Nat.sub_self]; rfl
theorem gl {l r : List O} {n : Nat} {o : O} (h : l[n]? = some o) : (l ++ r)[n]? = some o := (List.getElem?_append_left (List.getElem?_eq_some_iff.mp h).1).trans h
theorem set_id {l : List O} {n : Nat} {o : O} (h : l[n]? = some o) : l.set n o = l := by
  obtain ⟨hl, e⟩ := List.getElem?_eq_some_iff.mp h
  rw [← e, List.set_getElem_self]
theorem pl_t {u v : V} (h : okV u = true) (h2 : isSt v = false) : plainV u v = true := by unfold plainV; rw [h, h2]; rfl
noncomputable def ExsS (S : Stat) (d : Nat) (ss : List Stmt) (s : St) (f : Fl) (s' : St) : Prop := ∀ k e o, Yes S o (k f s') → Yes S o (exs (E S 40) d ss s k e)
theorem ExsS.by {S : Stat} {d : Nat} {ss : List Stmt} {s : St} {f : Fl} {s' : St} (is : List Item) {p : Prop} (hp : p) (e : ∀ k e, pick S is (exs (E S 40) d ss s k e) = (p, k f s')) : ExsS S d ss s f s' :=
  fun k e' o y => pick_to hp (e k e') y
theorem exs_app (r : Rec) (d : Nat) (a b : List Stmt) : ∀ (s : St) (k : Fl → St → Out) (e : V → St → Out), exs r d (a ++ b) s k e = exs r d a s (fun f s' => contF (exs r d b) f s' k e) e := by
  induction a with
  | nil => exact fun s k e => rfl
  | cons x a ih =>
    intro s k e
    show r.ex d x s (fun f s' => contF (exs r d (a ++ b)) f s' k e) e = r.ex d x s (fun f s' => contF (exs r d a) f s' (fun f s' => contF (exs r d b) f s' k e) e) e
    refine congrArg (fun z => r.ex d x s z e) (funext fun f => funext fun s' => ?_)
    cases f with
    | next => exact ih s' k e
    | _ => rfl
theorem ExsS.app {S : Stat} {d : Nat} {a b : List Stmt} {s s1 s2 : St} {f : Fl} (x : ExsS S d a s .next s1) (y : ExsS S d b s1 f s2) : ExsS S d (a ++ b) s f s2 := fun k e o z => by
  rw [exs_app]; exact x _ e o (y k e o z)
theorem ExsS.out {S : Stat} {d : Nat} {a b : List Stmt} {s s1 : St} {v : V} (x : ExsS S d a s (.ret v) s1) : ExsS S d (a ++ b) s (.ret v) s1 := fun k e o z => by
  rw [exs_app]; exact x _ e o z
theorem WhlS.ret {S : Stat} {d : Nat} {t : Expr} {b : List Stmt} {s s' : St} {v : V} (hT : ∀ k e, (E S 40).tr d t s k e = k true s) (x : ExsS S d b s (.ret v) s') : WhlS S d t b s (.ret v) s' := fun k e o z => by
  refine Yes.stp ?_
  show Yes S o ((E S 40).tr d t s (fun q s => ifM q ((exs (E S 40) d b).bind (turnF (whlN d t b))) (.pure .next) s k e) e)
  rw [hT]
  exact (x (fun f s => turnF (whlN d t b) f s k e) e o z).imp fun n h => h
theorem WhlS.next {S : Stat} {d : Nat} {t : Expr} {b : List Stmt} {s s1 s' : St} {f : Fl} (hT : ∀ k e, (E S 40).tr d t s k e = k true s) (x : ExsS S d b s .next s1) (n : WhlS S d t b s1 f s') : WhlS S d t b s f s' := fun k e o z => by
  refine Yes.stp ?_
  show Yes S o ((E S 40).tr d t s (fun q s => ifM q ((exs (E S 40) d b).bind (turnF (whlN d t b))) (.pure .next) s k e) e)
  rw [hT]
  exact (x (fun f s => turnF (whlN d t b) f s k e) e o (n k e o z)).imp fun n h => h
theorem CallS.rows {S : Stat} {d f : Nat} {vs : List V} {kws : List (Str × V)} {h : List O} {b : List Stmt} {s s' : St} {v : V} (e : ∀ k e, callM S (E S 40) d f vs kws h k e = exs (E S 40) d b s (outK k) (errK e)) (x : ExsS S d b s (.ret v) s') : CallS S d f vs kws h v s'.heap :=
  fun k e' o y => Yes.stp (by show Yes S o (callM S (E S 40) d f vs kws h k e'); rw [e]; exact x _ _ o y)
theorem CallS.as {S : Stat} {d f : Nat} {vs : List V} {kws : List (Str × V)} {h : List O} {v v' : V} {h' h'' : List O} (x : CallS S d f vs kws h v h') (e : v = v') (e' : h' = h'') : CallS S d f vs kws h v' h'' := by subst e e'; exact x
end Mine
end
section
open PySem PySem.W PyProof.Rows
set_option Elab.async false
set_option linter.unusedVariables false
set_option linter.unusedSectionVars false
set_option maxRecDepth 100000
namespace Mine
noncomputable def lc1 (B : List Nat) (p : Nat) (lc : Nat × Nat) : Nat × Nat :=
  let c := B.getD p 0
  if c ∈ [10, 133, 8232, 8233] then (lc.1 + 1, 0) else if c = 13 then (if B.getD (p + 1) 0 = 10 then (lc.1, lc.2 + 1) else (lc.1 + 1, 0)) else if c = 65279 then lc else (lc.1, lc.2 + 1)
noncomputable def lcN (B : List Nat) : Nat → Nat → Nat × Nat → Nat × Nat
  | 0, _, lc => lc
  | k + 1, p, lc => lcN B k (p + 1) (lc1 B p lc)
noncomputable def fwdN (n : Nat) (σ : Sc) : Sc := { σ with p := σ.p + n, ix := σ.ix + n, ln := (lcN σ.B n σ.p (σ.ln, σ.cl)).1, cl := (lcN σ.B n σ.p (σ.ln, σ.cl)).2 }
theorem lcN_add (B : List Nat) (b : Nat) : ∀ (a p : Nat) (lc : Nat × Nat), lcN B (a + b) p lc = lcN B b (p + a) (lcN B a p lc)
  | 0, p, lc => by rw [Nat.zero_add]; rfl
  | a + 1, p, lc => by rw [Nat.add_right_comm, lcN, lcN_add B b a, lcN, Nat.add_assoc, Nat.add_comm 1 a]
theorem fwdN_add (a b : Nat) (σ : Sc) : fwdN (a + b) σ = fwdN b (fwdN a σ) := by
  unfold fwdN
  rw [lcN_add, Nat.add_assoc, Nat.add_assoc]
structure Rd (σ : Sc) (u : List Nat) : Prop where
  at_ : σ.B.drop σ.p = u
  z : σ.B.length ≤ lim
section
variable {ns : List Int} {σ : Sc} {d : Nat} {hs : List O} {x r : List Nat} {c a : Nat}
theorem Rd.skip (h : Rd σ (x ++ r)) : Rd (fwdN x.length σ) r := ⟨by show σ.B.drop (σ.p + x.length) = r; rw [← List.drop_drop, h.at_, List.drop_left], h.z⟩
theorem Rd.next (h : Rd σ (a :: r)) : Rd (fwdN 1 σ) r := Rd.skip (x := [a]) h
theorem Rd.get (h : Rd σ (x ++ c :: r)) : σ.B[σ.p + x.length]? = some c := by rw [← List.getElem?_drop, h.at_, List.getElem?_append_right (Nat.le_refl _), Nat.sub_self]; rfl
theorem Rd.get0 (h : Rd σ (c :: r)) : σ.B[σ.p]? = some c := Rd.get (x := []) h
theorem Rd.lt (h : Rd σ (x ++ c :: r)) : σ.p + x.length < σ.B.length := at_get h.get
theorem Rd.len {u : List Nat} (h : Rd σ u) : u.length ≤ lim := by have := h.z; rw [← h.at_, List.length_drop]; omega
theorem Rd.as {u v : List Nat} (h : Rd σ u) (e : u = v) : Rd σ v := e ▸ h
theorem peekN (h : Rd σ (x ++ c :: r)) : CallS (S ns) d 4 [.obj 0, .int (x.length : Int)] [] (scO σ :: hs) (ch1 c) (scO σ :: hs) := by
  have hx := idx_ok h.lt h.z
  have hy := toA h.get
  exact Mine.CallS.by [.v .nat (Sc.p σ + List.length x), .v .nat (c)] (an hx (an hy trivial)) (fun k e => by kernel_rfl)
theorem peekR (h : Rd σ (c :: r)) : CallS (S ns) d 4 [.obj 0] [] (scO σ :: hs) (ch1 c) (scO σ :: hs) := by
  have hx := idx_ok (at_get h.get0) h.z
  have hy := toA h.get0
  exact Mine.CallS.by [.v .nat (Sc.p σ), .v .nat (c)] (an hx (an hy trivial)) (fun k e => by kernel_rfl)
theorem update1 {v : V} : CallS (S ns) d 9 [.obj 0, v] [] (scO σ :: hs) .none (scO σ :: hs) := by
  exact Mine.CallS.by [.a 1] trivial (fun k e => by kernel_rfl)
theorem prefR {u : List Nat} (h : Rd σ u) {n : Nat} : CallS (S ns) (d + 1) 5 [.obj 0, .int (n : Int)] [] (scO σ :: hs) (.str ⟨(u.take n).toArray⟩) (scO σ :: hs) := by
  have hz := h.z
  rw [← h.at_, ← slice_pre]
  by_cases q : σ.B.length ≤ σ.p + n
  · have q1 := leI_t q
    exact Mine.CallS.by [.t, .t, .c (V.none) (scO σ :: hs), .t, .v .nat (min (Sc.p σ) (List.length (Sc.B σ))), .v .nat (min (Sc.p σ + n) (List.length (Sc.B σ)))] (an (okL_t (n := List.length (Sc.B σ)) (h := hz)) (an q1 (an (update1 (ns := ns) (σ := σ) (d := d) (hs := hs) (v := V.int (↑n : Int))) (an (okL_t (n := List.length (Sc.B σ)) (h := hz)) (an (bnd_nat (n := List.length (Sc.B σ)) (k := Sc.p σ) (d := 0)) (an (bnd_nat (n := List.length (Sc.B σ)) (k := Sc.p σ + n) (d := List.length (Sc.B σ))) trivial)))))) (fun k e => by kernel_rfl)
  · have q1 := leI_f (Nat.not_le.mp q)
    exact Mine.CallS.by [.t, .f, .t, .v .nat (min (Sc.p σ) (List.length (Sc.B σ))), .v .nat (min (Sc.p σ + n) (List.length (Sc.B σ)))] (an (okL_t (n := List.length (Sc.B σ)) (h := hz)) (an q1 (an (okL_t (n := List.length (Sc.B σ)) (h := hz)) (an (bnd_nat (n := List.length (Sc.B σ)) (k := Sc.p σ) (d := 0)) (an (bnd_nat (n := List.length (Sc.B σ)) (k := Sc.p σ + n) (d := List.length (Sc.B σ))) trivial))))) (fun k e => by kernel_rfl)
theorem prefX (h : Rd σ (x ++ r)) : CallS (S ns) (d + 1) 5 [.obj 0, .int (x.length : Int)] [] (scO σ :: hs) (.str ⟨x.toArray⟩) (scO σ :: hs) := by
  have := prefR (ns := ns) (d := d) (hs := hs) h (n := x.length)
  rwa [List.take_left] at this
noncomputable def T6 : Expr := wT (sAt (bodyN 6) 1)
noncomputable def B6 : List Stmt := wB (sAt (bodyN 6) 1)
noncomputable abbrev loc6 (k : Nat) (v : V) : List (Str × V) := [("self", .obj 0), ("length", .int (k : Int)), ("ch", v), ("len", .bi "len")]
theorem sub_one (k : Nat) : ((k + 1 : Nat) : Int) - 1 = (k : Int) := by omega
theorem getD_of {B : List Nat} {p c : Nat} (h : B[p]? = some c) : B.getD p 0 = c := by rw [List.getD_eq_getElem?_getD, h]; rfl
theorem fwd_go {c2 : Nat} (h : Rd σ (c :: c2 :: r)) {k : Nat} {v : V} (hv : okV v = true) {s' : St} (n : WhlS (S ns) d T6 B6 ⟨loc6 k (ch1 c), scO (fwdN 1 σ) :: hs⟩ .next s') :
    WhlS (S ns) d T6 B6 ⟨loc6 (k + 1) v, scO σ :: hs⟩ .next s' := by
  have hz := h.z
  have hc := h.get0
  have hc2 : σ.B[σ.p + 1]? = some c2 := Rd.get (x := [c]) h
  have hx := idx_ok (at_get hc) hz
  have hx2 := idx_ok (at_get hc2) hz
  have hy := toA hc
  have hy2 := toA hc2
  have n : WhlS (S ns) d T6 B6 ⟨loc6 k (ch1 c), scO { σ with p := σ.p + 1, ix := σ.ix + 1, ln := (lc1 σ.B σ.p (σ.ln, σ.cl)).1, cl := (lc1 σ.B σ.p (σ.ln, σ.cl)).2 } :: hs⟩ .next s' := n
  unfold lc1 at n
  rw [getD_of hc, getD_of hc2] at n
  by_cases q1 : c ∈ [10, 133, 8232, 8233]
  · rw [if_pos q1] at n
    refine Mine.WhlS.go (s1 := St.mk [(Str.ofString "self", V.obj 0), (Str.ofString "length", V.int ((↑(k + 1) : Int) - 1)), (Str.ofString "ch", V.str (Str.mk #[c])), (Str.ofString "len", V.bi "len")] (scO (Sc.mk (Sc.B σ) (Sc.p σ + 1) (Sc.ix σ + 1) (Sc.ln σ + 1) 0 (Sc.dn σ) (Sc.tk σ) (Sc.tn σ) (Sc.ind σ) (Sc.ask σ) (Sc.keys σ)) :: hs)) [.t, .v .nat (Sc.p σ), .v .nat (c), .t, .t, .a 2] ?_ (an cr_t (an hx (an hy (an (pl_t (u := v) (v := ch1 c) (h := hv) (h2 := (by rfl))) (an (nl4_t (c := c) (h := q1)) trivial))))) (fun k e => by kernel_rfl)
    rw [sub_one]; exact n
  · rw [if_neg q1] at n
    by_cases q2 : c = 13
    · subst q2
      rw [if_pos rfl] at n
      by_cases q3 : c2 = 10
      · subst q3
        rw [if_pos rfl] at n
        refine Mine.WhlS.go (s1 := St.mk [(Str.ofString "self", V.obj 0), (Str.ofString "length", V.int ((↑(k + 1) : Int) - 1)), (Str.ofString "ch", V.str (Str.mk #[13])), (Str.ofString "len", V.bi "len")] (scO (Sc.mk (Sc.B σ) (Sc.p σ + 1) (Sc.ix σ + 1) (Sc.ln σ) (Sc.cl σ + 1) (Sc.dn σ) (Sc.tk σ) (Sc.tn σ) (Sc.ind σ) (Sc.ask σ) (Sc.keys σ)) :: hs)) [.t, .v .nat (Sc.p σ), .v .nat (13), .t, .a 2, .v .nat (Sc.p σ + 1), .v .nat (10), .a 5] ?_ (an cr_t (an hx (an hy (an (pl_t (u := v) (v := ch1 13) (h := hv) (h2 := (by rfl))) (an hx2 (an hy2 trivial)))))) (fun k e => by kernel_rfl)
        rw [sub_one]; exact n
      · rw [if_neg q3] at n
        refine Mine.WhlS.go (s1 := St.mk [(Str.ofString "self", V.obj 0), (Str.ofString "length", V.int ((↑(k + 1) : Int) - 1)), (Str.ofString "ch", V.str (Str.mk #[13])), (Str.ofString "len", V.bi "len")] (scO (Sc.mk (Sc.B σ) (Sc.p σ + 1) (Sc.ix σ + 1) (Sc.ln σ + 1) 0 (Sc.dn σ) (Sc.tk σ) (Sc.tn σ) (Sc.ind σ) (Sc.ask σ) (Sc.keys σ)) :: hs)) [.t, .v .nat (Sc.p σ), .v .nat (13), .t, .a 2, .v .nat (Sc.p σ + 1), .v .nat (c2), .t, .a 3] ?_ (an cr_t (an hx (an hy (an (pl_t (u := v) (v := ch1 13) (h := hv) (h2 := (by rfl))) (an hx2 (an hy2 (an (congrArg not (nl_f (c := c2) (h := q3))) trivial))))))) (fun k e => by kernel_rfl)
        rw [sub_one]; exact n
    · rw [if_neg q2] at n
      by_cases q4 : c = 65279
      · subst q4
        rw [if_pos rfl] at n
        refine Mine.WhlS.go (s1 := St.mk [(Str.ofString "self", V.obj 0), (Str.ofString "length", V.int ((↑(k + 1) : Int) - 1)), (Str.ofString "ch", V.str (Str.mk #[65279])), (Str.ofString "len", V.bi "len")] (scO (Sc.mk (Sc.B σ) (Sc.p σ + 1) (Sc.ix σ + 1) (Sc.ln σ) (Sc.cl σ) (Sc.dn σ) (Sc.tk σ) (Sc.tn σ) (Sc.ind σ) (Sc.ask σ) (Sc.keys σ)) :: hs)) [.t, .v .nat (Sc.p σ), .v .nat (65279), .t, .a 6] ?_ (an cr_t (an hx (an hy (an (pl_t (u := v) (v := ch1 65279) (h := hv) (h2 := (by rfl))) trivial)))) (fun k e => by kernel_rfl)
        rw [sub_one]; exact n
      · rw [if_neg q4] at n
        refine Mine.WhlS.go (s1 := St.mk [(Str.ofString "self", V.obj 0), (Str.ofString "length", V.int ((↑(k + 1) : Int) - 1)), (Str.ofString "ch", V.str (Str.mk #[c])), (Str.ofString "len", V.bi "len")] (scO (Sc.mk (Sc.B σ) (Sc.p σ + 1) (Sc.ix σ + 1) (Sc.ln σ) (Sc.cl σ + 1) (Sc.dn σ) (Sc.tk σ) (Sc.tn σ) (Sc.ind σ) (Sc.ask σ) (Sc.keys σ)) :: hs)) [.t, .v .nat (Sc.p σ), .v .nat (c), .t, .f, .f, .a 2, .t, .a 1] ?_ (an cr_t (an hx (an hy (an (pl_t (u := v) (v := ch1 c) (h := hv) (h2 := (by rfl))) (an (nl4_f (c := c) (h := q1)) (an (cr_f (c := c) (h := q2)) (an (congrArg not (bom_f (c := c) (h := q4))) trivial))))))) (fun k e => by kernel_rfl)
        rw [sub_one]; exact n
end
section
variable {ns : List Int} {d : Nat} {hs : List O} {r : List Nat} {c : Nat}
theorem fwd_loop : ∀ {x : List Nat} {σ : Sc} {v : V}, okV v = true → Rd σ (x ++ c :: r) → ∃ v', WhlS (S ns) d T6 B6 ⟨loc6 x.length v, scO σ :: hs⟩ .next ⟨loc6 0 v', scO (fwdN x.length σ) :: hs⟩ := by
  intro x
  induction x with
  | nil =>
    intro σ v hv h
    refine ⟨v, ?_⟩
    rw [show fwdN (List.length (α := Nat) []) σ = σ from rfl]
    exact Mine.WhlS.by [.a 1] trivial (fun k e => by kernel_rfl)
  | cons a x ih =>
    intro σ v hv h
    refine el_1_1 (ih (σ := fwdN 1 σ) (v := ch1 a) rfl (Rd.next h)) fun v' e => ?_
    rw [← fwdN_add] at e
    rw [List.length_cons, Nat.add_comm x.length 1]
    refine ⟨v', ?_⟩
    rw [Nat.add_comm 1] at e ⊢
    cases x with
    | nil => exact fwd_go h hv e
    | cons b x => exact fwd_go h hv e
theorem fwdR {x : List Nat} {σ : Sc} (h : Rd σ (x ++ c :: r)) : CallS (S ns) (d + 1) 6 [.obj 0, .int (x.length : Int)] [] (scO σ :: hs) .none (scO (fwdN x.length σ) :: hs) := by
  refine el_1_1 (fwd_loop (ns := ns) (d := d + 1) (hs := hs) (v := .undef) rfl h) fun v' e => ?_
  have hz := h.z
  by_cases q : σ.B.length ≤ σ.p + x.length + 1
  · have q1 := leI_t q
    exact Mine.CallS.by [.t, .t, .c (V.none) (scO σ :: hs), .w (Fl.next) (St.mk (loc6 0 v') (scO (fwdN (List.length x) σ) :: hs))] (an (okL_t (n := List.length (Sc.B σ)) (h := hz)) (an q1 (an (update1 (ns := ns) (σ := σ) (d := d) (hs := hs) (v := V.int (↑(List.length x + 1) : Int))) (an e trivial)))) (fun k e => by kernel_rfl)
  · have q1 := leI_f (Nat.not_le.mp q)
    exact Mine.CallS.by [.t, .f, .w (Fl.next) (St.mk (loc6 0 v') (scO (fwdN (List.length x) σ) :: hs))] (an (okL_t (n := List.length (Sc.B σ)) (h := hz)) (an q1 (an e trivial))) (fun k e => by kernel_rfl)
theorem fwd0 {σ : Sc} {a : Nat} (h : Rd σ (a :: c :: r)) : CallS (S ns) (d + 1) 6 [.obj 0] [] (scO σ :: hs) .none (scO (fwdN 1 σ) :: hs) := by
  refine el_1_1 (fwd_loop (ns := ns) (d := d + 1) (hs := hs) (v := .undef) rfl (x := [a]) h) fun v' e => ?_
  have e : WhlS (S ns) (d + 1) T6 B6 ⟨loc6 1 .undef, scO σ :: hs⟩ .next ⟨loc6 0 v', scO (fwdN 1 σ) :: hs⟩ := e
  have hz := h.z
  by_cases q : σ.B.length ≤ σ.p + 1 + 1
  · have q1 := leI_t q
    exact Mine.CallS.by [.t, .t, .c (V.none) (scO σ :: hs), .w (Fl.next) (St.mk (loc6 0 v') (scO (fwdN 1 σ) :: hs))] (an (okL_t (n := List.length (Sc.B σ)) (h := hz)) (an q1 (an (update1 (ns := ns) (σ := σ) (d := d) (hs := hs) (v := V.int (↑(1 + 1) : Int))) (an e trivial)))) (fun k e => by kernel_rfl)
  · have q1 := leI_f (Nat.not_le.mp q)
    exact Mine.CallS.by [.t, .f, .w (Fl.next) (St.mk (loc6 0 v') (scO (fwdN 1 σ) :: hs))] (an (okL_t (n := List.length (Sc.B σ)) (h := hz)) (an q1 (an e trivial))) (fun k e => by kernel_rfl)
end
end Mine
end
section
open PySem PySem.W PyProof.Rows
set_option Elab.async false
set_option linter.unusedVariables false
set_option linter.unusedSectionVars false
set_option maxRecDepth 100000
namespace Mine
theorem app_set (h : List O) (o o' : O) : (h ++ [o]).set h.length o' = h ++ [o'] := by
  rw [List.set_append_right _ _ (Nat.le_refl _), Nat.sub_self]; rfl
noncomputable def stages (c : Nat) (n : Nat) : List O → List (Str × V) → List (Str × V) → List O
  | l, _, [] => l
  | l, acc, f :: r => stages c n (l.set n (.inst c (acc ++ [f]))) (acc ++ [f]) r
theorem stages_eq (c : Nat) (l : List O) (r : List (Str × V)) : ∀ acc, stages c l.length (l ++ [.inst c acc]) acc r = l ++ [.inst c (acc ++ r)] := by
  induction r with
  | nil => exact fun acc => by rw [List.append_nil]; rfl
  | cons f r ih => exact fun acc => by unfold stages; rw [app_set, ih]; simp
section
variable {ns : List Int} {σ : Sc} {d : Nat} {hs l : List O} {a0 : O}
theorem CallS.ini {S : Stat} {d f : Nat} {vs : List V} {c : Nat} {h : List O} {fs : List (Str × V)} (x : CallS S d f vs [] h .none (a0 :: stages c l.length (l ++ [.inst c []]) [] fs)) : CallS S d f vs [] h .none (a0 :: (l ++ [.inst c fs])) := by
  rw [stages_eq] at x; exact x
theorem CallS.inik {S : Stat} {d f : Nat} {vs : List V} {kw : List (Str × V)} {c : Nat} {h : List O} {fs : List (Str × V)} (x : CallS S d f vs kw h .none (a0 :: stages c l.length (l ++ [.inst c []]) [] fs)) : CallS S d f vs kw h .none (a0 :: (l ++ [.inst c fs])) := by
  rw [stages_eq] at x; exact x
noncomputable abbrev markF (nm : Str) (a b c : Int) (bf : Str) (p : Int) : List (Str × V) := [("name", .str nm), ("index", .int a), ("line", .int b), ("column", .int c), ("buffer", .str bf), ("pointer", .int p)]
theorem init0 {nm bf : Str} {a b c p : Int} : CallS (S ns) d 0 [.obj (l.length + 1), .str nm, .int a, .int b, .int c, .str bf, .int p] [] (a0 :: (l ++ [.inst 0 []])) .none (a0 :: (l ++ [.inst 0 (markF nm a b c bf p)])) := by
  refine .ini ?_
  exact Mine.CallS.by [.v .ob (O.inst 0 []), .v .ob (O.inst 0 [(Str.ofString "name", V.str nm)]), .v .ob (O.inst 0 [(Str.ofString "name", V.str nm), (Str.ofString "index", V.int a)]), .v .ob (O.inst 0 [(Str.ofString "name", V.str nm), (Str.ofString "index", V.int a), (Str.ofString "line", V.int b)]), .v .ob (O.inst 0 [(Str.ofString "name", V.str nm), (Str.ofString "index", V.int a), (Str.ofString "line", V.int b), (Str.ofString "column", V.int c)]), .v .ob (O.inst 0 [(Str.ofString "name", V.str nm), (Str.ofString "index", V.int a), (Str.ofString "line", V.int b), (Str.ofString "column", V.int c), (Str.ofString "buffer", V.str bf)])] (an (ga (l := l) (o := O.inst 0 []) (r := [])) (an (gs (o' := O.inst 0 [(Str.ofString "name", V.str nm)]) (ga (l := l) (o := O.inst 0 []) (r := []))) (an (gs (o' := O.inst 0 [(Str.ofString "name", V.str nm), (Str.ofString "index", V.int a)]) (gs (o' := O.inst 0 [(Str.ofString "name", V.str nm)]) (ga (l := l) (o := O.inst 0 []) (r := [])))) (an (gs (o' := O.inst 0 [(Str.ofString "name", V.str nm), (Str.ofString "index", V.int a), (Str.ofString "line", V.int b)]) (gs (o' := O.inst 0 [(Str.ofString "name", V.str nm), (Str.ofString "index", V.int a)]) (gs (o' := O.inst 0 [(Str.ofString "name", V.str nm)]) (ga (l := l) (o := O.inst 0 []) (r := []))))) (an (gs (o' := O.inst 0 [(Str.ofString "name", V.str nm), (Str.ofString "index", V.int a), (Str.ofString "line", V.int b), (Str.ofString "column", V.int c)]) (gs (o' := O.inst 0 [(Str.ofString "name", V.str nm), (Str.ofString "index", V.int a), (Str.ofString "line", V.int b)]) (gs (o' := O.inst 0 [(Str.ofString "name", V.str nm), (Str.ofString "index", V.int a)]) (gs (o' := O.inst 0 [(Str.ofString "name", V.str nm)]) (ga (l := l) (o := O.inst 0 []) (r := [])))))) (an (gs (o' := O.inst 0 [(Str.ofString "name", V.str nm), (Str.ofString "index", V.int a), (Str.ofString "line", V.int b), (Str.ofString "column", V.int c), (Str.ofString "buffer", V.str bf)]) (gs (o' := O.inst 0 [(Str.ofString "name", V.str nm), (Str.ofString "index", V.int a), (Str.ofString "line", V.int b), (Str.ofString "column", V.int c)]) (gs (o' := O.inst 0 [(Str.ofString "name", V.str nm), (Str.ofString "index", V.int a), (Str.ofString "line", V.int b)]) (gs (o' := O.inst 0 [(Str.ofString "name", V.str nm), (Str.ofString "index", V.int a)]) (gs (o' := O.inst 0 [(Str.ofString "name", V.str nm)]) (ga (l := l) (o := O.inst 0 []) (r := []))))))) trivial)))))) (fun k e => by kernel_rfl)
noncomputable def mkF (σ : Sc) : List (Str × V) := markF "<unicode string>" σ.ix σ.ln σ.cl ⟨σ.B.toArray⟩ σ.p
noncomputable abbrev mk (σ : Sc) : V := .rcd 0 (mkF σ)
theorem get_mark : CallS (S ns) (d + 1) 7 [.obj 0] [] (scO σ :: hs) (mk σ) (scO σ :: (hs ++ [.dead])) := by
  rw [← app_set hs (.inst 0 (mkF σ))]
  unfold mk mkF
  exact Mine.CallS.by [.a 1, .c (V.none) (scO σ :: (hs ++ [O.inst 0 (markF (Str.ofString "<unicode string>") (↑(Sc.ix σ) : Int) (↑(Sc.ln σ) : Int) (↑(Sc.cl σ) : Int) (Str.mk (List.toArray (Sc.B σ))) (↑(Sc.p σ) : Int))])), .v .ob (O.inst 0 [(Str.ofString "name", V.str (Str.ofString "<unicode string>")), (Str.ofString "index", V.int (↑(Sc.ix σ) : Int)), (Str.ofString "line", V.int (↑(Sc.ln σ) : Int)), (Str.ofString "column", V.int (↑(Sc.cl σ) : Int)), (Str.ofString "buffer", V.str (Str.mk (List.toArray (Sc.B σ)))), (Str.ofString "pointer", V.int (↑(Sc.p σ) : Int))])] (an (init0 (ns := ns) (d := d) (l := hs) (a0 := scO σ) (nm := Str.ofString "<unicode string>") (bf := Str.mk (List.toArray (Sc.B σ))) (a := (↑(Sc.ix σ) : Int)) (b := (↑(Sc.ln σ) : Int)) (c := (↑(Sc.cl σ) : Int)) (p := (↑(Sc.p σ) : Int))) (an (ga (l := hs) (o := O.inst 0 [(Str.ofString "name", V.str (Str.ofString "<unicode string>")), (Str.ofString "index", V.int (↑(Sc.ix σ) : Int)), (Str.ofString "line", V.int (↑(Sc.ln σ) : Int)), (Str.ofString "column", V.int (↑(Sc.cl σ) : Int)), (Str.ofString "buffer", V.str (Str.mk (List.toArray (Sc.B σ)))), (Str.ofString "pointer", V.int (↑(Sc.p σ) : Int))]) (r := [])) trivial)) (fun k e => by kernel_rfl)
theorem init11 {c1 c2 : Nat} {f1 f2 : List (Str × V)} : CallS (S ns) d 11 [.obj (l.length + 1), .rcd c1 f1, .rcd c2 f2] [("encoding", .none)] (a0 :: (l ++ [.inst 1 []])) .none (a0 :: (l ++ [.inst 1 [("start_mark", .rcd c1 f1), ("end_mark", .rcd c2 f2), ("encoding", .none)]])) := by
  refine .inik ?_
  exact Mine.CallS.by [.v .ob (O.inst 1 []), .v .ob (O.inst 1 [(Str.ofString "start_mark", V.rcd c1 f1)]), .v .ob (O.inst 1 [(Str.ofString "start_mark", V.rcd c1 f1), (Str.ofString "end_mark", V.rcd c2 f2)])] (an (ga (l := l) (o := O.inst 1 []) (r := [])) (an (gs (o' := O.inst 1 [(Str.ofString "start_mark", V.rcd c1 f1)]) (ga (l := l) (o := O.inst 1 []) (r := []))) (an (gs (o' := O.inst 1 [(Str.ofString "start_mark", V.rcd c1 f1), (Str.ofString "end_mark", V.rcd c2 f2)]) (gs (o' := O.inst 1 [(Str.ofString "start_mark", V.rcd c1 f1)]) (ga (l := l) (o := O.inst 1 []) (r := [])))) trivial))) (fun k e => by kernel_rfl)
theorem init10 {c1 c2 : Nat} {f1 f2 : List (Str × V)} : CallS (S ns) d 10 [.obj (l.length + 1), .rcd c1 f1, .rcd c2 f2] [] (a0 :: (l ++ [.inst 2 []])) .none (a0 :: (l ++ [.inst 2 [("start_mark", .rcd c1 f1), ("end_mark", .rcd c2 f2)]])) := by
  refine .ini ?_
  exact Mine.CallS.by [.v .ob (O.inst 2 []), .v .ob (O.inst 2 [(Str.ofString "start_mark", V.rcd c1 f1)])] (an (ga (l := l) (o := O.inst 2 []) (r := [])) (an (gs (o' := O.inst 2 [(Str.ofString "start_mark", V.rcd c1 f1)]) (ga (l := l) (o := O.inst 2 []) (r := []))) trivial)) (fun k e => by kernel_rfl)
noncomputable abbrev scalarV (v : Str) (a b : V) (y : Str) : V := .rcd 6 [("value", .str v), ("plain", .bool false), ("start_mark", a), ("end_mark", b), ("style", .str y)]
theorem init12 {v y : Str} {c1 c2 : Nat} {f1 f2 : List (Str × V)} : CallS (S ns) d 12 [.obj (l.length + 1), .str v, .bool false, .rcd c1 f1, .rcd c2 f2, .str y] [] (a0 :: (l ++ [.inst 6 []])) .none (a0 :: (l ++ [.inst 6 [("value", .str v), ("plain", .bool false), ("start_mark", .rcd c1 f1), ("end_mark", .rcd c2 f2), ("style", .str y)]])) := by
  refine .ini ?_
  exact Mine.CallS.by [.v .ob (O.inst 6 []), .v .ob (O.inst 6 [(Str.ofString "value", V.str v)]), .v .ob (O.inst 6 [(Str.ofString "value", V.str v), (Str.ofString "plain", V.bool false)]), .v .ob (O.inst 6 [(Str.ofString "value", V.str v), (Str.ofString "plain", V.bool false), (Str.ofString "start_mark", V.rcd c1 f1)]), .v .ob (O.inst 6 [(Str.ofString "value", V.str v), (Str.ofString "plain", V.bool false), (Str.ofString "start_mark", V.rcd c1 f1), (Str.ofString "end_mark", V.rcd c2 f2)])] (an (ga (l := l) (o := O.inst 6 []) (r := [])) (an (gs (o' := O.inst 6 [(Str.ofString "value", V.str v)]) (ga (l := l) (o := O.inst 6 []) (r := []))) (an (gs (o' := O.inst 6 [(Str.ofString "value", V.str v), (Str.ofString "plain", V.bool false)]) (gs (o' := O.inst 6 [(Str.ofString "value", V.str v)]) (ga (l := l) (o := O.inst 6 []) (r := [])))) (an (gs (o' := O.inst 6 [(Str.ofString "value", V.str v), (Str.ofString "plain", V.bool false), (Str.ofString "start_mark", V.rcd c1 f1)]) (gs (o' := O.inst 6 [(Str.ofString "value", V.str v), (Str.ofString "plain", V.bool false)]) (gs (o' := O.inst 6 [(Str.ofString "value", V.str v)]) (ga (l := l) (o := O.inst 6 []) (r := []))))) (an (gs (o' := O.inst 6 [(Str.ofString "value", V.str v), (Str.ofString "plain", V.bool false), (Str.ofString "start_mark", V.rcd c1 f1), (Str.ofString "end_mark", V.rcd c2 f2)]) (gs (o' := O.inst 6 [(Str.ofString "value", V.str v), (Str.ofString "plain", V.bool false), (Str.ofString "start_mark", V.rcd c1 f1)]) (gs (o' := O.inst 6 [(Str.ofString "value", V.str v), (Str.ofString "plain", V.bool false)]) (gs (o' := O.inst 6 [(Str.ofString "value", V.str v)]) (ga (l := l) (o := O.inst 6 []) (r := [])))))) trivial))))) (fun k e => by kernel_rfl)
theorem init13 {t ix ln cl : Int} {r : Bool} {c1 : Nat} {f1 : List (Str × V)} : CallS (S ns) d 13 [.obj (l.length + 1), .int t, .bool r, .int ix, .int ln, .int cl, .rcd c1 f1] [] (a0 :: (l ++ [.inst 7 []])) .none (a0 :: (l ++ [.inst 7 [("token_number", .int t), ("required", .bool r), ("index", .int ix), ("line", .int ln), ("column", .int cl), ("mark", .rcd c1 f1)]])) := by
  refine .ini ?_
  exact Mine.CallS.by [.v .ob (O.inst 7 []), .v .ob (O.inst 7 [(Str.ofString "token_number", V.int t)]), .v .ob (O.inst 7 [(Str.ofString "token_number", V.int t), (Str.ofString "required", V.bool r)]), .v .ob (O.inst 7 [(Str.ofString "token_number", V.int t), (Str.ofString "required", V.bool r), (Str.ofString "index", V.int ix)]), .v .ob (O.inst 7 [(Str.ofString "token_number", V.int t), (Str.ofString "required", V.bool r), (Str.ofString "index", V.int ix), (Str.ofString "line", V.int ln)]), .v .ob (O.inst 7 [(Str.ofString "token_number", V.int t), (Str.ofString "required", V.bool r), (Str.ofString "index", V.int ix), (Str.ofString "line", V.int ln), (Str.ofString "column", V.int cl)])] (an (ga (l := l) (o := O.inst 7 []) (r := [])) (an (gs (o' := O.inst 7 [(Str.ofString "token_number", V.int t)]) (ga (l := l) (o := O.inst 7 []) (r := []))) (an (gs (o' := O.inst 7 [(Str.ofString "token_number", V.int t), (Str.ofString "required", V.bool r)]) (gs (o' := O.inst 7 [(Str.ofString "token_number", V.int t)]) (ga (l := l) (o := O.inst 7 []) (r := [])))) (an (gs (o' := O.inst 7 [(Str.ofString "token_number", V.int t), (Str.ofString "required", V.bool r), (Str.ofString "index", V.int ix)]) (gs (o' := O.inst 7 [(Str.ofString "token_number", V.int t), (Str.ofString "required", V.bool r)]) (gs (o' := O.inst 7 [(Str.ofString "token_number", V.int t)]) (ga (l := l) (o := O.inst 7 []) (r := []))))) (an (gs (o' := O.inst 7 [(Str.ofString "token_number", V.int t), (Str.ofString "required", V.bool r), (Str.ofString "index", V.int ix), (Str.ofString "line", V.int ln)]) (gs (o' := O.inst 7 [(Str.ofString "token_number", V.int t), (Str.ofString "required", V.bool r), (Str.ofString "index", V.int ix)]) (gs (o' := O.inst 7 [(Str.ofString "token_number", V.int t), (Str.ofString "required", V.bool r)]) (gs (o' := O.inst 7 [(Str.ofString "token_number", V.int t)]) (ga (l := l) (o := O.inst 7 []) (r := [])))))) (an (gs (o' := O.inst 7 [(Str.ofString "token_number", V.int t), (Str.ofString "required", V.bool r), (Str.ofString "index", V.int ix), (Str.ofString "line", V.int ln), (Str.ofString "column", V.int cl)]) (gs (o' := O.inst 7 [(Str.ofString "token_number", V.int t), (Str.ofString "required", V.bool r), (Str.ofString "index", V.int ix), (Str.ofString "line", V.int ln)]) (gs (o' := O.inst 7 [(Str.ofString "token_number", V.int t), (Str.ofString "required", V.bool r), (Str.ofString "index", V.int ix)]) (gs (o' := O.inst 7 [(Str.ofString "token_number", V.int t), (Str.ofString "required", V.bool r)]) (gs (o' := O.inst 7 [(Str.ofString "token_number", V.int t)]) (ga (l := l) (o := O.inst 7 []) (r := []))))))) trivial)))))) (fun k e => by kernel_rfl)
end
end Mine
end
section
open PySem PySem.W PyProof.Rows
set_option Elab.async false
set_option linter.unusedVariables false
set_option linter.unusedSectionVars false
set_option maxRecDepth 100000
namespace Mine
noncomputable abbrev BRK : List Nat := [13, 10, 133, 8232, 8233]
noncomputable def strV (x : List Nat) : V := .str ⟨x.toArray⟩
inductive Brk : List Nat → List Nat → List Nat → Prop
  | crlf {r : List Nat} : Brk [13, 10] [10] r
  | one {c : Nat} {r : List Nat} : c ∈ [13, 10, 133] → (∀ r', c :: r ≠ 13 :: 10 :: r') → Brk [c] [10] r
  | wide {c : Nat} {r : List Nat} : c ∈ [8232, 8233] → Brk [c] [c] r
theorem Brk.head {b l r : List Nat} (h : Brk b l r) {G : Prop} (k : ∀ a b', b = a :: b' → a ∈ BRK → l ≠ [] → G) : G := by
  cases h with
  | crlf => exact k 13 [10] rfl (.head _) (fun z => nomatch z)
  | @one c r hc _ => exact k c [] rfl (by revert hc; simp only [List.mem_cons, List.not_mem_nil, or_false]; exact fun h => h.elim .inl fun h => .inr (h.elim .inl fun h => .inr (.inl h))) (fun z => nomatch z)
  | @wide c r hc => exact k c [] rfl (.tail _ (.tail _ (.tail _ hc))) (fun z => nomatch z)
theorem Brk.len {b l r : List Nat} (h : Brk b l r) : l.length ≤ b.length ∧ 1 ≤ b.length := by cases h <;> first | exact ⟨Nat.le_refl 1, Nat.le_refl 1⟩ | exact ⟨by decide, by decide⟩
noncomputable def HeadOK (x : List Nat) : Prop := ∀ a, x.head? = some a → a ≠ 45 ∧ a ≠ 46
theorem head3 {u : List Nat} (h : HeadOK u) (k : Nat) (hk : k = 45 ∨ k = 46) : u.take 3 ≠ [k, k, k] := by
  intro e
  cases u with
  | nil => cases e
  | cons g gs =>
    have := h g rfl
    rw [(List.cons.inj e).1] at this
    exact hk.elim this.1 this.2
noncomputable abbrev Blank (ws : List Nat) : Prop := ∀ y ∈ ws, y ∈ [32, 9]
inductive RowC : List Nat → List Nat → List Nat → Prop
  | stop {ws : List Nat} {c : Nat} {u : List Nat} : Blank ws → c ∉ [32, 9] → c ∉ BRK → HeadOK (ws ++ c :: u) → RowC ws [] (c :: u)
  | more {ws b l x t r : List Nat} : Blank ws → Brk b l (x ++ r) → HeadOK (ws ++ (b ++ (x ++ r))) → RowC x t r → RowC (ws ++ (b ++ x)) (l ++ t) r
theorem RowC.rest {x t r : List Nat} (h : RowC x t r) : ∃ c u, r = c :: u := by
  induction h with
  | stop => exact ⟨_, _, rfl⟩
  | more _ _ _ _ ih => exact ih
noncomputable def Fit (xs : List (List Nat)) (u : List Nat) : Prop := xs.length + u.length ≤ lim
theorem Fit.ok {xs : List (List Nat)} {u : List Nat} (h : Fit xs u) : okL (xs.map strV).length = true := okL_t (by unfold Fit at h; rw [List.length_map]; omega)
theorem Fit.app {xs ys : List (List Nat)} {x r : List Nat} (h : Fit xs (x ++ r)) (e : ys.length ≤ x.length) : Fit (xs ++ ys) r := by unfold Fit at *; rw [List.length_append] at *; omega
theorem Fit.ext {xs ys : List (List Nat)} {x r : List Nat} (h : Fit xs (x ++ r)) (e : ys.length ≤ x.length) : okL ((xs.map strV).length + (ys.map strV).length) = true := okL_t (by unfold Fit at h; rw [List.length_append] at h; rw [List.length_map, List.length_map]; omega)
theorem Fit.drop {xs : List (List Nat)} {x r : List Nat} (h : Fit xs (x ++ r)) : Fit xs r := by unfold Fit at *; rw [List.length_append] at *; omega
theorem Fit.as {xs : List (List Nat)} {u v : List Nat} (h : Fit xs u) (e : u = v) : Fit xs v := e ▸ h
noncomputable def NoFro (h : List O) : Prop := h.all notFro = true
theorem NoFro.app {h x : List O} (n : NoFro h) (m : NoFro x) : NoFro (h ++ x) := by
  unfold NoFro at *
  rw [List.all_append, n, m]; rfl
theorem NoFro.set {h : List O} (n : NoFro h) {i : Nat} {o : O} (ho : notFro o = true) : NoFro (h.set i o) := by
  unfold NoFro at *
  rw [List.all_eq_true] at *
  exact fun x hx => (List.mem_or_eq_of_mem_set hx).elim (n x) fun e => e ▸ ho
noncomputable def Ext (h h' : List O) : Prop := h.length ≤ h'.length ∧ (∀ j, j < h.length → h'[j]? = h[j]?) ∧ (NoFro h → NoFro h')
theorem Ext.refl (h : List O) : Ext h h := ⟨Nat.le_refl _, fun _ _ => rfl, id⟩
theorem Ext.trans {a b c : List O} (x : Ext a b) (y : Ext b c) : Ext a c := ⟨Nat.le_trans x.1 y.1, fun j h2 => (y.2.1 j (Nat.lt_of_lt_of_le h2 x.1)).trans (x.2.1 j h2), fun n => y.2.2 (x.2.2 n)⟩
theorem Ext.app (h : List O) {o : O} (ho : notFro o = true := by rfl) : Ext h (h ++ [o]) := ⟨by rw [List.length_append]; exact Nat.le_add_right .., fun j h2 => List.getElem?_append_left h2, fun n => n.app (by unfold NoFro; rw [List.all_cons, ho]; rfl)⟩
theorem Ext.up {h h' : List O} (x : Ext h h') {c : Nat} (hc : h.length ≤ c) {o : O} (ho : notFro o = true := by rfl) : Ext h (h'.set c o) :=
  ⟨by rw [List.length_set]; exact x.1, fun j h2 => (List.getElem?_set_ne (Nat.ne_of_gt (Nat.lt_of_lt_of_le h2 hc))).trans (x.2.1 j h2), fun n => (x.2.2 n).set ho⟩
theorem Ext.get {h h' : List O} (x : Ext h h') {j : Nat} {o : O} (e : h[j]? = some o) : h'[j]? = some o := (x.2.1 j (List.getElem?_eq_some_iff.mp e).1).trans e
structure Came (h h' : List O) (ys : List (List Nat)) : Prop where
  lst : h'[h.length]? = some (.list (ys.map strV))
  ext : Ext h h'
section
variable {ns : List Int} {σ : Sc} {c d : Nat} {hs : List O} {r l b : List Nat} {a : Nat}
theorem mem_of {a : Nat} {L M : List Nat} (h : a ∉ M) (s : ∀ y ∈ L, y ∈ M := by decide) : a ∉ L := fun q => h (s a q)
theorem not_of {a : Nat} {L M : List Nat} (h : a ∈ L) (s : ∀ y ∈ L, y ∉ M := by decide) : a ∉ M := s a h
theorem lb_none {c : Nat} (h : Rd σ (c :: r)) (hc : c ∉ BRK) : CallS (S ns) (d + 1) 38 [.obj 0] [] (scO σ :: hs) (.str "") (scO σ :: hs) := by
  have q1 : c ∉ [13, 10, 133] := mem_of hc
  have q2 : c ∉ [8232, 8233] := mem_of hc
  exact Mine.CallS.by [.c (ch1 c) (scO σ :: hs), .a 1, .f, .f] (an (peekR (ns := ns) (σ := σ) (d := d) (hs := hs) (r := r) (c := c) (h := h)) (an (cr3_f (c := c) (h := q1)) (an (us2_f (c := c) (h := q2)) trivial))) (fun k e => by kernel_rfl)
theorem lbR (h : Rd σ (b ++ c :: r)) (hb : Brk b l (c :: r)) : CallS (S ns) (d + 2) 38 [.obj 0] [] (scO σ :: hs) (.str ⟨l.toArray⟩) (scO (fwdN b.length σ) :: hs) := by
  cases hb with
  | crlf =>
    have q : (13 : Nat) ∈ [13, 10, 133] := .head _
    have q2 : ([13, 10] ++ c :: r).take 2 = [13, 10] := rfl
    have e := fwdR (ns := ns) (d := d) (hs := hs) (x := [13, 10]) h
    have e : CallS (S ns) (d + 1) 6 [.obj 0, .int 2] [] (scO σ :: hs) .none (scO (fwdN 2 σ) :: hs) := e
    exact Mine.CallS.by [.c (ch1 13) (scO σ :: hs), .a 2, .c (V.str (Str.mk (List.toArray (List.take 2 ([13, 10] ++ c :: r))))) (scO σ :: hs), .t, .c (V.none) (scO (fwdN (List.length [13, 10]) σ) :: hs)] (an (peekR (ns := ns) (σ := σ) (d := d + 1) (hs := hs) (r := List.append [10] (c :: r)) (c := 13) (h := h)) (an (prefR (ns := ns) (σ := σ) (d := d) (hs := hs) (u := [13, 10] ++ c :: r) (n := 2) (h := h)) (an cr_t (an e trivial)))) (fun k e => by kernel_rfl)
  | @one a r hc hn =>
    have q : ([a] ++ c :: r).take 2 ≠ [13, 10] := fun e => hn r (by
      have e : [a, c] = [13, 10] := e
      rw [(List.cons.inj e).1, (List.cons.inj (List.cons.inj e).2).1])
    have e := fwd0 (ns := ns) (d := d) (hs := hs) h
    exact Mine.CallS.by [.c (ch1 a) (scO σ :: hs), .a 1, .t, .c (V.str (Str.mk (List.toArray (List.take 2 ([a] ++ c :: r))))) (scO σ :: hs), .f, .c (V.none) (scO (fwdN 1 σ) :: hs)] (an (peekR (ns := ns) (σ := σ) (d := d + 1) (hs := hs) (r := List.append [] (c :: r)) (c := a) (h := h)) (an (cr3_t (c := a) (h := hc)) (an (prefR (ns := ns) (σ := σ) (d := d) (hs := hs) (u := [a] ++ c :: r) (n := 2) (h := h)) (an (crlf_f (l := List.take 2 ([a] ++ c :: r)) (n := q)) (an e trivial))))) (fun k e => by kernel_rfl)
  | @wide a r hc =>
    have q : a ∉ [13, 10, 133] := not_of hc
    have e := fwd0 (ns := ns) (d := d) (hs := hs) h
    exact Mine.CallS.by [.c (ch1 a) (scO σ :: hs), .a 1, .f, .t, .c (V.none) (scO (fwdN 1 σ) :: hs)] (an (peekR (ns := ns) (σ := σ) (d := d + 1) (hs := hs) (r := List.append [] (c :: r)) (c := a) (h := h)) (an (cr3_f (c := a) (h := q)) (an (us2_t (c := a) (h := hc)) (an e trivial)))) (fun k e => by kernel_rfl)
end
end Mine
end
section
open PySem PySem.W PyProof.Rows
set_option Elab.async false
set_option linter.unusedVariables false
set_option linter.unusedSectionVars false
set_option maxRecDepth 100000
namespace Mine
noncomputable def T37i : Expr := wT (sAt (wB (sAt (bodyN 37) 1)) 2)
noncomputable def B37i : List Stmt := wB (sAt (wB (sAt (bodyN 37) 1)) 2)
noncomputable def T37 : Expr := wT (sAt (bodyN 37) 1)
noncomputable def B37 : List Stmt := wB (sAt (bodyN 37) 1)
noncomputable abbrev loc37 (c : Nat) (a b v : V) : List (Str × V) := [("self", .obj 0), ("double", a), ("start_mark", b), ("chunks", .obj c), ("prefix", v)]
section
variable {ns : List Int} {d : Nat} {hs : List O} {r l : List Nat} {x : Nat} {a b v : V}
theorem skip37 {c : Nat} (hx : x ∉ [32, 9]) : ∀ {ws : List Nat} {σ : Sc}, Blank ws → Rd σ (ws ++ x :: r) → WhlS (S ns) (d + 2) T37i B37i ⟨loc37 c a b v, scO σ :: hs⟩ .next ⟨loc37 c a b v, scO (fwdN ws.length σ) :: hs⟩ := by
  intro ws
  induction ws with
  | nil =>
    intro σ _ h
    rw [show fwdN (List.length (α := Nat) []) σ = σ from rfl]
    have h : Rd σ (x :: r) := h
    exact Mine.WhlS.by [.c (ch1 x) (scO σ :: hs), .f] (an (peekR (ns := ns) (σ := σ) (d := d + 1) (hs := hs) (r := r) (c := x) (h := h)) (an (blk_f (c := x) (h := hx)) trivial)) (fun k e => by kernel_rfl)
  | cons y ws ih =>
    intro σ hw h
    have hy := hw y (.head _)
    have e3 := ih (fun z hz => hw z (.tail _ hz)) (Rd.next h)
    have h : Rd σ (y :: (ws ++ x :: r)) := h
    have e2 : CallS (S ns) (d + 1) 6 [.obj 0] [] (scO σ :: hs) .none (scO (fwdN 1 σ) :: hs) := by
      cases ws with
      | nil => exact fwd0 h
      | cons z ws => exact fwd0 h
    rw [← fwdN_add, Nat.add_comm 1] at e3
    refine Mine.WhlS.go (s1 := St.mk [(Str.ofString "self", V.obj 0), (Str.ofString "double", a), (Str.ofString "start_mark", b), (Str.ofString "chunks", V.obj c), (Str.ofString "prefix", v)] (scO (fwdN 1 σ) :: hs)) [.c (ch1 y) (scO σ :: hs), .t, .c (V.none) (scO (fwdN 1 σ) :: hs)] ?_ (an (peekR (ns := ns) (σ := σ) (d := d + 1) (hs := hs) (r := ws ++ x :: r) (c := y) (h := h)) (an (blk_t (c := y) (h := hy)) (an e2 trivial))) (fun k e => by kernel_rfl)
    exact e3
noncomputable def Lp37 (ns : List Int) (d c : Nat) (a b v : V) (σ : Sc) (hs : List O) (xs : List (List Nat)) (x t : List Nat) : Prop :=
  ∃ ys v', ys.flatten = t ∧ ys.length ≤ x.length ∧ (t = [] → ys = []) ∧ WhlS (S ns) (d + 3) T37 B37 ⟨loc37 (c + 1) a b v, scO σ :: hs⟩ (.ret (.obj (c + 1))) ⟨loc37 (c + 1) a b v', scO (fwdN x.length σ) :: hs.set c (.list ((xs ++ ys).map strV))⟩
theorem brk37 {c : Nat} {x t : List Nat} (hr : RowC x t r) : ∀ {σ : Sc} {hs : List O} {v : V} {xs : List (List Nat)}, Rd σ (x ++ r) → hs[c]? = some (.list (xs.map strV)) → Fit xs (x ++ r) → okV v = true → Lp37 ns d c a b v σ hs xs x t := by
  induction hr with
  | @stop ws x u hws hx hb hok =>
    intro σ hs v xs h hc _ hv
    have e1 := prefR (ns := ns) (d := d + 1) (hs := hs) h (n := 3)
    have e1 : CallS (S ns) (d + 2) 5 [.obj 0, .int 3] [] (scO σ :: hs) (.str ⟨((ws ++ x :: u).take 3).toArray⟩) (scO σ :: hs) := e1
    have e2 := skip37 (ns := ns) (d := d + 1) (c := c + 1) (hs := hs) (a := a) (b := b) (v := strV ((ws ++ x :: u).take 3)) hx hws h
    have h2 := h.skip
    have q1 := head3 hok 45 (.inl rfl)
    have q2 := head3 hok 46 (.inr rfl)
    refine ⟨[], strV ((ws ++ x :: u).take 3), rfl, Nat.zero_le _, fun _ => rfl, ?_⟩
    rw [List.append_nil, set_id hc]
    exact Mine.WhlS.by [.a 1, .c (V.str (Str.mk (List.toArray (List.take 3 (ws ++ x :: u))))) (scO σ :: hs), .t, .f, .f, .a 2, .w (Fl.next) (St.mk (loc37 (c + 1) a b (strV (List.take 3 (ws ++ x :: u)))) (scO (fwdN (List.length ws) σ) :: hs)), .c (ch1 x) (scO (fwdN (List.length ws) σ) :: hs), .f] (an e1 (an (pl_t (u := v) (v := V.str (Str.mk (List.toArray (List.take 3 (ws ++ x :: u))))) (h := hv) (h2 := (by rfl))) (an (dash3_f (l := List.take 3 (ws ++ x :: u)) (n := q1)) (an (dots_f (l := List.take 3 (ws ++ x :: u)) (n := q2)) (an e2 (an (peekR (ns := ns) (σ := fwdN (List.length ws) σ) (d := d + 2) (hs := hs) (r := u) (c := x) (h := h2)) (an (brk_f (c := x) (h := hb)) trivial))))))) (fun k e => by kernel_rfl)
  | @more ws b l x t r hws hb hok hrow ih =>
    intro σ hs v xs h hc hf hv
    rw [List.append_assoc, List.append_assoc] at h hf
    refine hb.head fun q b' eb hq hl => ?_
    subst eb
    have hx : q ∉ [32, 9] := not_of hq
    have e1 := prefR (ns := ns) (d := d + 1) (hs := hs) h (n := 3)
    have e1 : CallS (S ns) (d + 2) 5 [.obj 0, .int 3] [] (scO σ :: hs) (.str ⟨((ws ++ (q :: b' ++ (x ++ r))).take 3).toArray⟩) (scO σ :: hs) := e1
    have e2 := skip37 (ns := ns) (d := d + 1) (c := c + 1) (hs := hs) (a := a) (b := b) (v := strV ((ws ++ (q :: b' ++ (x ++ r))).take 3)) hx hws h
    have h2 := h.skip
    have h2' : Rd (fwdN ws.length σ) (q :: (b' ++ (x ++ r))) := h2
    have e4 : CallS (S ns) (d + 2) 38 [.obj 0] [] (scO (fwdN ws.length σ) :: hs) (.str ⟨l.toArray⟩) (scO (fwdN (q :: b').length (fwdN ws.length σ)) :: hs) := by
      refine Exists.elim hrow.rest fun z hr => Exists.elim hr fun u e => ?_
      subst e
      cases x with
      | nil => exact lbR h2 hb
      | cons y x => exact lbR h2 hb
    have h3 := h2.skip
    rw [← fwdN_add] at h3 e4
    have hl2 := hb.len
    refine el_2_4 (ih (v := strV ((ws ++ (q :: b' ++ (x ++ r))).take 3)) (xs := xs ++ [l]) h3 (gs hc) ((hf.drop).app (ys := [l]) (x := q :: b') (Nat.le_add_left ..)) rfl) fun ys v' hy hn _ e5 => ?_
    rw [← fwdN_add] at e5
    have q1 := head3 hok 45 (.inl rfl)
    have q2 := head3 hok 46 (.inr rfl)
    have hxl := hf.ok
    rw [List.set_set, List.map_append, List.append_assoc] at e5
    refine ⟨l :: ys, v', by rw [List.flatten_cons, hy], ?_, fun e => (hl (List.append_eq_nil_iff.mp e).1).elim, ?_⟩
    · rw [List.length_cons, List.length_append, List.length_append]; exact Nat.le_trans (Nat.add_le_add hn hl2.2) (by rw [Nat.add_comm]; exact Nat.le_add_left ..)
    · rw [List.length_append, List.length_append, ← Nat.add_assoc]
      have hx' : q ∈ [13, 10, 133, 8232, 8233] := hq
      refine Mine.WhlS.go (s1 := St.mk [(Str.ofString "self", V.obj 0), (Str.ofString "double", a), (Str.ofString "start_mark", b), (Str.ofString "chunks", V.obj (c + 1)), (Str.ofString "prefix", V.str (Str.mk (List.toArray (List.take 3 (ws ++ (q :: b' ++ (x ++ r)))))))] (scO (fwdN (List.length ws + (List.length b' + 1)) σ) :: List.set hs c (O.list (List.map strV xs ++ [V.str (Str.mk (List.toArray l))])))) [.a 1, .c (V.str (Str.mk (List.toArray (List.take 3 (ws ++ (q :: b' ++ (x ++ r))))))) (scO σ :: hs), .t, .f, .f, .a 2, .w (Fl.next) (St.mk (loc37 (c + 1) a b (strV (List.take 3 (ws ++ (q :: b' ++ (x ++ r)))))) (scO (fwdN (List.length ws) σ) :: hs)), .c (ch1 q) (scO (fwdN (List.length ws) σ) :: hs), .t, .v .ob (O.list (List.map strV xs)), .c (V.str (Str.mk (List.toArray l))) (scO (fwdN (List.length ws + List.length (q :: b')) σ) :: hs), .v .ob (O.list (List.map strV xs)), .t] ?_ (an e1 (an (pl_t (u := v) (v := V.str (Str.mk (List.toArray (List.take 3 (ws ++ (q :: b' ++ (x ++ r))))))) (h := hv) (h2 := (by rfl))) (an (dash3_f (l := List.take 3 (ws ++ (q :: b' ++ (x ++ r)))) (n := q1)) (an (dots_f (l := List.take 3 (ws ++ (q :: b' ++ (x ++ r)))) (n := q2)) (an e2 (an (peekR (ns := ns) (σ := fwdN (List.length ws) σ) (d := d + 2) (hs := hs) (r := b' ++ (x ++ r)) (c := q) (h := h2')) (an (brk_t (c := q) (h := hq)) (an hc (an e4 (an hc (an hxl trivial))))))))))) (fun k e => by kernel_rfl)
      exact e5
end
end Mine
end
section
open PySem PySem.W PyProof.Rows
set_option Elab.async false
set_option linter.unusedVariables false
set_option linter.unusedSectionVars false
set_option maxRecDepth 100000
namespace Mine
noncomputable def Scan (ns : List Int) (d f : Nat) (vs : List V) (σ : Sc) (hs : List O) (x t : List Nat) : Prop :=
  ∃ ys hs', ys.flatten = t ∧ ys.length ≤ x.length ∧ (t = [] → ys = []) ∧ Came hs hs' ys ∧ CallS (S ns) d f vs [] (scO σ :: hs) (.obj (hs.length + 1)) (scO (fwdN x.length σ) :: hs')
noncomputable def T36 : Expr := wT (sAt (bodyN 36) 2)
noncomputable def B36 : List Stmt := wB (sAt (bodyN 36) 2)
noncomputable abbrev loc36 (c : Nat) (a b : V) (k : Nat) : List (Str × V) := [("self", .obj 0), ("double", a), ("start_mark", b), ("chunks", .obj c), ("length", .int (k : Int)), ("whitespaces", .undef), ("ch", .undef), ("line_break", .undef), ("breaks", .undef)]
theorem nlL_t {l : List Nat} (h : l = [10]) : decide ((⟨l.toArray⟩ : Str) = Str.ofString "\n") = true := lst_t (by decide) h
theorem nlL_f {l : List Nat} (h : l ≠ [10]) : decide ((⟨l.toArray⟩ : Str) = Str.ofString "\n") = false := lst_f (by decide) h
noncomputable def folded (l t : List Nat) : List Nat := if l = [10] then (if t = [] then [32] else t) else l ++ t
theorem neL {a : Nat} : decide (a + 1 + 1 ≠ a + 1) = true := decide_eq_true (Nat.succ_ne_self _)
theorem lenNZ {l : List V} (h : l ≠ []) : decide (l.length ≠ 0) = true := decide_eq_true fun e => h (List.length_eq_zero_iff.mp e)
theorem sp_list : [V.str (Str.ofString " ")] = [[32]].map strV := by
  show [V.str (Str.ofString " ")] = [V.str ⟨#[32]⟩]
  rw [of_decide_eq_true sp_t]
theorem folded_len (l t : List Nat) : l ≠ [] → (folded l t = [] → False) := fun hl h => by
  unfold folded at h
  split at h
  · split at h
    · cases h
    · contradiction
  · exact hl (List.append_eq_nil_iff.mp h).1
section
variable {ns : List Int} {σ : Sc} {d : Nat} {hs : List O} {r l ws : List Nat} {a b : V}
theorem breaks1 {x t : List Nat} (hr : RowC x t r) (h : Rd σ (x ++ r)) : Scan ns (d + 3) 37 [.obj 0, a, b] σ hs x t := by
  have hlen := h.len
  refine el_2_4 (brk37 (ns := ns) (d := d) (c := hs.length) (hs := hs ++ [.list []]) (a := a) (b := b) (v := .undef) (xs := []) hr h ga (by unfold Fit; rw [List.length_nil, Nat.zero_add]; exact hlen) rfl) fun ys v' hy hn hne e => ?_
  refine ⟨ys, (hs ++ [O.list []]).set hs.length (.list (([] ++ ys).map strV)), hy, hn, hne, ⟨gs ga, (Ext.app hs).up (Nat.le_refl _)⟩, ?_⟩
  exact Mine.CallS.by [.a 1, .w (Fl.ret (V.obj (List.length hs + 1))) (St.mk (loc37 (List.length hs + 1) a b v') (scO (fwdN (List.length x) σ) :: List.set (hs ++ [O.list []]) (List.length hs) (O.list (List.map strV ([] ++ ys)))))] (an e trivial) (fun k e => by kernel_rfl)
theorem run36 {c x : Nat} (hx : x ∉ [32, 9]) : ∀ {ws pre : List Nat}, Blank ws → Rd σ (pre ++ (ws ++ x :: r)) → WhlS (S ns) (d + 1) T36 B36 ⟨loc36 c a b pre.length, scO σ :: hs⟩ .next ⟨loc36 c a b (pre ++ ws).length, scO σ :: hs⟩ := by
  intro ws
  induction ws with
  | nil =>
    intro pre _ h
    rw [List.append_nil]
    exact Mine.WhlS.by [.c (ch1 x) (scO σ :: hs), .f] (an (peekN (ns := ns) (σ := σ) (d := d) (hs := hs) (x := pre) (r := r) (c := x) (h := h)) (an (blk_f (c := x) (h := hx)) trivial)) (fun k e => by kernel_rfl)
  | cons y ws ih =>
    intro pre hw h
    have hy := hw y (.head _)
    have e3 := ih (pre := pre ++ [y]) (fun z hz => hw z (.tail _ hz)) (h.as (by simp))
    rw [List.append_assoc] at e3
    rw [List.length_append (bs := [y])] at e3
    refine Mine.WhlS.go (s1 := St.mk [(Str.ofString "self", V.obj 0), (Str.ofString "double", a), (Str.ofString "start_mark", b), (Str.ofString "chunks", V.obj c), (Str.ofString "length", V.int (↑(List.length pre + 1) : Int)), (Str.ofString "whitespaces", V.undef), (Str.ofString "ch", V.undef), (Str.ofString "line_break", V.undef), (Str.ofString "breaks", V.undef)] (scO σ :: hs)) [.c (ch1 y) (scO σ :: hs), .t, .a 1] ?_ (an (peekN (ns := ns) (σ := σ) (d := d) (hs := hs) (x := pre) (r := List.append ws (x :: r)) (c := y) (h := h)) (an (blk_t (c := y) (h := hy)) trivial)) (fun k e => by kernel_rfl)
    exact e3
theorem spaces1 {x : Nat} (hws : Blank ws) (hx : x ∉ [32, 9]) (hx0 : x ≠ 0) (hxb : x ∉ BRK) (h0 : ws ≠ []) (h : Rd σ (ws ++ x :: r)) : Scan ns (d + 3) 36 [.obj 0, a, b] σ hs ws ws := by
  have e1 := run36 (ns := ns) (d := d + 2) (hs := hs ++ [.list []]) (c := hs.length + 1) (a := a) (b := b) hx (pre := []) hws h
  have e2 := prefX (ns := ns) (d := d + 1) (hs := hs ++ [.list []]) h
  have e3 := fwdR (ns := ns) (d := d + 1) (hs := hs ++ [.list []]) h
  have h2 := h.skip
  have hxb' : x ∉ [13, 10, 133, 8232, 8233] := hxb
  refine ⟨[ws], (hs ++ [O.list []]).set hs.length (O.list [strV ws]), List.append_nil _, List.length_pos_iff.mpr h0, fun e => (h0 e).elim, ⟨gs ga, (Ext.app hs).up (Nat.le_refl _)⟩, ?_⟩
  have z0 : okL 0 = true := rfl
  exact Mine.CallS.by [.a 2, .w (Fl.next) (St.mk (loc36 (List.length hs + 1) a b (List.length ([] ++ ws))) (scO σ :: (hs ++ [O.list []]))), .c (V.str (Str.mk (List.toArray ws))) (scO σ :: (hs ++ [O.list []])), .a 1, .c (V.none) (scO (fwdN (List.length ws) σ) :: (hs ++ [O.list []])), .c (ch1 x) (scO (fwdN (List.length ws) σ) :: (hs ++ [O.list []])), .a 1, .f, .f, .v .ob (O.list []), .v .ob (O.list []), .a 1] (an e1 (an e2 (an e3 (an (peekR (ns := ns) (σ := fwdN (List.length ws) σ) (d := d + 2) (hs := hs ++ [O.list []]) (r := r) (c := x) (h := h2)) (an (nul_f (c := x) (h := hx0)) (an (brk_f (c := x) (h := hxb)) (an (ga (l := hs) (o := O.list []) (r := [])) (an (ga (l := hs) (o := O.list []) (r := [])) trivial)))))))) (fun k e => by kernel_rfl)
theorem spaces2 {cc : Nat} {ff : List (Str × V)} {w x t : List Nat} (hws : Blank ws) (hb : Brk w l (x ++ r)) (hr : RowC x t r) (h : Rd σ (ws ++ (w ++ (x ++ r)))) : Scan ns (d + 4) 36 [.obj 0, .bool true, .rcd cc ff] σ hs (ws ++ (w ++ x)) (folded l t) := by
  refine hb.head fun q w' eb hq hl => ?_
  subst eb
  have hl2 := hb.len.2
  have hx : q ∉ [32, 9] := not_of hq
  have hx0 : q ≠ 0 := fun e => absurd (e ▸ hq : 0 ∈ BRK) (by decide)
  have hxb : q ∈ [13, 10, 133, 8232, 8233] := hq
  have e1 := run36 (ns := ns) (d := d + 3) (hs := hs ++ [.list []]) (c := hs.length + 1) (a := .bool true) (b := .rcd cc ff) hx (pre := []) hws h
  have e2 := prefX (ns := ns) (d := d + 2) (hs := hs ++ [.list []]) h
  have e3 := fwdR (ns := ns) (d := d + 2) (hs := hs ++ [.list []]) h
  have h2 := h.skip
  have h2' : Rd (fwdN ws.length σ) (q :: (w' ++ (x ++ r))) := h2
  have e5 : CallS (S ns) (d + 3) 38 [.obj 0] [] (scO (fwdN ws.length σ) :: (hs ++ [.list []])) (.str ⟨l.toArray⟩) (scO (fwdN (q :: w').length (fwdN ws.length σ)) :: (hs ++ [.list []])) := by
    refine Exists.elim hr.rest fun z hr => Exists.elim hr fun u e => ?_
    subst e
    cases x with
    | nil => exact lbR h2 hb
    | cons y x => exact lbR h2 hb
  have h3 := h2.skip
  rw [← fwdN_add] at h3 e5
  refine el_2_5 (breaks1 (ns := ns) (d := d) (hs := hs ++ [.list []]) hr (a := .bool true) (b := .rcd cc ff) h3) fun ys h4 hy hn hne cm e6 => ?_
  rw [← fwdN_add, List.length_append] at e6
  have e6 : CallS (S ns) (d + 3) 37 [.obj 0, .bool true, .rcd cc ff] [] (scO (fwdN (ws.length + (q :: w').length) σ) :: (hs ++ [O.list []])) (.obj (hs.length + 1 + 1)) (scO (fwdN (ws.length + (q :: w').length + x.length) σ) :: h4) := e6
  have hlst : h4[hs.length + 1]? = some (.list (ys.map strV)) := by have := cm.lst; rwa [List.length_append] at this
  have hc4 : h4[hs.length]? = some (.list []) := cm.ext.get ga
  have f0 : Fit [] ((ws ++ q :: w') ++ (x ++ r)) := by have := h.len; unfold Fit; rw [List.length_nil, Nat.zero_add, List.append_assoc]; exact this
  have f1 : Fit [l] (x ++ r) := f0.app (ys := [l]) (by rw [List.length_append]; exact Nat.le_trans hl2 (Nat.le_add_left ..))
  have hys1 := Fit.ok (f0.drop.app hn)
  have hys2 : okL (0 + (ys.map strV).length) = true := Fit.ext f0.drop hn
  have hys3 : okL (1 + (ys.map strV).length) = true := Fit.ext (xs := [l]) f1 hn
  have z0 : okL 0 = true := rfl
  have hne1 : hs.length ≠ hs.length + 1 := Nat.ne_of_lt (Nat.lt_succ_self _)
  rw [show ws.length + (q :: w').length + x.length = (ws ++ (q :: w' ++ x)).length from by rw [List.length_append, List.length_append, Nat.add_assoc]] at e6
  have le : ∀ zs : List (List Nat), zs.length ≤ 1 + x.length → zs.length ≤ (ws ++ (q :: w' ++ x)).length := fun zs h => by rw [List.length_append, List.length_append]; exact Nat.le_trans h (Nat.le_trans (Nat.add_le_add_right hl2 _) (Nat.le_add_left ..))
  have fin : ∀ (zs : List (List Nat)) (o : O), Came hs ((h4.set hs.length o).set hs.length (.list (zs.map strV))) zs := fun zs o => ⟨gs (gs hc4), by rw [List.set_set]; exact ((Ext.app hs).trans cm.ext).up (Nat.le_refl _)⟩
  by_cases ql : l = [10]
  · by_cases qt : t = []
    · have hys0 := hne qt
      subst hys0
      have fin' := fin [[32]] (.list [V.str (Str.ofString " ")])
      rw [← sp_list] at fin'
      refine ⟨[[32]], _, by unfold folded; rw [if_pos ql, if_pos qt]; rfl, le [[32]] (Nat.le_add_right 1 _), fun e => (folded_len l t hl e).elim, fin', ?_⟩
      exact Mine.CallS.by [.a 2, .w (Fl.next) (St.mk (loc36 (List.length hs + 1) (V.bool true) (V.rcd cc ff) (List.length ([] ++ ws))) (scO σ :: (hs ++ [O.list []]))), .c (V.str (Str.mk (List.toArray ws))) (scO σ :: (hs ++ [O.list []])), .a 1, .c (V.none) (scO (fwdN (List.length ws) σ) :: (hs ++ [O.list []])), .c (ch1 q) (scO (fwdN (List.length ws) σ) :: (hs ++ [O.list []])), .a 1, .f, .t, .c (V.str (Str.mk (List.toArray l))) (scO (fwdN (List.length ws + List.length (q :: w')) σ) :: (hs ++ [O.list []])), .a 1, .c (V.obj (List.length hs + 1 + 1)) (scO (fwdN (List.length (ws ++ (q :: w' ++ x))) σ) :: h4), .a 1, .f, .v .ob (O.list (List.map strV [])), .a 2, .v .ob (O.list []), .v .ob (O.list []), .a 1, .v .ob (O.list [V.str (Str.ofString " ")]), .v .ob (O.list [V.str (Str.ofString " ")]), .t, .v .ob (O.list (List.map strV [])), .a 1] (an e1 (an e2 (an e3 (an (peekR (ns := ns) (σ := fwdN (List.length ws) σ) (d := d + 3) (hs := hs ++ [O.list []]) (r := w' ++ (x ++ r)) (c := q) (h := h2')) (an (nul_f (c := q) (h := hx0)) (an (brk_t (c := q) (h := hq)) (an e5 (an e6 (an (congrArg not (nlL_t (l := l) (h := ql))) (an hlst (an hc4 (an hc4 (an (gs (o' := O.list [V.str (Str.ofString " ")]) hc4) (an (gs (o' := O.list [V.str (Str.ofString " ")]) hc4) (an (neL (a := List.length hs)) (an (gn (m := List.length hs) (o' := O.list [V.str (Str.ofString " ")]) hne1 hlst) trivial)))))))))))))))) (fun k e => by kernel_rfl)
    · have hys0 : ys.map strV ≠ [] := fun q => qt (by rw [← hy, List.map_eq_nil_iff.mp q]; rfl)
      have fin' := fin ys (.list (ys.map strV))
      rw [List.set_set] at fin'
      refine ⟨ys, _, by unfold folded; rw [if_pos ql, if_neg qt]; exact hy, le ys (Nat.le_trans hn (Nat.le_add_left ..)), fun e => (folded_len l t hl e).elim, fin', ?_⟩
      exact Mine.CallS.by [.a 2, .w (Fl.next) (St.mk (loc36 (List.length hs + 1) (V.bool true) (V.rcd cc ff) (List.length ([] ++ ws))) (scO σ :: (hs ++ [O.list []]))), .c (V.str (Str.mk (List.toArray ws))) (scO σ :: (hs ++ [O.list []])), .a 1, .c (V.none) (scO (fwdN (List.length ws) σ) :: (hs ++ [O.list []])), .c (ch1 q) (scO (fwdN (List.length ws) σ) :: (hs ++ [O.list []])), .a 1, .f, .t, .c (V.str (Str.mk (List.toArray l))) (scO (fwdN (List.length ws + List.length (q :: w')) σ) :: (hs ++ [O.list []])), .a 1, .c (V.obj (List.length hs + 1 + 1)) (scO (fwdN (List.length (ws ++ (q :: w' ++ x))) σ) :: h4), .a 1, .f, .v .ob (O.list (List.map strV ys)), .t, .f, .v .ob (O.list []), .v .ob (O.list []), .t, .v .ob (O.list (List.map strV ys)), .t] (an e1 (an e2 (an e3 (an (peekR (ns := ns) (σ := fwdN (List.length ws) σ) (d := d + 3) (hs := hs ++ [O.list []]) (r := w' ++ (x ++ r)) (c := q) (h := h2')) (an (nul_f (c := q) (h := hx0)) (an (brk_t (c := q) (h := hq)) (an e5 (an e6 (an (congrArg not (nlL_t (l := l) (h := ql))) (an hlst (an hys1 (an (congrArg not (lenNZ (l := List.map strV ys) (h := hys0))) (an hc4 (an hc4 (an (neL (a := List.length hs)) (an hlst (an hys2 trivial))))))))))))))))) (fun k e => by kernel_rfl)
  · refine ⟨l :: ys, _, by unfold folded; rw [if_neg ql, List.flatten_cons, hy], le (l :: ys) (by rw [List.length_cons, Nat.add_comm]; exact Nat.add_le_add_left hn 1), fun e => (folded_len l t hl e).elim, fin (l :: ys) (.list [strV l]), ?_⟩
    exact Mine.CallS.by [.a 2, .w (Fl.next) (St.mk (loc36 (List.length hs + 1) (V.bool true) (V.rcd cc ff) (List.length ([] ++ ws))) (scO σ :: (hs ++ [O.list []]))), .c (V.str (Str.mk (List.toArray ws))) (scO σ :: (hs ++ [O.list []])), .a 1, .c (V.none) (scO (fwdN (List.length ws) σ) :: (hs ++ [O.list []])), .c (ch1 q) (scO (fwdN (List.length ws) σ) :: (hs ++ [O.list []])), .a 1, .f, .t, .c (V.str (Str.mk (List.toArray l))) (scO (fwdN (List.length ws + List.length (q :: w')) σ) :: (hs ++ [O.list []])), .a 1, .c (V.obj (List.length hs + 1 + 1)) (scO (fwdN (List.length (ws ++ (q :: w' ++ x))) σ) :: h4), .a 1, .t, .v .ob (O.list []), .v .ob (O.list []), .a 1, .v .ob (O.list [V.str (Str.mk (List.toArray l))]), .v .ob (O.list [V.str (Str.mk (List.toArray l))]), .t, .v .ob (O.list (List.map strV ys)), .t] (an e1 (an e2 (an e3 (an (peekR (ns := ns) (σ := fwdN (List.length ws) σ) (d := d + 3) (hs := hs ++ [O.list []]) (r := w' ++ (x ++ r)) (c := q) (h := h2')) (an (nul_f (c := q) (h := hx0)) (an (brk_t (c := q) (h := hq)) (an e5 (an e6 (an (congrArg not (nlL_f (l := l) (h := ql))) (an hc4 (an hc4 (an (gs (o' := O.list [V.str (Str.mk (List.toArray l))]) hc4) (an (gs (o' := O.list [V.str (Str.mk (List.toArray l))]) hc4) (an (neL (a := List.length hs)) (an (gn (m := List.length hs) (o' := O.list [V.str (Str.mk (List.toArray l))]) hne1 hlst) (an hys3 trivial)))))))))))))))) (fun k e => by kernel_rfl)
end
end Mine
end
section
open PySem PySem.W PyProof.Rows
set_option Elab.async false
set_option linter.unusedVariables false
set_option linter.unusedSectionVars false
set_option maxRecDepth 100000
namespace Mine
noncomputable def escL : List (Nat × Nat) := [(48, 0), (97, 7), (98, 8), (116, 9), (9, 9), (110, 10), (118, 11), (102, 12), (114, 13), (101, 27), (32, 32), (34, 34), (92, 92), (47, 47), (78, 133), (95, 160), (76, 8232), (80, 8233)]
noncomputable def esc (e : Nat) : Option Nat := escL.lookup e
noncomputable def codeL : List (Nat × Nat) := [(120, 2), (117, 4), (85, 8)]
noncomputable def codeN (e : Nat) : Option Nat := codeL.lookup e
noncomputable def dT (n : Nat) : List (V × V) := (oD (staT n)).getD []
theorem look_tab {f : Nat → V} (e : Nat) : ∀ L : List (Nat × Nat), lookG asS ⟨#[e]⟩ (L.map fun p => (ch1 p.1, f p.2)) = some ((L.lookup e).map f)
  | [] => rfl
  | (a, b) :: L => by
    have ih := look_tab (f := f) e L
    rw [List.map_cons, lookG]
    show (if (⟨#[a]⟩ : Str) = ⟨#[e]⟩ then _ else _) = _
    rw [List.lookup_cons]
    by_cases q : a = e
    · subst q
      simp
    · rw [if_neg (fun z => q (by rw [str_eq] at z; exact (List.cons.inj z).1)), beq_eq_false_iff_ne.mpr (Ne.symm q)]
      exact ih
theorem dT0 : dT 0 = escL.map fun p => (ch1 p.1, ch1 p.2) := by kernel_rfl
theorem dT1 : dT 1 = codeL.map fun p => (ch1 p.1, V.int (p.2 : Int)) := by kernel_rfl
theorem look0 {e v : Nat} (h : esc e = some v) : lookA (ch1 e) (dT 0) = some (some (ch1 v)) := by
  have z : lookA (ch1 e) (dT 0) = lookG asS ⟨#[e]⟩ (dT 0) := by rw [dT0]; rfl
  rw [z, dT0, look_tab]
  have h : escL.lookup e = some v := h
  rw [h]; rfl
theorem look0n {e : Nat} (h : esc e = none) : lookA (ch1 e) (dT 0) = some none := by
  have z : lookA (ch1 e) (dT 0) = lookG asS ⟨#[e]⟩ (dT 0) := by rw [dT0]; rfl
  rw [z, dT0, look_tab]
  have h : escL.lookup e = none := h
  rw [h]; rfl
theorem look1 {e v : Nat} (h : codeN e = some v) : lookA (ch1 e) (dT 1) = some (some (.int (v : Int))) := by
  have z : lookA (ch1 e) (dT 1) = lookG asS ⟨#[e]⟩ (dT 1) := by rw [dT1]; rfl
  rw [z, dT1, look_tab (f := fun n => V.int (n : Int))]
  have h : codeL.lookup e = some v := h
  rw [h]; rfl
theorem look1n {e : Nat} (h : codeN e = none) : lookA (ch1 e) (dT 1) = some none := by
  have z : lookA (ch1 e) (dT 1) = lookG asS ⟨#[e]⟩ (dT 1) := by rw [dT1]; rfl
  rw [z, dT1, look_tab (f := fun n => V.int (n : Int))]
  have h : codeL.lookup e = none := h
  rw [h]; rfl
noncomputable def B35 : List Stmt := wB (sAt (bodyN 35) 1)
noncomputable def T35 : Expr := wT (sAt (bodyN 35) 1)
noncomputable def B35a : List Stmt := B35.take 4
noncomputable def B35b : List Stmt := B35.drop 4
noncomputable def T35r : Expr := wT (sAt B35 1)
noncomputable def B35r : List Stmt := wB (sAt B35 1)
noncomputable abbrev loc35 (c : Nat) (b L CH K CO : V) : List (Str × V) := [("self", .obj 0), ("double", .bool true), ("start_mark", b), ("chunks", .obj c), ("length", L), ("ch", CH), ("k", K), ("code", CO), ("range", .ty "range"), ("int", .ty "int"), ("chr", .bi "chr")]
noncomputable abbrev STOP : List Nat := [39, 34, 92, 0, 32, 9, 13, 10, 133, 8232, 8233]
noncomputable def runL (run : List Nat) : List (List Nat) := if run = [] then [] else [run]
theorem runL_flat (run : List Nat) : (runL run).flatten = run := by
  unfold runL
  split
  · rename_i e; rw [e]; rfl
  · simp
theorem okN {n : Nat} (h : n ≤ 8) : okL ((n : Int).natAbs) = true := okL_t (by unfold lim; omega)
theorem okN2 {n : Nat} (h : n ≤ 8) : (okL ((0 : Int).natAbs) && okL ((n : Int).natAbs)) = true := by rw [okN h]; rfl
theorem neN {a b : Nat} (h : a ≠ b) : decide (a + 1 ≠ b + 1) = true := decide_eq_true fun e => h (Nat.succ.inj e)
theorem posI {n : Nat} (h : 0 < n) : decide ((n : Int) ≠ 0) = true := decide_eq_true (by omega)
theorem codeN_e {e n : Nat} (he : codeN e = some n) : esc e = none ∧ 0 < n ∧ n ≤ 8 := by
  have : (e = 120 ∧ n = 2) ∨ (e = 117 ∧ n = 4) ∨ (e = 85 ∧ n = 8) := by
    unfold codeN codeL at he
    simp only [List.lookup_cons, List.lookup_nil] at he
    by_cases q1 : e = 120
    · subst q1; simp at he; exact .inl ⟨rfl, he.symm⟩
    · by_cases q2 : e = 117
      · subst q2; simp at he; exact .inr (.inl ⟨rfl, he.symm⟩)
      · by_cases q3 : e = 85
        · subst q3; simp at he; exact .inr (.inr ⟨rfl, he.symm⟩)
        · rw [beq_eq_false_iff_ne.mpr q1, beq_eq_false_iff_ne.mpr q2, beq_eq_false_iff_ne.mpr q3] at he
          cases he
  rcases this with ⟨rfl, rfl⟩ | ⟨rfl, rfl⟩ | ⟨rfl, rfl⟩ <;> decide
theorem brk_esc {x : Nat} (h : x ∈ BRK) : esc x = none ∧ codeN x = none := (show ∀ x ∈ BRK, esc x = none ∧ codeN x = none by decide) x h
noncomputable abbrev HEX : List Nat := [48, 49, 50, 51, 52, 53, 54, 55, 56, 57, 65, 66, 67, 68, 69, 70, 97, 98, 99, 100, 101, 102]
theorem rng_t {j n : Nat} (h : j < n) : some (if (0 : Int) + (j : Int) < (n : Int) then some (V.int (0 + (j : Int))) else none) = some (some (V.int (j : Int))) := by
  rw [if_pos (by omega), Int.zero_add]
theorem rng_f {j n : Nat} (h : n ≤ j) : some (if (0 : Int) + (j : Int) < (n : Int) then some (V.int (0 + (j : Int))) else none) = some none := by
  rw [if_neg (by omega)]
noncomputable def s35 : Stmt := sAt (wB (sAt (wE (sAt (wB (sAt (wE (sAt (wE (sAt B35b 0)) 0)) 0)) 2)) 0)) 2
noncomputable def F35 : Expr := wT s35
noncomputable def G35 : List Stmt := wB s35
section
variable {ns : List Int} {σ : Sc} {c d : Nat} {hs : List O} {r : List Nat} {b L CH K CO : V}
theorem run35 {x : Nat} (hx : x ∈ STOP) : ∀ {ws pre : List Nat}, (∀ y ∈ ws, y ∉ STOP) → Rd σ (pre ++ (ws ++ x :: r)) →
    WhlS (S ns) (d + 1) T35r B35r ⟨loc35 c b (.int (pre.length : Int)) CH K CO, scO σ :: hs⟩ .next ⟨loc35 c b (.int ((pre ++ ws).length : Int)) CH K CO, scO σ :: hs⟩ := by
  intro ws
  induction ws with
  | nil =>
    intro pre _ h
    rw [List.append_nil]
    exact Mine.WhlS.by [.c (ch1 x) (scO σ :: hs), .f] (an (peekN (ns := ns) (σ := σ) (d := d) (hs := hs) (x := pre) (r := r) (c := x) (h := h)) (an (congrArg not (stop_t (c := x) (h := hx))) trivial)) (fun k e => by kernel_rfl)
  | cons y ws ih =>
    intro pre hw h
    have hy := hw y (.head _)
    have e3 := ih (pre := pre ++ [y]) (fun z hz => hw z (.tail _ hz)) (h.as (by simp))
    rw [List.append_assoc] at e3
    rw [List.length_append (bs := [y])] at e3
    refine Mine.WhlS.go (s1 := St.mk [(Str.ofString "self", V.obj 0), (Str.ofString "double", V.bool true), (Str.ofString "start_mark", b), (Str.ofString "chunks", V.obj c), (Str.ofString "length", V.int (↑(List.length pre + 1) : Int)), (Str.ofString "ch", CH), (Str.ofString "k", K), (Str.ofString "code", CO), (Str.ofString "range", V.ty "range"), (Str.ofString "int", V.ty "int"), (Str.ofString "chr", V.bi "chr")] (scO σ :: hs)) [.c (ch1 y) (scO σ :: hs), .t, .a 1] ?_ (an (peekN (ns := ns) (σ := σ) (d := d) (hs := hs) (x := pre) (r := List.append ws (x :: r)) (c := y) (h := h)) (an (congrArg not (stop_f (c := y) (h := hy))) trivial)) (fun k e => by kernel_rfl)
    exact e3
theorem partA {run : List Nat} {x : Nat} {xs : List (List Nat)} (hcx : hs[c]? = some (.list (xs.map strV))) (hf : Fit xs (run ++ x :: r)) (hL : okV L = true) (hCH : okV CH = true) (hrun : ∀ y ∈ run, y ∉ STOP) (hx : x ∈ STOP) (h : Rd σ (run ++ x :: r)) :
    ExsS (S ns) (d + 3) B35a ⟨loc35 (c + 1) b L CH K CO, scO σ :: hs⟩ .next ⟨loc35 (c + 1) b (.int (run.length : Int)) (ch1 x) K CO, scO (fwdN run.length σ) :: hs.set c (.list ((xs ++ runL run).map strV))⟩ := by
  have e1 := run35 (ns := ns) (σ := σ) (d := d + 2) (c := c + 1) (hs := hs) (b := b) (CH := CH) (K := K) (CO := CO) hx (pre := []) hrun h
  have hxl := hf.ok
  by_cases q : run = []
  · subst q
    have h : Rd σ (x :: r) := h
    rw [show runL [] = [] from rfl, List.append_nil, set_id hcx, show fwdN (List.length (α := Nat) []) σ = σ from rfl]
    exact Mine.ExsS.by [.t, .w (Fl.next) (St.mk (loc35 (c + 1) b (V.int (↑0 : Int)) CH K CO) (scO σ :: hs)), .a 1, .c (ch1 x) (scO σ :: hs), .t] (an (pl_t (u := L) (v := V.int 0) (h := hL) (h2 := (by rfl))) (an e1 (an (peekR (ns := ns) (σ := σ) (d := d + 2) (hs := hs) (r := r) (c := x) (h := h)) (an (pl_t (u := CH) (v := ch1 x) (h := hCH) (h2 := (by rfl))) trivial)))) (fun k e => by kernel_rfl)
  · have e2 := prefX (ns := ns) (d := d + 1) (hs := hs) h
    have e3 := fwdR (ns := ns) (d := d + 1) (hs := hs.set c (.list (xs.map strV ++ [strV run]))) h
    have h2 := h.skip
    have hpos : 0 < run.length := List.length_pos_iff.mpr q
    rw [show runL run = [run] from if_neg q, List.map_append]
    exact Mine.ExsS.by [.t, .w (Fl.next) (St.mk (loc35 (c + 1) b (V.int (↑(List.length run) : Int)) CH K CO) (scO σ :: hs)), .t, .v .ob (O.list (List.map strV xs)), .c (V.str (Str.mk (List.toArray run))) (scO σ :: hs), .v .ob (O.list (List.map strV xs)), .t, .c (V.none) (scO (fwdN (List.length run) σ) :: List.set hs c (O.list (List.map strV xs ++ [strV run]))), .c (ch1 x) (scO (fwdN (List.length run) σ) :: List.set hs c (O.list (List.map strV xs ++ [strV run]))), .t] (an (pl_t (u := L) (v := V.int 0) (h := hL) (h2 := (by rfl))) (an e1 (an (posI (n := List.length run) (h := hpos)) (an hcx (an e2 (an hcx (an hxl (an e3 (an (peekR (ns := ns) (σ := fwdN (List.length run) σ) (d := d + 2) (hs := List.set hs c (O.list (List.map strV xs ++ [strV run]))) (r := r) (c := x) (h := h2)) (an (pl_t (u := CH) (v := ch1 x) (h := hCH) (h2 := (by rfl))) trivial)))))))))) (fun k e => by kernel_rfl)
theorem hex35 {hx pre : List Nat} : ∀ {K : V}, okV K = true → (∀ y ∈ hx, y ∈ HEX) → ∀ {y : Nat}, Rd σ (pre ++ (hx ++ y :: r)) →
    ∃ K', okV K' = true ∧ FrlS (S ns) (d + 1) F35 (.rng 0 ((pre ++ hx).length : Int)) pre.length G35 ⟨loc35 c b L CH K CO, scO σ :: hs⟩ .next ⟨loc35 c b L CH K' CO, scO σ :: hs⟩ := by
  induction hx generalizing pre with
  | nil =>
    intro K hK _ y _
    rw [List.append_nil]
    have hj := Nat.le_refl pre.length
    refine ⟨K, hK, ?_⟩
    exact Mine.FrlS.by [.v .oval (none)] (an (rng_f (j := List.length pre) (n := List.length pre) (h := hj)) trivial) (fun k e => by kernel_rfl)
  | cons z hx ih =>
    intro K hK hh y h
    refine el_1_2 (ih (pre := pre ++ [z]) (K := .int (pre.length : Int)) rfl (fun q hq => hh q (.tail _ hq)) (y := y) (h.as (by simp))) fun K' hK' e => ?_
    rw [List.append_assoc, List.length_append (bs := [z])] at e
    have e : FrlS (S ns) (d + 1) F35 (.rng 0 ((pre ++ z :: hx).length : Int)) (pre.length + 1) G35 ⟨loc35 c b L CH (.int (pre.length : Int)) CO, scO σ :: hs⟩ .next ⟨loc35 c b L CH K' CO, scO σ :: hs⟩ := e
    have hz := hh z (.head _)
    have hj : pre.length < (pre ++ z :: hx).length := by rw [List.length_append, List.length_cons]; omega
    refine ⟨K', hK', ?_⟩
    refine Mine.FrlS.go (s1 := St.mk [(Str.ofString "self", V.obj 0), (Str.ofString "double", V.bool true), (Str.ofString "start_mark", b), (Str.ofString "chunks", V.obj c), (Str.ofString "length", L), (Str.ofString "ch", CH), (Str.ofString "k", V.int (↑(List.length pre) : Int)), (Str.ofString "code", CO), (Str.ofString "range", V.ty "range"), (Str.ofString "int", V.ty "int"), (Str.ofString "chr", V.bi "chr")] (scO σ :: hs)) [.v .oval (some (V.int (↑(List.length pre) : Int))), .t, .c (ch1 z) (scO σ :: hs), .f] ?_ (an (rng_t (j := List.length pre) (n := List.length (pre ++ z :: hx)) (h := hj)) (an (pl_t (u := K) (v := V.int (↑(List.length pre) : Int)) (h := hK) (h2 := (by rfl))) (an (peekN (ns := ns) (σ := σ) (d := d) (hs := hs) (x := pre) (r := List.append hx (y :: r)) (c := z) (h := h)) (an (congrArg not (hex_t (c := z) (h := hz))) trivial)))) (fun k e => by kernel_rfl)
    exact e
theorem turn_stop {x : Nat} (h1 : x ≠ 39) (h2 : x ≠ 92) : ExsS (S ns) (d + 4) B35b ⟨loc35 (c + 1) b L (ch1 x) K CO, scO σ :: hs⟩ (.ret (.obj (c + 1))) ⟨loc35 (c + 1) b L (ch1 x) K CO, scO σ :: hs⟩ := by
  exact Mine.ExsS.by [.a 3, .f, .a 5, .f, .a 1] (an (sq_f (c := x) (h := h1)) (an (bs_f (c := x) (h := h2)) trivial)) (fun k e => by kernel_rfl)
noncomputable def Turn35 (ns : List Int) (d c : Nat) (b L : V) (K CO : V) (σ : Sc) (hs : List O) (x : Nat) (n : Nat) (zs : List (List Nat)) : Prop :=
  ∃ hs' L' CH' K' CO', Ext hs hs' ∧ okV L' = true ∧ okV CH' = true ∧ okV K' = true ∧ okV CO' = true ∧ ExsS (S ns) (d + 4) B35b ⟨loc35 (c + 1) b L (ch1 x) K CO, scO σ :: hs⟩ .next ⟨loc35 (c + 1) b L' CH' K' CO', scO (fwdN n σ) :: hs'.set c (.list (zs.map strV))⟩
theorem push1 {xs : List (List Nat)} {y : List Nat} : xs.map strV ++ [strV y] = (xs ++ [y]).map strV := by rw [List.map_append]; rfl
theorem turn_apos {xs : List (List Nat)} {y : Nat} (hc : hs[c]? = some (.list (xs.map strV))) (hX : okL (xs.map strV).length = true) (hL : okV L = true) (hK : okV K = true) (hCO : okV CO = true) (h : Rd σ (39 :: y :: r)) : Turn35 ns d c b L K CO σ hs 39 1 (xs ++ [[39]]) := by
  have e1 := fwd0 (ns := ns) (d := d + 2) (hs := hs.set c (.list (xs.map strV ++ [ch1 39]))) h
  refine ⟨hs, L, ch1 39, K, CO, Ext.refl _, hL, rfl, hK, hCO, ?_⟩
  rw [← push1]
  exact Mine.ExsS.by [.a 6, .v .ob (O.list (List.map strV xs)), .v .ob (O.list (List.map strV xs)), .t, .c (V.none) (scO (fwdN 1 σ) :: List.set hs c (O.list (List.map strV xs ++ [ch1 39])))] (an hc (an hc (an hX (an e1 trivial)))) (fun k e => by kernel_rfl)
theorem turn_esc {xs : List (List Nat)} {e v y : Nat} (he : esc e = some v) (hc : hs[c]? = some (.list (xs.map strV))) (hX : okL (xs.map strV).length = true) (hL : okV L = true) (hK : okV K = true) (hCO : okV CO = true) (h : Rd σ (92 :: e :: y :: r)) : Turn35 ns d c b L K CO σ hs 92 2 (xs ++ [[v]]) := by
  have e1 := fwd0 (ns := ns) (d := d + 2) (hs := hs) h
  have h1 := h.next
  have e3 := fwd0 (ns := ns) (d := d + 2) (hs := hs.set c (.list (xs.map strV ++ [ch1 v]))) h1
  rw [← fwdN_add] at e3
  refine ⟨hs, L, ch1 e, K, CO, Ext.refl _, hL, rfl, hK, hCO, ?_⟩
  rw [← push1]
  have k1 := look0 he
  exact Mine.ExsS.by [.a 11, .c (V.none) (scO (fwdN 1 σ) :: hs), .c (ch1 e) (scO (fwdN 1 σ) :: hs), .a 1, .v .oval (some (ch1 v)), .a 1, .v .ob (O.list (List.map strV xs)), .v .oval (some (ch1 v)), .a 1, .v .ob (O.list (List.map strV xs)), .t, .c (V.none) (scO (fwdN (1 + 1) σ) :: List.set hs c (O.list (List.map strV xs ++ [ch1 v])))] (an e1 (an (peekR (ns := ns) (σ := fwdN 1 σ) (d := d + 3) (hs := hs) (r := y :: r) (c := e) (h := h1)) (an k1 (an hc (an k1 (an hc (an hX (an e3 trivial)))))))) (fun k e => by kernel_rfl)
theorem turn_code {xs : List (List Nat)} {e n v y : Nat} {hx : List Nat} (he : codeN e = some n) (hn : hx.length = n) (hh : ∀ y ∈ hx, y ∈ HEX) (hv : hexL hx 0 = some v) (hv2 : v < 1114112) (hc : hs[c]? = some (.list (xs.map strV))) (hX : okL (xs.map strV).length = true) (hL : okV L = true) (hK : okV K = true) (hCO : okV CO = true) (h : Rd σ (92 :: e :: (hx ++ y :: r))) : Turn35 ns d c b L K CO σ hs 92 (2 + hx.length) (xs ++ [[v]]) := by
  obtain ⟨hne, hn0, hn8⟩ := codeN_e he
  subst hn
  have e1 := fwd0 (ns := ns) (d := d + 2) (hs := hs) h
  have h1 := h.next
  have e3 : CallS (S ns) (d + 3) 6 [.obj 0] [] (scO (fwdN 1 σ) :: hs) .none (scO (fwdN 1 (fwdN 1 σ)) :: hs) := by
    cases hx with
    | nil => exact fwd0 h1
    | cons z hx => exact fwd0 h1
  have h2 := h1.next
  rw [← fwdN_add] at e3 h2
  refine el_1_2 (hex35 (ns := ns) (d := d + 3) (c := c + 1) (hs := hs) (b := b) (L := .int (hx.length : Int)) (CH := ch1 e) (CO := CO) (pre := []) hK hh h2) fun K' hK' e4 => ?_
  have e5 := prefX (ns := ns) (d := d + 2) (hs := hs) h2
  have e6 := fwdR (ns := ns) (d := d + 2) (hs := hs.set c (.list (xs.map strV ++ [ch1 v]))) h2
  rw [← fwdN_add] at e6
  refine ⟨hs, .int (hx.length : Int), ch1 e, K', .int (v : Int), Ext.refl _, rfl, rfl, hK', rfl, ?_⟩
  rw [← push1]
  have k1 := look0n hne
  have k2 := look1 he
  have k3 : decide ((16 : Int) = 16 ∧ 0 < hx.length ∧ hx.length ≤ 8) = true := decide_eq_true ⟨rfl, hn0, hn8⟩
  have k4 : decide ((0 : Int) ≤ (v : Int) ∧ (v : Int) < 1114112) = true := decide_eq_true ⟨Int.natCast_nonneg _, Int.ofNat_lt.mpr hv2⟩
  exact Mine.ExsS.by [.a 11, .c (V.none) (scO (fwdN 1 σ) :: hs), .c (ch1 e) (scO (fwdN 1 σ) :: hs), .a 1, .v .oval (none), .a 1, .v .oval (some (V.int (↑(List.length hx) : Int))), .a 1, .v .oval (some (V.int (↑(List.length hx) : Int))), .a 1, .t, .c (V.none) (scO (fwdN (1 + 1) σ) :: hs), .t, .t, .w (Fl.next) (St.mk (loc35 (c + 1) b (V.int (↑(List.length hx) : Int)) (ch1 e) K' CO) (scO (fwdN (1 + 1) σ) :: hs)), .c (V.str (Str.mk (List.toArray hx))) (scO (fwdN (1 + 1) σ) :: hs), .t, .v .nat (v), .t, .v .ob (O.list (List.map strV xs)), .t, .v .ob (O.list (List.map strV xs)), .t, .c (V.none) (scO (fwdN (1 + 1 + List.length hx) σ) :: List.set hs c (O.list (List.map strV xs ++ [ch1 v])))] (an e1 (an (peekR (ns := ns) (σ := fwdN 1 σ) (d := d + 3) (hs := hs) (r := hx ++ y :: r) (c := e) (h := h1)) (an k1 (an k2 (an k2 (an (pl_t (u := L) (v := V.int (↑(List.length hx) : Int)) (h := hL) (h2 := (by rfl))) (an e3 (an (okN (n := List.length hx) (h := hn8)) (an (okN (n := List.length hx) (h := hn8)) (an e4 (an e5 (an k3 (an hv (an (pl_t (u := CO) (v := V.int (↑v : Int)) (h := hCO) (h2 := (by rfl))) (an hc (an k4 (an hc (an hX (an e6 trivial))))))))))))))))))) (fun k e => by kernel_rfl)
theorem turn_line {cc : Nat} {ff : List (Str × V)} {xs : List (List Nat)} {w w' l x t : List Nat} {q : Nat} (hb : Brk w l (x ++ r)) (hr : RowC x t r) (hw : w = q :: w') (hc : hs[c]? = some (.list (xs.map strV))) (hf : Fit xs (92 :: w ++ (x ++ r))) (hL : okV L = true) (hK : okV K = true) (hCO : okV CO = true) (h : Rd σ (92 :: (w ++ (x ++ r)))) :
    ∃ ys, ys.flatten = t ∧ ys.length ≤ x.length ∧ Turn35 ns d c (.rcd cc ff) L K CO σ hs 92 (1 + w.length + x.length) (xs ++ ys) := by
  subst hw
  refine hb.head fun q0 w0 eb hq hl => ?_
  cases eb
  have e1 := fwd0 (ns := ns) (d := d + 2) (hs := hs) h
  have h1 : Rd (fwdN 1 σ) (q :: w' ++ (x ++ r)) := h.next
  have h1' : Rd (fwdN 1 σ) (q :: (w' ++ (x ++ r))) := h1
  have e3 : CallS (S ns) (d + 3) 38 [.obj 0] [] (scO (fwdN 1 σ) :: hs) (.str ⟨l.toArray⟩) (scO (fwdN (q :: w').length (fwdN 1 σ)) :: hs) := by
    refine Exists.elim hr.rest fun z hr => Exists.elim hr fun u e => ?_
    subst e
    cases x with
    | nil => exact lbR h1 hb
    | cons y x => exact lbR h1 hb
  have h2 := h1.skip
  rw [← fwdN_add] at e3 h2
  refine el_2_5 (breaks1 (ns := ns) (d := d) (hs := hs) hr (a := .bool true) (b := .rcd cc ff) h2) fun ys h4 hy hn _ cm e4 => ?_
  rw [← fwdN_add] at e4
  have hlst := cm.lst
  have hc4 := cm.ext.get hc
  refine ⟨ys, hy, hn, h4, L, ch1 q, K, CO, cm.ext, hL, rfl, hK, hCO, ?_⟩
  have k1 := look0n (brk_esc hq).1
  have k2 := look1n (brk_esc hq).2
  have hsz := hf.drop.ext hn
  have hne2 : hs.length ≠ c := fun e => absurd (List.getElem?_eq_some_iff.mp hc).1 (by rw [e]; exact Nat.lt_irrefl _)
  have hq' : q ∈ [13, 10, 133, 8232, 8233] := hq
  rw [List.map_append]
  exact Mine.ExsS.by [.a 11, .c (V.none) (scO (fwdN 1 σ) :: hs), .c (ch1 q) (scO (fwdN 1 σ) :: hs), .a 1, .v .oval (none), .a 1, .v .oval (none), .a 1, .t, .c (V.str (Str.mk (List.toArray l))) (scO (fwdN (1 + List.length (q :: w')) σ) :: hs), .v .ob (O.list (List.map strV xs)), .c (V.obj (List.length hs + 1)) (scO (fwdN (1 + List.length (q :: w') + List.length x) σ) :: h4), .v .ob (O.list (List.map strV xs)), .t, .v .ob (O.list (List.map strV ys)), .t] (an e1 (an (peekR (ns := ns) (σ := fwdN 1 σ) (d := d + 3) (hs := hs) (r := w' ++ (x ++ r)) (c := q) (h := h1')) (an k1 (an k2 (an (brk_t (c := q) (h := hq)) (an e3 (an hc (an e4 (an hc4 (an (neN (a := List.length hs) (b := c) (h := hne2)) (an hlst (an hsz trivial)))))))))))) (fun k e => by kernel_rfl)
end
end Mine
end
section
open PySem PySem.W PyProof.Rows
set_option Elab.async false
set_option linter.unusedVariables false
set_option linter.unusedSectionVars false
set_option maxRecDepth 100000
namespace Mine
noncomputable abbrev Clean (run : List Nat) : Prop := ∀ y ∈ run, y ∉ STOP
inductive NSR : List Nat → List Nat → List Nat → Prop
  | stop {run : List Nat} {x : Nat} {u : List Nat} : Clean run → x ∈ STOP → x ≠ 39 → x ≠ 92 → NSR run run (x :: u)
  | apos {run x t r : List Nat} : Clean run → NSR x t r → NSR (run ++ 39 :: x) (run ++ 39 :: t) r
  | esc {run x t r : List Nat} {e v : Nat} : Clean run → esc e = some v → NSR x t r → NSR (run ++ 92 :: e :: x) (run ++ v :: t) r
  | code {run hx x t r : List Nat} {e n v : Nat} : Clean run → codeN e = some n → hx.length = n → (∀ y ∈ hx, y ∈ HEX) → hexL hx 0 = some v → v < 1114112 → NSR x t r → NSR (run ++ 92 :: e :: (hx ++ x)) (run ++ v :: t) r
  | line {run w l y t1 x t r : List Nat} : Clean run → Brk w l (y ++ (x ++ r)) → RowC y t1 (x ++ r) → NSR x t r → NSR (run ++ 92 :: (w ++ (y ++ x))) (run ++ (t1 ++ t)) r
theorem NSR.rest {x t r : List Nat} (h : NSR x t r) : ∃ c u, r = c :: u := by
  induction h with
  | stop => exact ⟨_, _, rfl⟩
  | apos _ _ ih => exact ih
  | esc _ _ _ ih => exact ih
  | code _ _ _ _ _ _ _ ih => exact ih
  | line _ _ _ _ ih => exact ih
theorem ahead {x r : List Nat} (h : ∃ c u, r = c :: u) : ∃ c u, x ++ r = c :: u := by
  refine Exists.elim h fun c h => Exists.elim h fun u e => ?_
  subst e
  cases x with
  | nil => exact ⟨c, u, rfl⟩
  | cons a x => exact ⟨a, _, rfl⟩
noncomputable def KeepC (c : Nat) (h h' : List O) : Prop := h.length ≤ h'.length ∧ (∀ j, j ≠ c → j < h.length → h'[j]? = h[j]?) ∧ (NoFro h → NoFro h')
theorem KeepC.trans {c : Nat} {a b e : List O} (x : KeepC c a b) (y : KeepC c b e) : KeepC c a e := ⟨Nat.le_trans x.1 y.1, fun j h2 h3 => (y.2.1 j h2 (Nat.lt_of_lt_of_le h3 x.1)).trans (x.2.1 j h2 h3), fun n => y.2.2 (x.2.2 n)⟩
theorem KeepC.setc {c : Nat} (h : List O) {o : O} (ho : notFro o = true := by rfl) : KeepC c h (h.set c o) := ⟨by rw [List.length_set]; exact Nat.le_refl _, fun j h1 _ => List.getElem?_set_ne (Ne.symm h1), fun n => n.set ho⟩
theorem KeepC.refl (c : Nat) (h : List O) : KeepC c h h := ⟨Nat.le_refl _, fun _ _ _ => rfl, id⟩
theorem Ext.keep {c : Nat} {h h' : List O} (x : Ext h h') : KeepC c h h' := ⟨x.1, fun j _ h3 => x.2.1 j h3, x.2.2⟩
theorem KeepC.ext {h h' : List O} {o : O} (x : KeepC h.length (h ++ [o]) h') (ho : notFro o = true := by rfl) : Ext h h' := by
  have e := Ext.app h ho
  exact ⟨Nat.le_trans e.1 x.1, fun j h2 => (x.2.1 j (Nat.ne_of_lt h2) (Nat.lt_of_lt_of_le h2 e.1)).trans (e.2.1 j h2), fun n => x.2.2 (e.2.2 n)⟩
theorem runL_len (run : List Nat) : (runL run).length ≤ run.length := by
  unfold runL
  split
  · exact Nat.zero_le _
  · exact List.length_pos_iff.mpr ‹_›
theorem B35_eq : B35a ++ B35b = B35 := List.take_append_drop 4 B35
noncomputable def Lp35 (ns : List Int) (d c : Nat) (b L CH K CO : V) (σ : Sc) (hs : List O) (xs : List (List Nat)) (x t : List Nat) : Prop :=
  ∃ ys hs' l', ys.flatten = t ∧ ys.length ≤ x.length ∧ hs'[c]? = some (.list ((xs ++ ys).map strV)) ∧ KeepC c hs hs' ∧ WhlS (S ns) (d + 4) T35 B35 ⟨loc35 (c + 1) b L CH K CO, scO σ :: hs⟩ (.ret (.obj (c + 1))) ⟨l', scO (fwdN x.length σ) :: hs'⟩
section
variable {ns : List Int} {c d : Nat} {cc : Nat} {ff : List (Str × V)}
theorem true35 {s : St} (k : Bool → St → Out) (e : V → St → Out) : (E (S ns) 40).tr (d + 4) T35 s k e = k true s := by kernel_rfl
theorem step35 {σ : Sc} {hs : List O} {L CH K CO : V} {xs ys2 : List (List Nat)} {run m x t t2 r : List Nat} {q : Nat} (hc : hs[c]? = some (.list (xs.map strV))) (hf : Fit xs (run ++ (q :: m ++ (x ++ r)))) (hL : okV L = true) (hCH : okV CH = true) (hrun : Clean run) (hq : q ∈ STOP) (h : Rd σ (run ++ (q :: m ++ (x ++ r))))
    (T : Turn35 ns d c (.rcd cc ff) (.int (run.length : Int)) K CO (fwdN run.length σ) (hs.set c (.list ((xs ++ runL run).map strV))) q (q :: m).length (xs ++ runL run ++ ys2)) (f2 : ys2.flatten = t2) (l2 : ys2.length ≤ (q :: m).length)
    (ih : ∀ {σ : Sc} {hs : List O} {L CH K CO : V} {xs : List (List Nat)}, hs[c]? = some (.list (xs.map strV)) → Fit xs (x ++ r) → okV L = true → okV CH = true → okV K = true → okV CO = true → Rd σ (x ++ r) → Lp35 ns d c (.rcd cc ff) L CH K CO σ hs xs x t) :
    Lp35 ns d c (.rcd cc ff) L CH K CO σ hs xs (run ++ (q :: m ++ x)) (run ++ (t2 ++ t)) := by
  have e1 := partA (ns := ns) (d := d + 1) (b := .rcd cc ff) (K := K) (CO := CO) hc hf hL hCH hrun hq h
  refine Exists.elim T fun hs2 T => Exists.elim T fun L' T => Exists.elim T fun CH' T => Exists.elim T fun K' T => Exists.elim T fun CO' T => ?_
  have h2 := h.skip.skip
  have hc2 := gs (o' := .list ((xs ++ runL run ++ ys2).map strV)) (T.1.get (gs hc))
  refine el_3_5 (ih hc2 ((hf.app (runL_len run)).app l2) T.2.1 T.2.2.1 T.2.2.2.1 T.2.2.2.2.1 h2) fun ys h3 l' hy hn hc3 k3 e3 => ?_
  have T6 := T.2.2.2.2.2
  rw [← fwdN_add] at T6
  rw [← fwdN_add, ← fwdN_add] at e3
  refine ⟨runL run ++ (ys2 ++ ys), h3, l', by rw [List.flatten_append, List.flatten_append, runL_flat, f2, hy], ?_, by rw [← List.append_assoc, ← List.append_assoc]; exact hc3, ((KeepC.setc hs).trans T.1.keep).trans ((KeepC.setc hs2).trans k3), ?_⟩
  · rw [List.length_append, List.length_append, List.length_append, List.length_append]
    exact Nat.add_le_add (runL_len run) (Nat.add_le_add l2 hn)
  · rw [List.length_append, List.length_append, ← Nat.add_assoc]
    rw [← B35_eq] at e3 ⊢
    exact .next true35 (e1.app T6) e3
theorem loop35 {x t r : List Nat} (hr : NSR x t r) : ∀ {σ : Sc} {hs : List O} {L CH K CO : V} {xs : List (List Nat)}, hs[c]? = some (.list (xs.map strV)) → Fit xs (x ++ r) → okV L = true → okV CH = true → okV K = true → okV CO = true → Rd σ (x ++ r) → Lp35 ns d c (.rcd cc ff) L CH K CO σ hs xs x t := by
  induction hr with
  | @stop run x u hrun hx h39 h92 =>
    intro σ hs L CH K CO xs hc hf hL hCH hK hCO h
    have e1 := partA (ns := ns) (d := d + 1) (b := .rcd cc ff) (K := K) (CO := CO) hc hf hL hCH hrun hx h
    refine ⟨runL run, hs.set c (.list ((xs ++ runL run).map strV)), loc35 (c + 1) (.rcd cc ff) (.int (run.length : Int)) (ch1 x) K CO, runL_flat run, runL_len run, gs hc, KeepC.setc _, .ret true35 ?_⟩
    rw [← B35_eq]
    exact e1.app (turn_stop h39 h92)
  | @apos run x t r hrun hr ih =>
    intro σ hs L CH K CO xs hc hf hL hCH hK hCO h
    rw [List.append_assoc] at hf h
    refine Exists.elim (ahead (x := x) hr.rest) fun y e => Exists.elim e fun u e => ?_
    have T := turn_apos (ns := ns) (d := d) (b := .rcd cc ff) (L := .int (run.length : Int)) (σ := fwdN run.length σ) (r := u) (gs (o' := .list ((xs ++ runL run).map strV)) hc) (hf.app (runL_len run)).ok rfl hK hCO (h.skip.as (congrArg (39 :: ·) e))
    exact step35 (m := []) (t2 := [39]) hc hf hL hCH hrun (by decide) h T rfl (Nat.le_refl 1) ih
  | @esc run x t r e v hrun he hr ih =>
    intro σ hs L CH K CO xs hc hf hL hCH hK hCO h
    rw [List.append_assoc] at hf h
    refine Exists.elim (ahead (x := x) hr.rest) fun y e' => Exists.elim e' fun u e' => ?_
    have T := turn_esc (ns := ns) (d := d) (b := .rcd cc ff) (L := .int (run.length : Int)) (σ := fwdN run.length σ) (r := u) he (gs (o' := .list ((xs ++ runL run).map strV)) hc) (hf.app (runL_len run)).ok rfl hK hCO (h.skip.as (congrArg (fun z => 92 :: e :: z) e'))
    exact step35 (m := [e]) (t2 := [v]) hc hf hL hCH hrun (by decide) h T rfl (Nat.le_succ 1) ih
  | @code run hx x t r e n v hrun he hn hh hv hv2 hr ih =>
    intro σ hs L CH K CO xs hc hf hL hCH hK hCO h
    have ea : (run ++ 92 :: e :: (hx ++ x)) ++ r = run ++ (92 :: e :: hx ++ (x ++ r)) := by rw [List.append_assoc, List.cons_append, List.cons_append, List.append_assoc]; rfl
    have hf := hf.as ea
    have h := h.as ea
    refine Exists.elim (ahead (x := x) hr.rest) fun y e' => Exists.elim e' fun u e' => ?_
    have T := turn_code (ns := ns) (d := d) (b := .rcd cc ff) (L := .int (run.length : Int)) (σ := fwdN run.length σ) (r := u) he hn hh hv hv2 (gs (o' := .list ((xs ++ runL run).map strV)) hc) (hf.app (runL_len run)).ok rfl hK hCO (h.skip.as (congrArg (fun z => 92 :: e :: (hx ++ z)) e'))
    rw [Nat.add_comm] at T
    exact step35 (m := e :: hx) (t2 := [v]) hc hf hL hCH hrun (by decide) h T rfl (Nat.le_add_left 1 _) ih
  | @line run w l y t1 x t r hrun hb hrow hr ih =>
    intro σ hs L CH K CO xs hc hf hL hCH hK hCO h
    have ea : (run ++ 92 :: (w ++ (y ++ x))) ++ r = run ++ (92 :: (w ++ y) ++ (x ++ r)) := by rw [List.append_assoc, List.cons_append, List.append_assoc, List.append_assoc, List.cons_append, List.append_assoc]
    have hf := hf.as ea
    have h := h.as ea
    refine hb.head fun q w' eb _ _ => ?_
    refine el_1_3 (turn_line (ns := ns) (d := d) (cc := cc) (ff := ff) (L := .int (run.length : Int)) (σ := fwdN run.length σ) (K := K) (CO := CO) hb hrow eb (gs (o' := .list ((xs ++ runL run).map strV)) hc) ((hf.app (runL_len run)).as (by rw [List.cons_append, List.append_assoc]; rfl)) rfl hK hCO (h.skip.as (by rw [List.cons_append, List.append_assoc]))) fun ys hy hn T => ?_
    rw [show 1 + w.length + y.length = (92 :: (w ++ y)).length from by rw [List.length_cons, List.length_append, Nat.add_assoc, Nat.add_comm]] at T
    have e2 : run ++ 92 :: (w ++ (y ++ x)) = run ++ (92 :: (w ++ y) ++ x) := by rw [List.cons_append, List.append_assoc]
    rw [e2]
    exact step35 (m := w ++ y) (t2 := t1) hc hf hL hCH hrun (by decide) h T hy (Nat.le_trans hn (by rw [List.length_cons, List.length_append]; exact Nat.le_succ_of_le (Nat.le_add_left ..))) ih
theorem nonspaces1 {σ : Sc} {hs : List O} {x t r : List Nat} (hr : NSR x t r) (h : Rd σ (x ++ r)) :
    ∃ ys hs', ys.flatten = t ∧ ys.length ≤ x.length ∧ Came hs hs' ys ∧ CallS (S ns) (d + 4) 35 [.obj 0, .bool true, .rcd cc ff] [] (scO σ :: hs) (.obj (hs.length + 1)) (scO (fwdN x.length σ) :: hs') := by
  have hl := h.len
  refine el_3_5 (loop35 (ns := ns) (d := d) (c := hs.length) (hs := hs ++ [.list []]) (cc := cc) (ff := ff) (xs := []) hr (L := .undef) (CH := .undef) (K := .undef) (CO := .undef) ga (by unfold Fit; rw [List.length_nil, Nat.zero_add]; exact hl) rfl rfl rfl rfl h) fun ys h' l' hf hle b k e => ?_
  refine ⟨ys, h', hf, hle, ⟨b, k.ext⟩, ?_⟩
  exact Mine.CallS.by [.a 1, .w (Fl.ret (V.obj (List.length hs + 1))) (St.mk l' (scO (fwdN (List.length x) σ) :: h'))] (an e trivial) (fun k e => by kernel_rfl)
end
end Mine
end
section
open PySem PySem.W PyProof.Rows
set_option Elab.async false
set_option linter.unusedVariables false
set_option linter.unusedSectionVars false
set_option maxRecDepth 100000
namespace Mine
theorem join_flat : ∀ ys : List (List Nat), Str.join (Str.ofString "") (ys.map fun y => (⟨y.toArray⟩ : Str)) = ⟨ys.flatten.toArray⟩
  | [] => rfl
  | [y] => by simp [Str.join]
  | y :: z :: ys => by
    have ih := join_flat (z :: ys)
    rw [List.map_cons, List.map_cons] at *
    rw [Str.join, ih]
    · rw [str_eq]
      show ((y.toArray ++ (Str.ofString "").cps) ++ ((z :: ys).flatten).toArray).toList = _
      have h0 : (Str.ofString "").cps = #[] := rfl
      rw [h0]
      simp
    · simp
theorem txts_map {ys : List (List Nat)} : txts (ys.map strV) = some (ys.map fun y => (⟨y.toArray⟩ : Str)) := by
  induction ys with
  | nil => rfl
  | cons y ys ih =>
    rw [List.map_cons]
    show (txts (ys.map strV)).map _ = _
    rw [ih]
    rfl
theorem join_ok {ys : List (List Nat)} (h : ys.flatten.length ≤ lim) : okL (((ys.map fun y => (⟨y.toArray⟩ : Str)).map fun x => x.cps.size).sum + (Str.ofString "").cps.size * (ys.map fun y => (⟨y.toArray⟩ : Str)).length) = true := by
  have h0 : (Str.ofString "").cps.size = 0 := rfl
  refine okL_t ?_
  rw [h0, Nat.zero_mul, Nat.add_zero, List.map_map]
  rw [List.length_flatten] at h
  exact h
inductive Tl : List Nat → List Nat → List Nat → Prop
  | quote {r : List Nat} : Tl [] [] (34 :: r)
  | blank {ws x1 t1 x2 t2 r u : List Nat} {c : Nat} : ws ≠ [] → Blank ws → x1 ++ (x2 ++ r) = c :: u → c ∉ [32, 9] → c ≠ 0 → c ∉ BRK → NSR x1 t1 (x2 ++ r) → Tl x2 t2 r → Tl (ws ++ (x1 ++ x2)) (ws ++ (t1 ++ t2)) r
  | fold {ws w l y t0 x1 t1 x2 t2 r : List Nat} : Blank ws → Brk w l (y ++ (x1 ++ (x2 ++ r))) → RowC y t0 (x1 ++ (x2 ++ r)) → NSR x1 t1 (x2 ++ r) → Tl x2 t2 r → Tl ((ws ++ (w ++ y)) ++ (x1 ++ x2)) (folded l t0 ++ (t1 ++ t2)) r
noncomputable abbrev loc34 (c : Nat) (ff : List (Str × V)) : List (Str × V) := [("self", .obj 0), ("style", .str (Str.ofString "\"")), ("double", .bool true), ("chunks", .obj c), ("start_mark", .rcd 0 ff), ("quote", ch1 34), ("end_mark", .undef), ("ScalarToken", .cls 6)]
noncomputable def T34 : Expr := wT (sAt (bodyN 34) 6)
noncomputable def B34 : List Stmt := wB (sAt (bodyN 34) 6)
noncomputable def Lp34 (ns : List Int) (d c : Nat) (ff : List (Str × V)) (σ : Sc) (hs : List O) (xs : List (List Nat)) (x t : List Nat) : Prop :=
  ∃ ys hs', ys.flatten = t ∧ ys.length ≤ x.length ∧ hs'[c]? = some (.list ((xs ++ ys).map strV)) ∧ KeepC c hs hs' ∧ WhlS (S ns) (d + 5) T34 B34 ⟨loc34 (c + 1) ff, scO σ :: hs⟩ .next ⟨loc34 (c + 1) ff, scO (fwdN x.length σ) :: hs'⟩
theorem q34_f {c : Nat} (h : c ≠ 34) : decide ((⟨#[c]⟩ : Str) = ⟨#[34]⟩) = false := decide_eq_false fun e => h (by rw [str_eq] at e; exact (List.cons.inj e).1)
section
variable {ns : List Int} {c d : Nat} {ff : List (Str × V)} {hs : List O}
theorem step34 {σ : Sc} {xs : List (List Nat)} {x0 t0 x1 t1 x2 t2 r u : List Nat} {q : Nat} (hc : hs[c]? = some (.list (xs.map strV))) (hf : Fit xs (x0 ++ (x1 ++ (x2 ++ r)))) (h : Rd σ (x0 ++ (x1 ++ (x2 ++ r)))) (e0 : x0 ++ (x1 ++ (x2 ++ r)) = q :: u) (hq : q ≠ 34)
    (sp : Scan ns (d + 4) 36 [.obj 0, .bool true, .rcd 0 ff] σ hs x0 t0) (hn : NSR x1 t1 (x2 ++ r))
    (ih : ∀ {σ : Sc} {hs : List O} {xs : List (List Nat)}, hs[c]? = some (.list (xs.map strV)) → Fit xs (x2 ++ r) → Rd σ (x2 ++ r) → Lp34 ns d c ff σ hs xs x2 t2) : Lp34 ns d c ff σ hs xs (x0 ++ (x1 ++ x2)) (t0 ++ (t1 ++ t2)) := by
  have h' := h.as e0
  have q1 := q34_f hq
  refine el_2_5 (sp) fun ys0 hs1 hy0 hn0 _ cm0 e1 => ?_
  have hc1 := cm0.ext.get hc
  have g0 := cm0.lst
  have s0 := hf.ext hn0
  have n0 : hs.length ≠ c := fun e => absurd (List.getElem?_eq_some_iff.mp hc).1 (by rw [e]; exact Nat.lt_irrefl _)
  have hf1 := hf.app hn0
  have h1 := h.skip
  refine el_2_4 (nonspaces1 (ns := ns) (d := d) (hs := hs1.set c (.list (xs.map strV ++ ys0.map strV))) (cc := 0) (ff := ff) hn h1) fun ys1 hs2 hy1 hn1 cm1 e2 => ?_
  rw [← fwdN_add] at e2
  have hc2 := cm1.ext.get (gs hc1)
  rw [← List.map_append] at hc2
  have g1 := cm1.lst
  have s1 := hf1.ext hn1
  have n1 : (hs1.set c (.list (xs.map strV ++ ys0.map strV))).length ≠ c := fun e => absurd (List.getElem?_eq_some_iff.mp hc1).1 (by rw [List.length_set] at e; rw [e]; exact Nat.lt_irrefl _)
  rw [List.map_append] at hc2 s1
  have h2 := h1.skip
  rw [← fwdN_add] at h2
  refine el_2_5 (ih (hs := hs2.set c (.list ((xs.map strV ++ ys0.map strV) ++ ys1.map strV))) (xs := xs ++ ys0 ++ ys1) (by rw [List.map_append, List.map_append]; exact gs hc2) (hf1.app hn1) h2) fun ys2 hs3 hy2 hn2 hc3 k3 e3 => ?_
  rw [← fwdN_add, Nat.add_assoc] at e3
  refine ⟨ys0 ++ (ys1 ++ ys2), hs3, by rw [List.flatten_append, List.flatten_append, hy0, hy1, hy2], ?_, by rw [← List.append_assoc, ← List.append_assoc]; exact hc3, (cm0.ext.keep.trans ((KeepC.setc hs1).trans (cm1.ext.keep.trans (KeepC.setc hs2)))).trans k3, ?_⟩
  · rw [List.length_append, List.length_append, List.length_append, List.length_append]
    exact Nat.add_le_add hn0 (Nat.add_le_add hn1 hn2)
  · rw [List.length_append, List.length_append]
    refine Mine.WhlS.go (s1 := St.mk [(Str.ofString "self", V.obj 0), (Str.ofString "style", V.str (Str.ofString "\"")), (Str.ofString "double", V.bool true), (Str.ofString "chunks", V.obj (c + 1)), (Str.ofString "start_mark", V.rcd 0 ff), (Str.ofString "quote", V.str (Str.mk #[34])), (Str.ofString "end_mark", V.undef), (Str.ofString "ScalarToken", V.cls 6)] (scO (fwdN (List.length x0 + List.length x1) σ) :: List.set hs2 c (O.list (List.map strV xs ++ List.map strV ys0 ++ List.map strV ys1)))) [.c (ch1 q) (scO σ :: hs), .t, .v .ob (O.list (List.map strV xs)), .c (V.obj (List.length hs + 1)) (scO (fwdN (List.length x0) σ) :: hs1), .v .ob (O.list (List.map strV xs)), .t, .v .ob (O.list (List.map strV ys0)), .t, .v .ob (O.list (List.map strV xs ++ List.map strV ys0)), .c (V.obj (List.length (List.set hs1 c (O.list (List.map strV xs ++ List.map strV ys0))) + 1)) (scO (fwdN (List.length x0 + List.length x1) σ) :: hs2), .v .ob (O.list (List.map strV xs ++ List.map strV ys0)), .t, .v .ob (O.list (List.map strV ys1)), .t] ?_ (an (peekR (ns := ns) (σ := σ) (d := d + 4) (hs := hs) (r := u) (c := q) (h := h')) (an (congrArg not q1) (an hc (an e1 (an hc1 (an (neN (a := List.length hs) (b := c) (h := n0)) (an g0 (an s0 (an (gs (o' := O.list (List.map strV xs ++ List.map strV ys0)) hc1) (an e2 (an hc2 (an (neN (a := List.length (List.set hs1 c (O.list (List.map strV xs ++ List.map strV ys0)))) (b := c) (h := n1)) (an g1 (an s1 trivial)))))))))))))) (fun k e => by kernel_rfl)
    exact e3
theorem loop34 {x t r : List Nat} (hr : Tl x t r) : ∀ {σ : Sc} {hs : List O} {xs : List (List Nat)}, hs[c]? = some (.list (xs.map strV)) → Fit xs (x ++ r) → Rd σ (x ++ r) → Lp34 ns d c ff σ hs xs x t := by
  induction hr with
  | @quote r =>
    intro σ hs xs hc hf h
    have h : Rd σ (34 :: r) := h
    refine ⟨[], hs, rfl, Nat.le_refl _, by rw [List.append_nil]; exact hc, KeepC.refl _ _, ?_⟩
    rw [show fwdN (List.length (α := Nat) []) σ = σ from rfl]
    exact Mine.WhlS.by [.c (ch1 34) (scO σ :: hs), .a 1] (an (peekR (ns := ns) (σ := σ) (d := d + 4) (hs := hs) (r := r) (c := 34) (h := h)) trivial) (fun k e => by kernel_rfl)
  | @blank ws x1 t1 x2 t2 r u q hws0 hws e0 hx hx0 hxb hn ht ih =>
    intro σ hs xs hc hf h
    rw [List.append_assoc, List.append_assoc] at hf h
    have sp := spaces1 (ns := ns) (d := d + 1) (hs := hs) (a := .bool true) (b := .rcd 0 ff) (r := u) hws hx hx0 hxb hws0 (h.as (by rw [e0]))
    cases ws with
    | nil => exact (hws0 rfl).elim
    | cons w ws => exact step34 hc hf h (u := ws ++ (x1 ++ (x2 ++ r))) rfl (fun e => absurd (e ▸ hws w (.head _)) (by decide)) sp hn ih
  | @fold ws w l y t0 x1 t1 x2 t2 r hws hb hrow hn ht ih =>
    intro σ hs xs hc hf h
    rw [List.append_assoc (ws ++ (w ++ y)), List.append_assoc x1] at hf h
    have sp := spaces2 (ns := ns) (d := d) (hs := hs) (cc := 0) (ff := ff) hws hb hrow (h.as (by rw [List.append_assoc, List.append_assoc]))
    refine hb.head fun q w' eb hq _ => ?_
    subst eb
    cases ws with
    | nil => exact step34 hc hf h (u := w' ++ y ++ (x1 ++ (x2 ++ r))) rfl (fun e => absurd (e ▸ hq) (by decide)) sp hn ih
    | cons z ws => exact step34 hc hf h (u := (ws ++ (q :: w' ++ y)) ++ (x1 ++ (x2 ++ r))) rfl (fun e => absurd (e ▸ hws z (.head _)) (by decide)) sp hn ih
end
end Mine
end
section
open PySem PySem.W PyProof.Rows
set_option Elab.async false
set_option linter.unusedVariables false
set_option linter.unusedSectionVars false
set_option maxRecDepth 100000
namespace Mine
theorem le2 {a b c d : Nat} (h : a ≤ c) (h' : b ≤ d) : a + b ≤ c + d := Nat.add_le_add h h'
theorem app_le {a b c d : List Nat} (h : a.length ≤ c.length) (h' : b.length ≤ d.length) : (a ++ b).length ≤ (c ++ d).length := by
  rw [List.length_append, List.length_append]; exact Nat.add_le_add h h'
theorem suf_le (a b : List Nat) : b.length ≤ (a ++ b).length := by rw [List.length_append]; exact Nat.le_add_left ..
theorem RowC.len {x t r : List Nat} (h : RowC x t r) : t.length ≤ x.length := by
  induction h with
  | stop => exact Nat.zero_le _
  | more _ hb _ _ ih => exact Nat.le_trans (app_le hb.len.1 ih) (suf_le _ _)
theorem folded_le (l t : List Nat) : (folded l t).length ≤ l.length + t.length := by
  unfold folded
  split
  · rename_i h
    subst h
    split
    · exact Nat.le_add_right 1 _
    · exact Nat.le_add_left ..
  · rw [List.length_append]; exact Nat.le_refl _
theorem NSR.len {x t r : List Nat} (h : NSR x t r) : t.length ≤ x.length := by
  induction h with
  | stop => exact Nat.le_refl _
  | apos _ _ ih => exact app_le (Nat.le_refl _) (Nat.succ_le_succ ih)
  | esc _ _ _ ih => exact app_le (Nat.le_refl _) (Nat.le_succ_of_le (Nat.succ_le_succ ih))
  | code _ _ _ _ _ _ _ ih => exact app_le (Nat.le_refl _) (Nat.le_succ_of_le (Nat.succ_le_succ (Nat.le_trans ih (suf_le _ _))))
  | line _ hb hr _ ih => exact app_le (Nat.le_refl _) (Nat.le_succ_of_le (Nat.le_trans (app_le hr.len ih) (suf_le _ _)))
theorem Tl.len {x t r : List Nat} (h : Tl x t r) : t.length ≤ x.length := by
  induction h with
  | quote => exact Nat.le_refl _
  | blank _ _ _ _ _ _ hn _ ih => exact app_le (Nat.le_refl _) (app_le hn.len ih)
  | fold _ hb hr hn _ ih => exact app_le (Nat.le_trans (folded_le _ _) (by rw [List.length_append, List.length_append]; exact Nat.le_trans (Nat.add_le_add hb.len.1 hr.len) (Nat.le_add_left ..))) (app_le hn.len ih)
theorem ne_app2 (h : List O) (a b : O) : decide (((h ++ [a]) ++ [b]).length + 1 ≠ h.length + 1) = true := decide_eq_true (by rw [List.length_append, List.length_append]; exact Nat.ne_of_gt (Nat.succ_lt_succ (Nat.lt_add_of_pos_right (k := 2) (by decide))))
section
variable {ns : List Int} {d : Nat} {hs : List O}
theorem scalar1 {σ : Sc} {x1 t1 x2 t2 r : List Nat} (hn : NSR x1 t1 (x2 ++ 34 :: r)) (ht : Tl x2 t2 (34 :: r)) (hr : ∃ a u, r = a :: u) (h : Rd σ (34 :: (x1 ++ (x2 ++ 34 :: r)))) :
    ∃ hs', Ext hs hs' ∧ CallS (S ns) (d + 5) 34 [.obj 0, .str "\""] [] (scO σ :: hs) (scalarV ⟨(t1 ++ t2).toArray⟩ (mk σ) (mk (fwdN (1 + x1.length + x2.length + 1) σ)) (Str.ofString "\"")) (scO (fwdN (1 + x1.length + x2.length + 1) σ) :: hs') := by
  refine Exists.elim hr fun a hr => Exists.elim hr fun u hr => ?_
  subst hr
  refine Exists.elim (ahead (x := x1) (ahead (x := x2) ⟨34, a :: u, rfl⟩)) fun y e => Exists.elim e fun w e => ?_
  have h0 : Rd σ (34 :: y :: w) := h.as (congrArg (34 :: ·) e)
  have ef := fwd0 (ns := ns) (d := d + 3) (hs := (hs ++ [.list []]) ++ [.dead]) h0
  have h1 := h.next
  refine el_2_4 (nonspaces1 (ns := ns) (d := d) (hs := (hs ++ [.list []]) ++ [.dead]) (cc := 0) (ff := mkF σ) hn h1) fun ys1 hs1 hy1 hn1 cm1 e1 => ?_
  have hl1 := h1.len
  have hf0 : Fit [] (x1 ++ (x2 ++ 34 :: a :: u)) := by unfold Fit; rw [List.length_nil, Nat.zero_add]; exact hl1
  have s1 := hf0.ext hn1
  have hf1 := hf0.app hn1
  rw [← fwdN_add] at e1
  have h2 := h1.skip
  rw [← fwdN_add] at h2
  have g1 := cm1.lst
  have hcl : ((hs ++ [O.list []]) ++ [O.dead])[hs.length]? = some (.list []) := by rw [List.append_assoc]; exact ga
  have hc1 : hs1[hs.length]? = some (.list []) := cm1.ext.get hcl
  refine el_2_5 (loop34 (ns := ns) (d := d) (c := hs.length) (ff := mkF σ) ht (hs := hs1.set hs.length (.list (ys1.map strV))) (gs hc1) hf1 h2) fun ys2 hs2 hy2 hn2 hc2 k2 e2 => ?_
  rw [← fwdN_add] at e2
  have h3 := h2.skip
  rw [← fwdN_add] at h3
  have ef2 := fwd0 (ns := ns) (d := d + 3) (hs := hs2) h3
  rw [← fwdN_add] at ef2
  have hj : (ys1 ++ ys2).flatten.length ≤ lim := by
    rw [List.flatten_append, hy1, hy2]
    exact Nat.le_trans (app_le hn.len (Nat.le_trans ht.len (by rw [List.length_append (as := x2)]; exact Nat.le_add_right ..))) hl1
  have jo := join_ok hj
  have jt := txts_map (ys := ys1 ++ ys2)
  have x1k : KeepC hs.length (hs ++ [.list []]) ((hs ++ [.list []]) ++ [.dead]) := (Ext.app (hs ++ [.list []]) (o := .dead)).keep
  refine ⟨hs2 ++ [.dead] ++ [.dead], ?_, ?_⟩
  · exact ((((x1k.trans cm1.ext.keep).trans (KeepC.setc hs1)).trans k2).ext.trans (Ext.app _)).trans (Ext.app _)
  · rw [← hy1, ← hy2, ← List.flatten_append, ← join_flat, ← app_set (hs2 ++ [O.dead]) (O.inst 6 [("value", .str (Str.join (Str.ofString "") ((ys1 ++ ys2).map fun y => (⟨y.toArray⟩ : Str)))), ("plain", .bool false), ("start_mark", mk σ), ("end_mark", mk (fwdN (1 + x1.length + x2.length + 1) σ)), ("style", .str "\"")])]
    exact Mine.CallS.by [.a 3, .c (mk σ) (scO σ :: (hs ++ [O.list []] ++ [O.dead])), .a 1, .c (ch1 34) (scO σ :: (hs ++ [O.list []] ++ [O.dead])), .a 1, .c (V.none) (scO (fwdN 1 σ) :: (hs ++ [O.list []] ++ [O.dead])), .v .ob (O.list []), .c (V.obj (List.length (hs ++ [O.list []] ++ [O.dead]) + 1)) (scO (fwdN (1 + List.length x1) σ) :: hs1), .v .ob (O.list []), .t, .v .ob (O.list (List.map strV ys1)), .t, .w (Fl.next) (St.mk (loc34 (List.length hs + 1) (mkF σ)) (scO (fwdN (1 + List.length x1 + List.length x2) σ) :: hs2)), .c (V.none) (scO (fwdN (1 + List.length x1 + List.length x2 + 1) σ) :: hs2), .c (mk (fwdN (1 + List.length x1 + List.length x2 + 1) σ)) (scO (fwdN (1 + List.length x1 + List.length x2 + 1) σ) :: (hs2 ++ [O.dead])), .a 1, .v .ob (O.list (List.map strV (ys1 ++ ys2))), .v .strs (List.map (fun y => Str.mk (List.toArray y)) (ys1 ++ ys2)), .t, .c (V.none) (scO (fwdN (1 + List.length x1 + List.length x2 + 1) σ) :: (hs2 ++ [O.dead] ++ [O.inst 6 [(Str.ofString "value", V.str (Str.join (Str.ofString "") (List.map (fun y => Str.mk (List.toArray y)) (ys1 ++ ys2)))), (Str.ofString "plain", V.bool false), (Str.ofString "start_mark", V.rcd 0 (mkF σ)), (Str.ofString "end_mark", V.rcd 0 (mkF (fwdN (1 + List.length x1 + List.length x2 + 1) σ))), (Str.ofString "style", V.str (Str.ofString "\""))]])), .v .ob (O.inst 6 [(Str.ofString "value", V.str (Str.join (Str.ofString "") (List.map (fun y => Str.mk (List.toArray y)) (ys1 ++ ys2)))), (Str.ofString "plain", V.bool false), (Str.ofString "start_mark", V.rcd 0 (mkF σ)), (Str.ofString "end_mark", V.rcd 0 (mkF (fwdN (1 + List.length x1 + List.length x2 + 1) σ))), (Str.ofString "style", V.str (Str.ofString "\""))])] (an (get_mark (ns := ns) (σ := σ) (d := d + 3) (hs := hs ++ [O.list []])) (an (peekR (ns := ns) (σ := σ) (d := d + 4) (hs := hs ++ [O.list []] ++ [O.dead]) (r := x1 ++ (x2 ++ 34 :: a :: u)) (c := 34) (h := h)) (an ef (an hcl (an e1 (an hc1 (an (ne_app2 (h := hs) (a := O.list []) (b := O.dead)) (an g1 (an s1 (an e2 (an ef2 (an (get_mark (ns := ns) (σ := fwdN (1 + List.length x1 + List.length x2 + 1) σ) (d := d + 3) (hs := hs2)) (an (gl (r := [O.dead]) hc2) (an jt (an jo (an (init12 (ns := ns) (d := d + 4) (l := hs2 ++ [O.dead]) (a0 := scO (fwdN (1 + List.length x1 + List.length x2 + 1) σ)) (v := Str.join (Str.ofString "") (List.map (fun y => Str.mk (List.toArray y)) (ys1 ++ ys2))) (y := Str.ofString "\"") (c1 := 0) (c2 := 0) (f1 := mkF σ) (f2 := mkF (fwdN (1 + List.length x1 + List.length x2 + 1) σ))) (an (ga (l := hs2 ++ [O.dead]) (o := O.inst 6 [(Str.ofString "value", V.str (Str.join (Str.ofString "") (List.map (fun y => Str.mk (List.toArray y)) (ys1 ++ ys2)))), (Str.ofString "plain", V.bool false), (Str.ofString "start_mark", V.rcd 0 (mkF σ)), (Str.ofString "end_mark", V.rcd 0 (mkF (fwdN (1 + List.length x1 + List.length x2 + 1) σ))), (Str.ofString "style", V.str (Str.ofString "\""))]) (r := [])) trivial))))))))))))))))) (fun k e => by kernel_rfl)
end
end Mine
end
section
open PySem PySem.W PyProof.Rows
set_option Elab.async false
set_option linter.unusedVariables false
set_option linter.unusedSectionVars false
set_option maxRecDepth 100000
namespace Mine
noncomputable def keyF (t : Int) (ix ln cl : Int) (m : V) : List (Str × V) := [("token_number", .int t), ("required", .bool false), ("index", .int ix), ("line", .int ln), ("column", .int cl), ("mark", m)]
noncomputable def keyV (κ : Sc) : V := .rcd 7 (keyF κ.tn κ.ix κ.ln κ.cl (mk κ))
inductive KeyD (κ : Sc) : List (V × V) → Prop
  | no : KeyD κ []
  | yes : KeyD κ [(.int 0, keyV κ)]
structure Full (hs : List O) (σ : Sc) (T : List V) (D : List (V × V)) : Prop where
  tk : hs[σ.tk]? = some (.list T)
  ks : hs[σ.keys]? = some (.dict D)
  ne : σ.tk ≠ σ.keys
  nf : NoFro hs
section
variable {ns : List Int} {d : Nat} {σ κ : Sc} {hs : List O} {T : List V} {D : List (V × V)}
theorem Full.ext (f : Full hs σ T D) {hs' : List O} (x : Ext hs hs') {σ' : Sc} (e1 : σ'.tk = σ.tk) (e2 : σ'.keys = σ.keys) : Full hs' σ' T D :=
  ⟨by rw [e1]; exact x.get f.tk, by rw [e2]; exact x.get f.ks, by rw [e1, e2]; exact f.ne, x.2.2 f.nf⟩
theorem Full.sett (f : Full hs σ T D) (T' : List V) : Full (hs.set σ.tk (.list T')) σ T' D :=
  ⟨gs f.tk, (List.getElem?_set_ne f.ne).trans f.ks, f.ne, f.nf.set rfl⟩
theorem Full.setk (f : Full hs σ T D) (D' : List (V × V)) : Full (hs.set σ.keys (.dict D')) σ T D' :=
  ⟨(List.getElem?_set_ne (Ne.symm f.ne)).trans f.tk, gs f.ks, f.ne, f.nf.set rfl⟩
noncomputable def F19 : Expr := wT (sAt (bodyN 19) 0)
noncomputable def G19 : List Stmt := wB (sAt (bodyN 19) 0)
noncomputable abbrev loc19 (a b : V) : List (Str × V) := [("self", .obj 0), ("level", a), ("key", b), ("list", .ty "list")]
theorem stale0 (f : Full hs σ T []) : CallS (S ns) (d + 1) 19 [.obj 0] [] (scO σ :: hs) .none (scO σ :: (hs ++ [O.list []])) := by
  have g := f.ks
  have e : FrlS (S ns) (d + 1) F19 (.list (hs.length + 1) false) 0 G19 ⟨loc19 .undef .undef, scO σ :: (hs ++ [O.list []])⟩ .next ⟨loc19 .undef .undef, scO σ :: (hs ++ [O.list []])⟩ := by
    exact Mine.FrlS.by [.v .ob (O.list []), .a 2] (an (ga (l := hs) (o := O.list []) (r := [])) trivial) (fun k e => by kernel_rfl)
  exact Mine.CallS.by [.v .ob (O.dict []), .a 1, .v .ob (O.list []), .w (Fl.next) (St.mk (loc19 V.undef V.undef) (scO σ :: (hs ++ [O.list []])))] (an g (an (ga (l := hs) (o := O.list []) (r := [])) (an e trivial))) (fun k e => by kernel_rfl)
theorem stale1 (f : Full hs σ T [(.int 0, keyV κ)]) :
    ∃ D' hs', Full hs' σ T D' ∧ KeyD κ D' ∧ CallS (S ns) (d + 1) 19 [.obj 0] [] (scO σ :: hs) .none (scO σ :: hs') := by
  have g := f.ks
  have f1 := f.ext (σ' := σ) (Ext.app hs (o := .list [.int 0])) rfl rfl
  have g1 := f1.ks
  have f2 := f1.setk []
  have gone : FrlS (S ns) (d + 1) F19 (.list (hs.length + 1) false) 0 G19 ⟨loc19 .undef .undef, scO σ :: (hs ++ [O.list [.int 0]])⟩ .next ⟨loc19 (.int 0) (keyV κ), scO σ :: (hs ++ [O.list [.int 0]]).set σ.keys (.dict [])⟩ → ∃ D' hs', Full hs' σ T D' ∧ KeyD κ D' ∧ CallS (S ns) (d + 1) 19 [.obj 0] [] (scO σ :: hs) .none (scO σ :: hs') := fun e => by
    refine ⟨[], (hs ++ [O.list [.int 0]]).set σ.keys (.dict []), f2, .no, ?_⟩
    exact Mine.CallS.by [.v .ob (O.dict [(V.int 0, keyV κ)]), .a 1, .v .ob (O.list [V.int 0]), .w (Fl.next) (St.mk (loc19 (V.int 0) (keyV κ)) (scO σ :: List.set (hs ++ [O.list [V.int 0]]) (Sc.keys σ) (O.dict [])))] (an g (an (ga (l := hs) (o := O.list [V.int 0]) (r := [])) (an e trivial))) (fun k e => by kernel_rfl)
  have hk : σ.keys ≠ hs.length := fun e => absurd (List.getElem?_eq_some_iff.mp f.ks).1 (by rw [e]; exact Nat.lt_irrefl _)
  have hN : ((hs ++ [O.list [.int 0]]).set σ.keys (.dict []))[hs.length]? = some (.list [.int 0]) := (List.getElem?_set_ne hk).trans ga
  by_cases q1 : decide ((κ.ln : Int) = (σ.ln : Int)) = true
  · by_cases q2 : decide ((1024 : Int) < (σ.ix : Int) - (κ.ix : Int)) = true
    · refine gone ?_
      have e : FrlS (S ns) (d + 1) F19 (.list (hs.length + 1) false) 1 G19 ⟨loc19 (.int 0) (keyV κ), scO σ :: (hs ++ [O.list [.int 0]]).set σ.keys (.dict [])⟩ .next ⟨loc19 (.int 0) (keyV κ), scO σ :: (hs ++ [O.list [.int 0]]).set σ.keys (.dict [])⟩ := by
        exact Mine.FrlS.by [.v .ob (O.list [V.int 0]), .a 2] (an hN trivial) (fun k e => by kernel_rfl)
      refine Mine.FrlS.go (s1 := St.mk [(Str.ofString "self", V.obj 0), (Str.ofString "level", V.int 0), (Str.ofString "key", V.rcd 7 (keyF (↑(Sc.tn κ) : Int) (↑(Sc.ix κ) : Int) (↑(Sc.ln κ) : Int) (↑(Sc.cl κ) : Int) (mk κ))), (Str.ofString "list", V.ty "list")] (scO σ :: List.set (hs ++ [O.list [V.int 0]]) (Sc.keys σ) (O.dict []))) [.v .ob (O.list [V.int 0]), .a 3, .v .ob (O.dict [(V.int 0, keyV κ)]), .a 3, .f, .t, .a 2, .v .ob (O.dict [(V.int 0, keyV κ)]), .a 2] ?_ (an (ga (l := hs) (o := O.list [V.int 0]) (r := [])) (an g1 (an (congrArg not q1) (an q2 (an g1 trivial))))) (fun k e => by kernel_rfl)
      exact e
    · have q2 := eq_false_of_ne_true q2
      refine ⟨_, hs ++ [O.list [.int 0]], f1, .yes, ?_⟩
      have e : FrlS (S ns) (d + 1) F19 (.list (hs.length + 1) false) 1 G19 ⟨loc19 (.int 0) (keyV κ), scO σ :: (hs ++ [O.list [.int 0]])⟩ .next ⟨loc19 (.int 0) (keyV κ), scO σ :: (hs ++ [O.list [.int 0]])⟩ := by
        exact Mine.FrlS.by [.v .ob (O.list [V.int 0]), .a 2] (an (ga (l := hs) (o := O.list [V.int 0]) (r := [])) trivial) (fun k e => by kernel_rfl)
      have e : FrlS (S ns) (d + 1) F19 (.list (hs.length + 1) false) 0 G19 ⟨loc19 .undef .undef, scO σ :: (hs ++ [O.list [.int 0]])⟩ .next ⟨loc19 (.int 0) (keyV κ), scO σ :: (hs ++ [O.list [.int 0]])⟩ := by
        refine Mine.FrlS.go (s1 := St.mk [(Str.ofString "self", V.obj 0), (Str.ofString "level", V.int 0), (Str.ofString "key", V.rcd 7 (keyF (↑(Sc.tn κ) : Int) (↑(Sc.ix κ) : Int) (↑(Sc.ln κ) : Int) (↑(Sc.cl κ) : Int) (mk κ))), (Str.ofString "list", V.ty "list")] (scO σ :: (hs ++ [O.list [V.int 0]]))) [.v .ob (O.list [V.int 0]), .a 3, .v .ob (O.dict [(V.int 0, keyV κ)]), .a 3, .f, .f, .a 1] ?_ (an (ga (l := hs) (o := O.list [V.int 0]) (r := [])) (an g1 (an (congrArg not q1) (an q2 trivial)))) (fun k e => by kernel_rfl)
        exact e
      exact Mine.CallS.by [.v .ob (O.dict [(V.int 0, keyV κ)]), .a 1, .v .ob (O.list [V.int 0]), .w (Fl.next) (St.mk (loc19 (V.int 0) (keyV κ)) (scO σ :: (hs ++ [O.list [V.int 0]])))] (an g (an (ga (l := hs) (o := O.list [V.int 0]) (r := [])) (an e trivial))) (fun k e => by kernel_rfl)
  · have q1 := eq_false_of_ne_true q1
    refine gone ?_
    have e : FrlS (S ns) (d + 1) F19 (.list (hs.length + 1) false) 1 G19 ⟨loc19 (.int 0) (keyV κ), scO σ :: (hs ++ [O.list [.int 0]]).set σ.keys (.dict [])⟩ .next ⟨loc19 (.int 0) (keyV κ), scO σ :: (hs ++ [O.list [.int 0]]).set σ.keys (.dict [])⟩ := by
      exact Mine.FrlS.by [.v .ob (O.list [V.int 0]), .a 2] (an hN trivial) (fun k e => by kernel_rfl)
    refine Mine.FrlS.go (s1 := St.mk [(Str.ofString "self", V.obj 0), (Str.ofString "level", V.int 0), (Str.ofString "key", V.rcd 7 (keyF (↑(Sc.tn κ) : Int) (↑(Sc.ix κ) : Int) (↑(Sc.ln κ) : Int) (↑(Sc.cl κ) : Int) (mk κ))), (Str.ofString "list", V.ty "list")] (scO σ :: List.set (hs ++ [O.list [V.int 0]]) (Sc.keys σ) (O.dict []))) [.v .ob (O.list [V.int 0]), .a 3, .v .ob (O.dict [(V.int 0, keyV κ)]), .a 3, .t, .a 2, .v .ob (O.dict [(V.int 0, keyV κ)]), .a 2] ?_ (an (ga (l := hs) (o := O.list [V.int 0]) (r := [])) (an g1 (an (congrArg not q1) (an g1 trivial)))) (fun k e => by kernel_rfl)
    exact e
theorem stale (f : Full hs σ T D) (hD : KeyD κ D) : ∃ D' hs', Full hs' σ T D' ∧ KeyD κ D' ∧ CallS (S ns) (d + 1) 19 [.obj 0] [] (scO σ :: hs) .none (scO σ :: hs') := by
  cases hD with
  | no => exact ⟨[], _, f.ext (Ext.app hs) rfl rfl, .no, stale0 f⟩
  | yes => exact stale1 f
end
end Mine
end
section
open PySem PySem.W PyProof.Rows
set_option Elab.async false
set_option linter.unusedVariables false
set_option linter.unusedSectionVars false
set_option maxRecDepth 100000
namespace Mine
section
variable {ns : List Int} {d : Nat} {σ κ : Sc} {hs : List O} {T : List V} {D : List (V × V)}
noncomputable def F18 : Expr := wT (sAt (bodyN 18) 1)
noncomputable def G18 : List Stmt := wB (sAt (bodyN 18) 1)
noncomputable abbrev loc18 (a b c : V) : List (Str × V) := [("self", .obj 0), ("min_token_number", a), ("level", b), ("key", c)]
theorem set_back {k : Nat} {o o' : O} (hk : hs[k]? = some o) : (hs.set k o').set k o = hs := by
  rw [List.set_set]
  exact List.ext_getElem? fun j => (List.getElem?_set).trans (by
    split
    · rename_i e
      subst e
      rw [if_pos (List.getElem?_eq_some_iff.mp hk).1, hk]
    · rfl)
theorem thaw0 (f : Full hs σ T D) : ((scO σ :: hs.set σ.keys (.fro D)).set (σ.keys + 1) (.dict D)).all notFro = true := by
  show (scO σ :: (hs.set σ.keys (.fro D)).set σ.keys (.dict D)).all notFro = true
  rw [set_back f.ks]
  exact f.nf
theorem next0 (f : Full hs σ T []) : CallS (S ns) (d + 1) 18 [.obj 0] [] (scO σ :: hs) .none (scO σ :: hs) := by
  have g := f.ks
  have e : FrlS (S ns) (d + 1) F18 (.dict (σ.keys + 1)) 0 G18 ⟨loc18 .none .undef .undef, scO σ :: hs.set σ.keys (.fro [])⟩ .next ⟨loc18 .none .undef .undef, scO σ :: hs.set σ.keys (.fro [])⟩ := by
    exact Mine.FrlS.by [.v .ob (O.fro []), .a 1] (an (gs (o' := O.fro []) g) trivial) (fun k e => by kernel_rfl)
  have n := thaw0 f
  suffices h : CallS (S ns) (d + 1) 18 [.obj 0] [] (scO σ :: hs) .none (scO σ :: (hs.set σ.keys (.fro [])).set σ.keys (.dict [])) by rwa [set_back g] at h
  exact Mine.CallS.by [.a 1, .v .ob (O.dict []), .a 1, .w (Fl.next) (St.mk (loc18 V.none V.undef V.undef) (scO σ :: List.set hs (Sc.keys σ) (O.fro []))), .v .ob (O.fro []), .t] (an g (an e (an (gs (o' := O.fro []) g) (an n trivial)))) (fun k e => by kernel_rfl)
theorem next1 (f : Full hs σ T [(.int 0, keyV κ)]) : CallS (S ns) (d + 1) 18 [.obj 0] [] (scO σ :: hs) (.int (κ.tn : Int)) (scO σ :: hs) := by
  have g := f.ks
  have n := thaw0 f
  have e : FrlS (S ns) (d + 1) F18 (.dict (σ.keys + 1)) 1 G18 ⟨loc18 (.int (κ.tn : Int)) (.int 0) (keyV κ), scO σ :: hs.set σ.keys (.fro [(.int 0, keyV κ)])⟩ .next ⟨loc18 (.int (κ.tn : Int)) (.int 0) (keyV κ), scO σ :: hs.set σ.keys (.fro [(.int 0, keyV κ)])⟩ := by
    exact Mine.FrlS.by [.v .ob (O.fro [(V.int 0, keyV κ)]), .a 1] (an (gs (o' := O.fro [(V.int 0, keyV κ)]) g) trivial) (fun k e => by kernel_rfl)
  have e : FrlS (S ns) (d + 1) F18 (.dict (σ.keys + 1)) 0 G18 ⟨loc18 .none .undef .undef, scO σ :: hs.set σ.keys (.fro [(.int 0, keyV κ)])⟩ .next ⟨loc18 (.int (κ.tn : Int)) (.int 0) (keyV κ), scO σ :: hs.set σ.keys (.fro [(.int 0, keyV κ)])⟩ := by
    refine Mine.FrlS.go (s1 := St.mk [(Str.ofString "self", V.obj 0), (Str.ofString "min_token_number", V.int (↑(Sc.tn κ) : Int)), (Str.ofString "level", V.int 0), (Str.ofString "key", V.rcd 7 (keyF (↑(Sc.tn κ) : Int) (↑(Sc.ix κ) : Int) (↑(Sc.ln κ) : Int) (↑(Sc.cl κ) : Int) (mk κ)))] (scO σ :: List.set hs (Sc.keys σ) (O.fro [(V.int 0, keyV κ)]))) [.v .ob (O.fro [(V.int 0, keyV κ)]), .a 2, .v .ob (O.fro [(V.int 0, keyV κ)]), .a 6] ?_ (an (gs (o' := O.fro [(V.int 0, keyV κ)]) g) (an (gs (o' := O.fro [(V.int 0, keyV κ)]) g) trivial)) (fun k e => by kernel_rfl)
    exact e
  suffices h : CallS (S ns) (d + 1) 18 [.obj 0] [] (scO σ :: hs) (.int (κ.tn : Int)) (scO σ :: (hs.set σ.keys (.fro [(.int 0, keyV κ)])).set σ.keys (.dict [(.int 0, keyV κ)])) by rwa [set_back g] at h
  exact Mine.CallS.by [.a 1, .v .ob (O.dict [(V.int 0, keyV κ)]), .a 1, .w (Fl.next) (St.mk (loc18 (V.int (↑(Sc.tn κ) : Int)) (V.int 0) (keyV κ)) (scO σ :: List.set hs (Sc.keys σ) (O.fro [(V.int 0, keyV κ)]))), .v .ob (O.fro [(V.int 0, keyV κ)]), .t] (an g (an e (an (gs (o' := O.fro [(V.int 0, keyV κ)]) g) (an n trivial)))) (fun k e => by kernel_rfl)
theorem needDone (hd : σ.dn = true) : CallS (S ns) d 16 [.obj 0] [] (scO σ :: hs) (.bool false) (scO σ :: hs) := by
  exact Mine.CallS.by [.t] (an hd trivial) (fun k e => by kernel_rfl)
theorem needNil (f : Full hs σ [] D) (hd : σ.dn = false) : CallS (S ns) d 16 [.obj 0] [] (scO σ :: hs) (.bool true) (scO σ :: hs) := by
  have g := f.tk
  exact Mine.CallS.by [.f, .v .ob (O.list []), .a 2] (an hd (an g trivial)) (fun k e => by kernel_rfl)
theorem need0 {v : V} {T : List V} (f : Full hs σ (v :: T) []) (hT : (v :: T).length ≤ lim) (hd : σ.dn = false) : CallS (S ns) (d + 2) 16 [.obj 0] [] (scO σ :: hs) .none (scO σ :: (hs ++ [.list []])) := by
  have g := f.tk
  have e1 := stale0 (ns := ns) (d := d) f
  have e2 := next0 (ns := ns) (d := d) (f.ext (σ' := σ) (Ext.app hs (o := .list [])) rfl rfl)
  exact Mine.CallS.by [.f, .v .ob (O.list (v :: T)), .t, .f, .c (V.none) (scO σ :: (hs ++ [O.list []])), .c (V.none) (scO σ :: (hs ++ [O.list []])), .a 1] (an hd (an g (an (okL_t (n := List.length T + 1) (h := (by omega))) (an (congrArg not cr_t) (an e1 (an e2 trivial)))))) (fun k e => by kernel_rfl)
theorem need1 {v : V} {T : List V} (f : Full hs σ (v :: T) [(.int 0, keyV κ)]) (hT : (v :: T).length ≤ lim) (hd : σ.dn = false) (ht : κ.tn = σ.tn) :
    ∃ D' hs', Full hs' σ (v :: T) D' ∧ ((D' = [] ∧ CallS (S ns) (d + 2) 16 [.obj 0] [] (scO σ :: hs) .none (scO σ :: hs')) ∨ (D' = [(.int 0, keyV κ)] ∧ CallS (S ns) (d + 2) 16 [.obj 0] [] (scO σ :: hs) (.bool true) (scO σ :: hs'))) := by
  have g := f.tk
  refine el_2_3 (stale1 (ns := ns) (d := d) f) fun D' hs' f1 hD e1 => ?_
  refine ⟨D', hs', f1, ?_⟩
  cases hD with
  | no =>
    refine .inl ⟨rfl, ?_⟩
    have e2 := next0 (ns := ns) (d := d) f1
    exact Mine.CallS.by [.f, .v .ob (O.list (v :: T)), .t, .f, .c (V.none) (scO σ :: hs'), .c (V.none) (scO σ :: hs'), .a 1] (an hd (an g (an (okL_t (n := List.length T + 1) (h := (by omega))) (an (congrArg not cr_t) (an e1 (an e2 trivial)))))) (fun k e => by kernel_rfl)
  | yes =>
    refine .inr ⟨rfl, ?_⟩
    have e2 := next1 (ns := ns) (d := d) f1
    have q : decide ((κ.tn : Int) = (σ.tn : Int)) = true := decide_eq_true (by rw [ht])
    exact Mine.CallS.by [.f, .v .ob (O.list (v :: T)), .t, .f, .c (V.none) (scO σ :: hs'), .c (V.int (↑(Sc.tn κ) : Int)) (scO σ :: hs'), .t] (an hd (an g (an (okL_t (n := List.length T + 1) (h := (by omega))) (an (congrArg not cr_t) (an e1 (an e2 (an q trivial))))))) (fun k e => by kernel_rfl)
theorem remove (f : Full hs σ T D) (hD : KeyD κ D) : ∃ hs', Full hs' σ T [] ∧ CallS (S ns) (d + 1) 21 [.obj 0] [] (scO σ :: hs) .none (scO σ :: hs') := by
  have g := f.ks
  cases hD with
  | no =>
    refine ⟨hs, f, ?_⟩
    exact Mine.CallS.by [.v .ob (O.dict []), .a 2] (an g trivial) (fun k e => by kernel_rfl)
  | yes =>
    refine ⟨_, f.setk [], ?_⟩
    exact Mine.CallS.by [.v .ob (O.dict [(V.int 0, keyV κ)]), .a 2, .v .ob (O.dict [(V.int 0, keyV κ)]), .a 4, .v .ob (O.dict [(V.int 0, keyV κ)]), .a 2] (an g (an g (an g trivial))) (fun k e => by kernel_rfl)
theorem unwind {k : Int} (hk : -1 ≤ k) : CallS (S ns) d 22 [.obj 0, .int k] [] (scO σ :: hs) .none (scO σ :: hs) := by
  have q : decide (k < -1) = false := decide_eq_false (Int.not_lt.mpr hk)
  have e : WhlS (S ns) d (wT (sAt (bodyN 22) 1)) (wB (sAt (bodyN 22) 1)) ⟨[("self", .obj 0), ("column", .int k), ("mark", .undef), ("BlockEndToken", .cls 4)], scO σ :: hs⟩ .next ⟨[("self", .obj 0), ("column", .int k), ("mark", .undef), ("BlockEndToken", .cls 4)], scO σ :: hs⟩ := by
    exact Mine.WhlS.by [.f] (an q trivial) (fun k e => by kernel_rfl)
  exact Mine.CallS.by [.a 1, .w (Fl.next) (St.mk [(Str.ofString "self", V.obj 0), (Str.ofString "column", V.int k), (Str.ofString "mark", V.undef), (Str.ofString "BlockEndToken", V.cls 4)] (scO σ :: hs))] (an e trivial) (fun k e => by kernel_rfl)
theorem save (f : Full hs σ [] []) (ha : σ.ask = true) : ∃ hs', Full hs' σ [] [(.int 0, keyV σ)] ∧ CallS (S ns) (d + 2) 20 [.obj 0] [] (scO σ :: hs) .none (scO σ :: hs') := by
  have g := f.tk
  have gk := f.ks
  have e1 : CallS (S ns) (d + 1) 21 [.obj 0] [] (scO σ :: hs) .none (scO σ :: hs) := by
    exact Mine.CallS.by [.v .ob (O.dict []), .a 2] (an gk trivial) (fun k e => by kernel_rfl)
  have q : decide ((-1 : Int) = (σ.cl : Int)) = false := decide_eq_false (by omega)
  have f1 := f.ext (σ' := σ) ((Ext.app hs (o := .dead)).trans (Ext.app _ (o := .dead))) rfl rfl
  have gk2 : ((hs ++ [O.dead] ++ [O.inst 7 (keyF σ.tn σ.ix σ.ln σ.cl (mk σ))]).set (hs ++ [O.dead]).length O.dead)[σ.keys]? = some (.dict []) := by
    rw [app_set]; exact f1.ks
  refine ⟨_, f1.setk [(.int 0, keyV σ)], ?_⟩
  rw [← app_set (hs ++ [O.dead]) (O.inst 7 (keyF σ.tn σ.ix σ.ln σ.cl (mk σ)))]
  exact Mine.CallS.by [.a 2, .t, .c (V.none) (scO σ :: hs), .v .ob (O.list []), .a 2, .c (mk σ) (scO σ :: (hs ++ [O.dead])), .c (V.none) (scO σ :: (hs ++ [O.dead] ++ [O.inst 7 [(Str.ofString "token_number", V.int (↑(Sc.tn σ + 0) : Int)), (Str.ofString "required", V.bool (decide (-1 = (↑(Sc.cl σ) : Int)))), (Str.ofString "index", V.int (↑(Sc.ix σ) : Int)), (Str.ofString "line", V.int (↑(Sc.ln σ) : Int)), (Str.ofString "column", V.int (↑(Sc.cl σ) : Int)), (Str.ofString "mark", V.rcd 0 (mkF σ))]])), .v .ob (O.inst 7 [(Str.ofString "token_number", V.int (↑(Sc.tn σ + 0) : Int)), (Str.ofString "required", V.bool (decide (-1 = (↑(Sc.cl σ) : Int)))), (Str.ofString "index", V.int (↑(Sc.ix σ) : Int)), (Str.ofString "line", V.int (↑(Sc.ln σ) : Int)), (Str.ofString "column", V.int (↑(Sc.cl σ) : Int)), (Str.ofString "mark", V.rcd 0 (mkF σ))]), .a 1, .v .ob (O.dict []), .a 2] (an ha (an e1 (an g (an (get_mark (ns := ns) (σ := σ) (d := d) (hs := hs)) (an (init13 (ns := ns) (d := d + 1) (l := hs ++ [O.dead]) (a0 := scO σ) (t := (↑(Sc.tn σ + 0) : Int)) (ix := (↑(Sc.ix σ) : Int)) (ln := (↑(Sc.ln σ) : Int)) (cl := (↑(Sc.cl σ) : Int)) (r := decide (-1 = (↑(Sc.cl σ) : Int))) (c1 := 0) (f1 := mkF σ)) (an (ga (l := hs ++ [O.dead]) (o := O.inst 7 [(Str.ofString "token_number", V.int (↑(Sc.tn σ + 0) : Int)), (Str.ofString "required", V.bool (decide (-1 = (↑(Sc.cl σ) : Int)))), (Str.ofString "index", V.int (↑(Sc.ix σ) : Int)), (Str.ofString "line", V.int (↑(Sc.ln σ) : Int)), (Str.ofString "column", V.int (↑(Sc.cl σ) : Int)), (Str.ofString "mark", V.rcd 0 (mkF σ))]) (r := [])) (an gk2 trivial))))))) (fun k e => by kernel_rfl)
end
end Mine
end
section
open PySem PySem.W PyProof.Rows
set_option Elab.async false
set_option linter.unusedVariables false
set_option linter.unusedSectionVars false
set_option maxRecDepth 100000
namespace Mine
theorem ix_t {n : Nat} (h : n = 0) : decide ((n : Int) = 0) = true := decide_eq_true (by rw [h]; rfl)
theorem ix_f {n : Nat} (h : n ≠ 0) : decide ((n : Int) = 0) = false := decide_eq_false (fun e => h (Int.ofNat.inj e))
section
variable {ns : List Int} {d : Nat} {hs : List O}
noncomputable abbrev loc33 (v : V) : List (Str × V) := [("self", .obj 0), ("found", v)]
noncomputable def T33 : Expr := wT (sAt (bodyN 33) 2)
noncomputable def B33 : List Stmt := wB (sAt (bodyN 33) 2)
noncomputable def T33a : Expr := wT (sAt B33 0)
noncomputable def B33a : List Stmt := wB (sAt B33 0)
noncomputable def T33c : Expr := wT (sAt (wB (sAt B33 1)) 0)
noncomputable def B33c : List Stmt := wB (sAt (wB (sAt B33 1)) 0)
theorem skip33 {b : Bool} {x : Nat} {r : List Nat} (hx : x ≠ 32) : ∀ {ws : List Nat} {σ : Sc}, (∀ y ∈ ws, y = 32) → Rd σ (ws ++ x :: r) → WhlS (S ns) (d + 2) T33a B33a ⟨loc33 (.bool b), scO σ :: hs⟩ .next ⟨loc33 (.bool b), scO (fwdN ws.length σ) :: hs⟩ := by
  intro ws
  induction ws with
  | nil =>
    intro σ hws h
    have h : Rd σ (x :: r) := h
    rw [show fwdN (List.length (α := Nat) []) σ = σ from rfl]
    exact Mine.WhlS.by [.c (ch1 x) (scO σ :: hs), .f] (an (peekR (ns := ns) (σ := σ) (d := d + 1) (hs := hs) (r := r) (c := x) (h := h)) (an (sp_f (c := x) (h := hx)) trivial)) (fun k e => by kernel_rfl)
  | cons w ws ih =>
    intro σ hws h
    have hw := hws w (.head _)
    subst hw
    have h : Rd σ (32 :: (ws ++ x :: r)) := h
    have e := ih (σ := fwdN 1 σ) (fun y hy => hws y (.tail _ hy)) h.next
    rw [← fwdN_add, Nat.add_comm 1] at e
    refine Exists.elim (ahead (x := ws) ⟨x, r, rfl⟩) fun y e' => Exists.elim e' fun u e' => ?_
    have f := fwd0 (ns := ns) (d := d) (hs := hs) (h.as (congrArg (32 :: ·) e'))
    refine Mine.WhlS.go (s1 := St.mk [(Str.ofString "self", V.obj 0), (Str.ofString "found", V.bool b)] (scO (fwdN 1 σ) :: hs)) [.c (ch1 32) (scO σ :: hs), .a 1, .c (V.none) (scO (fwdN 1 σ) :: hs)] ?_ (an (peekR (ns := ns) (σ := σ) (d := d + 1) (hs := hs) (r := ws ++ x :: r) (c := 32) (h := h)) (an f trivial)) (fun k e => by kernel_rfl)
    exact e
theorem comm33 {b : Bool} {x : Nat} {r : List Nat} (hx : x ∈ [0, 13, 10, 133, 8232, 8233]) : ∀ {cs : List Nat} {σ : Sc}, (∀ y ∈ cs, y ∉ [0, 13, 10, 133, 8232, 8233]) → Rd σ (cs ++ x :: r) → WhlS (S ns) (d + 2) T33c B33c ⟨loc33 (.bool b), scO σ :: hs⟩ .next ⟨loc33 (.bool b), scO (fwdN cs.length σ) :: hs⟩ := by
  intro cs
  induction cs with
  | nil =>
    intro σ hws h
    have h : Rd σ (x :: r) := h
    rw [show fwdN (List.length (α := Nat) []) σ = σ from rfl]
    exact Mine.WhlS.by [.c (ch1 x) (scO σ :: hs), .f] (an (peekR (ns := ns) (σ := σ) (d := d + 1) (hs := hs) (r := r) (c := x) (h := h)) (an (congrArg not (zbrk_t (c := x) (h := hx))) trivial)) (fun k e => by kernel_rfl)
  | cons w ws ih =>
    intro σ hws h
    have hw := hws w (.head _)
    have h : Rd σ (w :: (ws ++ x :: r)) := h
    have e := ih (σ := fwdN 1 σ) (fun y hy => hws y (.tail _ hy)) h.next
    rw [← fwdN_add, Nat.add_comm 1] at e
    refine Exists.elim (ahead (x := ws) ⟨x, r, rfl⟩) fun y e' => Exists.elim e' fun u e' => ?_
    have f := fwd0 (ns := ns) (d := d) (hs := hs) (h.as (congrArg (w :: ·) e'))
    refine Mine.WhlS.go (s1 := St.mk [(Str.ofString "self", V.obj 0), (Str.ofString "found", V.bool b)] (scO (fwdN 1 σ) :: hs)) [.c (ch1 w) (scO σ :: hs), .t, .c (V.none) (scO (fwdN 1 σ) :: hs)] ?_ (an (peekR (ns := ns) (σ := σ) (d := d + 1) (hs := hs) (r := ws ++ x :: r) (c := w) (h := h)) (an (congrArg not (zbrk_f (c := w) (h := hw))) (an f trivial))) (fun k e => by kernel_rfl)
    exact e
theorem scan33a {σ : Sc} {x : Nat} {u : List Nat} (h32 : x ≠ 32) (h35 : x ≠ 35) (hbom : x ≠ 65279) (hb : x ∉ BRK) (h : Rd σ (x :: u)) : CallS (S ns) (d + 3) 33 [.obj 0] [] (scO σ :: hs) .none (scO σ :: hs) := by
  have e1 := skip33 (ns := ns) (d := d + 1) (hs := hs) (b := false) (ws := []) h32 (fun _ h => nomatch h) h
  have e1 : WhlS (S ns) (d + 3) T33a B33a ⟨loc33 (.bool false), scO σ :: hs⟩ .next ⟨loc33 (.bool false), scO σ :: hs⟩ := e1
  have e2 : WhlS (S ns) (d + 3) T33 B33 ⟨loc33 (.bool true), scO σ :: hs⟩ .next ⟨loc33 (.bool true), scO σ :: hs⟩ := by
    exact Mine.WhlS.by [.a 1] trivial (fun k e => by kernel_rfl)
  have e2 : WhlS (S ns) (d + 3) T33 B33 ⟨loc33 (.bool false), scO σ :: hs⟩ .next ⟨loc33 (.bool true), scO σ :: hs⟩ := by
    refine Mine.WhlS.go (s1 := St.mk [(Str.ofString "self", V.obj 0), (Str.ofString "found", V.bool true)] (scO σ :: hs)) [.a 1, .w (Fl.next) (St.mk (loc33 (V.bool false)) (scO σ :: hs)), .c (ch1 x) (scO σ :: hs), .f, .c (V.str (Str.ofString "")) (scO σ :: hs), .a 3] ?_ (an e1 (an (peekR (ns := ns) (σ := σ) (d := d + 2) (hs := hs) (r := u) (c := x) (h := h)) (an (hash_f (c := x) (h := h35)) (an (lb_none (ns := ns) (σ := σ) (d := d + 1) (hs := hs) (r := u) (c := x) (h := h) (hc := hb)) trivial)))) (fun k e => by kernel_rfl)
    exact e2
  by_cases q : σ.ix = 0
  · have q := ix_t q
    exact Mine.CallS.by [.t, .c (ch1 x) (scO σ :: hs), .f, .a 2, .w (Fl.next) (St.mk (loc33 (V.bool true)) (scO σ :: hs))] (an q (an (peekR (ns := ns) (σ := σ) (d := d + 2) (hs := hs) (r := u) (c := x) (h := h)) (an (bom_f (c := x) (h := hbom)) (an e2 trivial)))) (fun k e => by kernel_rfl)
  · have q := ix_f q
    exact Mine.CallS.by [.f, .a 2, .w (Fl.next) (St.mk (loc33 (V.bool true)) (scO σ :: hs))] (an q (an e2 trivial)) (fun k e => by kernel_rfl)
noncomputable def past (ws cs : List Nat) (σ : Sc) : Sc := { fwdN (ws.length + (cs.length + 1) + 1) σ with ask := true }
theorem scan33b {σ : Sc} {ws cs u : List Nat} {x : Nat} (hws : ∀ y ∈ ws, y = 32) (hcs : ∀ y ∈ cs, y ∉ [0, 13, 10, 133, 8232, 8233]) (h32 : x ≠ 32) (h35 : x ≠ 35) (hb : x ∉ BRK) (h : Rd σ (ws ++ (35 :: cs ++ 10 :: x :: u))) :
    CallS (S ns) (d + 3) 33 [.obj 0] [] (scO σ :: hs) .none (scO (past ws cs σ) :: hs) := by
  have h1 := h.skip
  have h2 := h1.skip (x := 35 :: cs)
  rw [← fwdN_add] at h2
  have h3 := h2.next
  rw [← fwdN_add] at h3
  have e1 := skip33 (ns := ns) (d := d + 1) (hs := hs) (b := false) (x := 35) (r := cs ++ 10 :: x :: u) (by decide) hws h
  have e2 := comm33 (ns := ns) (d := d + 1) (hs := hs) (b := false) (x := 10) (r := x :: u) (cs := 35 :: cs) (by decide) (fun y hy => (List.mem_cons.mp hy).elim (fun e => by rw [e]; decide) (hcs y)) h1
  rw [← fwdN_add] at e2
  have e3 := lbR (ns := ns) (d := d) (hs := hs) (b := [10]) (l := [10]) h2 (.one (by decide) (fun r' => nofun))
  rw [← fwdN_add] at e3
  have h4 : Rd (past ws cs σ) (x :: u) := ⟨h3.at_, h3.z⟩
  have e4 := skip33 (ns := ns) (d := d + 1) (hs := hs) (b := false) (ws := []) (r := u) h32 (fun _ h => nomatch h) h4
  have e4 : WhlS (S ns) (d + 3) T33a B33a ⟨loc33 (.bool false), scO (past ws cs σ) :: hs⟩ .next ⟨loc33 (.bool false), scO (past ws cs σ) :: hs⟩ := e4
  have e5 : WhlS (S ns) (d + 3) T33 B33 ⟨loc33 (.bool true), scO (past ws cs σ) :: hs⟩ .next ⟨loc33 (.bool true), scO (past ws cs σ) :: hs⟩ := by
    exact Mine.WhlS.by [.a 1] trivial (fun k e => by kernel_rfl)
  have e5 : WhlS (S ns) (d + 3) T33 B33 ⟨loc33 (.bool false), scO (past ws cs σ) :: hs⟩ .next ⟨loc33 (.bool true), scO (past ws cs σ) :: hs⟩ := by
    refine Mine.WhlS.go (s1 := St.mk [(Str.ofString "self", V.obj 0), (Str.ofString "found", V.bool true)] (scO (past ws cs σ) :: hs)) [.a 1, .w (Fl.next) (St.mk (loc33 (V.bool false)) (scO (past ws cs σ) :: hs)), .c (ch1 x) (scO (past ws cs σ) :: hs), .f, .c (V.str (Str.ofString "")) (scO (past ws cs σ) :: hs), .a 3] ?_ (an e4 (an (peekR (ns := ns) (σ := past ws cs σ) (d := d + 2) (hs := hs) (r := u) (c := x) (h := h4)) (an (hash_f (c := x) (h := h35)) (an (lb_none (ns := ns) (σ := past ws cs σ) (d := d + 1) (hs := hs) (r := u) (c := x) (h := h4) (hc := hb)) trivial)))) (fun k e => by kernel_rfl)
    exact e5
  have e5 : WhlS (S ns) (d + 3) T33 B33 ⟨loc33 (.bool false), scO σ :: hs⟩ .next ⟨loc33 (.bool true), scO (past ws cs σ) :: hs⟩ := by
    refine Mine.WhlS.go (s1 := St.mk [(Str.ofString "self", V.obj 0), (Str.ofString "found", V.bool false)] (scO (Sc.mk (Sc.B (fwdN (List.length ws + (List.length cs + 1) + 1) σ)) (Sc.p (fwdN (List.length ws + (List.length cs + 1) + 1) σ)) (Sc.ix (fwdN (List.length ws + (List.length cs + 1) + 1) σ)) (Sc.ln (fwdN (List.length ws + (List.length cs + 1) + 1) σ)) (Sc.cl (fwdN (List.length ws + (List.length cs + 1) + 1) σ)) (Sc.dn (fwdN (List.length ws + (List.length cs + 1) + 1) σ)) (Sc.tk (fwdN (List.length ws + (List.length cs + 1) + 1) σ)) (Sc.tn (fwdN (List.length ws + (List.length cs + 1) + 1) σ)) (Sc.ind (fwdN (List.length ws + (List.length cs + 1) + 1) σ)) true (Sc.keys (fwdN (List.length ws + (List.length cs + 1) + 1) σ))) :: hs)) [.a 1, .w (Fl.next) (St.mk (loc33 (V.bool false)) (scO (fwdN (List.length ws) σ) :: hs)), .c (ch1 35) (scO (fwdN (List.length ws) σ) :: hs), .a 1, .w (Fl.next) (St.mk (loc33 (V.bool false)) (scO (fwdN (List.length ws + (List.length cs + 1)) σ) :: hs)), .c (V.str (Str.mk #[10])) (scO (fwdN (List.length ws + List.length (35 :: cs) + List.length [10]) σ) :: hs), .a 3] ?_ (an e1 (an (peekR (ns := ns) (σ := fwdN (List.length ws) σ) (d := d + 2) (hs := hs) (r := List.append cs (10 :: x :: u)) (c := 35) (h := h1)) (an e2 (an e3 trivial)))) (fun k e => by kernel_rfl)
    exact e5
  by_cases q : σ.ix = 0
  · have q := ix_t q
    cases ws with
    | nil => exact Mine.CallS.by [.t, .c (ch1 35) (scO σ :: hs), .a 3, .w (Fl.next) (St.mk (loc33 (V.bool true)) (scO (past [] cs σ) :: hs))] (an q (an (peekR (ns := ns) (σ := σ) (d := d + 2) (hs := hs) (r := List.append cs (10 :: x :: u)) (c := 35) (h := h)) (an e5 trivial))) (fun k e => by kernel_rfl)
    | cons w ws =>
      have hw := hws w (.head _)
      subst hw
      exact Mine.CallS.by [.t, .c (ch1 32) (scO σ :: hs), .a 3, .w (Fl.next) (St.mk (loc33 (V.bool true)) (scO (past (32 :: ws) cs σ) :: hs))] (an q (an (peekR (ns := ns) (σ := σ) (d := d + 2) (hs := hs) (r := List.append ws (35 :: cs ++ 10 :: x :: u)) (c := 32) (h := h)) (an e5 trivial))) (fun k e => by kernel_rfl)
  · have q := ix_f q
    exact Mine.CallS.by [.f, .a 2, .w (Fl.next) (St.mk (loc33 (V.bool true)) (scO (past ws cs σ) :: hs))] (an q (an e5 trivial)) (fun k e => by kernel_rfl)
end
end Mine
end
section
open PySem PySem.W PyProof.Rows
set_option Elab.async false
set_option linter.unusedVariables false
set_option linter.unusedSectionVars false
set_option maxRecDepth 100000
namespace Mine
inductive Txt2 : List Nat → List Nat → List Nat → Prop
  | mk {x1 t1 x2 t2 r : List Nat} : NSR x1 t1 (x2 ++ 34 :: r) → Tl x2 t2 (34 :: r) → Txt2 (x1 ++ x2) (t1 ++ t2) r
noncomputable def aft (x : List Nat) (σ : Sc) : Sc := fwdN (x.length + 2) { σ with ask := false }
noncomputable abbrev tokV (x t : List Nat) (σ : Sc) : V := scalarV ⟨t.toArray⟩ (mk σ) (mk (aft x σ)) (Str.ofString "\"")
section
variable {ns : List Int} {d : Nat} {σ : Sc} {hs : List O} {x t r : List Nat}
theorem scalar2 (hx : Txt2 x t r) (hr : ∃ a u, r = a :: u) (h : Rd σ (34 :: (x ++ 34 :: r))) :
    ∃ hs', Ext hs hs' ∧ CallS (S ns) (d + 5) 34 [.obj 0, .str "\""] [] (scO { σ with ask := false } :: hs) (tokV x t σ) (scO (aft x σ) :: hs') := by
  obtain @⟨x1, t1, x2, t2, _, h1, h2⟩ := hx
  have e := scalar1 (ns := ns) (d := d) (hs := hs) h1 h2 hr (σ := { σ with ask := false }) ⟨by rw [← List.append_assoc]; exact h.at_, h.z⟩
  rw [show 1 + x1.length + x2.length + 1 = (x1 ++ x2).length + 2 from by rw [List.length_append]; omega] at e
  exact e
theorem double28 (hx : Txt2 x t r) (hr : ∃ a u, r = a :: u) (h : Rd σ (34 :: (x ++ 34 :: r))) (f : Full hs σ [] []) (ha : σ.ask = true) :
    ∃ hs', Full hs' (aft x σ) [tokV x t σ] [(.int 0, keyV σ)] ∧ CallS (S ns) (d + 7) 28 [.obj 0] [] (scO σ :: hs) .none (scO (aft x σ) :: hs') := by
  refine el_1_2 (save (ns := ns) (d := d + 3) f ha) fun hs1 f1 e1 => ?_
  refine el_1_2 (scalar2 (ns := ns) (d := d) (hs := hs1) hx hr h) fun hs2 x2 e2 => ?_
  have f2 := f1.ext (σ' := aft x σ) x2 rfl rfl
  have g1 := f1.tk
  have g2 := f2.tk
  refine ⟨_, f2.sett [tokV x t σ], ?_⟩
  have e3 : CallS (S ns) (d + 6) 29 [.obj 0] [("style", .str "\"")] (scO σ :: hs) .none (scO (aft x σ) :: hs2.set (aft x σ).tk (.list [tokV x t σ])) := by
    exact Mine.CallS.by [.c (V.none) (scO σ :: hs1), .v .ob (O.list []), .c (tokV x t σ) (scO (aft x σ) :: hs2), .v .ob (O.list []), .a 1] (an e1 (an g1 (an e2 (an g2 trivial)))) (fun k e => by kernel_rfl)
  exact Mine.CallS.by [.c (V.none) (scO (aft x σ) :: List.set hs2 (Sc.tk (aft x σ)) (O.list [tokV x t σ]))] (an e3 trivial) (fun k e => by kernel_rfl)
noncomputable abbrev endV (σ : Sc) : V := .rcd 2 [("start_mark", mk σ), ("end_mark", mk σ)]
structure Done (hs : List O) (σ : Sc) (T : List V) : Prop where
  tk : hs[σ.tk]? = some (.list T)
  dn : σ.dn = true
theorem end25 {κ : Sc} {T : List V} {D : List (V × V)} (f : Full hs σ T D) (hD : KeyD κ D) (hT : okL T.length = true) :
    ∃ σ' hs', Done hs' σ' (T ++ [endV σ]) ∧ CallS (S ns) (d + 2) 25 [.obj 0] [] (scO σ :: hs) .none (scO σ' :: hs') := by
  refine el_1_2 (remove (ns := ns) (d := d) f hD) fun hs1 f1 e1 => ?_
  have e0 := unwind (ns := ns) (d := d + 1) (σ := σ) (hs := hs) (k := -1) (Int.le_refl _)
  have f2 := f1.ext (σ' := σ) (((Ext.app hs1 (o := .dict [])).trans (Ext.app _ (o := .dead))).trans (Ext.app _ (o := .dead))) rfl rfl
  have g2 := f2.tk
  have g1 := (f1.ext (σ' := σ) ((Ext.app hs1 (o := .dict [])).trans (Ext.app _ (o := .dead))) rfl rfl).tk
  have g3 : ((hs1 ++ [O.dict []] ++ [O.dead] ++ [O.inst 2 [("start_mark", mk σ), ("end_mark", mk σ)]]).set (hs1 ++ [O.dict []] ++ [O.dead]).length O.dead)[σ.tk]? = some (.list T) := by
    rw [app_set]; exact g2
  refine ⟨{ σ with ask := false, keys := hs1.length, dn := true }, _, ⟨gs g2, rfl⟩, ?_⟩
  rw [← app_set (hs1 ++ [O.dict []] ++ [O.dead]) (O.inst 2 [("start_mark", mk σ), ("end_mark", mk σ)])]
  exact Mine.CallS.by [.c (V.none) (scO σ :: hs), .c (V.none) (scO σ :: hs1), .c (mk (Sc.mk (Sc.B σ) (Sc.p σ) (Sc.ix σ) (Sc.ln σ) (Sc.cl σ) (Sc.dn σ) (Sc.tk σ) (Sc.tn σ) (Sc.ind σ) false (List.length hs1))) (scO (Sc.mk (Sc.B σ) (Sc.p σ) (Sc.ix σ) (Sc.ln σ) (Sc.cl σ) (Sc.dn σ) (Sc.tk σ) (Sc.tn σ) (Sc.ind σ) false (List.length hs1)) :: (hs1 ++ [O.dict []] ++ [O.dead])), .a 1, .v .ob (O.list T), .c (V.none) (scO (Sc.mk (Sc.B σ) (Sc.p σ) (Sc.ix σ) (Sc.ln σ) (Sc.cl σ) (Sc.dn σ) (Sc.tk σ) (Sc.tn σ) (Sc.ind σ) false (List.length hs1)) :: (hs1 ++ [O.dict []] ++ [O.dead] ++ [O.inst 2 [(Str.ofString "start_mark", V.rcd 0 (mkF (Sc.mk (Sc.B σ) (Sc.p σ) (Sc.ix σ) (Sc.ln σ) (Sc.cl σ) (Sc.dn σ) (Sc.tk σ) (Sc.tn σ) (Sc.ind σ) false (List.length hs1)))), (Str.ofString "end_mark", V.rcd 0 (mkF (Sc.mk (Sc.B σ) (Sc.p σ) (Sc.ix σ) (Sc.ln σ) (Sc.cl σ) (Sc.dn σ) (Sc.tk σ) (Sc.tn σ) (Sc.ind σ) false (List.length hs1))))]])), .v .ob (O.inst 2 [(Str.ofString "start_mark", V.rcd 0 (mkF (Sc.mk (Sc.B σ) (Sc.p σ) (Sc.ix σ) (Sc.ln σ) (Sc.cl σ) (Sc.dn σ) (Sc.tk σ) (Sc.tn σ) (Sc.ind σ) false (List.length hs1)))), (Str.ofString "end_mark", V.rcd 0 (mkF (Sc.mk (Sc.B σ) (Sc.p σ) (Sc.ix σ) (Sc.ln σ) (Sc.cl σ) (Sc.dn σ) (Sc.tk σ) (Sc.tn σ) (Sc.ind σ) false (List.length hs1))))]), .v .ob (O.list T), .t] (an e0 (an e1 (an (get_mark (ns := ns) (σ := Sc.mk (Sc.B σ) (Sc.p σ) (Sc.ix σ) (Sc.ln σ) (Sc.cl σ) (Sc.dn σ) (Sc.tk σ) (Sc.tn σ) (Sc.ind σ) false (List.length hs1)) (d := d) (hs := hs1 ++ [O.dict []])) (an g1 (an (init10 (ns := ns) (d := d + 1) (l := hs1 ++ [O.dict []] ++ [O.dead]) (a0 := scO (Sc.mk (Sc.B σ) (Sc.p σ) (Sc.ix σ) (Sc.ln σ) (Sc.cl σ) (Sc.dn σ) (Sc.tk σ) (Sc.tn σ) (Sc.ind σ) false (List.length hs1))) (c1 := 0) (c2 := 0) (f1 := mkF (Sc.mk (Sc.B σ) (Sc.p σ) (Sc.ix σ) (Sc.ln σ) (Sc.cl σ) (Sc.dn σ) (Sc.tk σ) (Sc.tn σ) (Sc.ind σ) false (List.length hs1))) (f2 := mkF (Sc.mk (Sc.B σ) (Sc.p σ) (Sc.ix σ) (Sc.ln σ) (Sc.cl σ) (Sc.dn σ) (Sc.tk σ) (Sc.tn σ) (Sc.ind σ) false (List.length hs1)))) (an (ga (l := hs1 ++ [O.dict []] ++ [O.dead]) (o := O.inst 2 [(Str.ofString "start_mark", V.rcd 0 (mkF (Sc.mk (Sc.B σ) (Sc.p σ) (Sc.ix σ) (Sc.ln σ) (Sc.cl σ) (Sc.dn σ) (Sc.tk σ) (Sc.tn σ) (Sc.ind σ) false (List.length hs1)))), (Str.ofString "end_mark", V.rcd 0 (mkF (Sc.mk (Sc.B σ) (Sc.p σ) (Sc.ix σ) (Sc.ln σ) (Sc.cl σ) (Sc.dn σ) (Sc.tk σ) (Sc.tn σ) (Sc.ind σ) false (List.length hs1))))]) (r := [])) (an g3 (an hT trivial)))))))) (fun k e => by kernel_rfl)
end
end Mine
end
section
open PySem PySem.W PyProof.Rows
set_option Elab.async false
set_option linter.unusedVariables false
set_option linter.unusedSectionVars false
set_option maxRecDepth 100000
namespace Mine
section
variable {ns : List Int} {d : Nat} {σ κ : Sc} {hs : List O} {x t r : List Nat} {T : List V} {D : List (V × V)}
theorem m1 (n : Nat) : (-1 : Int) ≤ (n : Int) := Int.le_trans (by decide) (Int.natCast_nonneg n)
theorem fetchQ (hx : Txt2 x t r) (hr : ∃ a u, r = a :: u) (h : Rd σ (34 :: (x ++ 34 :: r))) (f : Full hs σ [] []) (ha : σ.ask = true) :
    ∃ hs', Full hs' (aft x σ) [tokV x t σ] [(.int 0, keyV σ)] ∧ CallS (S ns) (d + 8) 17 [.obj 0] [] (scO σ :: hs) .none (scO (aft x σ) :: hs') := by
  have e1 := scan33a (ns := ns) (d := d + 4) (hs := hs) (by decide) (by decide) (by decide) (by decide) h
  have e2 := stale0 (ns := ns) (d := d + 6) f
  have e3 := unwind (ns := ns) (d := d + 7) (σ := σ) (hs := hs ++ [.list []]) (m1 σ.cl)
  have f1 := f.ext (σ' := σ) (Ext.app hs (o := .list [])) rfl rfl
  refine el_1_2 (double28 (ns := ns) (d := d) hx hr h f1 ha) fun hs' f2 e5 => ?_
  refine ⟨hs', f2, ?_⟩
  exact Mine.CallS.by [.c (V.none) (scO σ :: hs), .c (V.none) (scO σ :: (hs ++ [O.list []])), .c (V.none) (scO σ :: (hs ++ [O.list []])), .c (ch1 34) (scO σ :: (hs ++ [O.list []])), .a 28, .c (V.none) (scO (aft x σ) :: hs')] (an e1 (an e2 (an e3 (an (peekR (ns := ns) (σ := σ) (d := d + 7) (hs := hs ++ [O.list []]) (r := x ++ 34 :: r) (c := 34) (h := h)) (an e5 trivial))))) (fun k e => by kernel_rfl)
theorem fetchE {ws cs : List Nat} (hws : ∀ y ∈ ws, y = 32) (hcs : ∀ y ∈ cs, y ∉ [0, 13, 10, 133, 8232, 8233]) (h : Rd σ (ws ++ (35 :: cs ++ 10 :: 0 :: []))) (f : Full hs σ T D) (hD : KeyD κ D) (hT : okL T.length = true) :
    ∃ σ' hs', Done hs' σ' (T ++ [endV (past ws cs σ)]) ∧ CallS (S ns) (d + 4) 17 [.obj 0] [] (scO σ :: hs) .none (scO σ' :: hs') := by
  have e1 := scan33b (ns := ns) (d := d) (hs := hs) hws hcs (by decide) (by decide) (by decide) h
  have f1 := f.ext (σ' := past ws cs σ) (Ext.refl hs) rfl rfl
  refine el_2_3 (stale (ns := ns) (d := d + 2) f1 hD) fun D' hs1 f2 hD' e2 => ?_
  have e3 := unwind (ns := ns) (d := d + 3) (σ := past ws cs σ) (hs := hs1) (m1 (past ws cs σ).cl)
  refine el_2_2 (end25 (ns := ns) (d := d + 1) f2 hD' hT) fun σ' hs' f3 e5 => ?_
  have h1 : Rd (past ws cs σ) (0 :: []) := by
    have h1 := (h.skip).skip (x := 35 :: cs)
    rw [← fwdN_add] at h1
    have h1 := h1.next
    rw [← fwdN_add] at h1
    exact ⟨h1.at_, h1.z⟩
  refine ⟨σ', hs', f3, ?_⟩
  exact Mine.CallS.by [.c (V.none) (scO (past ws cs σ) :: hs), .c (V.none) (scO (past ws cs σ) :: hs1), .c (V.none) (scO (past ws cs σ) :: hs1), .c (ch1 0) (scO (past ws cs σ) :: hs1), .a 2, .c (V.none) (scO σ' :: hs')] (an e1 (an e2 (an e3 (an (peekR (ns := ns) (σ := past ws cs σ) (d := d + 3) (hs := hs1) (r := []) (c := 0) (h := h1)) (an e5 trivial))))) (fun k e => by kernel_rfl)
end
end Mine
end
section
open PySem PySem.W PyProof.Rows
set_option Elab.async false
set_option linter.unusedVariables false
set_option linter.unusedSectionVars false
set_option maxRecDepth 100000
namespace Mine
noncomputable def T15 : Expr := wT (sAt (bodyN 15) 0)
noncomputable def B15 : List Stmt := wB (sAt (bodyN 15) 0)
noncomputable abbrev loc15 : List (Str × V) := [("self", .obj 0)]
noncomputable abbrev took (σ : Sc) : Sc := { σ with tn := σ.tn + 1 }
noncomputable abbrev Lp15 (ns : List Int) (d : Nat) (σ : Sc) (hs : List O) (σ' : Sc) (hs' : List O) : Prop := WhlS (S ns) d T15 B15 ⟨loc15, scO σ :: hs⟩ .next ⟨loc15, scO σ' :: hs'⟩
section
variable {ns : List Int} {d : Nat} {σ σ' κ : Sc} {hs hs' : List O} {x t r : List Nat} {T : List V} {D : List (V × V)} {v : V}
theorem get_of (e : Lp15 ns d σ hs σ' hs') (g : hs'[σ'.tk]? = some (.list (v :: T))) (hT : okL (v :: T).length = true) : CallS (S ns) d 15 [.obj 0] [] (scO σ :: hs) v (scO (took σ') :: hs'.set σ'.tk (.list T)) := by
  have e : WhlS (S ns) d T15 B15 ⟨loc15, scO σ :: hs⟩ .next ⟨loc15, scO σ' :: hs'⟩ := e
  exact Mine.CallS.by [.w (Fl.next) (St.mk loc15 (scO σ' :: hs')), .v .ob (O.list (v :: T)), .t, .t, .v .ob (O.list (v :: T)), .v .ob (O.list (v :: T)), .t, .a 1] (an e (an g (an hT (an cr_t (an g (an g (an hT trivial))))))) (fun k e => by kernel_rfl)
theorem get_none (e : Lp15 ns d σ hs σ' hs') (g : hs'[σ'.tk]? = some (.list [])) : CallS (S ns) d 15 [.obj 0] [] (scO σ :: hs) .none (scO σ' :: hs') := by
  have e : WhlS (S ns) d T15 B15 ⟨loc15, scO σ :: hs⟩ .next ⟨loc15, scO σ' :: hs'⟩ := e
  exact Mine.CallS.by [.w (Fl.next) (St.mk loc15 (scO σ' :: hs')), .v .ob (O.list []), .a 2] (an e (an g trivial)) (fun k e => by kernel_rfl)
theorem lp_none (e : CallS (S ns) d 16 [.obj 0] [] (scO σ :: hs) .none (scO σ :: hs')) : Lp15 ns (d + 1) σ hs σ hs' := by
  exact Mine.WhlS.by [.c (V.none) (scO σ :: hs'), .a 1] (an e trivial) (fun k e => by kernel_rfl)
theorem lp_done (hd : σ.dn = true) : Lp15 ns (d + 1) σ hs σ hs := by
  have e := needDone (ns := ns) (d := d) (hs := hs) hd
  exact Mine.WhlS.by [.c (V.bool false) (scO σ :: hs), .a 1] (an e trivial) (fun k e => by kernel_rfl)
theorem lp_more {σ1 : Sc} {hs1 hs2 : List O} (e : CallS (S ns) d 16 [.obj 0] [] (scO σ :: hs) (.bool true) (scO σ :: hs1)) (e2 : CallS (S ns) d 17 [.obj 0] [] (scO σ :: hs1) .none (scO σ1 :: hs2)) (e3 : Lp15 ns (d + 1) σ1 hs2 σ' hs') : Lp15 ns (d + 1) σ hs σ' hs' := by
  refine Mine.WhlS.go (s1 := St.mk [(Str.ofString "self", V.obj 0)] (scO σ1 :: hs2)) [.c (V.bool true) (scO σ :: hs1), .a 1, .c (V.none) (scO σ1 :: hs2)] ?_ (an e (an e2 trivial)) (fun k e => by kernel_rfl)
  exact e3
theorem one_ok (v : V) : okL [v].length = true := okL_t (by show 1 ≤ lim; decide)
theorem two_ok (v w : V) : okL [v, w].length = true := okL_t (by show 2 ≤ lim; decide)
theorem Full.take (f : Full hs σ (v :: T) D) : Full (hs.set σ.tk (.list T)) (took σ) T D := ⟨gs f.tk, (List.getElem?_set_ne f.ne).trans f.ks, f.ne, f.nf.set rfl⟩
theorem Done.take (f : Done hs σ (v :: T)) : Done (hs.set σ.tk (.list T)) (took σ) T := ⟨gs f.tk, f.dn⟩
theorem aft_rd (h : Rd σ (34 :: (x ++ 34 :: r))) : Rd (aft x σ) r := by
  have e : 34 :: (x ++ 34 :: r) = (34 :: (x ++ [34])) ++ r := by rw [List.cons_append, List.append_assoc]; rfl
  have h1 := (h.as e).skip
  rw [List.length_cons, List.length_append] at h1
  exact ⟨h1.at_, h1.z⟩
theorem get1 (f : Full hs σ [v] []) (hd : σ.dn = false) : ∃ hs', Full hs' (took σ) [] [] ∧ CallS (S ns) (d + 3) 15 [.obj 0] [] (scO σ :: hs) v (scO (took σ) :: hs') := by
  have f1 := f.ext (σ' := σ) (Ext.app hs (o := .list [])) rfl rfl
  exact ⟨_, f1.take, get_of (lp_none (need0 (d := d) f (by show 1 ≤ lim; decide) hd)) f1.tk (one_ok v)⟩
theorem getD (f : Done hs σ (v :: T)) (hT : okL (v :: T).length = true) : CallS (S ns) (d + 1) 15 [.obj 0] [] (scO σ :: hs) v (scO (took σ) :: hs.set σ.tk (.list T)) := get_of (lp_done f.dn) f.tk hT
theorem getN (f : Done hs σ []) : CallS (S ns) (d + 1) 15 [.obj 0] [] (scO σ :: hs) .none (scO σ :: hs) := get_none (lp_done f.dn) f.tk
theorem tokens {cs : List Nat} (hx : Txt2 x t (32 :: (35 :: cs ++ 10 :: 0 :: []))) (hcs : ∀ y ∈ cs, y ∉ [0, 13, 10, 133, 8232, 8233]) (h : Rd σ (34 :: (x ++ 34 :: 32 :: (35 :: cs ++ 10 :: 0 :: [])))) (f : Full hs σ [] []) (ha : σ.ask = true) (hd : σ.dn = false) :
    ∃ σ1 hs1 σ2 hs2 κ, CallS (S ns) (d + 9) 15 [.obj 0] [] (scO σ :: hs) (tokV x t σ) (scO σ1 :: hs1) ∧ CallS (S ns) (d + 9) 15 [.obj 0] [] (scO σ1 :: hs1) (endV κ) (scO σ2 :: hs2) ∧ CallS (S ns) (d + 9) 15 [.obj 0] [] (scO σ2 :: hs2) .none (scO σ2 :: hs2) := by
  have e0 := needNil (ns := ns) (d := d + 8) f hd
  refine el_1_2 (fetchQ (ns := ns) (d := d) hx ⟨_, _, rfl⟩ h f ha) fun hs1 f1 e1 => ?_
  have h1 : Rd (aft x σ) ([32] ++ (35 :: cs ++ 10 :: 0 :: [])) := aft_rd h
  refine el_2_2 (need1 (ns := ns) (d := d + 6) f1 (by show 1 ≤ lim; decide) hd rfl) fun D' hs2 f2 hc => ?_
  refine hc.elim (fun hc => ?_) fun hc => ?_
  · have q := hc.1
    subst q
    have g1 := get_of (lp_more (ns := ns) e0 e1 (lp_none hc.2)) f2.tk (one_ok _)
    have f3 := f2.take
    refine el_2_2 (fetchE (ns := ns) (d := d + 4) (ws := [32]) (fun y hy => List.mem_singleton.mp hy) hcs (σ := took (aft x σ)) ⟨h1.at_, h1.z⟩ f3 (.no (κ := σ)) rfl) fun σ4 hs4 f4 e4 => ?_
    have e3 := needNil (ns := ns) (d := d + 8) f3 hd
    exact ⟨_, _, _, _, _, g1, get_of (lp_more e3 e4 (lp_done f4.dn)) f4.tk (one_ok _), getN f4.take⟩
  · have q := hc.1
    subst q
    refine el_2_2 (fetchE (ns := ns) (d := d + 4) (ws := [32]) (fun y hy => List.mem_singleton.mp hy) hcs h1 f2 .yes rfl) fun σ4 hs4 f4 e4 => ?_
    exact ⟨_, _, _, _, _, get_of (lp_more e0 e1 (lp_more hc.2 e4 (lp_done f4.dn))) f4.tk (two_ok _ _), getD f4.take (one_ok _), getN f4.take.take⟩
end
end Mine
end
section
open PySem PySem.W PyProof.Rows
set_option Elab.async false
set_option linter.unusedVariables false
set_option linter.unusedSectionVars false
set_option maxRecDepth 100000
namespace Mine
noncomputable def Prt (c : Nat) : Prop := c ∈ [9, 10, 13, 133] ∨ (32 ≤ c ∧ c ≤ 126) ∨ (160 ≤ c ∧ c ≤ 55295) ∨ (57344 ≤ c ∧ c ≤ 65533) ∨ (65536 ≤ c ∧ c ≤ 1114111)
theorem nat_lt1 (a b : Nat) : ([a] < [b]) ↔ a < b := by
  constructor
  · intro h
    rcases List.cons_lt_cons_iff.mp h with h | ⟨_, h⟩
    · exact h
    · exact absurd h (List.not_lt_nil _)
  · exact fun h => List.cons_lt_cons_iff.mpr (.inl h)
theorem lo_t {s : Str} {k c : Nat} (e : s.cps.toList = [k]) (h : k ≤ c) : decide ((#[c] : Array Nat).toList < s.cps.toList) = false := decide_eq_false (by rw [e]; exact fun z => Nat.not_lt.mpr h ((nat_lt1 c k).mp z))
theorem hi_t {s : Str} {k c : Nat} (e : s.cps.toList = [k]) (h : c ≤ k) : decide (s.cps.toList < (#[c] : Array Nat).toList) = false := decide_eq_false (by rw [e]; exact fun z => Nat.not_lt.mpr h ((nat_lt1 k c).mp z))
theorem hi_f {s : Str} {k c : Nat} (e : s.cps.toList = [k]) (h : k < c) : decide (s.cps.toList < (#[c] : Array Nat).toList) = true := decide_eq_true (by rw [e]; exact (nat_lt1 k c).mpr h)
theorem s32 : (Str.ofString " ").cps.toList = [32] := by decide +kernel
theorem s126 : (Str.ofString "~").cps.toList = [126] := by decide +kernel
theorem s160 : (Str.ofString "\u00a0").cps.toList = [160] := by decide +kernel
theorem s55295 : (Str.ofString "\ud7ff").cps.toList = [55295] := by decide +kernel
theorem s57344 : (Str.ofString "\ue000").cps.toList = [57344] := by decide +kernel
theorem s65533 : (Str.ofString "\ufffd").cps.toList = [65533] := by decide +kernel
theorem s65536 : (Str.ofString "𐀀").cps.toList = [65536] := by decide +kernel
theorem sTop : (⟨#[1114111]⟩ : Str).cps.toList = [1114111] := rfl
section
variable {ns : List Int} {d : Nat} {h : List O}
theorem prt2 {c : Nat} (hc : Prt c) : CallS (S ns) d 2 [ch1 c] [] h (.bool true) h := by
  by_cases q1 : c ∈ [9, 10, 13, 133]
  · suffices e : CallS (S ns) d 2 [ch1 c] [] h (.bool (Txt.contains (Str.ofString "\t\n\u000d\u0085") ⟨#[c]⟩)) h by rwa [prt_t q1] at e
    exact Mine.CallS.by [.t] (an (prt_t (c := c) (h := q1)) trivial) (fun k e => by kernel_rfl)
  · refine hc.elim (fun h => absurd h q1) fun hc => hc.elim (fun hc => ?_) fun hc => ?_
    · have a1 := lo_t s32 hc.1
      have a2 := hi_t s126 hc.2
      suffices e : CallS (S ns) d 2 [ch1 c] [] h (.bool (!decide ((Str.ofString "~").cps.toList < (#[c] : Array Nat).toList))) h by rwa [a2] at e
      exact Mine.CallS.by [.f, .t, .t] (an (prt_f (c := c) (h := q1)) (an (congrArg not a1) (an (congrArg not a2) trivial))) (fun k e => by kernel_rfl)
    · have g : 160 ≤ c := hc.elim (fun h => h.1) fun hc => hc.elim (fun h => Nat.le_trans (by decide) h.1) fun h => Nat.le_trans (by decide) h.1
      have a1 := lo_t s32 (Nat.le_trans (by decide) g)
      have a2 := hi_f s126 (Nat.lt_of_lt_of_le (by decide) g)
      have a3 := lo_t s160 g
      refine hc.elim (fun hc => ?_) fun hc => ?_
      · have a4 := hi_t s55295 hc.2
        suffices e : CallS (S ns) d 2 [ch1 c] [] h (.bool (!decide ((Str.ofString "\ud7ff").cps.toList < (#[c] : Array Nat).toList))) h by rwa [a4] at e
        exact Mine.CallS.by [.f, .t, .f, .t, .t] (an (prt_f (c := c) (h := q1)) (an (congrArg not a1) (an (congrArg not a2) (an (congrArg not a3) (an (congrArg not a4) trivial))))) (fun k e => by kernel_rfl)
      · have g : 57344 ≤ c := hc.elim (fun h => h.1) fun h => Nat.le_trans (by decide) h.1
        have a4 := hi_f s55295 (Nat.lt_of_lt_of_le (by decide) g)
        have a5 := lo_t s57344 g
        refine hc.elim (fun hc => ?_) fun hc => ?_
        · have a6 := hi_t s65533 hc.2
          suffices e : CallS (S ns) d 2 [ch1 c] [] h (.bool (!decide ((Str.ofString "\ufffd").cps.toList < (#[c] : Array Nat).toList))) h by rwa [a6] at e
          exact Mine.CallS.by [.f, .t, .f, .t, .f, .t, .t] (an (prt_f (c := c) (h := q1)) (an (congrArg not a1) (an (congrArg not a2) (an (congrArg not a3) (an (congrArg not a4) (an (congrArg not a5) (an (congrArg not a6) trivial))))))) (fun k e => by kernel_rfl)
        · have a6 := hi_f s65533 (Nat.lt_of_lt_of_le (by decide) hc.1)
          have a7 := lo_t s65536 hc.1
          have a8 := hi_t sTop hc.2
          suffices e : CallS (S ns) d 2 [ch1 c] [] h (.bool (!decide ((⟨#[1114111]⟩ : Str).cps.toList < (#[c] : Array Nat).toList))) h by rwa [a8] at e
          exact Mine.CallS.by [.f, .t, .f, .t, .f, .t, .f, .t] (an (prt_f (c := c) (h := q1)) (an (congrArg not a1) (an (congrArg not a2) (an (congrArg not a3) (an (congrArg not a4) (an (congrArg not a5) (an (congrArg not a6) (an (congrArg not a7) trivial)))))))) (fun k e => by kernel_rfl)
end
end Mine
end
section
open PySem PySem.W PyProof.Rows
set_option Elab.async false
set_option linter.unusedVariables false
set_option linter.unusedSectionVars false
set_option maxRecDepth 100000
namespace Mine
noncomputable abbrev loc8 (B : List Nat) (a b : V) : List (Str × V) := [("self", .obj 0), ("data", .str ⟨B.toArray⟩), ("start", a), ("character", b), ("position", .undef), ("enumerate", .ty "enumerate"), ("_is_printable", .fn 2), ("len", .bi "len")]
noncomputable def F8 : Expr := wT (sAt (bodyN 8) 0)
noncomputable def G8 : List Stmt := wB (sAt (bodyN 8) 0)
section
variable {ns : List Int} {d : Nat} {h : List O}
theorem nx_t {B : List Nat} {k c : Nat} (e : B[k]? = some c) : some ((((⟨B.toArray⟩ : Str).cps[k]?).map ch1).map (wrp true k)) = some (some (.tup [.int (k : Int), ch1 c])) := by
  rw [show (⟨B.toArray⟩ : Str).cps[k]? = some c from toA e]; rfl
theorem nx_f {B : List Nat} : some ((((⟨B.toArray⟩ : Str).cps[B.length]?).map ch1).map (wrp true B.length)) = some none := by
  rw [show (⟨B.toArray⟩ : Str).cps[B.length]? = none by rw [List.getElem?_toArray]; exact List.getElem?_eq_none (Nat.le_refl _)]; rfl
theorem loop8 : ∀ {C A B : List Nat}, A ++ C = B → (∀ c ∈ C, Prt c) → ∀ {a b : V}, okV a = true → okV b = true →
    ∃ a' b', FrlS (S ns) (d + 1) F8 (.str ⟨B.toArray⟩ true) A.length G8 ⟨loc8 B a b, h⟩ .next ⟨loc8 B a' b', h⟩ := by
  intro C
  induction C with
  | nil =>
    intro A B e hB a b ha hb
    rw [List.append_nil] at e
    subst e
    refine ⟨a, b, ?_⟩
    have q := nx_f (B := A)
    exact Mine.FrlS.by [.v .oval (none)] (an q trivial) (fun k e => by kernel_rfl)
  | cons c C ih =>
    intro A B e hB a b ha hb
    have hg : B[A.length]? = some c := by rw [← e, List.getElem?_append_right (Nat.le_refl _), Nat.sub_self]; rfl
    have q := nx_t hg
    have p := prt2 (ns := ns) (d := d) (h := h) (hB c (.head _))
    refine el_2_1 (ih (A := A ++ [c]) (B := B) (by rw [List.append_assoc]; exact e) (fun y hy => hB y (.tail _ hy)) (a := .int (A.length : Int)) (b := ch1 c) rfl rfl) fun a' b' e2 => ?_
    rw [List.length_append] at e2
    refine ⟨a', b', ?_⟩
    refine Mine.FrlS.go (s1 := St.mk [(Str.ofString "self", V.obj 0), (Str.ofString "data", V.str (Str.mk (List.toArray B))), (Str.ofString "start", V.int (↑(List.length A) : Int)), (Str.ofString "character", V.str (Str.mk #[c])), (Str.ofString "position", V.undef), (Str.ofString "enumerate", V.ty "enumerate"), (Str.ofString "_is_printable", V.fn 2), (Str.ofString "len", V.bi "len")] h) [.v .oval (some (V.tup [V.int (↑(List.length A) : Int), ch1 c])), .t, .t, .c (V.bool true) (h), .a 1] ?_ (an q (an (pl_t (u := a) (v := V.int (↑(List.length A) : Int)) (h := ha) (h2 := (by rfl))) (an (pl_t (u := b) (v := ch1 c) (h := hb) (h2 := (by rfl))) (an p trivial)))) (fun k e => by kernel_rfl)
    exact e2
theorem check8 {B : List Nat} (hB : ∀ c ∈ B, Prt c) : CallS (S ns) (d + 2) 8 [.obj 0, .str ⟨B.toArray⟩] [] h .none h := by
  refine el_2_1 (loop8 (ns := ns) (d := d + 1) (h := h) (A := []) rfl hB (a := .undef) (b := .undef) rfl rfl) fun a' b' e => ?_
  have e : FrlS (S ns) (d + 2) F8 (.str ⟨B.toArray⟩ true) 0 G8 ⟨loc8 B .undef .undef, h⟩ .next ⟨loc8 B a' b', h⟩ := e
  exact Mine.CallS.by [.w (Fl.next) (St.mk (loc8 B a' b') h)] (an e trivial) (fun k e => by kernel_rfl)
end
end Mine
end
section
open PySem PySem.W PyProof.Rows
set_option Elab.async false
set_option linter.unusedVariables false
set_option linter.unusedSectionVars false
set_option maxRecDepth 100000
namespace Mine
noncomputable def rdFs (B : Str) : List (Str × V) := [("name", .str "<unicode string>"), ("stream", .none), ("stream_pointer", .int 0), ("eof", .bool true), ("buffer", .str B), ("pointer", .int 0), ("raw_buffer", .none), ("raw_decode", .none), ("encoding", .none), ("index", .int 0), ("line", .int 0), ("column", .int 0)]
theorem cat0 (L : List Nat) : (⟨L.toArray⟩ : Str) ++ Str.ofString "\u0000" = ⟨(L ++ [0]).toArray⟩ := by
  rw [str_eq]
  show (L.toArray ++ (Str.ofString "\u0000").cps).toList = _
  have : (Str.ofString "\u0000").cps = #[0] := by rfl
  rw [this]
  simp
section
variable {ns : List Int} {d : Nat} {hs : List O} {L : List Nat}
theorem read3 (hL : ∀ c ∈ L, Prt c) (hz : L.length + 1 ≤ lim) : CallS (S ns) (d + 3) 3 [.obj 0, .str ⟨L.toArray⟩] [] (.inst 8 [] :: hs) .none (.inst 8 (rdFs ⟨(L ++ [0]).toArray⟩) :: hs) := by
  rw [← cat0]
  have e1 := fun fs : List (Str × V) => check8 (ns := ns) (d := d) (h := .inst 8 fs :: hs) hL
  have k := okL_t hz
  exact Mine.CallS.by [.a 1, .c (V.none) (O.inst 8 [(Str.ofString "name", V.str (Str.ofString "<unicode string>")), (Str.ofString "stream", V.none), (Str.ofString "stream_pointer", V.int 0), (Str.ofString "eof", V.bool true), (Str.ofString "buffer", V.str (Str.ofString "")), (Str.ofString "pointer", V.int 0), (Str.ofString "raw_buffer", V.none), (Str.ofString "raw_decode", V.none), (Str.ofString "encoding", V.none), (Str.ofString "index", V.int 0), (Str.ofString "line", V.int 0), (Str.ofString "column", V.int 0)] :: hs), .t] (an (e1 (fs := [(Str.ofString "name", V.str (Str.ofString "<unicode string>")), (Str.ofString "stream", V.none), (Str.ofString "stream_pointer", V.int 0), (Str.ofString "eof", V.bool true), (Str.ofString "buffer", V.str (Str.ofString "")), (Str.ofString "pointer", V.int 0), (Str.ofString "raw_buffer", V.none), (Str.ofString "raw_decode", V.none), (Str.ofString "encoding", V.none), (Str.ofString "index", V.int 0), (Str.ofString "line", V.int 0), (Str.ofString "column", V.int 0)])) (an (okL_t (n := List.length L + Array.size (Str.cps (Str.ofString "\x00"))) (h := (by assumption))) trivial)) (fun k e => by kernel_rfl)
noncomputable def sc0 (B : List Nat) (t i k : Nat) : Sc := { B := B, p := 0, ix := 0, ln := 0, cl := 0, dn := false, tk := t, tn := 0, ind := i, ask := true, keys := k }
noncomputable abbrev sc1 (B : List Nat) : Sc := sc0 B 0 0 0
noncomputable abbrev startV (B : List Nat) : V := .rcd 1 [("start_mark", mk (sc1 B)), ("end_mark", mk (sc1 B)), ("encoding", .none)]
noncomputable abbrev xF (k : Nat) : List (Str × V) := [("done", .bool false), ("flow_level", .int 0), ("tokens", .obj k)]
theorem getm {B : List Nat} {k : Nat} : CallS (S ns) (d + 1) 7 [.obj 0] [] (.inst 8 (rdFs ⟨B.toArray⟩ ++ xF k) :: hs) (mk (sc1 B)) (.inst 8 (rdFs ⟨B.toArray⟩ ++ xF k) :: (hs ++ [.dead])) := by
  rw [← app_set hs (.inst 0 (mkF (sc1 B)))]
  exact Mine.CallS.by [.a 1, .c (V.none) (O.inst 8 [(Str.ofString "name", V.str (Str.ofString "<unicode string>")), (Str.ofString "stream", V.none), (Str.ofString "stream_pointer", V.int 0), (Str.ofString "eof", V.bool true), (Str.ofString "buffer", V.str (Str.mk (List.toArray B))), (Str.ofString "pointer", V.int 0), (Str.ofString "raw_buffer", V.none), (Str.ofString "raw_decode", V.none), (Str.ofString "encoding", V.none), (Str.ofString "index", V.int 0), (Str.ofString "line", V.int 0), (Str.ofString "column", V.int 0), (Str.ofString "done", V.bool false), (Str.ofString "flow_level", V.int 0), (Str.ofString "tokens", V.obj k)] :: (hs ++ [O.inst 0 (markF (Str.ofString "<unicode string>") 0 0 0 (Str.mk (List.toArray B)) 0)])), .v .ob (O.inst 0 [(Str.ofString "name", V.str (Str.ofString "<unicode string>")), (Str.ofString "index", V.int 0), (Str.ofString "line", V.int 0), (Str.ofString "column", V.int 0), (Str.ofString "buffer", V.str (Str.mk (List.toArray B))), (Str.ofString "pointer", V.int 0)])] (an (init0 (ns := ns) (d := d) (l := hs) (a0 := O.inst 8 [(Str.ofString "name", V.str (Str.ofString "<unicode string>")), (Str.ofString "stream", V.none), (Str.ofString "stream_pointer", V.int 0), (Str.ofString "eof", V.bool true), (Str.ofString "buffer", V.str (Str.mk (List.toArray B))), (Str.ofString "pointer", V.int 0), (Str.ofString "raw_buffer", V.none), (Str.ofString "raw_decode", V.none), (Str.ofString "encoding", V.none), (Str.ofString "index", V.int 0), (Str.ofString "line", V.int 0), (Str.ofString "column", V.int 0), (Str.ofString "done", V.bool false), (Str.ofString "flow_level", V.int 0), (Str.ofString "tokens", V.obj k)]) (nm := Str.ofString "<unicode string>") (bf := Str.mk (List.toArray B)) (a := 0) (b := 0) (c := 0) (p := 0)) (an (ga (l := hs) (o := O.inst 0 [(Str.ofString "name", V.str (Str.ofString "<unicode string>")), (Str.ofString "index", V.int 0), (Str.ofString "line", V.int 0), (Str.ofString "column", V.int 0), (Str.ofString "buffer", V.str (Str.mk (List.toArray B))), (Str.ofString "pointer", V.int 0)]) (r := [])) trivial)) (fun k e => by kernel_rfl)
theorem start24 {B : List Nat} : CallS (S ns) (d + 2) 24 [.obj 0] [] (.inst 8 (rdFs ⟨B.toArray⟩ ++ xF (hs.length + 1)) :: (hs ++ [.list []])) .none (.inst 8 (rdFs ⟨B.toArray⟩ ++ xF (hs.length + 1)) :: (hs ++ [O.list []] ++ [O.dead] ++ [O.dead]).set hs.length (.list [startV B])) := by
  have e1 := getm (ns := ns) (d := d) (B := B) (hs := hs ++ [.list []]) (k := hs.length + 1)
  have g1 : (hs ++ [O.list []] ++ [O.dead])[hs.length]? = some (.list []) := by rw [List.append_assoc]; exact ga
  have g2 : ((hs ++ [O.list []] ++ [O.dead] ++ [O.inst 1 [("start_mark", mk (sc1 B)), ("end_mark", mk (sc1 B)), ("encoding", .none)]]).set (hs ++ [O.list []] ++ [O.dead]).length O.dead)[hs.length]? = some (.list []) := by
    rw [app_set, List.append_assoc, List.append_assoc]; exact ga
  rw [← app_set (hs ++ [O.list []] ++ [O.dead]) (O.inst 1 [("start_mark", mk (sc1 B)), ("end_mark", mk (sc1 B)), ("encoding", .none)])]
  exact Mine.CallS.by [.c (mk (sc1 B)) (O.inst 8 (rdFs (Str.mk (List.toArray B)) ++ xF (List.length hs + 1)) :: (hs ++ [O.list []] ++ [O.dead])), .a 1, .v .ob (O.list []), .c (V.none) (O.inst 8 [(Str.ofString "name", V.str (Str.ofString "<unicode string>")), (Str.ofString "stream", V.none), (Str.ofString "stream_pointer", V.int 0), (Str.ofString "eof", V.bool true), (Str.ofString "buffer", V.str (Str.mk (List.toArray B))), (Str.ofString "pointer", V.int 0), (Str.ofString "raw_buffer", V.none), (Str.ofString "raw_decode", V.none), (Str.ofString "encoding", V.none), (Str.ofString "index", V.int 0), (Str.ofString "line", V.int 0), (Str.ofString "column", V.int 0), (Str.ofString "done", V.bool false), (Str.ofString "flow_level", V.int 0), (Str.ofString "tokens", V.obj (List.length hs + 1))] :: (hs ++ [O.list []] ++ [O.dead] ++ [O.inst 1 [(Str.ofString "start_mark", V.rcd 0 (mkF (sc1 B))), (Str.ofString "end_mark", V.rcd 0 (mkF (sc1 B))), (Str.ofString "encoding", V.none)]])), .v .ob (O.inst 1 [(Str.ofString "start_mark", V.rcd 0 (mkF (sc1 B))), (Str.ofString "end_mark", V.rcd 0 (mkF (sc1 B))), (Str.ofString "encoding", V.none)]), .v .ob (O.list []), .a 1] (an e1 (an g1 (an (init11 (ns := ns) (d := d + 1) (l := hs ++ [O.list []] ++ [O.dead]) (a0 := O.inst 8 [(Str.ofString "name", V.str (Str.ofString "<unicode string>")), (Str.ofString "stream", V.none), (Str.ofString "stream_pointer", V.int 0), (Str.ofString "eof", V.bool true), (Str.ofString "buffer", V.str (Str.mk (List.toArray B))), (Str.ofString "pointer", V.int 0), (Str.ofString "raw_buffer", V.none), (Str.ofString "raw_decode", V.none), (Str.ofString "encoding", V.none), (Str.ofString "index", V.int 0), (Str.ofString "line", V.int 0), (Str.ofString "column", V.int 0), (Str.ofString "done", V.bool false), (Str.ofString "flow_level", V.int 0), (Str.ofString "tokens", V.obj (List.length hs + 1))]) (c1 := 0) (c2 := 0) (f1 := mkF (sc1 B)) (f2 := mkF (sc1 B))) (an (ga (l := hs ++ [O.list []] ++ [O.dead]) (o := O.inst 1 [(Str.ofString "start_mark", V.rcd 0 (mkF (sc1 B))), (Str.ofString "end_mark", V.rcd 0 (mkF (sc1 B))), (Str.ofString "encoding", V.none)]) (r := [])) (an g2 trivial))))) (fun k e => by kernel_rfl)
noncomputable def hp0 (hs : List O) (B : List Nat) : List O := (hs ++ [O.list []] ++ [O.dead] ++ [O.dead]).set hs.length (.list [startV B])
theorem init14 (hL : ∀ c ∈ L, Prt c) (hz : L.length + 1 ≤ lim) : CallS (S ns) (d + 4) 14 [.obj 0, .str ⟨L.toArray⟩] [] (.inst 8 [] :: hs) .none (scO (sc0 (L ++ [0]) hs.length (hp0 hs (L ++ [0])).length (hp0 hs (L ++ [0]) ++ [O.list []]).length) :: (hp0 hs (L ++ [0]) ++ [O.list []] ++ [O.dict []])) := by
  have e1 := read3 (ns := ns) (d := d) (hs := hs) hL hz
  have e2 := start24 (ns := ns) (d := d + 1) (hs := hs) (B := L ++ [0])
  exact Mine.CallS.by [.c (V.none) (O.inst 8 (rdFs (Str.mk (List.toArray (L ++ [0])))) :: hs), .c (V.none) (O.inst 8 (rdFs (Str.mk (List.toArray (L ++ [0]))) ++ xF (List.length hs + 1)) :: List.set (hs ++ [O.list []] ++ [O.dead] ++ [O.dead]) (List.length hs) (O.list [startV (L ++ [0])]))] (an e1 (an e2 trivial)) (fun k e => by kernel_rfl)
theorem full0 {B : List Nat} (hn : NoFro hs) : Full (hp0 hs B ++ [O.list []] ++ [O.dict []]) (sc0 B hs.length (hp0 hs B).length (hp0 hs B ++ [O.list []]).length) [startV B] [] := by
  have g2 : (hs ++ [O.list []] ++ [O.dead] ++ [O.dead])[hs.length]? = some (.list []) := by
    rw [List.append_assoc, List.append_assoc]; exact ga
  have g3 : (hp0 hs B)[hs.length]? = some (.list [startV B]) := gs g2
  have g4 : (hp0 hs B ++ [O.list []] ++ [O.dict []])[hs.length]? = some (.list [startV B]) := by rw [List.append_assoc]; exact gl g3
  refine ⟨g4, ga, fun e => ?_, (((((hn.app (x := [O.list []]) rfl).app (x := [O.dead]) rfl).app (x := [O.dead]) rfl).set rfl).app (x := [O.list []]) rfl).app (x := [O.dict []]) rfl⟩
  have e : hs.length = (hp0 hs B ++ [O.list []]).length := e
  have l := (List.getElem?_eq_some_iff.mp g3).1
  rw [List.length_append] at e
  exact absurd e (Nat.ne_of_lt (Nat.lt_add_right _ l))
end
end Mine
end
section
open PySem PySem.W PyProof.Rows
set_option Elab.async false
set_option linter.unusedVariables false
set_option linter.unusedSectionVars false
set_option maxRecDepth 100000
namespace Mine
theorem NSR.cons {x t r : List Nat} {y : Nat} (h : NSR x t r) (hy : y ∉ STOP) : NSR (y :: x) (y :: t) r := by
  have run' : ∀ {run : List Nat}, Clean run → Clean (y :: run) := fun hr z hz => (List.mem_cons.mp hz).elim (fun e => e ▸ hy) (hr z)
  cases h with
  | stop h1 h2 h3 h4 => exact NSR.stop (run := y :: _) (run' h1) h2 h3 h4
  | apos h1 h2 => exact NSR.apos (run := y :: _) (run' h1) h2
  | esc h1 h2 h3 => exact NSR.esc (run := y :: _) (run' h1) h2 h3
  | code h1 h2 h3 h4 h5 h6 h7 => exact NSR.code (run := y :: _) (run' h1) h2 h3 h4 h5 h6 h7
  | line h1 h2 h3 h4 => exact NSR.line (run := y :: _) (run' h1) h2 h3 h4
theorem clean0 : Clean [] := fun _ h => nomatch h
theorem nsr0 {u u' : List Nat} {c : Nat} (e : u = c :: u') (h : c ∈ [32, 9] ∨ c ∈ BRK) : NSR [] [] u := by
  subst e
  have q : ∀ x ∈ [32, 9] ++ BRK, x ∈ STOP ∧ x ≠ 39 ∧ x ≠ 92 := by decide
  have q := q c (List.mem_append.mpr h)
  exact NSR.stop clean0 q.1 q.2.1 q.2.2
theorem head_bb {ws w l x r : List Nat} (hws : Blank ws) (hb : Brk w l x) : ∃ c u, ws ++ (w ++ r) = c :: u ∧ (c ∈ [32, 9] ∨ c ∈ BRK) := by
  cases ws with
  | nil => exact hb.head fun a b' e h _ => ⟨a, b' ++ r, by rw [e]; rfl, .inr h⟩
  | cons a ws => exact ⟨a, ws ++ (w ++ r), rfl, .inl (hws a (.head _))⟩
theorem ok_bb {u u' : List Nat} {c : Nat} (e : u = c :: u') (h : c ∈ [32, 9] ∨ c ∈ BRK) : HeadOK u := by
  subst e
  intro a ha
  have q : ∀ x ∈ [32, 9] ++ BRK, x ≠ 45 ∧ x ≠ 46 := by decide
  rw [← Option.some.inj ha]
  exact q c (List.mem_append.mpr h)
section
variable {r x t : List Nat}
theorem Txt2.plain {y : Nat} (h : Txt2 x t r) (hy : y ∉ STOP) : Txt2 (y :: x) (y :: t) r := by
  cases h with | mk h1 h2 => exact Txt2.mk (h1.cons hy) h2
theorem Txt2.apos (h : Txt2 x t r) : Txt2 (39 :: x) (39 :: t) r := by
  cases h with | mk h1 h2 => exact Txt2.mk (NSR.apos clean0 h1) h2
theorem Txt2.esc {e c : Nat} (h : Txt2 x t r) (he : esc e = some c) : Txt2 (92 :: e :: x) (c :: t) r := by
  cases h with | mk h1 h2 => exact Txt2.mk (NSR.esc clean0 he h1) h2
theorem Txt2.code {e n c : Nat} {hx : List Nat} (h : Txt2 x t r) (he : codeN e = some n) (hn : hx.length = n) (hh : ∀ y ∈ hx, y ∈ HEX) (hv : hexL hx 0 = some c) (hc : c < 1114112) : Txt2 (92 :: e :: (hx ++ x)) (c :: t) r := by
  cases h with
  | mk h1 h2 =>
    rw [← List.append_assoc]
    exact Txt2.mk (NSR.code clean0 he hn hh hv hc h1) h2
theorem Txt2.line {w l y t1 : List Nat} (h : Txt2 x t r) (hb : Brk w l (y ++ (x ++ 34 :: r))) (hr : RowC y t1 (x ++ 34 :: r)) : Txt2 (92 :: (w ++ (y ++ x))) (t1 ++ t) r := by
  cases h with
  | mk h1 h2 =>
    rw [List.append_assoc] at hb hr
    rw [← List.append_assoc y, ← List.append_assoc w, ← List.append_assoc t1]
    exact Txt2.mk (NSR.line clean0 hb hr h1) h2
theorem Txt2.quote : Txt2 [] [] r := Txt2.mk (x1 := []) (t1 := []) (x2 := []) (t2 := []) (NSR.stop clean0 (by decide) (by decide) (by decide)) .quote
theorem Txt2.fold {ws w l y t0 : List Nat} (h : Txt2 x t r) (hws : Blank ws) (hb : Brk w l (y ++ (x ++ 34 :: r))) (hr : RowC y t0 (x ++ 34 :: r)) : Txt2 ((ws ++ (w ++ y)) ++ x) (folded l t0 ++ t) r := by
  cases h with
  | @mk x1 t1 x2 t2 _ h1 h2 =>
    rw [List.append_assoc] at hb hr
    refine Txt2.mk (x1 := []) (t1 := []) ?_ (Tl.fold hws hb hr h1 h2)
    refine (head_bb (r := y ++ ((x1 ++ x2) ++ 34 :: r)) hws hb).elim fun c q => q.elim fun u q => nsr0 (c := c) (u' := u) ?_ q.2
    rw [← q.1]
    show ((ws ++ (w ++ y)) ++ (x1 ++ x2)) ++ 34 :: r = _
    rw [List.append_assoc, List.append_assoc ws, List.append_assoc w]
end
noncomputable def PT (pad r : List Nat) : Nat → Bool → List Nat → List Nat → Prop
  | 0, false => fun u v => Txt2 u v r
  | 0, true => fun u v => ∀ ws, ws ≠ [] → Blank ws → Tl (ws ++ u) (ws ++ v) (34 :: r)
  | 1, _ => fun u v => RowC pad [] (u ++ 34 :: r) ∧ Txt2 u v r
  | _, _ => fun u v => ∃ y t z v1, pad ++ u = y ++ z ∧ v = t ++ v1 ∧ RowC y t (z ++ 34 :: r) ∧ Txt2 z v1 r
structure PP (en pad r : List Nat) (st : Nat) (gap : Bool) (u v : List Nat) : Prop where
  hd : en = [13] → u.head? ≠ some 10
  pt : PT pad r st gap u v
noncomputable def ENDS : List (List Nat) := [[10], [13, 10], [13], [133]]
noncomputable def PADS : List (List Nat) := [[], [32, 32], [9], [32, 9, 32]]
noncomputable def LEADS : List (List Nat) := [[], [32], [9, 32]]
theorem en_cases {en : List Nat} (h : en ∈ ENDS) {Q : List Nat → Prop} (a : Q [10]) (b : Q [13, 10]) (c : Q [13]) (e : Q [133]) : Q en := by
  cases h with
  | head => exact a
  | tail _ h => cases h with
    | head => exact b
    | tail _ h => cases h with
      | head => exact c
      | tail _ h => cases h with
        | head => exact e
        | tail _ h => exact nomatch h
theorem brk_en {en w : List Nat} (h : en ∈ ENDS) : (en = [13] → w.head? ≠ some 10) → Brk en [10] w :=
  en_cases h (Q := fun en => (en = [13] → w.head? ≠ some 10) → Brk en [10] w) (fun _ => .one (by decide) (fun r' => nofun)) (fun _ => .crlf) (fun k => .one (by decide) (fun r' e => k rfl (by rw [(List.cons.inj e).2]; rfl))) (fun _ => .one (by decide) (fun r' => nofun))
theorem head_en {en : List Nat} (h : en ∈ ENDS) (w : List Nat) : en = [13] → (en ++ w).head? ≠ some 10 := fun q => by
  rw [q]; exact fun e => absurd (Option.some.inj e) (by decide)
theorem head_bl {c : Nat} {u : List Nat} {en : List Nat} (h : c ≠ 10) : en = [13] → (c :: u).head? ≠ some 10 := fun _ e => h (Option.some.inj e)
theorem blank10 {c : Nat} (h : c ∈ [32, 9]) : c ≠ 10 := fun e => absurd (e ▸ h) (by decide)
theorem head_pad {en pad w : List Nat} (hp : Blank pad) (hw : en = [13] → w.head? ≠ some 10) : en = [13] → (pad ++ w).head? ≠ some 10 := by
  cases pad with
  | nil => exact hw
  | cons y p => exact head_bl (blank10 (hp y (.head _)))
theorem head_app {en u w : List Nat} (hu : en = [13] → u.head? ≠ some 10) (hw : w.head? ≠ some 10) : en = [13] → (u ++ w).head? ≠ some 10 := by
  cases u with
  | nil => exact fun _ => hw
  | cons y p => exact hu
section
variable {en pad lead r u v : List Nat} {st : Nat} {gap : Bool}
theorem PP.app (h : PP en pad r st gap u v) : en = [13] → (u ++ 34 :: r).head? ≠ some 10 := head_app h.hd (fun e => absurd (Option.some.inj e) (by decide))
theorem PP.solid {x : Nat} (hp : Blank pad) (h1 : x ∉ [32, 9]) (h2 : x ∉ BRK) (h3 : x ≠ 0) (hh : st = 0 ∨ pad ≠ [] ∨ (x ≠ 45 ∧ x ≠ 46)) (hr : Txt2 (x :: u) v r) : PP en pad r st gap (x :: u) v := by
  refine ⟨head_bl fun e => h2 (by rw [e]; decide), ?_⟩
  have row : st ≠ 0 → RowC pad [] (x :: u ++ 34 :: r) := fun h0 => RowC.stop hp h1 h2 (by
    cases pad with
    | nil => exact fun a ha => by rw [← Option.some.inj ha]; exact (hh.resolve_left h0).resolve_left (fun h => h rfl)
    | cons y p => exact ok_bb (u' := p ++ _) rfl (.inl (hp y (.head _))))
  match st, gap with
  | 0, false => exact hr
  | 0, true =>
    intro ws hne hws
    generalize e : x :: u = z at hr
    cases hr with
    | mk h4 h5 => exact Tl.blank (u := u ++ 34 :: r) hne hws (by rw [← List.append_assoc, ← e]; rfl) h1 h3 h2 h4 h5
  | 1, _ => exact ⟨row (by decide), hr⟩
  | n + 2, _ => exact ⟨pad, [], x :: u, v, rfl, rfl, row (by omega), hr⟩
theorem PP.line (he : en ∈ ENDS) (hp : Blank pad) (h : PP en pad r 2 false u v) : PP en pad r st gap (92 :: (en ++ (pad ++ u))) v := by
  refine PP.solid hp (by decide) (by decide) (by decide) (.inr (.inr (by decide))) ?_
  have hd := head_pad hp h.app
  refine h.pt.elim fun y q => q.elim fun t q => q.elim fun z q => q.elim fun v1 q => ?_
  rw [← List.append_assoc pad, q.1, List.append_assoc y] at hd
  rw [q.1, q.2.1]
  exact q.2.2.2.line (brk_en he hd) q.2.2.1
theorem row_more {ws y t x : List Nat} (he : en ∈ ENDS) (hws : Blank ws) (hd : en = [13] → (y ++ x).head? ≠ some 10) (h : RowC y t x) : RowC (ws ++ (en ++ y)) (10 :: t) x := by
  have hb := brk_en he hd
  refine RowC.more (l := [10]) hws hb ?_ h
  exact (head_bb hws hb).elim fun c q => q.elim fun u q => ok_bb q.1 q.2
theorem row_more8 {ws y t x : List Nat} {c : Nat} (hc : c ∈ [8232, 8233]) (hws : Blank ws) (h : RowC y t x) : RowC (ws ++ (c :: y)) (c :: t) x := by
  have hb : Brk [c] [c] (y ++ x) := .wide hc
  refine RowC.more (l := [c]) (b := [c]) hws hb ?_ h
  exact (head_bb hws hb).elim fun c q => q.elim fun u q => ok_bb q.1 q.2
end
end Mine
end
section
open PySem PySem.W PyProof.Rows
set_option Elab.async false
set_option linter.unusedVariables false
set_option linter.unusedSectionVars false
set_option maxRecDepth 100000
namespace Mine
noncomputable abbrev Way := List Nat × Nat × Bool
noncomputable def wayV (w : Way) : V := .tup [.str ⟨w.1.toArray⟩, .int (w.2.1 : Int), .bool w.2.2]
noncomputable abbrev AllP (l : List Nat) : Prop := ∀ y ∈ l, Prt y
theorem AllP.app {a b : List Nat} (ha : AllP a) (hb : AllP b) : AllP (a ++ b) := fun y hy => (List.mem_append.mp hy).elim (ha y) (hb y)
theorem AllP.cons {a : Nat} {b : List Nat} (ha : Prt a) (hb : AllP b) : AllP (a :: b) := fun y hy => (List.mem_cons.mp hy).elim (fun e => e ▸ ha) (hb y)
theorem AllP.nil : AllP [] := fun _ h => nomatch h
theorem prt_32 : Prt 32 := .inr (.inl (by decide))
theorem prt_9 : Prt 9 := .inl (by decide)
theorem prt_bl {l : List Nat} (h : Blank l) : AllP l := fun y hy => by
  have q : y = 32 ∨ y = 9 := by simpa using h y hy
  exact q.elim (fun e => e ▸ prt_32) fun e => e ▸ prt_9
theorem prt_en {en : List Nat} (h : en ∈ ENDS) : AllP en ∧ en.length ≤ 2 := by
  have q : ∀ y ∈ [10, 13, 133], Prt y := fun y hy => .inl ((by decide : ∀ y ∈ [10, 13, 133], y ∈ [9, 10, 13, 133]) y hy)
  exact en_cases h (Q := fun en => AllP en ∧ en.length ≤ 2) ⟨fun y hy => q y (by revert y; decide), by decide⟩ ⟨fun y hy => q y (by revert y; decide), by decide⟩ ⟨fun y hy => q y (by revert y; decide), by decide⟩ ⟨fun y hy => q y (by revert y; decide), by decide⟩
theorem len_app {a b : List Nat} {m n : Nat} (ha : a.length ≤ m) (hb : b.length ≤ n) : (a ++ b).length ≤ m + n := by rw [List.length_append]; exact Nat.add_le_add ha hb
structure Env3 (en pad lead : List Nat) : Prop where
  he : en ∈ ENDS
  hp : Blank pad
  hl : Blank lead
  lp : pad.length ≤ 3
  ll : lead.length ≤ 3
noncomputable abbrev StOK (st : Nat) (gap : Bool) : Prop := st ≤ 2 ∧ (st ≠ 0 → gap = false)
structure Says (en pad : List Nat) (c st : Nat) (gap : Bool) (w : Way) : Prop where
  prt : AllP w.1
  len : w.1.length ≤ 20
  ok : StOK w.2.1 w.2.2
  back : ∀ r u v, PP en pad r w.2.1 w.2.2 u v → PP en pad r st gap (w.1 ++ u) (c :: v)
section
variable {en pad lead : List Nat} {c st : Nat} {gap : Bool}
theorem ok0 (g : Bool) : StOK 0 g := ⟨by decide, fun h => absurd rfl h⟩
theorem ok1 : StOK 1 false := ⟨by decide, fun _ => rfl⟩
theorem ok2 : StOK 2 false := ⟨by decide, fun _ => rfl⟩
theorem good1 (E : Env3 en pad lead) (hc : c ∈ [32, 9]) : Says en pad c 0 gap ([c], 0, true) := by
  refine ⟨prt_bl fun y hy => by rw [List.mem_singleton.mp hy]; exact hc, by show 1 ≤ 20; decide, ok0 _, fun r u v h => ⟨head_bl (blank10 hc), ?_⟩⟩
  cases gap with
  | false => exact Txt2.mk (x1 := []) (t1 := []) (nsr0 rfl (.inl hc)) (h.pt [c] (fun e => nomatch e) fun y hy => by rw [List.mem_singleton.mp hy]; exact hc)
  | true =>
    intro ws _ hws
    have q := h.pt (ws ++ [c]) (fun e => nomatch (List.append_eq_nil_iff.mp e).2) fun y hy => (List.mem_append.mp hy).elim (hws y) fun hy => by rw [List.mem_singleton.mp hy]; exact hc
    rw [List.append_assoc, List.append_assoc] at q
    exact q
theorem good1b (E : Env3 en pad lead) (hc : c ∈ [8232, 8233]) (hs : st = 2 ∨ (st = 0 ∧ gap = false)) : Says en pad c st gap ((lead ++ [c]) ++ pad, 2, false) := by
  have q10 : c ≠ 10 := fun e => absurd (e ▸ hc) (by decide)
  have hb : ∀ x, Brk [c] [c] x := fun x => .wide hc
  refine ⟨((prt_bl E.hl).app (AllP.cons (.inr (.inr (.inl ((by decide : ∀ y ∈ [8232, 8233], 160 ≤ y ∧ y ≤ 55295) c hc)))) .nil)).app (prt_bl E.hp), Nat.le_trans (len_app (len_app E.ll (Nat.le_refl 1)) E.lp) (by decide), ok2, fun r u v h => ?_⟩
  refine h.pt.elim fun y q => q.elim fun t q => q.elim fun z q => q.elim fun v1 q => ?_
  have e : ((lead ++ [c]) ++ pad) ++ u = (lead ++ ([c] ++ y)) ++ z := by rw [List.append_assoc, q.1, List.append_assoc, List.append_assoc, List.append_assoc]
  refine ⟨by rw [e, List.append_assoc]; exact head_pad E.hl (head_bl q10), ?_⟩
  rw [e, q.2.1]
  refine hs.elim (fun hs => ?_) fun hs => ?_
  · subst hs
    exact ⟨(pad ++ lead) ++ (c :: y), c :: t, z, v1, by show pad ++ ((lead ++ (c :: y)) ++ z) = ((pad ++ lead) ++ (c :: y)) ++ z; simp only [List.append_assoc], rfl, row_more8 hc (fun y hy => (List.mem_append.mp hy).elim (E.hp y) (E.hl y)) q.2.2.1, q.2.2.2⟩
  · have e1 := hs.1
    have e2 := hs.2
    subst e1 e2
    have f := q.2.2.2.fold (ws := lead) E.hl (hb _) q.2.2.1
    rw [show folded [c] t = c :: t from if_neg (fun e => q10 (List.cons.inj e).1)] at f
    exact f
noncomputable abbrev Own (c : Nat) : Prop := (32 < c ∧ c < 127) ∨ (160 ≤ c ∧ c < 55296) ∨ (57344 ≤ c ∧ c < 65534) ∨ 65536 ≤ c
theorem own_prt (h : Own c) (hc : c < 1114112) : Prt c := h.elim (fun h => .inr (.inl ⟨Nat.le_of_lt h.1, Nat.le_of_lt_succ h.2⟩)) fun h => h.elim (fun h => .inr (.inr (.inl ⟨h.1, Nat.le_of_lt_succ h.2⟩))) fun h => h.elim (fun h => .inr (.inr (.inr (.inl ⟨h.1, Nat.le_of_lt_succ h.2⟩)))) fun h => .inr (.inr (.inr (.inr ⟨h, Nat.le_of_lt_succ hc⟩)))
theorem own_ne (h : Own c) {k : Nat} (hk : ¬ Own k) : c ≠ k := fun e => hk (e ▸ h)
theorem own_out (h : Own c) (h8 : c ∉ [8232, 8233]) {L : List Nat} (hL : ∀ y ∈ L, ¬ Own y ∨ y ∈ [8232, 8233]) : c ∉ L := fun q => (hL c q).elim (fun w => w h) h8
theorem good1c (E : Env3 en pad lead) (hc : c < 1114112) (ho : Own c) (h8 : c ∉ [8232, 8233]) (h34 : c ≠ 34) (h92 : c ≠ 92) (hs : st = 0 ∨ pad ≠ [] ∨ (c ≠ 45 ∧ c ≠ 46)) : Says en pad c st gap ([c], 0, false) := by
  refine ⟨AllP.cons (own_prt ho hc) .nil, by show 1 ≤ 20; decide, ok0 _, fun r u v h => ?_⟩
  refine PP.solid E.hp (own_out ho h8 (by decide)) (own_out ho h8 (by decide)) (own_ne ho (by decide)) hs ?_
  by_cases q : c = 39
  · subst q; exact Txt2.apos h.pt
  · refine Txt2.plain h.pt fun m => ?_
    have m : c = 39 ∨ c = 34 ∨ c = 92 ∨ c ∈ [0, 32, 9, 13, 10, 133, 8232, 8233] := by
      rcases List.mem_cons.mp m with m | m
      · exact .inl m
      · rcases List.mem_cons.mp m with m | m
        · exact .inr (.inl m)
        · exact (List.mem_cons.mp m).elim (fun m => .inr (.inr (.inl m))) fun m => .inr (.inr (.inr m))
    exact m.elim q fun m => m.elim h34 fun m => m.elim h92 (own_out ho h8 (by decide))
theorem good2 (E : Env3 en pad lead) : Says en pad 32 0 false ((lead ++ en) ++ pad, 1, false) := by
  have pe := prt_en E.he
  refine ⟨((prt_bl E.hl).app pe.1).app (prt_bl E.hp), Nat.le_trans (len_app (len_app E.ll pe.2) E.lp) (by decide), ok1, fun r u v h => ?_⟩
  have f := h.pt.2.fold (ws := lead) E.hl (brk_en E.he (head_pad E.hp h.app)) h.pt.1
  have e : ((lead ++ en) ++ pad) ++ u = (lead ++ (en ++ pad)) ++ u := by rw [List.append_assoc lead]
  show PP en pad r 0 false (((lead ++ en) ++ pad) ++ u) (32 :: v)
  rw [e]
  exact ⟨by rw [List.append_assoc, List.append_assoc]; exact head_pad E.hl (head_en E.he _), f⟩
theorem good3 (E : Env3 en pad lead) : Says en pad 10 0 false ((((lead ++ en) ++ pad) ++ en) ++ pad, 2, false) := by
  have pe := prt_en E.he
  refine ⟨((((prt_bl E.hl).app pe.1).app (prt_bl E.hp)).app pe.1).app (prt_bl E.hp), Nat.le_trans (len_app (len_app (len_app (len_app E.ll pe.2) E.lp) pe.2) E.lp) (by decide), ok2, fun r u v h => ?_⟩
  have hd := head_pad E.hp h.app
  refine h.pt.elim fun y q => q.elim fun t q => q.elim fun z q => q.elim fun v1 q => ?_
  rw [← List.append_assoc, q.1, List.append_assoc] at hd
  have row := row_more E.he E.hp hd q.2.2.1
  have f := q.2.2.2.fold (ws := lead) E.hl (brk_en E.he (by rw [List.append_assoc]; exact head_pad E.hp (by rw [List.append_assoc]; exact head_en E.he _))) row
  have e : ((((lead ++ en) ++ pad) ++ en) ++ pad) ++ u = (lead ++ (en ++ (pad ++ (en ++ y)))) ++ z := by
    rw [List.append_assoc, q.1]
    simp only [List.append_assoc]
  show PP en pad r 0 false (((((lead ++ en) ++ pad) ++ en) ++ pad) ++ u) (10 :: v)
  rw [e, q.2.1]
  exact ⟨by rw [List.append_assoc, List.append_assoc]; exact head_pad E.hl (head_en E.he _), f⟩
theorem good4 (E : Env3 en pad lead) : Says en pad 10 2 gap ((lead ++ en) ++ pad, 2, false) := by
  have pe := prt_en E.he
  refine ⟨((prt_bl E.hl).app pe.1).app (prt_bl E.hp), Nat.le_trans (len_app (len_app E.ll pe.2) E.lp) (by decide), ok2, fun r u v h => ?_⟩
  have hd := head_pad E.hp h.app
  refine h.pt.elim fun y q => q.elim fun t q => q.elim fun z q => q.elim fun v1 q => ?_
  rw [← List.append_assoc, q.1, List.append_assoc] at hd
  have row := row_more (ws := pad ++ lead) E.he (fun y hy => (List.mem_append.mp hy).elim (E.hp y) (E.hl y)) hd q.2.2.1
  have e : ((lead ++ en) ++ pad) ++ u = (lead ++ (en ++ y)) ++ z := by
    rw [List.append_assoc, q.1]
    simp only [List.append_assoc]
  show PP en pad r 2 gap (((lead ++ en) ++ pad) ++ u) (10 :: v)
  rw [e, q.2.1]
  exact ⟨by rw [List.append_assoc, List.append_assoc]; exact head_pad E.hl (head_en E.he _), (pad ++ lead) ++ (en ++ y), 10 :: t, z, v1, by simp only [List.append_assoc], rfl, row, q.2.2.2⟩
theorem solid92 {r u v : List Nat} (E : Env3 en pad lead) (h : Txt2 (92 :: u) v r) : PP en pad r st gap (92 :: u) v := PP.solid E.hp (by decide) (by decide) (by decide) (.inr (.inr (by decide))) h
theorem prt_92 : Prt 92 := .inr (.inl (by decide))
theorem good5 {e : Nat} (E : Env3 en pad lead) (he : esc e = some c) (hp : Prt e) : Says en pad c st gap ([92, e], 0, false) :=
  ⟨.cons prt_92 (.cons hp .nil), by show 2 ≤ 20; decide, ok0 _, fun r u v h => solid92 E (Txt2.esc h.pt he)⟩
theorem prt_hex {l : List Nat} (h : ∀ y ∈ l, y ∈ HEX) : AllP l := fun y hy => .inr (.inl ((by decide : ∀ y ∈ HEX, 32 ≤ y ∧ y ≤ 126) y (h y hy)))
theorem good7 {e n : Nat} {l : List Nat} (E : Env3 en pad lead) (he : codeN e = some n) (hp : Prt e) (hn : l.length = n) (h8 : n ≤ 8) (hh : ∀ y ∈ l, y ∈ HEX) (hv : hexL l 0 = some c) (hc : c < 1114112) : Says en pad c st gap ([92, e] ++ l, 0, false) :=
  ⟨.cons prt_92 (.cons hp (prt_hex hh)), Nat.le_trans (len_app (Nat.le_refl 2) (by rw [hn]; exact h8)) (by decide), ok0 _, fun r u v h => solid92 E (Txt2.code h.pt he hn hh hv hc)⟩
end
end Mine
end
section
open PySem PySem.W PyProof.Rows
set_option Elab.async false
set_option linter.unusedVariables false
set_option linter.unusedSectionVars false
set_option maxRecDepth 100000
namespace Mine
noncomputable def CODES : List Nat := [97, 32, 10, 34, 92, 98, 9, 39, 0, 8232, 45, 32, 133, 120, 7, 10, 233, 8, 160, 46, 27, 47, 8233, 35, 11, 58, 12, 13, 128512, 65279, 127, 55295, 57344, 65534, 1114111, 1, 85, 110]
noncomputable def SHORT : List (Nat × Nat) := [(0, 48), (7, 97), (8, 98), (9, 116), (10, 110), (11, 118), (12, 102), (13, 114), (27, 101), (32, 32), (34, 34), (47, 47), (92, 92), (133, 78), (160, 95), (8232, 76), (8233, 80)]
noncomputable def intN (n : Nat) : V := .int (n : Int)
theorem fmod_rng (n b : Int) (hb : 0 < b) : 0 ≤ n.fmod b ∧ n.fmod b < b := ⟨Int.fmod_nonneg_of_pos _ hb, Int.fmod_lt_of_pos _ hb⟩
theorem fmod_nat (n : Int) (b : Nat) (hb : 0 < b) : ∃ k : Nat, k < b ∧ n.fmod (b : Int) = (k : Int) :=
  ⟨(n.fmod b).toNat, by have := fmod_rng n b (by omega); omega, (Int.toNat_of_nonneg (fmod_rng n b (by omega)).1).symm⟩
section
variable {ns : List Int} {d : Nat} {a0 : O} {hs : List O}
theorem codes39 : CallS (S ns) d 39 [] [] (a0 :: hs) (.obj (hs.length + 1)) (a0 :: (hs ++ [O.list (CODES.map intN)])) := by
  exact Mine.CallS.by [] trivial (fun k e => by kernel_rfl)
theorem ends41 : CallS (S ns) d 41 [] [] (a0 :: hs) (.obj (hs.length + 1)) (a0 :: (hs ++ [O.list (ENDS.map strV)])) := by
  exact Mine.CallS.by [] trivial (fun k e => by kernel_rfl)
theorem pads42 : CallS (S ns) d 42 [] [] (a0 :: hs) (.obj (hs.length + 1)) (a0 :: (hs ++ [O.list (PADS.map strV)])) := by
  exact Mine.CallS.by [] trivial (fun k e => by kernel_rfl)
theorem leads43 : CallS (S ns) d 43 [] [] (a0 :: hs) (.obj (hs.length + 1)) (a0 :: (hs ++ [O.list (LEADS.map strV)])) := by
  exact Mine.CallS.by [] trivial (fun k e => by kernel_rfl)
theorem short40 : CallS (S ns) d 40 [] [] (a0 :: hs) (.obj (hs.length + 1)) (a0 :: (hs ++ [O.dict (SHORT.map fun p => (intN p.1, ch1 p.2))])) := by
  exact Mine.CallS.by [] trivial (fun k e => by kernel_rfl)
theorem code44 (n : Int) : ∃ c hs', c < 1114112 ∧ Ext hs hs' ∧ CallS (S ns) (d + 1) 44 [.int n] [] (a0 :: hs) (.int (c : Nat)) (a0 :: hs') := by
  refine (fmod_nat n 40 (by decide)).elim fun m q => ?_
  have e : n.fmod 40 = (m : Int) := q.2
  by_cases q1 : decide (n.fmod 40 < 38) = true
  · have hm : m < CODES.length := by
      have h := of_decide_eq_true q1
      rw [e] at h
      exact Int.ofNat_lt.mp h
    have g := List.getElem?_eq_getElem hm
    generalize CODES[m] = c at g
    have gx : (CODES.map intN)[m]? = some (.int (c : Int)) := by rw [List.getElem?_map, g]; rfl
    have ix : idx (n.fmod 40) 38 = some m := by rw [e]; exact idx_ok hm (by decide)
    refine ⟨c, _, (by decide : ∀ y ∈ CODES, y < 1114112) c (List.mem_of_getElem? g), Ext.app hs (o := O.list (CODES.map intN)), ?_⟩
    exact Mine.CallS.by [.a 1, .t, .c (V.obj (List.length hs + 1)) (a0 :: (hs ++ [O.list (List.map intN CODES)])), .a 1, .v .ob (O.list [V.int (↑97 : Int), V.int (↑32 : Int), V.int (↑10 : Int), V.int (↑34 : Int), V.int (↑92 : Int), V.int (↑98 : Int), V.int (↑9 : Int), V.int (↑39 : Int), V.int (↑0 : Int), V.int (↑8232 : Int), V.int (↑45 : Int), V.int (↑32 : Int), V.int (↑133 : Int), V.int (↑120 : Int), V.int (↑7 : Int), V.int (↑10 : Int), V.int (↑233 : Int), V.int (↑8 : Int), V.int (↑160 : Int), V.int (↑46 : Int), V.int (↑27 : Int), V.int (↑47 : Int), V.int (↑8233 : Int), V.int (↑35 : Int), V.int (↑11 : Int), V.int (↑58 : Int), V.int (↑12 : Int), V.int (↑13 : Int), V.int (↑128512 : Int), V.int (↑65279 : Int), V.int (↑127 : Int), V.int (↑55295 : Int), V.int (↑57344 : Int), V.int (↑65534 : Int), V.int (↑1114111 : Int), V.int (↑1 : Int), V.int (↑85 : Int), V.int (↑110 : Int)]), .v .nat (m), .v .val (V.int (↑c : Int))] (an q1 (an (codes39 (ns := ns) (d := d) (a0 := a0) (hs := hs)) (an (ga (l := hs) (o := O.list [V.int (↑97 : Int), V.int (↑32 : Int), V.int (↑10 : Int), V.int (↑34 : Int), V.int (↑92 : Int), V.int (↑98 : Int), V.int (↑9 : Int), V.int (↑39 : Int), V.int (↑0 : Int), V.int (↑8232 : Int), V.int (↑45 : Int), V.int (↑32 : Int), V.int (↑133 : Int), V.int (↑120 : Int), V.int (↑7 : Int), V.int (↑10 : Int), V.int (↑233 : Int), V.int (↑8 : Int), V.int (↑160 : Int), V.int (↑46 : Int), V.int (↑27 : Int), V.int (↑47 : Int), V.int (↑8233 : Int), V.int (↑35 : Int), V.int (↑11 : Int), V.int (↑58 : Int), V.int (↑12 : Int), V.int (↑13 : Int), V.int (↑128512 : Int), V.int (↑65279 : Int), V.int (↑127 : Int), V.int (↑55295 : Int), V.int (↑57344 : Int), V.int (↑65534 : Int), V.int (↑1114111 : Int), V.int (↑1 : Int), V.int (↑85 : Int), V.int (↑110 : Int)]) (r := [])) (an ix (an gx trivial))))) (fun k e => by kernel_rfl)
  · have q1 := eq_false_of_ne_true q1
    refine (fmod_nat (n.fdiv 40) 1114112 (by decide)).elim fun k w => ?_
    have e2 : (n.fdiv 40).fmod 1114112 = (k : Int) := w.2
    by_cases q2 : decide (55296 ≤ (n.fdiv 40).fmod 1114112) = true
    · by_cases q3 : decide ((n.fdiv 40).fmod 1114112 ≤ 57343) = true
      · refine ⟨k - 55296, hs, Nat.lt_of_le_of_lt (Nat.sub_le _ _) w.1, Ext.refl hs, ?_⟩
        suffices h : CallS (S ns) (d + 1) 44 [.int n] [] (a0 :: hs) (.int ((n.fdiv 40).fmod 1114112 - 55296)) (a0 :: hs) by
          rw [e2] at h
          rw [Int.ofNat_sub (Int.ofNat_le.mp (by have := of_decide_eq_true q2; rwa [e2] at this))]
          exact h
        exact Mine.CallS.by [.a 1, .f, .a 3, .t, .t] (an q1 (an q2 (an q3 trivial))) (fun k e => by kernel_rfl)
      · have q3 := eq_false_of_ne_true q3
        refine ⟨k, hs, w.1, Ext.refl hs, ?_⟩
        rw [← e2]
        exact Mine.CallS.by [.a 1, .f, .a 3, .t, .f] (an q1 (an q2 (an q3 trivial))) (fun k e => by kernel_rfl)
    · have q2 := eq_false_of_ne_true q2
      refine ⟨k, hs, w.1, Ext.refl hs, ?_⟩
      rw [← e2]
      exact Mine.CallS.by [.a 1, .f, .a 3, .f, .a 1] (an q1 (an q2 trivial)) (fun k e => by kernel_rfl)
end
end Mine
end
section
open PySem PySem.W PyProof.Rows
set_option Elab.async false
set_option linter.unusedVariables false
set_option linter.unusedSectionVars false
set_option maxRecDepth 100000
namespace Mine
noncomputable def figL (big : Bool) : List Nat := if big then [48, 49, 50, 51, 52, 53, 54, 55, 56, 57, 65, 66, 67, 68, 69, 70] else [48, 49, 50, 51, 52, 53, 54, 55, 56, 57, 97, 98, 99, 100, 101, 102]
noncomputable def figD (L : List Nat) (c m : Nat) : Nat := L[c / 16 ^ m % 16]?.getD 0
noncomputable def figsN (L : List Nat) (c : Nat) : Nat → List Nat
  | 0 => []
  | m + 1 => figD L c m :: figsN L c m
noncomputable def cE : Expr → Expr
  | .ListComp e _ _ _ => e
  | e => e
noncomputable def cT : Expr → Expr
  | .ListComp _ l _ _ => match l with
    | [] => .Constant .none 0 default
    | g :: _ => g.target
  | e => e
noncomputable def rC : Stmt → Expr
  | .Return o _ => match o with
    | none => .Constant .none 0 default
    | some e => match e with
      | .Call _ l _ _ => l.headD (.Constant .none 0 default)
      | e => e
  | _ => .Constant .none 0 default
noncomputable def C45 : Expr := rC (sAt (bodyN 45) 1)
noncomputable def hF (hs : List O) (c z : Nat) (L : List Nat) : List O := ((hs ++ [O.cell (intN c)]) ++ [O.cell (intN z)] ++ [O.cell .undef]).set ((hs ++ [O.cell (intN c)]) ++ [O.cell (intN z)]).length (.cell (.str ⟨L.toArray⟩))
noncomputable abbrev cl45 (hs : List O) (c z : Nat) (K : V) : List (Str × V) := [(".0", .undef), ("k", K), ("code", .cref (hs.length + 1)), ("figures", .cref (((hs ++ [O.cell (intN c)]) ++ [O.cell (intN z)]).length + 1)), ("size", .cref ((hs ++ [O.cell (intN c)]).length + 1))]
section
variable {ns : List Int} {d : Nat} {a0 : O} {hs : List O}
theorem hF1 {c z : Nat} {L : List Nat} : (hF hs c z L)[hs.length]? = some (.cell (intN c)) := by
  unfold hF
  rw [app_set, List.append_assoc, List.append_assoc]; exact ga
theorem hF2 {c z : Nat} {L : List Nat} : (hF hs c z L)[(hs ++ [O.cell (intN c)]).length]? = some (.cell (intN z)) := by
  unfold hF
  rw [app_set, List.append_assoc (hs ++ _)]; exact ga
theorem hF3 {c z : Nat} {L : List Nat} : (hF hs c z L)[((hs ++ [O.cell (intN c)]) ++ [O.cell (intN z)]).length]? = some (.cell (.str ⟨L.toArray⟩)) := by
  unfold hF
  rw [app_set]; exact ga
theorem pow_ok {z k m : Nat} (hz : z ≤ 8) (hk : k + (m + 1) = z) : ((z : Int) - 1 - (k : Int)).toNat = m ∧ decide ((16 : Int) = 16 ∧ 0 ≤ (z : Int) - 1 - (k : Int) ∧ (z : Int) - 1 - (k : Int) ≤ 8) = true ∧ decide ((16 : Int) ^ ((z : Int) - 1 - (k : Int)).toNat ≠ 0 ∧ ((16 : Int) ^ ((z : Int) - 1 - (k : Int)).toNat).natAbs < 1073741824) = true := by
  have e : ((z : Int) - 1 - (k : Int)).toNat = m := by omega
  refine ⟨e, decide_eq_true ⟨rfl, by omega, by omega⟩, ?_⟩
  rw [e]
  have h : ∀ m : Fin 8, decide ((16 : Int) ^ m.val ≠ 0 ∧ ((16 : Int) ^ m.val).natAbs < 1073741824) = true := by decide
  exact h ⟨m, by omega⟩
theorem fig_nat (n e : Nat) : (((n : Int).fdiv (16 ^ e)).fmod 16) = ((n / 16 ^ e % 16 : Nat) : Int) := by
  have h1 : ((16 : Int) ^ e) = ((16 ^ e : Nat) : Int) := by push_cast; rfl
  rw [h1, Int.fdiv_eq_ediv_of_nonneg _ (Int.natCast_nonneg _), ← Int.natCast_ediv, Int.fmod_eq_emod_of_nonneg _ (by decide)]
  rfl
theorem loop45 {c z : Nat} {L : List Nat} (hL : L.length = 16) (hz : z ≤ 8) : ∀ (m k : Nat) {ys : List Nat} {K : V}, okV K = true → k + m = z → ys.length = k →
    ∃ K', CmpS (S ns) d (cE C45) (cT C45) [] (.rng 0 (z : Int)) k ((hF hs c z L).length + 1) ⟨cl45 hs c z K, a0 :: (hF hs c z L ++ [O.list (ys.map ch1)])⟩ ⟨cl45 hs c z K', a0 :: (hF hs c z L ++ [O.list ((ys ++ figsN L c m).map ch1)])⟩ := by
  intro m
  induction m with
  | zero =>
    intro k ys K hK hk hy
    have hk : k = z := hk
    subst hk
    refine ⟨K, ?_⟩
    rw [show ys ++ figsN L c 0 = ys from List.append_nil ys]
    have q := rng_f (Nat.le_refl k)
    exact Mine.CmpS.by [.v .oval (none)] (an q trivial) (fun k e => by kernel_rfl)
  | succ m ih =>
    intro k ys K hK hk hy
    refine el_1_1 (ih (k + 1) (ys := ys ++ [figD L c m]) (K := .int (k : Int)) rfl (by omega) (by rw [List.length_append]; exact congrArg (· + 1) hy)) fun K' e => ?_
    rw [List.append_assoc, ← app_set (hF hs c z L) (O.list (ys.map ch1)) (O.list ((ys ++ [figD L c m]).map ch1)), List.map_append (f := ch1) (l₁ := ys) (l₂ := [figD L c m])] at e
    refine ⟨K', ?_⟩
    have q := rng_t (j := k) (n := z) (by omega)
    have po := pow_ok hz hk
    have p0 := po.2.1
    have p1 := po.2.2
    have hm : c / 16 ^ m % 16 < L.length := by rw [hL]; exact Nat.mod_lt _ (by decide)
    have ix : idx ((((c : Int)).fdiv (16 ^ ((z : Int) - 1 - (k : Int)).toNat)).fmod 16) L.length = some (c / 16 ^ m % 16) := by
      rw [po.1, fig_nat]; exact idx_ok hm (by rw [hL]; decide)
    have gx : L.toArray[c / 16 ^ m % 16]? = some (figD L c m) := toA (by unfold figD; rw [List.getElem?_eq_getElem hm]; rfl)
    have g1 : (hF hs c z L)[hs.length]? = some (.cell (intN c)) := hF1
    have g2 : (hF hs c z L)[(hs ++ [O.cell (intN c)]).length]? = some (.cell (intN z)) := hF2
    have g3 : (hF hs c z L)[((hs ++ [O.cell (intN c)]) ++ [O.cell (intN z)]).length]? = some (.cell (.str ⟨L.toArray⟩)) := hF3
    have hl : okL (ys.map ch1).length = true := okL_t (by rw [List.length_map]; exact Nat.le_trans (by omega : ys.length ≤ 8) (by decide))
    refine Mine.CmpS.go (s1 := St.mk [(Str.ofString ".0", V.undef), (Str.ofString "k", V.int (↑k : Int)), (Str.ofString "code", V.cref (List.length hs + 1)), (Str.ofString "figures", V.cref (List.length (hs ++ [O.cell (intN c)] ++ [O.cell (intN z)]) + 1)), (Str.ofString "size", V.cref (List.length (hs ++ [O.cell (intN c)]) + 1))] (a0 :: List.set (hF hs c z L ++ [O.list (List.map ch1 ys)]) (List.length (hF hs c z L)) (O.list (List.map ch1 ys ++ [ch1 (figD L c m)])))) [.v .oval (some (V.int (↑k : Int))), .t, .a 1, .v .ob (O.cell (V.str (Str.mk (List.toArray L)))), .v .ob (O.cell (intN c)), .v .ob (O.cell (intN z)), .t, .t, .a 1, .v .nat (c / 16 ^ m % 16), .v .nat (figD L c m), .v .ob (O.list (List.map ch1 ys)), .t] ?_ (an q (an (pl_t (u := K) (v := V.int (↑k : Int)) (h := hK) (h2 := (by rfl))) (an (gl (r := [O.list (List.map ch1 ys)]) g3) (an (gl (r := [O.list (List.map ch1 ys)]) g1) (an (gl (r := [O.list (List.map ch1 ys)]) g2) (an p0 (an p1 (an ix (an gx (an (ga (l := hF hs c z L) (o := O.list (List.map ch1 ys)) (r := [])) (an hl trivial))))))))))) (fun k e => by kernel_rfl)
    exact e
theorem flat1 (l : List Nat) : (l.map fun y => [y]).flatten = l := by
  induction l with
  | nil => rfl
  | cons a l ih => rw [List.map_cons, List.flatten_cons, ih]; rfl
theorem txts_ch1 {l : List Nat} : txts (l.map ch1) = some (l.map fun y => (⟨#[y]⟩ : Str)) := by
  have := txts_map (ys := l.map fun y => [y])
  rw [List.map_map, List.map_map] at this
  exact this
theorem join_ch1 {l : List Nat} (h : l.length ≤ lim) : Str.join (Str.ofString "") (l.map fun y => (⟨#[y]⟩ : Str)) = ⟨l.toArray⟩ ∧ okL (((l.map fun y => (⟨#[y]⟩ : Str)).map fun x => x.cps.size).sum + (Str.ofString "").cps.size * (l.map fun y => (⟨#[y]⟩ : Str)).length) = true := by
  have a := join_flat (l.map fun y => [y])
  have b := join_ok (ys := l.map fun y => [y]) (by rw [flat1]; exact h)
  have m : ((l.map fun y => [y]).map fun y => (⟨y.toArray⟩ : Str)) = l.map fun y => ⟨#[y]⟩ := by rw [List.map_map]; rfl
  rw [flat1, m] at a
  rw [m] at b
  exact ⟨a, b⟩
theorem figs_len (L : List Nat) (c : Nat) : ∀ m, (figsN L c m).length = m
  | 0 => rfl
  | m + 1 => congrArg (· + 1) (figs_len L c m)
theorem hF_ext (c z : Nat) (L : List Nat) : Ext hs (hF hs c z L) := by
  unfold hF
  exact (((Ext.app hs).trans (Ext.app _)).trans (Ext.app _)).up (by rw [List.length_append, List.length_append, Nat.add_assoc]; exact Nat.le_add_right ..)
theorem figs45 {c z : Nat} {big : Bool} (hz : z ≤ 8) : ∃ hs', Ext hs hs' ∧ CallS (S ns) d 45 [.int (c : Int), .int (z : Int), .bool big] [] (a0 :: hs) (.str ⟨(figsN (figL big) c z).toArray⟩) (a0 :: hs') := by
  refine el_1_1 (loop45 (ns := ns) (d := d) (a0 := a0) (hs := hs) (c := c) (z := z) (L := figL big) (by cases big <;> rfl) hz z 0 (ys := []) (K := .undef) rfl (Nat.zero_add z) rfl) fun K' e => ?_
  have zok : okL ((z : Int)).natAbs = true := okL_t (Nat.le_trans hz (by decide))
  have jt := txts_ch1 (l := figsN (figL big) c z)
  have jj := join_ch1 (l := figsN (figL big) c z) (by rw [figs_len]; exact Nat.le_trans hz (by decide))
  have jo := jj.2
  rw [← jj.1]
  refine ⟨hF hs c z (figL big) ++ [O.list ((figsN (figL big) c z).map ch1)], (hF_ext c z _).trans (Ext.app _), ?_⟩
  cases big with
  | false => exact Mine.CallS.by [.a 2, .v .ob (O.cell V.undef), .v .ob (O.cell (V.int (↑z : Int))), .t, .t, .m (St.mk (cl45 hs c z K') (a0 :: (hF hs c z (figL false) ++ [O.list (List.map ch1 (figsN (figL false) c z))]))), .v .ob (O.list (List.map ch1 (figsN (figL false) c z))), .v .strs (List.map (fun y => Str.mk #[y]) (figsN (figL false) c z)), .t] (an (ga (l := hs ++ [O.cell (V.int (↑c : Int))] ++ [O.cell (V.int (↑z : Int))]) (o := O.cell V.undef) (r := [])) (an (gn (m := List.length (hs ++ [O.cell (V.int (↑c : Int))] ++ [O.cell (V.int (↑z : Int))])) (o' := O.cell (V.str (Str.ofString "0123456789abcdef"))) (by simp) (gl (r := [O.cell V.undef]) (ga (l := hs ++ [O.cell (V.int (↑c : Int))]) (o := O.cell (V.int (↑z : Int))) (r := [])))) (an zok (an zok (an e (an (ga (l := hF hs c z (figL false)) (o := O.list (List.map ch1 (figsN (figL false) c z))) (r := [])) (an jt (an jo trivial)))))))) (fun k e => by kernel_rfl)
  | true => exact Mine.CallS.by [.a 2, .v .ob (O.cell V.undef), .v .ob (O.cell (V.int (↑z : Int))), .t, .t, .m (St.mk (cl45 hs c z K') (a0 :: (hF hs c z (figL true) ++ [O.list (List.map ch1 (figsN (figL true) c z))]))), .v .ob (O.list (List.map ch1 (figsN (figL true) c z))), .v .strs (List.map (fun y => Str.mk #[y]) (figsN (figL true) c z)), .t] (an (ga (l := hs ++ [O.cell (V.int (↑c : Int))] ++ [O.cell (V.int (↑z : Int))]) (o := O.cell V.undef) (r := [])) (an (gn (m := List.length (hs ++ [O.cell (V.int (↑c : Int))] ++ [O.cell (V.int (↑z : Int))])) (o' := O.cell (V.str (Str.ofString "0123456789ABCDEF"))) (by simp) (gl (r := [O.cell V.undef]) (ga (l := hs ++ [O.cell (V.int (↑c : Int))]) (o := O.cell (V.int (↑z : Int))) (r := [])))) (an zok (an zok (an e (an (ga (l := hF hs c z (figL true)) (o := O.list (List.map ch1 (figsN (figL true) c z))) (r := [])) (an jt (an jo trivial)))))))) (fun k e => by kernel_rfl)
end
end Mine
end
section
open PySem PySem.W PyProof.Rows
set_option Elab.async false
set_option linter.unusedVariables false
set_option linter.unusedSectionVars false
set_option maxRecDepth 100000
namespace Mine
noncomputable def TrS (S : Stat) (m d : Nat) (t : Expr) (s : St) (b : Bool) (s' : St) : Prop := ∀ k e o, Yes S o (k b s') → Yes S o ((E S m).tr d t s k e)
noncomputable def ExsF (S : Stat) (m d : Nat) (ss : List Stmt) (s : St) (f : Fl) (s' : St) : Prop := ∀ k e o, Yes S o (k f s') → Yes S o (exs (E S m) d ss s k e)
section
variable {S : Stat} {m d : Nat} {t : Expr} {ss b el : List Stmt} {s s1 s' : St} {f : Fl} {q : Bool} {p : Pos}
theorem TrS.by (is : List Item) {p : Prop} (hp : p) (e : ∀ k e, pick S is ((E S m).tr d t s k e) = (p, k q s')) : TrS S m d t s q s' := fun k e' o y => pick_to hp (e k e') y
theorem ExsF.by (is : List Item) {p : Prop} (hp : p) (e : ∀ k e, pick S is (exs (E S m) d ss s k e) = (p, k f s')) : ExsF S m d ss s f s' := fun k e' o y => pick_to hp (e k e') y
theorem ExsF.nil : ExsF S m d [] s .next s := fun _ _ _ y => y
theorem ExsF.if_t (hT : TrS S m d t s true s1) (x : ExsF S m d b s1 f s') : ExsF S (m + 1) d [.If t b el p] s f s' := fun k e o y => by
  show Yes S o ((E S m).tr d t s (fun q s1 => ifM q (exs (E S m) d b) (exs (E S m) d el) s1 (fun f s2 => contF (.pure .next) f s2 k e) e) e)
  refine hT _ e o ((x (fun f s2 => contF (.pure .next) f s2 k e) e o ?_).imp fun n h => h)
  cases f <;> exact y
theorem ExsF.if_f (hT : TrS S m d t s false s1) (x : ExsF S m d el s1 f s') : ExsF S (m + 1) d [.If t b el p] s f s' := fun k e o y => by
  show Yes S o ((E S m).tr d t s (fun q s1 => ifM q (exs (E S m) d b) (exs (E S m) d el) s1 (fun f s2 => contF (.pure .next) f s2 k e) e) e)
  refine hT _ e o ((x (fun f s2 => contF (.pure .next) f s2 k e) e o ?_).imp fun n h => h)
  cases f <;> exact y
end
noncomputable abbrev loc46 (c st : Nat) (gap : Bool) (en pad lead : List Nat) (big : Bool) (w : Nat) (L Z : V) : List (Str × V) := [("code", .int (c : Int)), ("state", .int (st : Int)), ("gap", .bool gap), ("end", .str ⟨en.toArray⟩), ("pad", .str ⟨pad.toArray⟩), ("lead", .str ⟨lead.toArray⟩), ("big", .bool big), ("ways", .obj (w + 1)), ("letter", L), ("size", Z), ("chr", .bi "chr"), ("_law_SHORT", .fn 40), ("_law_figures", .fn 45)]
noncomputable def s46 (i : Nat) : List Stmt := [sAt (bodyN 46) i]
noncomputable def Adds (ns : List Int) (d : Nat) (a0 : O) (c st : Nat) (gap : Bool) (en pad lead : List Nat) (big : Bool) (ss : List Stmt) (w : Nat) (hs : List O) (δ0 : List Way) (n : Nat) : Prop :=
  ∃ δ hs', (∀ v ∈ δ, Says en pad c st gap v) ∧ δ.length ≤ n ∧ hs'[w]? = some (.list ((δ0 ++ δ).map wayV)) ∧ KeepC w hs hs' ∧ ExsS (S ns) d ss ⟨loc46 c st gap en pad lead big w .undef .undef, a0 :: hs⟩ .next ⟨loc46 c st gap en pad lead big w .undef .undef, a0 :: hs'⟩
section
variable {ns : List Int} {d : Nat} {a0 : O} {c st : Nat} {gap : Bool} {en pad lead : List Nat} {big : Bool} {ss : List Stmt} {w : Nat} {hs hs' : List O} {δ0 : List Way} {n : Nat}
theorem Adds.none (hw : hs[w]? = some (.list (δ0.map wayV))) (x : Ext hs hs') (e : ExsS (S ns) d ss ⟨loc46 c st gap en pad lead big w .undef .undef, a0 :: hs⟩ .next ⟨loc46 c st gap en pad lead big w .undef .undef, a0 :: hs'⟩) : Adds ns d a0 c st gap en pad lead big ss w hs δ0 n :=
  ⟨[], hs', (fun _ h => nomatch h), Nat.zero_le _, by rw [List.append_nil]; exact x.get hw, x.keep, e⟩
theorem Adds.one {v : Way} (hw : hs[w]? = some (.list (δ0.map wayV))) (hv : Says en pad c st gap v) (x : Ext hs hs') (e : ExsS (S ns) d ss ⟨loc46 c st gap en pad lead big w .undef .undef, a0 :: hs⟩ .next ⟨loc46 c st gap en pad lead big w .undef .undef, a0 :: hs'.set w (.list (δ0.map wayV ++ [wayV v]))⟩) : Adds ns d a0 c st gap en pad lead big ss w hs δ0 (n + 1) :=
  ⟨[v], _, (fun u h => List.mem_singleton.mp h ▸ hv), Nat.le_add_left _ _, by rw [List.map_append]; exact gs (x.get hw), x.keep.trans (KeepC.setc _), e⟩
theorem catS (a b : List Nat) : (⟨a.toArray⟩ : Str) ++ ⟨b.toArray⟩ = ⟨(a ++ b).toArray⟩ := by
  rw [str_eq]
  show (a.toArray ++ b.toArray).toList = _
  simp
theorem ok_nil {δ : List Way} (h : δ.length ≤ 20) : okL (δ.map wayV).length = true := okL_t (by rw [List.length_map]; exact Nat.le_trans h (by decide))
theorem in2_t {a b c : Nat} (h : c = a ∨ c = b) : (decide ((a : Int) = (c : Int)) || (decide ((b : Int) = (c : Int)) || false)) = true := by
  refine h.elim (fun h => ?_) fun h => ?_
  · rw [decide_eq_true (p := (a : Int) = (c : Int)) (congrArg Int.ofNat h.symm)]; rfl
  · rw [decide_eq_true (p := (b : Int) = (c : Int)) (congrArg Int.ofNat h.symm), Bool.true_or, Bool.or_true]
theorem in2_f {a b c : Nat} (h : c ≠ a) (h' : c ≠ b) : (decide ((a : Int) = (c : Int)) || (decide ((b : Int) = (c : Int)) || false)) = false := by
  rw [decide_eq_false (p := (a : Int) = (c : Int)) fun e => h (Int.ofNat.inj e).symm, decide_eq_false (p := (b : Int) = (c : Int)) fun e => h' (Int.ofNat.inj e).symm]; rfl
theorem lim9 {n : Nat} (h : n ≤ 99) : okL n = true := okL_t (Nat.le_trans h (by decide))
theorem catL (a b : List Nat) : ((⟨a.toArray⟩ : Str) ++ ⟨b.toArray⟩).cps.size = a.length + b.length := by rw [catS]; exact List.length_append
noncomputable def s1_ : Stmt := sAt (bodyN 46) 1
noncomputable def pS : Stmt → Pos
  | .If _ _ _ p => p
  | _ => default
noncomputable def s1o : Stmt := sAt (wE s1_) 0
noncomputable def s1oo : Stmt := sAt (wE s1o) 0
theorem emp_f {y : Nat} {l : List Nat} : decide ((⟨(y :: l).toArray⟩ : Str) = Str.ofString "") = false := decide_eq_false fun e => by rw [str_eq] at e; exact nomatch (show y :: l = [] from e)
theorem lt_t {a b : Nat} (h : a < b) : decide ((a : Int) < (b : Int)) = true := decide_eq_true (Int.ofNat_lt.mpr h)
theorem lt_f {a b : Nat} (h : b ≤ a) : decide ((a : Int) < (b : Int)) = false := decide_eq_false (Int.not_lt.mpr (Int.ofNat_le.mpr h))
theorem le_t {a b : Nat} (h : a ≤ b) : decide ((a : Int) ≤ (b : Int)) = true := decide_eq_true (Int.ofNat_le.mpr h)
theorem le_f {a b : Nat} (h : b < a) : decide ((a : Int) ≤ (b : Int)) = false := decide_eq_false (Int.not_le.mpr (Int.ofNat_lt.mpr h))
theorem own46 (s : St) (hs : s = ⟨loc46 c st gap en pad lead big w .undef .undef, a0 :: hs⟩) : (Own c → TrS (S ns) 37 d (wT s1oo) s true s) ∧ (¬ Own c → TrS (S ns) 37 d (wT s1oo) s false s) := by
  subst hs
  by_cases q1 : 32 < c
  · have p1 : decide ((32 : Int) < (c : Int)) = true := lt_t q1
    by_cases q2 : c < 127
    · have p2 : decide ((c : Int) < 127) = true := lt_t q2
      refine ⟨fun _ => ?_, fun h => absurd (.inl ⟨q1, q2⟩) h⟩
      exact Mine.TrS.by [.t, .t] (an p1 (an p2 trivial)) (fun k e => by kernel_rfl)
    · have p2 : decide ((c : Int) < 127) = false := lt_f (Nat.not_lt.mp q2)
      by_cases q3 : 160 ≤ c
      · have p3 : decide ((160 : Int) ≤ (c : Int)) = true := le_t q3
        by_cases q4 : c < 55296
        · have p4 : decide ((c : Int) < 55296) = true := lt_t q4
          refine ⟨fun _ => ?_, fun h => absurd (.inr (.inl ⟨q3, q4⟩)) h⟩
          exact Mine.TrS.by [.t, .f, .t, .t] (an p1 (an p2 (an p3 (an p4 trivial)))) (fun k e => by kernel_rfl)
        · have p4 : decide ((c : Int) < 55296) = false := lt_f (Nat.not_lt.mp q4)
          by_cases q5 : 57344 ≤ c
          · have p5 : decide ((57344 : Int) ≤ (c : Int)) = true := le_t q5
            by_cases q6 : c < 65534
            · have p6 : decide ((c : Int) < 65534) = true := lt_t q6
              refine ⟨fun _ => ?_, fun h => absurd (.inr (.inr (.inl ⟨q5, q6⟩))) h⟩
              exact Mine.TrS.by [.t, .f, .t, .f, .t, .t] (an p1 (an p2 (an p3 (an p4 (an p5 (an p6 trivial)))))) (fun k e => by kernel_rfl)
            · have p6 : decide ((c : Int) < 65534) = false := lt_f (Nat.not_lt.mp q6)
              by_cases q7 : 65536 ≤ c
              · have p7 : decide ((65536 : Int) ≤ (c : Int)) = true := le_t q7
                refine ⟨fun _ => ?_, fun h => absurd (.inr (.inr (.inr q7))) h⟩
                exact Mine.TrS.by [.t, .f, .t, .f, .t, .f, .t] (an p1 (an p2 (an p3 (an p4 (an p5 (an p6 (an p7 trivial))))))) (fun k e => by kernel_rfl)
              · have p7 : decide ((65536 : Int) ≤ (c : Int)) = false := le_f (Nat.not_le.mp q7)
                refine ⟨fun h => absurd h (by omega), fun _ => ?_⟩
                exact Mine.TrS.by [.t, .f, .t, .f, .t, .f, .f] (an p1 (an p2 (an p3 (an p4 (an p5 (an p6 (an p7 trivial))))))) (fun k e => by kernel_rfl)
          · have p5 : decide ((57344 : Int) ≤ (c : Int)) = false := le_f (Nat.not_le.mp q5)
            have p7 : decide ((65536 : Int) ≤ (c : Int)) = false := le_f (a := 65536) (by omega)
            refine ⟨fun h => absurd h (by omega), fun _ => ?_⟩
            exact Mine.TrS.by [.t, .f, .t, .f, .f, .a 1, .f] (an p1 (an p2 (an p3 (an p4 (an p5 (an p7 trivial)))))) (fun k e => by kernel_rfl)
      · have p3 : decide ((160 : Int) ≤ (c : Int)) = false := le_f (Nat.not_le.mp q3)
        have p5 : decide ((57344 : Int) ≤ (c : Int)) = false := le_f (a := 57344) (by omega)
        have p7 : decide ((65536 : Int) ≤ (c : Int)) = false := le_f (a := 65536) (by omega)
        refine ⟨fun h => absurd h (by omega), fun _ => ?_⟩
        exact Mine.TrS.by [.t, .f, .f, .a 1, .f, .a 1, .f] (an p1 (an p2 (an p3 (an p5 (an p7 trivial))))) (fun k e => by kernel_rfl)
  · have p1 : decide ((32 : Int) < (c : Int)) = false := lt_f (Nat.not_lt.mp q1)
    have p3 : decide ((160 : Int) ≤ (c : Int)) = false := le_f (a := 160) (by omega)
    have p5 : decide ((57344 : Int) ≤ (c : Int)) = false := le_f (a := 57344) (by omega)
    have p7 : decide ((65536 : Int) ≤ (c : Int)) = false := le_f (a := 65536) (by omega)
    refine ⟨fun h => absurd h (by omega), fun _ => ?_⟩
    exact Mine.TrS.by [.f, .a 1, .f, .a 1, .f, .a 1, .f] (an p1 (an p3 (an p5 (an p7 trivial)))) (fun k e => by kernel_rfl)
theorem stmt1 (E : Env3 en pad lead) (hc : c < 1114112) (hw : hs[w]? = some (.list (δ0.map wayV))) (hn : δ0.length ≤ 20) : Adds ns d a0 c st gap en pad lead big (s46 1) w hs δ0 1 := by
  have hX := ok_nil hn
  have hcN : decide (0 ≤ (c : Int) ∧ (c : Int) < 1114112) = true := decide_eq_true ⟨Int.natCast_nonneg c, Int.ofNat_lt.mpr hc⟩
  by_cases q1 : c = 9 ∨ c = 32
  · have i1 : (decide ((9 : Int) = (c : Int)) || (decide ((32 : Int) = (c : Int)) || false)) = true := in2_t q1
    by_cases q2 : st = 0
    · subst q2
      refine Adds.one hw (good1 E (by revert q1; simp; omega)) (Ext.app hs (o := .list [.int 9, .int 32])) ?_
      exact Mine.ExsS.by [.v .ob (O.list [V.int 9, V.int 32]), .a 1, .t, .a 1, .v .ob (O.list (List.map wayV δ0)), .t, .v .ob (O.list (List.map wayV δ0)), .t] (an (ga (l := hs) (o := O.list [V.int 9, V.int 32]) (r := [])) (an i1 (an (gl (r := [O.list [V.int 9, V.int 32]]) hw) (an hcN (an (gl (r := [O.list [V.int 9, V.int 32]]) hw) (an hX trivial)))))) (fun k e => by kernel_rfl)
    · refine Adds.none hw (Ext.app hs (o := .list [.int 9, .int 32])) ?_
      exact Mine.ExsS.by [.v .ob (O.list [V.int 9, V.int 32]), .a 1, .t, .f] (an (ga (l := hs) (o := O.list [V.int 9, V.int 32]) (r := [])) (an i1 (an (eqI_f (a := st) (b := 0) (h := q2)) trivial))) (fun k e => by kernel_rfl)
  · have i1 : (decide ((9 : Int) = (c : Int)) || (decide ((32 : Int) = (c : Int)) || false)) = false := in2_f (fun e => q1 (.inl e)) (fun e => q1 (.inr e))
    by_cases q2 : c = 8232 ∨ c = 8233
    · have i2 : (decide ((8232 : Int) = (c : Int)) || (decide ((8233 : Int) = (c : Int)) || false)) = true := in2_t q2
      have x := (Ext.app hs (o := .list [.int 9, .int 32])).trans (Ext.app _ (o := .list [.int 8232, .int 8233]))
      have g2 : Env3 en pad lead := E
      have way : ∀ s g, wayV ((lead ++ [c]) ++ pad, s, g) = .tup [.str (((⟨lead.toArray⟩ : Str) ++ ⟨#[c]⟩) ++ ⟨pad.toArray⟩), .int (s : Nat), .bool g] := fun s g => by
        rw [show (⟨#[c]⟩ : Str) = ⟨[c].toArray⟩ from rfl, catS, catS]; rfl
      have k1 : okL (lead.length + 1) = true := lim9 (Nat.le_trans (Nat.add_le_add_right E.ll 1) (by decide))
      have k2 : okL (((⟨lead.toArray⟩ : Str) ++ ⟨#[c]⟩).cps.size + pad.length) = true := lim9 (by rw [catL lead [c]]; exact Nat.le_trans (Nat.add_le_add (Nat.add_le_add E.ll (Nat.le_refl 1)) E.lp) (by decide))
      by_cases q3 : st = 2
      · subst q3
        refine Adds.one hw (good1b E (by revert q2; simp) (.inl rfl)) x ?_
        rw [way]
        exact Mine.ExsS.by [.v .ob (O.list [V.int 9, V.int 32]), .a 1, .f, .v .ob (O.list [V.int 8232, V.int 8233]), .a 1, .t, .a 2, .v .ob (O.list (List.map wayV δ0)), .t, .t, .t, .v .ob (O.list (List.map wayV δ0)), .t] (an (ga (l := hs) (o := O.list [V.int 9, V.int 32]) (r := [])) (an i1 (an (ga (l := hs ++ [O.list [V.int 9, V.int 32]]) (o := O.list [V.int 8232, V.int 8233]) (r := [])) (an i2 (an (gl (r := [O.list [V.int 8232, V.int 8233]]) (gl (r := [O.list [V.int 9, V.int 32]]) hw)) (an hcN (an k1 (an k2 (an (gl (r := [O.list [V.int 8232, V.int 8233]]) (gl (r := [O.list [V.int 9, V.int 32]]) hw)) (an hX trivial)))))))))) (fun k e => by kernel_rfl)
      · by_cases q4 : st = 0
        · subst q4
          cases gap with
          | false =>
            refine Adds.one hw (good1b E (by revert q2; simp) (.inr ⟨rfl, rfl⟩)) x ?_
            rw [way]
            exact Mine.ExsS.by [.v .ob (O.list [V.int 9, V.int 32]), .a 1, .f, .v .ob (O.list [V.int 8232, V.int 8233]), .a 1, .t, .a 5, .v .ob (O.list (List.map wayV δ0)), .t, .t, .t, .v .ob (O.list (List.map wayV δ0)), .t] (an (ga (l := hs) (o := O.list [V.int 9, V.int 32]) (r := [])) (an i1 (an (ga (l := hs ++ [O.list [V.int 9, V.int 32]]) (o := O.list [V.int 8232, V.int 8233]) (r := [])) (an i2 (an (gl (r := [O.list [V.int 8232, V.int 8233]]) (gl (r := [O.list [V.int 9, V.int 32]]) hw)) (an hcN (an k1 (an k2 (an (gl (r := [O.list [V.int 8232, V.int 8233]]) (gl (r := [O.list [V.int 9, V.int 32]]) hw)) (an hX trivial)))))))))) (fun k e => by kernel_rfl)
          | true =>
            refine Adds.none hw x ?_
            exact Mine.ExsS.by [.v .ob (O.list [V.int 9, V.int 32]), .a 1, .f, .v .ob (O.list [V.int 8232, V.int 8233]), .a 1, .t, .a 5] (an (ga (l := hs) (o := O.list [V.int 9, V.int 32]) (r := [])) (an i1 (an (ga (l := hs ++ [O.list [V.int 9, V.int 32]]) (o := O.list [V.int 8232, V.int 8233]) (r := [])) (an i2 trivial)))) (fun k e => by kernel_rfl)
        · refine Adds.none hw x ?_
          exact Mine.ExsS.by [.v .ob (O.list [V.int 9, V.int 32]), .a 1, .f, .v .ob (O.list [V.int 8232, V.int 8233]), .a 1, .t, .f, .f, .a 2] (an (ga (l := hs) (o := O.list [V.int 9, V.int 32]) (r := [])) (an i1 (an (ga (l := hs ++ [O.list [V.int 9, V.int 32]]) (o := O.list [V.int 8232, V.int 8233]) (r := [])) (an i2 (an (eqI_f (a := st) (b := 2) (h := q3)) (an (eqI_f (a := st) (b := 0) (h := q4)) trivial)))))) (fun k e => by kernel_rfl)
    · have i2 : (decide ((8232 : Int) = (c : Int)) || (decide ((8233 : Int) = (c : Int)) || false)) = false := in2_f (fun e => q2 (.inl e)) (fun e => q2 (.inr e))
      have t1 : TrS (S ns) 39 d (wT s1_) ⟨loc46 c st gap en pad lead big w .undef .undef, a0 :: hs⟩ (decide ((9 : Int) = (c : Int)) || (decide ((32 : Int) = (c : Int)) || false)) ⟨loc46 c st gap en pad lead big w .undef .undef, a0 :: (hs ++ [O.list [.int 9, .int 32]])⟩ := by
        exact Mine.TrS.by [.v .ob (O.list [V.int 9, V.int 32]), .a 1] (an (ga (l := hs) (o := O.list [V.int 9, V.int 32]) (r := [])) trivial) (fun k e => by kernel_rfl)
      rw [i1] at t1
      have t2 : TrS (S ns) 38 d (wT s1o) ⟨loc46 c st gap en pad lead big w .undef .undef, a0 :: (hs ++ [O.list [.int 9, .int 32]])⟩ (decide ((8232 : Int) = (c : Int)) || (decide ((8233 : Int) = (c : Int)) || false)) ⟨loc46 c st gap en pad lead big w .undef .undef, a0 :: (hs ++ [O.list [.int 9, .int 32]] ++ [O.list [.int 8232, .int 8233]])⟩ := by
        exact Mine.TrS.by [.v .ob (O.list [V.int 8232, V.int 8233]), .a 1] (an (ga (l := hs ++ [O.list [V.int 9, V.int 32]]) (o := O.list [V.int 8232, V.int 8233]) (r := [])) trivial) (fun k e => by kernel_rfl)
      rw [i2] at t2
      have x := (Ext.app hs (o := .list [.int 9, .int 32])).trans (Ext.app _ (o := .list [.int 8232, .int 8233]))
      have ow := own46 (ns := ns) (d := d) (a0 := a0) (c := c) (st := st) (gap := gap) (en := en) (pad := pad) (lead := lead) (big := big) (w := w) (hs := hs ++ [O.list [.int 9, .int 32]] ++ [O.list [.int 8232, .int 8233]]) _ rfl
      have hw1 := x.get hw
      generalize hs ++ [O.list [.int 9, .int 32]] ++ [O.list [.int 8232, .int 8233]] = h1 at t2 x ow hw1
      have up : ∀ {s'}, ExsF (S ns) 38 d [s1oo] ⟨loc46 c st gap en pad lead big w .undef .undef, a0 :: h1⟩ .next s' → ExsS (S ns) d (s46 1) ⟨loc46 c st gap en pad lead big w .undef .undef, a0 :: hs⟩ .next s' := fun e => ExsF.if_f (p := pS s1_) t1 (ExsF.if_f (p := pS s1o) t2 e)
      by_cases q3 : Own c
      · have in1 : ∀ {s'}, ExsF (S ns) 37 d (wB s1oo) ⟨loc46 c st gap en pad lead big w .undef .undef, a0 :: h1⟩ .next s' → ExsS (S ns) d (s46 1) ⟨loc46 c st gap en pad lead big w .undef .undef, a0 :: hs⟩ .next s' := fun e => up (ExsF.if_t (p := pS s1oo) (ow.1 q3) e)
        have x1 := x.trans (Ext.app h1 (o := .list [.int 34, .int 92]))
        have x2 := x1.trans (Ext.app _ (o := .list [.int 45, .int 46]))
        have h8 : c ∉ [8232, 8233] := by revert q2; simp
        by_cases q4 : c = 34 ∨ c = 92
        · have i4 : (decide ((34 : Int) = (c : Int)) || (decide ((92 : Int) = (c : Int)) || false)) = true := in2_t q4
          refine Adds.none hw x1 (in1 ?_)
          exact Mine.ExsF.by [.v .ob (O.list [V.int 34, V.int 92]), .a 1, .f, .a 1] (an (ga (l := h1) (o := O.list [V.int 34, V.int 92]) (r := [])) (an (congrArg not i4) trivial)) (fun k e => by kernel_rfl)
        · have i4 : (decide ((34 : Int) = (c : Int)) || (decide ((92 : Int) = (c : Int)) || false)) = false := in2_f (fun e => q4 (.inl e)) (fun e => q4 (.inr e))
          have gd := good1c (st := st) (gap := gap) E hc q3 h8 (fun e => q4 (.inl e)) (fun e => q4 (.inr e))
          by_cases q5 : st = 0
          · have p5 : decide ((0 : Int) < (st : Int)) = false := lt_f (a := 0) (Nat.le_of_eq q5)
            refine Adds.one hw (gd (.inl q5)) x1 (in1 ?_)
            exact Mine.ExsF.by [.v .ob (O.list [V.int 34, V.int 92]), .a 1, .t, .f, .a 2, .v .ob (O.list (List.map wayV δ0)), .t, .v .ob (O.list (List.map wayV δ0)), .t] (an (ga (l := h1) (o := O.list [V.int 34, V.int 92]) (r := [])) (an (congrArg not i4) (an p5 (an (gl (r := [O.list [V.int 34, V.int 92]]) hw1) (an hcN (an (gl (r := [O.list [V.int 34, V.int 92]]) hw1) (an hX trivial))))))) (fun k e => by kernel_rfl)
          · have p5 : decide ((0 : Int) < (st : Int)) = true := lt_t (a := 0) (Nat.pos_of_ne_zero q5)
            cases pad with
            | cons y pd =>
              have p6 := emp_f (y := y) (l := pd)
              refine Adds.one hw (gd (.inr (.inl (fun e => nomatch e)))) x1 (in1 ?_)
              exact Mine.ExsF.by [.v .ob (O.list [V.int 34, V.int 92]), .a 1, .t, .t, .f, .a 2, .v .ob (O.list (List.map wayV δ0)), .t, .v .ob (O.list (List.map wayV δ0)), .t] (an (ga (l := h1) (o := O.list [V.int 34, V.int 92]) (r := [])) (an (congrArg not i4) (an p5 (an p6 (an (gl (r := [O.list [V.int 34, V.int 92]]) hw1) (an hcN (an (gl (r := [O.list [V.int 34, V.int 92]]) hw1) (an hX trivial)))))))) (fun k e => by kernel_rfl)
            | nil =>
              by_cases q6 : c = 45 ∨ c = 46
              · have i6 : (decide ((45 : Int) = (c : Int)) || (decide ((46 : Int) = (c : Int)) || false)) = true := in2_t q6
                refine Adds.none hw x2 (in1 ?_)
                exact Mine.ExsF.by [.v .ob (O.list [V.int 34, V.int 92]), .a 1, .t, .t, .a 1, .v .ob (O.list [V.int 45, V.int 46]), .a 1, .t, .a 2] (an (ga (l := h1) (o := O.list [V.int 34, V.int 92]) (r := [])) (an (congrArg not i4) (an p5 (an (ga (l := h1 ++ [O.list [V.int 34, V.int 92]]) (o := O.list [V.int 45, V.int 46]) (r := [])) (an i6 trivial))))) (fun k e => by kernel_rfl)
              · have i6 : (decide ((45 : Int) = (c : Int)) || (decide ((46 : Int) = (c : Int)) || false)) = false := in2_f (fun e => q6 (.inl e)) (fun e => q6 (.inr e))
                refine Adds.one hw (gd (.inr (.inr ⟨fun e => q6 (.inl e), fun e => q6 (.inr e)⟩))) x2 (in1 ?_)
                exact Mine.ExsF.by [.v .ob (O.list [V.int 34, V.int 92]), .a 1, .t, .t, .a 1, .v .ob (O.list [V.int 45, V.int 46]), .a 1, .f, .a 2, .v .ob (O.list (List.map wayV δ0)), .t, .v .ob (O.list (List.map wayV δ0)), .t] (an (ga (l := h1) (o := O.list [V.int 34, V.int 92]) (r := [])) (an (congrArg not i4) (an p5 (an (ga (l := h1 ++ [O.list [V.int 34, V.int 92]]) (o := O.list [V.int 45, V.int 46]) (r := [])) (an i6 (an (gl (r := [O.list [V.int 45, V.int 46]]) (gl (r := [O.list [V.int 34, V.int 92]]) hw1)) (an hcN (an (gl (r := [O.list [V.int 45, V.int 46]]) (gl (r := [O.list [V.int 34, V.int 92]]) hw1)) (an hX trivial))))))))) (fun k e => by kernel_rfl)
      · exact Adds.none hw x (up (ExsF.if_f (p := pS s1oo) (ow.2 q3) ExsF.nil))
end
end Mine
end
section
open PySem PySem.W PyProof.Rows
set_option Elab.async false
set_option linter.unusedVariables false
set_option linter.unusedSectionVars false
set_option maxRecDepth 100000
namespace Mine
theorem szA (x y : Str) : (x ++ y).cps.size = x.cps.size + y.cps.size := Array.size_append
noncomputable abbrev sL (l : List Nat) : Str := ⟨l.toArray⟩
theorem way3 (a b c : List Nat) (s : Nat) (g : Bool) : wayV ((a ++ b) ++ c, s, g) = .tup [.str ((sL a ++ sL b) ++ sL c), .int (s : Int), .bool g] := by rw [catS, catS]; rfl
theorem way5 (a b c d e : List Nat) (s : Nat) (g : Bool) : wayV ((((a ++ b) ++ c) ++ d) ++ e, s, g) = .tup [.str ((((sL a ++ sL b) ++ sL c) ++ sL d) ++ sL e), .int (s : Int), .bool g] := by rw [catS, catS, catS, catS]; rfl
section
variable {ns : List Int} {d : Nat} {a0 : O} {c st : Nat} {gap : Bool} {en pad lead : List Nat} {big : Bool} {ss : List Stmt} {w : Nat} {hs hs' : List O} {δ0 : List Way} {n : Nat}
theorem cat1 (E : Env3 en pad lead) : okL (lead.length + en.length) = true ∧ okL ((sL lead ++ sL en).cps.size + pad.length) = true ∧ okL (((sL lead ++ sL en) ++ sL pad).cps.size + en.length) = true ∧ okL ((((sL lead ++ sL en) ++ sL pad) ++ sL en).cps.size + pad.length) = true := by
  have h1 := E.ll
  have h2 := E.lp
  have h3 := (prt_en E.he).2
  have e1 : (sL lead).cps.size = lead.length := rfl
  have e2 : (sL en).cps.size = en.length := rfl
  have e3 : (sL pad).cps.size = pad.length := rfl
  simp only [szA, e1, e2, e3]
  exact ⟨lim9 (by omega), lim9 (by omega), lim9 (by omega), lim9 (by omega)⟩
theorem stmt2 (E : Env3 en pad lead) (hw : hs[w]? = some (.list (δ0.map wayV))) (hn : δ0.length ≤ 20) : Adds ns d a0 c st gap en pad lead big (s46 2) w hs δ0 1 := by
  have hX := ok_nil hn
  have k := cat1 E
  have k1 := k.1
  have k2 := k.2.1
  by_cases q1 : c = 32
  · subst q1
    by_cases q2 : st = 0
    · subst q2
      cases gap with
      | false =>
        refine Adds.one hw (good2 E) (Ext.refl hs) ?_
        rw [way3]
        exact Mine.ExsS.by [.a 4, .v .ob (O.list (List.map wayV δ0)), .t, .t, .v .ob (O.list (List.map wayV δ0)), .t] (an hw (an k1 (an k2 (an hw (an hX trivial))))) (fun k e => by kernel_rfl)
      | true =>
        refine Adds.none hw (Ext.refl hs) ?_
        exact Mine.ExsS.by [.a 4] trivial (fun k e => by kernel_rfl)
    · refine Adds.none hw (Ext.refl hs) ?_
      exact Mine.ExsS.by [.a 1, .f, .a 1] (an (eqI_f (a := st) (b := 0) (h := q2)) trivial) (fun k e => by kernel_rfl)
  · refine Adds.none hw (Ext.refl hs) ?_
    exact Mine.ExsS.by [.f, .a 1] (an (eqI_f (a := c) (b := 32) (h := q1)) trivial) (fun k e => by kernel_rfl)
theorem stmt3 (E : Env3 en pad lead) (hw : hs[w]? = some (.list (δ0.map wayV))) (hn : δ0.length ≤ 20) : Adds ns d a0 c st gap en pad lead big (s46 3) w hs δ0 1 := by
  have hX := ok_nil hn
  have k := cat1 E
  have k1 := k.1
  have k2 := k.2.1
  have k3 := k.2.2.1
  have k4 := k.2.2.2
  by_cases q1 : c = 10
  · subst q1
    by_cases q2 : st = 0
    · subst q2
      cases gap with
      | false =>
        refine Adds.one hw (good3 E) (Ext.refl hs) ?_
        rw [way5]
        exact Mine.ExsS.by [.a 4, .v .ob (O.list (List.map wayV δ0)), .t, .t, .t, .t, .v .ob (O.list (List.map wayV δ0)), .t] (an hw (an k1 (an k2 (an k3 (an k4 (an hw (an hX trivial))))))) (fun k e => by kernel_rfl)
      | true =>
        refine Adds.none hw (Ext.refl hs) ?_
        exact Mine.ExsS.by [.a 4] trivial (fun k e => by kernel_rfl)
    · refine Adds.none hw (Ext.refl hs) ?_
      exact Mine.ExsS.by [.a 1, .f, .a 1] (an (eqI_f (a := st) (b := 0) (h := q2)) trivial) (fun k e => by kernel_rfl)
  · refine Adds.none hw (Ext.refl hs) ?_
    exact Mine.ExsS.by [.f, .a 1] (an (eqI_f (a := c) (b := 10) (h := q1)) trivial) (fun k e => by kernel_rfl)
theorem stmt4 (E : Env3 en pad lead) (hw : hs[w]? = some (.list (δ0.map wayV))) (hn : δ0.length ≤ 20) : Adds ns d a0 c st gap en pad lead big (s46 4) w hs δ0 1 := by
  have hX := ok_nil hn
  have k := cat1 E
  have k1 := k.1
  have k2 := k.2.1
  by_cases q1 : c = 10
  · subst q1
    by_cases q2 : st = 2
    · subst q2
      refine Adds.one hw (good4 E) (Ext.refl hs) ?_
      rw [way3]
      exact Mine.ExsS.by [.a 3, .v .ob (O.list (List.map wayV δ0)), .t, .t, .v .ob (O.list (List.map wayV δ0)), .t] (an hw (an k1 (an k2 (an hw (an hX trivial))))) (fun k e => by kernel_rfl)
    · refine Adds.none hw (Ext.refl hs) ?_
      exact Mine.ExsS.by [.a 1, .f, .a 1] (an (eqI_f (a := st) (b := 2) (h := q2)) trivial) (fun k e => by kernel_rfl)
  · refine Adds.none hw (Ext.refl hs) ?_
    exact Mine.ExsS.by [.f, .a 1] (an (eqI_f (a := c) (b := 10) (h := q1)) trivial) (fun k e => by kernel_rfl)
theorem stmt6 (E : Env3 en pad lead) (hw : hs[w]? = some (.list (δ0.map wayV))) (hn : δ0.length ≤ 20) : Adds ns d a0 c st gap en pad lead big (s46 6) w hs δ0 1 := by
  have hX := ok_nil hn
  by_cases q1 : c = 9
  · subst q1
    refine Adds.one hw (good5 (e := 9) E rfl prt_9) (Ext.refl hs) ?_
    exact Mine.ExsS.by [.a 1, .v .ob (O.list (List.map wayV δ0)), .v .ob (O.list (List.map wayV δ0)), .t] (an hw (an hw (an hX trivial))) (fun k e => by kernel_rfl)
  · refine Adds.none hw (Ext.refl hs) ?_
    exact Mine.ExsS.by [.f] (an (eqI_f (a := c) (b := 9) (h := q1)) trivial) (fun k e => by kernel_rfl)
theorem look_N {f : Nat → V} (c : Nat) : ∀ L : List (Nat × Nat), lookA (.int (c : Int)) (L.map fun p => (intN p.1, f p.2)) = some ((L.lookup c).map f)
  | [] => rfl
  | (a, b) :: L => by
    have ih := look_N (f := f) c L
    show (if (a : Int) = (c : Int) then some (some (f b)) else lookA (.int (c : Int)) (L.map fun p => (intN p.1, f p.2))) = _
    rw [List.lookup_cons]
    by_cases q : c = a
    · subst q
      rw [beq_self_eq_true, if_pos rfl]; rfl
    · rw [beq_eq_false_iff_ne.mpr q, if_neg (show ¬ (a : Int) = (c : Int) from fun e => q (Int.ofNat.inj e).symm)]
      exact ih
theorem short_esc : ∀ p ∈ SHORT, esc p.2 = some p.1 ∧ 32 ≤ p.2 ∧ p.2 ≤ 126 := by decide
theorem mem_lookup {c e : Nat} : ∀ {L : List (Nat × Nat)}, L.lookup c = some e → (c, e) ∈ L
  | [], h => by cases h
  | (a, b) :: L, h => by
    rw [List.lookup_cons] at h
    by_cases q : c = a
    · subst q
      rw [beq_self_eq_true] at h
      have h : some b = some e := h
      rw [Option.some.inj h]; exact .head _
    · rw [beq_eq_false_iff_ne.mpr q] at h
      exact .tail _ (mem_lookup h)
theorem stmt5 (E : Env3 en pad lead) (hw : hs[w]? = some (.list (δ0.map wayV))) (hn : δ0.length ≤ 20) : Adds ns (d + 1) a0 c st gap en pad lead big (s46 5) w hs δ0 1 := by
  have hX := ok_nil hn
  have lk := look_N (f := ch1) c SHORT
  cases e : SHORT.lookup c with
  | none =>
    rw [e] at lk
    have lk : lookA (.int (c : Int)) (SHORT.map fun p => (intN p.1, ch1 p.2)) = some none := lk
    refine Adds.none hw (Ext.app hs (o := .dict (SHORT.map fun p => (intN p.1, ch1 p.2)))) ?_
    exact Mine.ExsS.by [.c (V.obj (List.length hs + 1)) (a0 :: (hs ++ [O.dict (List.map (fun p => (intN (Prod.fst p), ch1 (Prod.snd p))) SHORT)])), .v .ob (O.dict (List.map (fun p => (intN (Prod.fst p), ch1 (Prod.snd p))) SHORT)), .v .oval (none), .a 1] (an (short40 (ns := ns) (d := d) (a0 := a0) (hs := hs)) (an (ga (l := hs) (o := O.dict (List.map (fun p => (intN (Prod.fst p), ch1 (Prod.snd p))) SHORT)) (r := [])) (an lk trivial))) (fun k e => by kernel_rfl)
  | some e' =>
    rw [e] at lk
    have lk : lookA (.int (c : Int)) (SHORT.map fun p => (intN p.1, ch1 p.2)) = some (some (ch1 e')) := lk
    have es := short_esc _ (mem_lookup e)
    have x := (Ext.app hs (o := .dict (SHORT.map fun p => (intN p.1, ch1 p.2)))).trans (Ext.app _ (o := .dict (SHORT.map fun p => (intN p.1, ch1 p.2))))
    refine Adds.one hw (good5 E es.1 (.inr (.inl es.2))) x ?_
    rw [show wayV ([92, e'], 0, false) = .tup [.str (Str.ofString "\\" ++ ⟨#[e']⟩), .int 0, .bool false] from congrArg (fun z => V.tup [.str z, .int 0, .bool false]) (catS [92] [e']).symm]
    exact Mine.ExsS.by [.c (V.obj (List.length hs + 1)) (a0 :: (hs ++ [O.dict (List.map (fun p => (intN (Prod.fst p), ch1 (Prod.snd p))) SHORT)])), .v .ob (O.dict (List.map (fun p => (intN (Prod.fst p), ch1 (Prod.snd p))) SHORT)), .v .oval (some (ch1 e')), .a 1, .v .ob (O.list (List.map wayV δ0)), .c (V.obj (List.length (hs ++ [O.dict (List.map (fun p => (intN (Prod.fst p), ch1 (Prod.snd p))) SHORT)]) + 1)) (a0 :: (hs ++ [O.dict (List.map (fun p => (intN (Prod.fst p), ch1 (Prod.snd p))) SHORT)] ++ [O.dict (List.map (fun p => (intN (Prod.fst p), ch1 (Prod.snd p))) SHORT)])), .v .ob (O.dict (List.map (fun p => (intN (Prod.fst p), ch1 (Prod.snd p))) SHORT)), .v .oval (some (ch1 e')), .a 2, .v .ob (O.list (List.map wayV δ0)), .t] (an (short40 (ns := ns) (d := d) (a0 := a0) (hs := hs)) (an (ga (l := hs) (o := O.dict (List.map (fun p => (intN (Prod.fst p), ch1 (Prod.snd p))) SHORT)) (r := [])) (an lk (an (gl (r := [O.dict (List.map (fun p => (intN (Prod.fst p), ch1 (Prod.snd p))) SHORT)]) hw) (an (short40 (ns := ns) (d := d) (a0 := a0) (hs := hs ++ [O.dict (List.map (fun p => (intN (Prod.fst p), ch1 (Prod.snd p))) SHORT)])) (an (ga (l := hs ++ [O.dict (List.map (fun p => (intN (Prod.fst p), ch1 (Prod.snd p))) SHORT)]) (o := O.dict (List.map (fun p => (intN (Prod.fst p), ch1 (Prod.snd p))) SHORT)) (r := [])) (an lk (an (gl (r := [O.dict (List.map (fun p => (intN (Prod.fst p), ch1 (Prod.snd p))) SHORT)]) (gl (r := [O.dict (List.map (fun p => (intN (Prod.fst p), ch1 (Prod.snd p))) SHORT)]) hw)) (an hX trivial))))))))) (fun k e => by kernel_rfl)
end
end Mine
end
section
open PySem PySem.W PyProof.Rows
set_option Elab.async false
set_option linter.unusedVariables false
set_option linter.unusedSectionVars false
set_option maxRecDepth 100000
namespace Mine
theorem hexD_fig (big : Bool) {x : Nat} (hx : x < 16) : hexD ((figL big)[x]?.getD 0) = some x ∧ (figL big)[x]?.getD 0 ∈ HEX := by
  have h : ∀ x : Fin 16, ∀ b : Bool, hexD ((figL b)[x.val]?.getD 0) = some x.val ∧ (figL b)[x.val]?.getD 0 ∈ HEX := by decide
  exact h ⟨x, hx⟩ big
theorem hexL_figs (big : Bool) (n : Nat) : ∀ (z a : Nat), hexL (figsN (figL big) n z) a = some (a * 16 ^ z + n % 16 ^ z)
  | 0, a => by rw [Nat.pow_zero, Nat.mul_one, Nat.mod_one]; rfl
  | z + 1, a => by
    have h := hexL_figs big n z (a * 16 + n / 16 ^ z % 16)
    rw [figsN, hexL]
    unfold figD
    rw [(hexD_fig big (Nat.mod_lt _ (by decide))).1]
    refine h.trans (congrArg some ?_)
    rw [Nat.mod_pow_succ, Nat.pow_succ, Nat.add_mul, Nat.mul_assoc, Nat.mul_comm 16 (16 ^ z), Nat.add_assoc, Nat.mul_comm (n / 16 ^ z % 16) (16 ^ z), Nat.add_comm (16 ^ z * (n / 16 ^ z % 16))]
theorem figs_hex (big : Bool) (n : Nat) : ∀ z, ∀ y ∈ figsN (figL big) n z, y ∈ HEX
  | 0, y, h => nomatch h
  | z + 1, y, h => (List.mem_cons.mp h).elim (fun e => by rw [e]; exact (hexD_fig big (Nat.mod_lt _ (by decide))).2) (figs_hex big n z y)
universe u0 u1
section
variable {ns : List Int} {d : Nat} {a0 : O} {c st : Nat} {gap : Bool} {en pad lead : List Nat} {big : Bool} {w : Nat} {hs hs' : List O} {δ0 : List Way} {n : Nat} {L Z : V}
noncomputable def F46 : Expr := wT (sAt (bodyN 46) 7)
noncomputable def G46 : List Stmt := wB (sAt (bodyN 46) 7)
noncomputable abbrev tripV (p : Nat × Nat) : V := .tup [.str ⟨#[p.1]⟩, .int (p.2 : Int)]
noncomputable abbrev trips : List V := [tripV (120, 2), tripV (117, 4), tripV (85, 8)]
theorem pow_nat (c z : Nat) : decide ((c : Int) < 16 ^ (z : Int).toNat) = decide (c < 16 ^ z) := by
  have e : ((16 : Int) ^ z) = ((16 ^ z : Nat) : Int) := by push_cast; rfl
  rw [Int.toNat_natCast, e]
  exact decide_eq_decide.mpr Int.ofNat_lt
theorem figs_say (big : Bool) {c z : Nat} (h : c < 16 ^ z) : hexL (figsN (figL big) c z) 0 = some c := by rw [hexL_figs, Nat.zero_mul, Nat.zero_add, Nat.mod_eq_of_lt h]
theorem way7 (g : Nat) (l : List Nat) : wayV ([92, g] ++ l, 0, false) = .tup [.str ((Str.ofString "\\" ++ ⟨#[g]⟩) ++ sL l), .int 0, .bool false] :=
  congrArg (fun z => V.tup [.str z, .int 0, .bool false]) ((catS [92, g] l).symm.trans (congrArg (· ++ sL l) (catS [92] [g]).symm))
theorem el_2_6 {α0 : Sort u0} {α1 : Sort u1} {A0 A1 A2 A3 A4 A5 : α0 → α1 → Prop} {G : Prop} (h : ∃ x0 : α0, ∃ x1 : α1, A0 x0 x1 ∧ A1 x0 x1 ∧ A2 x0 x1 ∧ A3 x0 x1 ∧ A4 x0 x1 ∧ A5 x0 x1) (k : ∀ x0 x1, A0 x0 x1 → A1 x0 x1 → A2 x0 x1 → A3 x0 x1 → A4 x0 x1 → A5 x0 x1 → G) : G := Exists.elim h fun x0 h => Exists.elim h fun x1 h => k x0 x1 h.1 h.2.1 h.2.2.1 h.2.2.2.1 h.2.2.2.2.1 h.2.2.2.2.2
theorem turn46 {j g z : Nat} (E : Env3 en pad lead) (hc : c < 1114112) (he : codeN g = some z) (hp : Prt g) (hz : z ≤ 8) (hL : okV L = true) (hZ : okV Z = true) (hj : hs[j]? = some (.list trips)) (hi : trips[n]? = some (tripV (g, z))) (hw : hs[w]? = some (.list (δ0.map wayV))) (hn : δ0.length ≤ 20) :
    ∃ δ hs', (∀ v ∈ δ, Says en pad c st gap v) ∧ δ.length ≤ 1 ∧ (c < 16 ^ z → δ ≠ []) ∧ hs'[w]? = some (.list ((δ0 ++ δ).map wayV)) ∧ KeepC w hs hs' ∧ ∀ s', FrlS (S ns) (d + 1) F46 (.list (j + 1) false) (n + 1) G46 ⟨loc46 c st gap en pad lead big w (.str ⟨#[g]⟩) (.int (z : Int)), a0 :: hs'⟩ .next s' → FrlS (S ns) (d + 1) F46 (.list (j + 1) false) n G46 ⟨loc46 c st gap en pad lead big w L Z, a0 :: hs⟩ .next s' := by
  have hX := ok_nil hn
  have hb : Nat.ble n trips.length = true := Nat.ble_eq_true_of_le (Nat.le_of_lt (List.getElem?_eq_some_iff.mp hi).1)
  have hv : some (trips[n]?.map (wrp false n)) = some (some (tripV (g, z))) := by rw [hi]; rfl
  have p0 : decide ((16 : Int) = 16 ∧ 0 ≤ (z : Int) ∧ (z : Int) ≤ 8) = true := decide_eq_true ⟨rfl, Int.natCast_nonneg z, Int.ofNat_le.mpr hz⟩
  have pn := pow_nat c z
  by_cases q : c < 16 ^ z
  · rw [decide_eq_true q] at pn
    refine el_1_2 (figs45 (ns := ns) (d := d) (a0 := a0) (hs := hs) (c := c) (big := big) hz) fun hs1 x ef => ?_
    have hw1 := x.get hw
    have k2 : okL ((Str.ofString "\\" ++ ⟨#[g]⟩).cps.size + (figsN (figL big) c z).length) = true := lim9 (by rw [szA, figs_len]; exact Nat.le_trans (Nat.add_le_add_left hz 2) (by decide))
    refine ⟨[([92, g] ++ figsN (figL big) c z, 0, false)], hs1.set w (.list (δ0.map wayV ++ [wayV ([92, g] ++ figsN (figL big) c z, 0, false)])), fun v h => List.mem_singleton.mp h ▸ good7 E he hp (figs_len _ c z) hz (figs_hex big c z) (figs_say big q) hc, Nat.le_refl 1, (fun _ e => nomatch e), by rw [List.map_append]; exact gs hw1, x.keep.trans (KeepC.setc _), fun s' e => ?_⟩
    rw [way7] at e
    refine Mine.FrlS.go (s1 := St.mk [(Str.ofString "code", V.int (↑c : Int)), (Str.ofString "state", V.int (↑st : Int)), (Str.ofString "gap", V.bool gap), (Str.ofString "end", V.str (Str.mk (List.toArray en))), (Str.ofString "pad", V.str (Str.mk (List.toArray pad))), (Str.ofString "lead", V.str (Str.mk (List.toArray lead))), (Str.ofString "big", V.bool big), (Str.ofString "ways", V.obj (w + 1)), (Str.ofString "letter", V.str (Str.mk #[g])), (Str.ofString "size", V.int (↑z : Int)), (Str.ofString "chr", V.bi "chr"), (Str.ofString "_law_SHORT", V.fn 40), (Str.ofString "_law_figures", V.fn 45)] (a0 :: List.set hs1 w (O.list (List.map wayV δ0 ++ [V.tup [V.str (Str.ofString "\\" ++ Str.mk #[g] ++ Str.mk (List.toArray (figsN (figL big) c z))), V.int 0, V.bool false]])))) [.v .ob (O.list trips), .t, .v .oval (some (tripV (g, z))), .t, .t, .t, .t, .v .ob (O.list (List.map wayV δ0)), .a 1, .c (V.str (Str.mk (List.toArray (figsN (figL big) c z)))) (a0 :: hs1), .t, .v .ob (O.list (List.map wayV δ0)), .t] ?_ (an hj (an hb (an hv (an (pl_t (u := L) (v := V.str (Str.mk #[g])) (h := hL) (h2 := (by rfl))) (an (pl_t (u := Z) (v := V.int (↑z : Int)) (h := hZ) (h2 := (by rfl))) (an p0 (an pn (an hw (an ef (an k2 (an hw1 (an hX trivial)))))))))))) (fun k e => by kernel_rfl)
    exact e
  · rw [decide_eq_false q] at pn
    refine ⟨[], hs, (fun _ h => nomatch h), by decide, fun h => absurd h q, by rw [List.append_nil]; exact hw, KeepC.refl _ _, fun s' e => ?_⟩
    refine Mine.FrlS.go (s1 := St.mk [(Str.ofString "code", V.int (↑c : Int)), (Str.ofString "state", V.int (↑st : Int)), (Str.ofString "gap", V.bool gap), (Str.ofString "end", V.str (Str.mk (List.toArray en))), (Str.ofString "pad", V.str (Str.mk (List.toArray pad))), (Str.ofString "lead", V.str (Str.mk (List.toArray lead))), (Str.ofString "big", V.bool big), (Str.ofString "ways", V.obj (w + 1)), (Str.ofString "letter", V.str (Str.mk #[g])), (Str.ofString "size", V.int (↑z : Int)), (Str.ofString "chr", V.bi "chr"), (Str.ofString "_law_SHORT", V.fn 40), (Str.ofString "_law_figures", V.fn 45)] (a0 :: hs)) [.v .ob (O.list trips), .t, .v .oval (some (tripV (g, z))), .t, .t, .t, .f] ?_ (an hj (an hb (an hv (an (pl_t (u := L) (v := V.str (Str.mk #[g])) (h := hL) (h2 := (by rfl))) (an (pl_t (u := Z) (v := V.int (↑z : Int)) (h := hZ) (h2 := (by rfl))) (an p0 (an pn trivial))))))) (fun k e => by kernel_rfl)
    exact e
theorem says_app {δ1 δ2 : List Way} (h1 : ∀ v ∈ δ1, Says en pad c st gap v) (h2 : ∀ v ∈ δ2, Says en pad c st gap v) : ∀ v ∈ δ1 ++ δ2, Says en pad c st gap v := fun v h => (List.mem_append.mp h).elim (h1 v) (h2 v)
theorem loop46 {j : Nat} (E : Env3 en pad lead) (hc : c < 1114112) (hj : hs[j]? = some (.list trips)) (hjw : j ≠ w) (hw : hs[w]? = some (.list (δ0.map wayV))) (hn : δ0.length ≤ 9) :
    ∃ δ hs', (∀ v ∈ δ, Says en pad c st gap v) ∧ δ.length ≤ 3 ∧ δ ≠ [] ∧ hs'[w]? = some (.list ((δ0 ++ δ).map wayV)) ∧ KeepC w hs hs' ∧ FrlS (S ns) (d + 1) F46 (.list (j + 1) false) 0 G46 ⟨loc46 c st gap en pad lead big w .undef .undef, a0 :: hs⟩ .next ⟨loc46 c st gap en pad lead big w (.str ⟨#[85]⟩) (.int ((8 : Nat) : Int)), a0 :: hs'⟩ := by
  have hjl := (List.getElem?_eq_some_iff.mp hj).1
  refine el_2_6 (turn46 (ns := ns) (d := d) (a0 := a0) (big := big) (st := st) (gap := gap) (n := 0) (g := 120) (L := .undef) (Z := .undef) E hc rfl (.inr (.inl (by decide))) (by decide) rfl rfl hj rfl hw (Nat.le_trans hn (by decide))) fun δ1 hs1 s1 l1 _ w1 k1 e1 => ?_
  have j1 := (k1.2.1 j hjw hjl).trans hj
  refine el_2_6 (turn46 (ns := ns) (d := d) (a0 := a0) (big := big) (st := st) (gap := gap) (n := 1) (g := 117) (L := .str ⟨#[120]⟩) (Z := .int ((2 : Nat) : Int)) E hc rfl (.inr (.inl (by decide))) (by decide) rfl rfl j1 rfl w1 (by rw [List.length_append]; exact Nat.le_trans (Nat.add_le_add hn l1) (by decide))) fun δ2 hs2 s2 l2 _ w2 k2 e2 => ?_
  have j2 := (k2.2.1 j hjw (List.getElem?_eq_some_iff.mp j1).1).trans j1
  refine el_2_6 (turn46 (ns := ns) (d := d) (a0 := a0) (big := big) (st := st) (gap := gap) (n := 2) (g := 85) (L := .str ⟨#[117]⟩) (Z := .int ((4 : Nat) : Int)) E hc rfl (.inr (.inl (by decide))) (by decide) rfl rfl j2 rfl w2 (by rw [List.length_append, List.length_append]; exact Nat.le_trans (Nat.add_le_add (Nat.add_le_add hn l1) l2) (by decide))) fun δ3 hs3 s3 l3 n3 w3 k3 e3 => ?_
  have j3 := (k3.2.1 j hjw (List.getElem?_eq_some_iff.mp j2).1).trans j2
  refine ⟨δ1 ++ (δ2 ++ δ3), hs3, says_app s1 (says_app s2 s3), ?_, ?_, ?_, (k1.trans k2).trans k3, ?_⟩
  · rw [List.length_append, List.length_append]; exact Nat.add_le_add l1 (Nat.add_le_add l2 l3)
  · exact fun e => n3 (Nat.lt_trans hc (by decide)) (List.append_eq_nil_iff.mp (List.append_eq_nil_iff.mp e).2).2
  · rw [List.append_assoc, List.append_assoc] at w3; exact w3
  · refine e1 _ (e2 _ (e3 _ ?_))
    exact Mine.FrlS.by [.v .ob (O.list trips), .a 2] (an j3 trivial) (fun k e => by kernel_rfl)
end
end Mine
end
section
open PySem PySem.W PyProof.Rows
set_option Elab.async false
set_option linter.unusedVariables false
set_option linter.unusedSectionVars false
set_option maxRecDepth 100000
namespace Mine
section
variable {ns : List Int} {d : Nat} {a0 : O} {c st : Nat} {gap : Bool} {en pad lead : List Nat} {big : Bool} {w : Nat} {hs hs' : List O} {δ0 : List Way} {n m : Nat} {ss1 ss2 : List Stmt}
theorem Adds.app (x : Adds ns d a0 c st gap en pad lead big ss1 w hs δ0 n) (y : ∀ δ hs', δ.length ≤ n → hs'[w]? = some (.list ((δ0 ++ δ).map wayV)) → Adds ns d a0 c st gap en pad lead big ss2 w hs' (δ0 ++ δ) m) : Adds ns d a0 c st gap en pad lead big (ss1 ++ ss2) w hs δ0 (n + m) := by
  refine el_2_5 (x) fun δ1 hs1 s1 l1 w1 k1 e1 => ?_
  refine el_2_5 (y δ1 hs1 l1 w1) fun δ2 hs2 s2 l2 w2 k2 e2 => ?_
  exact ⟨δ1 ++ δ2, hs2, says_app s1 s2, by rw [List.length_append]; exact Nat.add_le_add l1 l2, by rw [← List.append_assoc]; exact w2, k1.trans k2, e1.app e2⟩
theorem head46 (E : Env3 en pad lead) (hc : c < 1114112) (hw : hs[w]? = some (.list (([] : List Way).map wayV))) : Adds ns (d + 1) a0 c st gap en pad lead big (s46 1 ++ (s46 2 ++ (s46 3 ++ (s46 4 ++ (s46 5 ++ s46 6))))) w hs [] (1 + (1 + (1 + (1 + (1 + 1))))) := by
  have ln : ∀ {a b : List Way} {p q : Nat}, a.length ≤ p → b.length ≤ q → (a ++ b).length ≤ p + q := fun h h' => by rw [List.length_append]; exact Nat.add_le_add h h'
  refine (stmt1 E hc hw (Nat.zero_le _)).app fun δ1 h1 l1 w1 => ?_
  refine (stmt2 E w1 (Nat.le_trans (ln (Nat.zero_le 0) l1) (by decide))).app fun δ2 h2 l2 w2 => ?_
  refine (stmt3 E w2 (Nat.le_trans (ln (ln (Nat.zero_le 0) l1) l2) (by decide))).app fun δ3 h3 l3 w3 => ?_
  refine (stmt4 E w3 (Nat.le_trans (ln (ln (ln (Nat.zero_le 0) l1) l2) l3) (by decide))).app fun δ4 h4 l4 w4 => ?_
  refine (stmt5 E w4 (Nat.le_trans (ln (ln (ln (ln (Nat.zero_le 0) l1) l2) l3) l4) (by decide))).app fun δ5 h5 l5 w5 => ?_
  exact stmt6 E w5 (Nat.le_trans (ln (ln (ln (ln (ln (Nat.zero_le 0) l1) l2) l3) l4) l5) (by decide))
theorem ways46 (E : Env3 en pad lead) (hc : c < 1114112) : ∃ δ hs', (∀ v ∈ δ, Says en pad c st gap v) ∧ δ.length ≤ 9 ∧ δ ≠ [] ∧ hs'[hs.length]? = some (.list (δ.map wayV)) ∧ Ext hs hs' ∧
    CallS (S ns) (d + 1) 46 [.int (c : Int), .int (st : Int), .bool gap, .str ⟨en.toArray⟩, .str ⟨pad.toArray⟩, .str ⟨lead.toArray⟩, .bool big] [] (a0 :: hs) (.obj (hs.length + 1)) (a0 :: hs') := by
  have hw0 : (hs ++ [O.list []])[hs.length]? = some (.list (([] : List Way).map wayV)) := ga
  refine el_2_5 (head46 (ns := ns) (d := d) (a0 := a0) (st := st) (gap := gap) (big := big) E hc hw0) fun δ1 hs1 s1 l1 w1 k1 e1 => ?_
  have w2 : (hs1 ++ [O.list trips])[hs.length]? = some (.list (([] ++ δ1).map wayV)) := gl w1
  refine el_2_6 (loop46 (ns := ns) (d := d) (a0 := a0) (st := st) (gap := gap) (big := big) (j := hs1.length) E hc ga (fun e => absurd (List.getElem?_eq_some_iff.mp w1).1 (by rw [e]; exact Nat.lt_irrefl _)) w2 (Nat.le_trans l1 (by decide))) fun δ2 hs2 s2 l2 n2 w3 k2 e2 => ?_
  have x1 : Ext hs hs1 := k1.ext
  have k3 : KeepC hs.length (hs ++ [O.list []]) hs2 := (k1.trans (Ext.app hs1).keep).trans k2
  refine ⟨δ1 ++ δ2, hs2, says_app s1 s2, by rw [List.length_append]; exact Nat.add_le_add l1 l2, fun e => n2 (List.append_eq_nil_iff.mp e).2, w3, k3.ext, ?_⟩
  have e0 : ExsS (S ns) (d + 1) (s46 0) ⟨[("code", .int (c : Int)), ("state", .int (st : Int)), ("gap", .bool gap), ("end", .str ⟨en.toArray⟩), ("pad", .str ⟨pad.toArray⟩), ("lead", .str ⟨lead.toArray⟩), ("big", .bool big), ("ways", .undef), ("letter", .undef), ("size", .undef), ("chr", .bi "chr"), ("_law_SHORT", .fn 40), ("_law_figures", .fn 45)], a0 :: hs⟩ .next ⟨loc46 c st gap en pad lead big hs.length .undef .undef, a0 :: (hs ++ [O.list []])⟩ := by
    exact Mine.ExsS.by [.a 1] trivial (fun k e => by kernel_rfl)
  have e3 : ExsS (S ns) (d + 1) (s46 7 ++ s46 8) ⟨loc46 c st gap en pad lead big hs.length .undef .undef, a0 :: hs1⟩ (.ret (.obj (hs.length + 1))) ⟨loc46 c st gap en pad lead big hs.length (.str ⟨#[85]⟩) (.int ((8 : Nat) : Int)), a0 :: hs2⟩ := by
    exact Mine.ExsS.by [.v .ob (O.list [V.tup [V.str (Str.ofString "x"), V.int 2], V.tup [V.str (Str.ofString "u"), V.int 4], V.tup [V.str (Str.ofString "U"), V.int 8]]), .w (Fl.next) (St.mk (loc46 c st gap en pad lead big (List.length hs) (V.str (Str.mk #[85])) (V.int (↑8 : Int))) (a0 :: hs2))] (an (ga (l := hs1) (o := O.list [V.tup [V.str (Str.ofString "x"), V.int 2], V.tup [V.str (Str.ofString "u"), V.int 4], V.tup [V.str (Str.ofString "U"), V.int 8]]) (r := [])) (an e2 trivial)) (fun k e => by kernel_rfl)
  exact CallS.rows (fun k e => by kernel_rfl) (e0.app (e1.app e3))
end
end Mine
end
section
open PySem PySem.W PyProof.Rows
set_option Elab.async false
set_option linter.unusedVariables false
set_option linter.unusedSectionVars false
set_option maxRecDepth 100000
namespace Mine
structure Goes (en pad : List Nat) (st : Nat) (gap : Bool) (X v : List Nat) (st' : Nat) (gap' : Bool) : Prop where
  prt : AllP X
  ok : StOK st' gap'
  back : ∀ r u w, PP en pad r st' gap' u w → PP en pad r st gap (X ++ u) (v ++ w)
theorem Goes.trans {en pad X Y v w : List Nat} {st st1 st2 : Nat} {g g1 g2 : Bool} (a : Goes en pad st g X v st1 g1) (b : Goes en pad st1 g1 Y w st2 g2) : Goes en pad st g (X ++ Y) (v ++ w) st2 g2 :=
  ⟨a.prt.app b.prt, b.ok, fun r u z h => by rw [List.append_assoc, List.append_assoc]; exact a.back r _ _ (b.back r u z h)⟩
theorem Says.goes {en pad : List Nat} {c st : Nat} {gap : Bool} {w : Way} (h : Says en pad c st gap w) : Goes en pad st gap w.1 [c] w.2.1 w.2.2 := ⟨h.prt, h.ok, h.back⟩
theorem goes_line {en pad lead : List Nat} {st : Nat} {gap : Bool} (E : Env3 en pad lead) : Goes en pad st gap ((92 :: en) ++ pad) [] 2 false :=
  ⟨(AllP.cons prt_92 (prt_en E.he).1).app (prt_bl E.hp), ok2, fun r u w h => by rw [List.append_assoc]; exact PP.line E.he E.hp h⟩
theorem sz92 : (Str.ofString "\\").cps.size = 1 := by decide +kernel
theorem big_ok {m n a b : Nat} (h : m ≤ a) (h' : n ≤ b) (k : a + b ≤ lim := by decide) : okL (m + n) = true := okL_t (Nat.le_trans (Nat.add_le_add h h') k)
theorem catS4 (a b c d : List Nat) : ((sL a ++ sL b) ++ sL c) ++ sL d = sL (a ++ ((b ++ c) ++ d)) := by rw [catS, catS, catS, List.append_assoc, List.append_assoc, List.append_assoc]
noncomputable abbrev locL (t : Nat) (tot la : Int) (en pad lead : List Nat) (big : Bool) (tx va : Str) (st : Nat) (gap : Bool) (K N M C W D : V) : List (Str × V) :=
  [(Str.ofString "script", .sta 9), (Str.ofString "tape", .obj (t + 1)), (Str.ofString "total", .int tot), (Str.ofString "last", .int la), (Str.ofString "end", .str ⟨en.toArray⟩), (Str.ofString "pad", .str ⟨pad.toArray⟩), (Str.ofString "lead", .str ⟨lead.toArray⟩), (Str.ofString "big", .bool big), (Str.ofString "text", .str tx), (Str.ofString "value", .str va), (Str.ofString "state", .int (st : Int)), (Str.ofString "gap", .bool gap), (Str.ofString "k", K), (Str.ofString "n", N), (Str.ofString "m", M), (Str.ofString "code", C), (Str.ofString "ways", W), (Str.ofString "said", D), (Str.ofString "scanner", .undef), (Str.ofString "opened", .undef), (Str.ofString "token", .undef), (Str.ofString "closed", .undef), (Str.ofString "len", .bi "len"), (Str.ofString "_law_ENDS", .fn 41), (Str.ofString "_law_PADS", .fn 42), (Str.ofString "_law_LEADS", .fn 43), (Str.ofString "enumerate", .ty "enumerate"), (Str.ofString "_law_code", .fn 44), (Str.ofString "_law_ways", .fn 46), (Str.ofString "chr", .bi "chr"), (Str.ofString "Scanner", .cls 8), (Str.ofString "isinstance", .bi "isinstance"), (Str.ofString "StreamStartToken", .cls 1), (Str.ofString "ScalarToken", .cls 6), (Str.ofString "StreamEndToken", .cls 2)]
structure R47 where
  X : List Nat
  v : List Nat
  st : Nat
  gap : Bool
  hs : List O
  K : V
  N : V
  M : V
  C : V
  W : V
  D : V
noncomputable def F47 : Expr := wT (sAt (bodyN 47) 11)
noncomputable def B47 : List Stmt := wB (sAt (bodyN 47) 11)
noncomputable def B47a : List Stmt := B47.take 2
noncomputable def B47b : List Stmt := B47.drop 2
theorem B47_eq : B47a ++ B47b = B47 := List.take_append_drop 2 B47
section
variable {ns : List Int} {d t : Nat} {a0 : O} {hs : List O} {tot la : Int} {en pad lead : List Nat} {big : Bool} {tx va : List Nat} {st : Nat} {gap : Bool} {K N M C W D : V} {tape : List Int}
theorem part47a (E : Env3 en pad lead) {k j : Nat} {m : Int} (hM : okV M = true) (ht : hs[t]? = some (.list (tape.map V.int))) (hk : idx ((k : Int) - 1) (tape.map V.int).length = some j) (hj : (tape.map V.int)[j]? = some (.int m)) (hx : tx.length ≤ 900000) (ho : StOK st gap) :
    ∃ X st1 gap1, Goes en pad st gap X [] st1 gap1 ∧ X.length ≤ 6 ∧ ExsS (S ns) d B47a ⟨locL t tot la en pad lead big (sL tx) (sL va) st gap (.int (k : Int)) N M C W D, a0 :: hs⟩ .next ⟨locL t tot la en pad lead big (sL (tx ++ X)) (sL va) st1 gap1 (.int (k : Int)) N (.int m) C W D, a0 :: hs⟩ := by
  by_cases q : decide ((m.fdiv 7 + (k : Int)).fmod 5 = 4) = true
  · refine ⟨(92 :: en) ++ pad, 2, false, goes_line E, len_app (Nat.succ_le_succ (prt_en E.he).2) E.lp, ?_⟩
    have k1 : okL ((sL tx).cps.size + (Str.ofString "\\").cps.size) = true := big_ok hx (Nat.le_of_eq sz92)
    have k2 : okL ((sL tx ++ Str.ofString "\\").cps.size + en.length) = true := big_ok (b := 2) (a := 900001) (by rw [szA, sz92]; exact Nat.add_le_add_right hx 1) (prt_en E.he).2
    have k3 : okL (((sL tx ++ Str.ofString "\\") ++ sL en).cps.size + pad.length) = true := big_ok (b := 3) (a := 900003) (by rw [szA, szA, sz92]; exact Nat.add_le_add (Nat.add_le_add_right hx 1) (prt_en E.he).2) E.lp
    rw [show sL (tx ++ ((92 :: en) ++ pad)) = ((sL tx ++ Str.ofString "\\") ++ sL en) ++ sL pad from (catS4 tx [92] en pad).symm]
    exact Mine.ExsS.by [.v .ob (O.list (List.map V.int tape)), .v .nat (j), .v .val (V.int m), .t, .a 2, .t, .t, .t, .t, .a 3] (an ht (an hk (an hj (an (pl_t (u := M) (v := V.int m) (h := hM) (h2 := (by rfl))) (an q (an k1 (an k2 (an k3 trivial)))))))) (fun k e => by kernel_rfl)
  · have q := eq_false_of_ne_true q
    refine ⟨[], st, gap, ⟨AllP.nil, ho, fun _ _ _ h => h⟩, by decide, ?_⟩
    rw [List.append_nil]
    exact Mine.ExsS.by [.v .ob (O.list (List.map V.int tape)), .v .nat (j), .v .val (V.int m), .t, .a 2, .f] (an ht (an hk (an hj (an (pl_t (u := M) (v := V.int m) (h := hM) (h2 := (by rfl))) (an q trivial))))) (fun k e => by kernel_rfl)
theorem pick_ok' {x : Int} {n : Nat} (hn : 0 < n) (h9 : n ≤ 9) : ∃ j, j < n ∧ idx (x.fmod (n : Int)) n = some j ∧ decide ((n : Int) ≠ 0) = true := by
  refine (fmod_nat x n hn).elim fun j q => ⟨j, q.1, ?_, decide_eq_true fun e => absurd (Int.ofNat.inj e) (Nat.ne_of_gt hn)⟩
  rw [q.2]
  exact idx_ok q.1 (Nat.le_trans h9 (by decide))
theorem part47b (E : Env3 en pad lead) {n m : Int} (hC : okV C = true) (hW : okV W = true) (hD : okV D = true) (hx : tx.length ≤ 900000) (hv : va.length ≤ 900000) :
    ∃ r : R47, Goes en pad st gap r.X r.v r.st r.gap ∧ r.X.length ≤ 20 ∧ r.v.length = 1 ∧ Ext hs r.hs ∧ okV r.C = true ∧ okV r.W = true ∧ okV r.D = true ∧ ExsS (S ns) (d + 2) B47b ⟨locL t tot la en pad lead big (sL tx) (sL va) st gap K (.int n) (.int m) C W D, a0 :: hs⟩ .next ⟨locL t tot la en pad lead big (sL (tx ++ r.X)) (sL (va ++ r.v)) r.st r.gap K (.int n) (.int m) r.C r.W r.D, a0 :: r.hs⟩ := by
  refine (code44 (ns := ns) (d := d) (a0 := a0) (hs := hs) n).elim fun c q => q.elim fun hs1 q => ?_
  have ec := q.2.2
  refine el_2_6 (ways46 (ns := ns) (d := d) (a0 := a0) (hs := hs1) (st := st) (gap := gap) (big := big) E q.1) fun δ hs2 sy l9 n0 w2 x2 ew => ?_
  have hp : 0 < δ.length := List.length_pos_iff.mpr n0
  refine (pick_ok' (x := m + n.fdiv 40) hp l9).elim fun j p => ?_
  have lm : (δ.map wayV).length = δ.length := List.length_map ..
  have k0 : okL (δ.map wayV).length = true := by rw [lm]; exact okL_t (Nat.le_trans l9 (by decide))
  have ix : idx ((m + n.fdiv 40).fmod ((δ.map wayV).length : Int)) (δ.map wayV).length = some j := by rw [lm]; exact p.2.1
  have nz : decide (((δ.map wayV).length : Int) ≠ 0) = true := by rw [lm]; exact p.2.2
  have gj : δ[j]? = some δ[j] := List.getElem?_eq_getElem p.1
  have gv : (δ.map wayV)[j]? = some (wayV δ[j]) := by rw [List.getElem?_map, gj]; rfl
  have sv := sy _ (List.getElem_mem p.1)
  generalize δ[j]'p.1 = v at gv sv
  have k1 : okL (tx.length + v.1.length) = true := big_ok hx sv.len
  have k2 : okL (va.length + 1) = true := big_ok hv (Nat.le_refl 1)
  have hcN : decide (0 ≤ (c : Int) ∧ (c : Int) < 1114112) = true := decide_eq_true ⟨Int.natCast_nonneg c, Int.ofNat_lt.mpr q.1⟩
  refine ⟨⟨v.1, [c], v.2.1, v.2.2, hs2, .undef, .undef, .undef, .int (c : Int), .obj (hs1.length + 1), .str (sL v.1)⟩, sv.goes, sv.len, rfl, q.2.1.trans x2, rfl, rfl, rfl, ?_⟩
  show ExsS _ _ _ _ _ ⟨locL t tot la en pad lead big (sL (tx ++ v.1)) (sL (va ++ [c])) v.2.1 v.2.2 K (.int n) (.int m) (.int (c : Int)) (.obj (hs1.length + 1)) (.str (sL v.1)), a0 :: hs2⟩
  rw [show sL (tx ++ v.1) = sL tx ++ sL v.1 from (catS _ _).symm, show sL (va ++ [c]) = sL va ++ ⟨#[c]⟩ from (catS va [c]).symm]
  exact Mine.ExsS.by [.c (V.int (↑c : Int)) (a0 :: hs1), .t, .c (V.obj (List.length hs1 + 1)) (a0 :: hs2), .t, .a 1, .v .ob (O.list (List.map wayV δ)), .t, .t, .v .ob (O.list (List.map wayV δ)), .v .nat (j), .v .val (wayV v), .t, .a 2, .t, .a 1, .t, .t, .a 1] (an ec (an (pl_t (u := C) (v := V.int (↑c : Int)) (h := hC) (h2 := (by rfl))) (an ew (an (pl_t (u := W) (v := V.obj (List.length hs1 + 1)) (h := hW) (h2 := (by rfl))) (an w2 (an k0 (an nz (an w2 (an ix (an gv (an (pl_t (u := D) (v := V.str (Str.mk (List.toArray (Prod.fst v)))) (h := hD) (h2 := (by rfl))) (an k1 (an hcN (an k2 trivial)))))))))))))) (fun k e => by kernel_rfl)
end
end Mine
end
section
open PySem PySem.W PyProof.Rows
set_option Elab.async false
set_option linter.unusedVariables false
set_option linter.unusedSectionVars false
set_option maxRecDepth 100000
namespace Mine
theorem FrlS.next {S : Stat} {d : Nat} {t : Expr} {it : It} {j : Nat} {b : List Stmt} {s s1 s2 s' : St} {f : Fl} (is : List Item) {p : Prop} (hp : p) (e : ∀ k e, pick S is (frlF S (E S 40) d t it j b s k e) = (p, exs (E S 40) d b s1 (fun f s => turnF (frlN d t it (j + 1) b) f s k e) e)) (x : ExsS S d b s1 .next s2) (n : FrlS S d t it (j + 1) b s2 f s') : FrlS S d t it j b s f s' :=
  fun k e' o y => (pick_to hp (e k e') (x _ e' o ((n k e' o y).imp fun n h => h))).stp
theorem prev_ok {k n : Nat} (h : k < n) (hz : n ≤ 1000000) : ∃ j, j < n ∧ idx ((k : Int) - 1) n = some j := by
  cases k with
  | zero =>
    refine ⟨n - 1, Nat.sub_lt h (by decide), ?_⟩
    unfold idx
    rw [if_pos hz, if_neg (by decide), if_pos (by omega)]
    exact congrArg some (by omega)
  | succ k =>
    refine ⟨k, Nat.lt_of_succ_lt h, ?_⟩
    rw [show ((k + 1 : Nat) : Int) - 1 = (k : Int) by omega]
    exact idx_ok (Nat.lt_of_succ_lt h) hz
theorem ar1 {a x r : Nat} (h : a + (r + 26) ≤ 900000) (l : x ≤ 6) : (a + x) + (r + 20) ≤ 900000 := by omega
theorem ar2 {b y r : Nat} (h : b + (r + 20) ≤ 900000) (l : y ≤ 20) : b + y + r ≤ 900000 := by omega
theorem ar3 {x y z r : Nat} (h1 : x ≤ 6) (h2 : y ≤ 20) (h3 : z ≤ r) : x + (y + z) ≤ r + 26 := by omega
section
variable {ns : List Int} {d t : Nat} {a0 : O} {tot la : Int} {en pad lead : List Nat} {big : Bool} {tape : List Int}
theorem loop47 (E : Env3 en pad lead) (hz : tape.length ≤ 1000000) : ∀ {R A : List Int} {hs : List O} {tx va : List Nat} {st : Nat} {gap : Bool} {K N M C W D : V}, A ++ R = tape → hs[t]? = some (.list (tape.map V.int)) → tx.length + 26 * R.length ≤ 900000 → va.length + R.length ≤ 900000 → StOK st gap → okV K = true → okV N = true → okV M = true → okV C = true → okV W = true → okV D = true →
    ∃ r : R47, Goes en pad st gap r.X r.v r.st r.gap ∧ r.X.length ≤ 26 * R.length ∧ r.v.length ≤ R.length ∧ Ext hs r.hs ∧ FrlS (S ns) (d + 2) F47 (.list (t + 1) true) A.length B47 ⟨locL t tot la en pad lead big (sL tx) (sL va) st gap K N M C W D, a0 :: hs⟩ .next ⟨locL t tot la en pad lead big (sL (tx ++ r.X)) (sL (va ++ r.v)) r.st r.gap r.K r.N r.M r.C r.W r.D, a0 :: r.hs⟩ := by
  intro R
  induction R with
  | nil =>
    intro A hs tx va st gap K N M C W D e ht hx hv ho hK hN hM hC hW hD
    refine ⟨⟨[], [], st, gap, hs, K, N, M, C, W, D⟩, ⟨AllP.nil, ho, fun _ _ _ h => h⟩, Nat.le_refl _, Nat.le_refl _, Ext.refl hs, ?_⟩
    rw [List.append_nil] at e
    subst e
    show FrlS _ _ _ _ _ _ _ _ ⟨locL t tot la en pad lead big (sL (tx ++ [])) (sL (va ++ [])) st gap K N M C W D, a0 :: hs⟩
    rw [List.append_nil, List.append_nil]
    have hb : Nat.ble A.length (A.map V.int).length = true := Nat.ble_eq_true_of_le (by rw [List.length_map]; exact Nat.le_refl _)
    have hv : some ((A.map V.int)[A.length]?.map (wrp true A.length)) = some none := by rw [List.getElem?_eq_none (by rw [List.length_map]; exact Nat.le_refl _)]; rfl
    exact Mine.FrlS.by [.v .ob (O.list (List.map V.int A)), .t, .v .oval (none)] (an ht (an hb (an hv trivial))) (fun k e => by kernel_rfl)
  | cons n R ih =>
    intro A hs tx va st gap K N M C W D e ht hx hv ho hK hN hM hC hW hD
    have hl : A.length < tape.length := by rw [← e, List.length_append]; exact Nat.lt_add_of_pos_right (Nat.succ_pos _)
    have hb : Nat.ble A.length (tape.map V.int).length = true := Nat.ble_eq_true_of_le (by rw [List.length_map]; exact Nat.le_of_lt hl)
    have hg : tape[A.length]? = some n := by rw [← e, List.getElem?_append_right (Nat.le_refl _), Nat.sub_self]; rfl
    have hv2 : some ((tape.map V.int)[A.length]?.map (wrp true A.length)) = some (some (.tup [.int (A.length : Int), .int n])) := by rw [List.getElem?_map, hg]; rfl
    refine (prev_ok hl hz).elim fun j q => ?_
    have lm : (tape.map V.int).length = tape.length := List.length_map ..
    have gj : (tape.map V.int)[j]? = some (.int tape[j]) := by rw [List.getElem?_map, List.getElem?_eq_getElem q.1]; rfl
    generalize tape[j]'q.1 = m at gj
    have hR : 26 * (n :: R).length = 26 * R.length + 26 := rfl
    rw [hR] at hx
    have hx0 : tx.length ≤ 900000 := Nat.le_trans (Nat.le_add_right ..) hx
    have ha := part47a (ns := ns) (d := d + 2) (a0 := a0) (tot := tot) (la := la) (big := big) (va := va) (N := .int n) (C := C) (W := W) (D := D) (k := A.length) E hM ht (by rw [lm]; exact q.2) gj hx0 ho
    refine ha.elim fun X1 ha => ha.elim fun st1 ha => ha.elim fun gap1 ha => ?_
    have l1 := ha.2.1
    have hx1 : (tx ++ X1).length + (26 * R.length + 20) ≤ 900000 := by rw [List.length_append]; exact ar1 hx l1
    refine (part47b (ns := ns) (d := d) (t := t) (a0 := a0) (hs := hs) (tot := tot) (la := la) (big := big) (tx := tx ++ X1) (va := va) (st := st1) (gap := gap1) (K := .int (A.length : Int)) (n := n) (m := m) E hC hW hD (Nat.le_trans (Nat.le_add_right ..) hx1) (Nat.le_trans (Nat.le_add_right ..) hv)).elim fun r2 h2 => ?_
    refine (ih (A := A ++ [n]) (tx := (tx ++ X1) ++ r2.X) (va := va ++ r2.v) (st := r2.st) (gap := r2.gap) (K := .int (A.length : Int)) (N := .int n) (M := .int m) (C := r2.C) (W := r2.W) (D := r2.D) (by rw [List.append_assoc]; exact e) (h2.2.2.2.1.get ht) (by rw [List.length_append (bs := r2.X)]; exact ar2 hx1 h2.2.1) (by rw [List.length_append, Nat.add_assoc, h2.2.2.1, Nat.add_comm 1]; exact hv) h2.1.ok rfl rfl rfl h2.2.2.2.2.1 h2.2.2.2.2.2.1 h2.2.2.2.2.2.2.1).elim fun r3 h3 => ?_
    have e3 := h3.2.2.2.2
    rw [List.length_append, List.append_assoc va, List.append_assoc (tx ++ X1) r2.X r3.X, List.append_assoc tx X1 (r2.X ++ r3.X)] at e3
    refine ⟨⟨X1 ++ (r2.X ++ r3.X), r2.v ++ r3.v, r3.st, r3.gap, r3.hs, r3.K, r3.N, r3.M, r3.C, r3.W, r3.D⟩, ha.1.trans (h2.1.trans h3.1), ?_, ?_, h2.2.2.2.1.trans h3.2.2.2.1, ?_⟩
    · show (X1 ++ (r2.X ++ r3.X)).length ≤ _
      rw [List.length_append, List.length_append, hR]; exact ar3 l1 h2.2.1 h3.2.1
    · show (r2.v ++ r3.v).length ≤ _
      rw [List.length_append, h2.2.2.1, Nat.add_comm]; exact Nat.succ_le_succ h3.2.2.1
    · have x := ha.2.2.app h2.2.2.2.2.2.2.2
      rw [B47_eq] at x
      exact FrlS.next (s1 := ⟨locL t tot la en pad lead big (sL tx) (sL va) st gap (.int (A.length : Int)) (.int n) M C W D, a0 :: hs⟩) [.v .ob (O.list (List.map V.int tape)), .t, .v .oval (some (V.tup [V.int (A.length : Int), V.int n])), .t, .t] (an ht (an hb (an hv2 (an (pl_t (u := K) (v := V.int (A.length : Int)) (h := hK) (h2 := rfl)) (an (pl_t (u := N) (v := V.int n) (h := hN) (h2 := rfl)) trivial))))) (fun k e => by kernel_rfl) x e3
end
end Mine
end
section
open PySem PySem.W PyProof.Rows
set_option Elab.async false
set_option linter.unusedVariables false
set_option linter.unusedSectionVars false
set_option maxRecDepth 100000
namespace Mine
noncomputable abbrev locG (tp tot la en pad lead big tx va st gap K N M C W D sc op tk cl : V) : List (Str × V) :=
  [(Str.ofString "script", .sta 9), (Str.ofString "tape", tp), (Str.ofString "total", tot), (Str.ofString "last", la), (Str.ofString "end", en), (Str.ofString "pad", pad), (Str.ofString "lead", lead), (Str.ofString "big", big), (Str.ofString "text", tx), (Str.ofString "value", va), (Str.ofString "state", st), (Str.ofString "gap", gap), (Str.ofString "k", K), (Str.ofString "n", N), (Str.ofString "m", M), (Str.ofString "code", C), (Str.ofString "ways", W), (Str.ofString "said", D), (Str.ofString "scanner", sc), (Str.ofString "opened", op), (Str.ofString "token", tk), (Str.ofString "closed", cl), (Str.ofString "len", .bi "len"), (Str.ofString "_law_ENDS", .fn 41), (Str.ofString "_law_PADS", .fn 42), (Str.ofString "_law_LEADS", .fn 43), (Str.ofString "enumerate", .ty "enumerate"), (Str.ofString "_law_code", .fn 44), (Str.ofString "_law_ways", .fn 46), (Str.ofString "chr", .bi "chr"), (Str.ofString "Scanner", .cls 8), (Str.ofString "isinstance", .bi "isinstance"), (Str.ofString "StreamStartToken", .cls 1), (Str.ofString "ScalarToken", .cls 6), (Str.ofString "StreamEndToken", .cls 2)]
noncomputable def r47 (a n : Nat) : List Stmt := ((bodyN 47).drop a).take n
noncomputable abbrev tpV (ns : List Int) : List V := sliceL (ns.map V.int) 0 (min 18 (ns.map V.int).length)
theorem tpV_eq (ns : List Int) : tpV ns = (ns.take 18).map V.int := by
  show ((ns.map V.int).take (min 18 (ns.map V.int).length)).drop 0 = _
  rw [List.drop_zero, List.length_map, List.map_take]
  by_cases q : 18 ≤ ns.length
  · rw [Nat.min_eq_left q]
  · rw [Nat.min_eq_right (by omega), List.take_of_length_le (by rw [List.length_map]; exact Nat.le_refl _), List.take_of_length_le (by rw [List.length_map]; omega)]
section
variable {ns : List Int} {d : Nat} {a0 : O} {hs : List O}
theorem head47a (h63 : ns.length ≤ 63) : ∃ la : Int, ExsS (S ns) d (r47 0 3) ⟨locG .undef .undef .undef .undef .undef .undef .undef .undef .undef .undef .undef .undef .undef .undef .undef .undef .undef .undef .undef .undef .undef, a0 :: hs⟩ .next ⟨locG (.obj (hs.length + 1)) (.int ((ns.map V.int).length : Int)) (.int la) .undef .undef .undef .undef .undef .undef .undef .undef .undef .undef .undef .undef .undef .undef .undef .undef .undef .undef, a0 :: (hs ++ [O.list (tpV ns)])⟩ := by
  have hz : okL (ns.map V.int).length = true := lim9 (by rw [List.length_map]; exact Nat.le_trans h63 (by decide))
  have e := tpV_eq ns
  have l18 : (tpV ns).length ≤ 18 := by rw [e, List.length_map]; exact List.length_take_le ..
  have hs1 : okL (tpV ns).length = true := lim9 (Nat.le_trans l18 (by decide))
  by_cases q : (tpV ns).length = 0
  · have q0 : decide ((tpV ns).length ≠ 0) = false := decide_eq_false (fun w => w q)
    refine ⟨0, ?_⟩
    exact Mine.ExsS.by [.t, .a 1, .v .nat (min 18 (List.length (List.map V.int ns))), .a 1, .t, .a 1, .v .ob (O.list (sliceL (List.map V.int ns) 0 (min 18 (List.length (List.map V.int ns))))), .t, .f, .a 1] (an hz (an (bnd_nat (n := List.length (List.map V.int ns)) (k := 18) (d := List.length (List.map V.int ns))) (an hz (an (ga (l := hs) (o := O.list (sliceL (List.map V.int ns) 0 (min 18 (List.length (List.map V.int ns))))) (r := [])) (an hs1 (an q0 trivial)))))) (fun k e => by kernel_rfl)
  · have q0 : decide ((tpV ns).length ≠ 0) = true := decide_eq_true q
    have hj : (tpV ns).length - 1 < (tpV ns).length := Nat.sub_lt (Nat.pos_of_ne_zero q) (by decide)
    have ix : idx (-1) (tpV ns).length = some ((tpV ns).length - 1) := by
      unfold idx
      rw [if_pos (Nat.le_trans l18 (by decide)), if_neg (by decide), if_pos (by omega)]
      exact congrArg some (by omega)
    have gx : ∃ la : Int, (tpV ns)[(tpV ns).length - 1]? = some (.int la) := by
      rw [List.getElem?_eq_getElem hj]
      have m := List.getElem_mem hj
      generalize (tpV ns)[(tpV ns).length - 1] = v at m
      rw [e] at m
      exact (List.mem_map.mp m).elim fun a h => ⟨a, by rw [h.2]⟩
    refine gx.elim fun la gx => ⟨la, ?_⟩
    exact Mine.ExsS.by [.t, .a 1, .v .nat (min 18 (List.length (List.map V.int ns))), .a 1, .t, .a 1, .v .ob (O.list (sliceL (List.map V.int ns) 0 (min 18 (List.length (List.map V.int ns))))), .t, .t, .v .ob (O.list (sliceL (List.map V.int ns) 0 (min 18 (List.length (List.map V.int ns))))), .v .nat (List.length (tpV ns) - 1), .v .val (V.int la), .a 1] (an hz (an (bnd_nat (n := List.length (List.map V.int ns)) (k := 18) (d := List.length (List.map V.int ns))) (an hz (an (ga (l := hs) (o := O.list (sliceL (List.map V.int ns) 0 (min 18 (List.length (List.map V.int ns))))) (r := [])) (an hs1 (an q0 (an (ga (l := hs) (o := O.list (sliceL (List.map V.int ns) 0 (min 18 (List.length (List.map V.int ns))))) (r := [])) (an ix (an gx trivial))))))))) (fun k e => by kernel_rfl)
theorem pick_idx {α : Type} {x : Int} {n : Nat} {L : List α} (f : α → V) (hn : 0 < n) (hl : L.length = n) (h9 : n ≤ 9) : ∃ j v, idx (x.fmod (n : Int)) n = some j ∧ (L.map f)[j]? = some (f v) ∧ v ∈ L := by
  refine (pick_ok' (x := x) hn h9).elim fun j q => ?_
  have hj : j < L.length := by rw [hl]; exact q.1
  exact ⟨j, L[j], q.2.1, by rw [List.getElem?_map, List.getElem?_eq_getElem hj]; rfl, List.getElem_mem hj⟩
theorem pads_ok : ∀ p ∈ PADS, Blank p ∧ p.length ≤ 3 := by decide
theorem leads_ok : ∀ p ∈ LEADS, Blank p ∧ p.length ≤ 3 := by decide
theorem head47b {tp : V} {tot la : Int} : ∃ en pad lead big hs', Env3 en pad lead ∧ Ext hs hs' ∧ ExsS (S ns) (d + 1) (r47 3 8) ⟨locG tp (.int tot) (.int la) .undef .undef .undef .undef .undef .undef .undef .undef .undef .undef .undef .undef .undef .undef .undef .undef .undef .undef, a0 :: hs⟩ .next ⟨locG tp (.int tot) (.int la) (.str (sL en)) (.str (sL pad)) (.str (sL lead)) (.bool big) (.str (sL [34])) (.str (sL [])) (.int ((0 : Nat) : Int)) (.bool false) .undef .undef .undef .undef .undef .undef .undef .undef .undef .undef, a0 :: hs'⟩ := by
  refine (pick_idx (x := la) (n := 4) (L := ENDS) strV (by decide) rfl (by decide)).elim fun j1 q => q.elim fun en q1 => ?_
  refine (pick_idx (x := la.fdiv 4 + tot) (n := 4) (L := PADS) strV (by decide) rfl (by decide)).elim fun j2 q => q.elim fun pad q2 => ?_
  refine (pick_idx (x := la.fdiv 2 + tot) (n := 3) (L := LEADS) strV (by decide) rfl (by decide)).elim fun j3 q => q.elim fun lead q3 => ?_
  have i1 : idx (la.fmod 4) 4 = some j1 := q1.1
  have i2 : idx ((la.fdiv 4 + tot).fmod 4) 4 = some j2 := q2.1
  have i3 : idx ((la.fdiv 2 + tot).fmod 3) 3 = some j3 := q3.1
  have g1 := q1.2.1
  have g2 := q2.2.1
  have g3 := q3.2.1
  have p := pads_ok _ q2.2.2
  have l := leads_ok _ q3.2.2
  refine ⟨en, pad, lead, decide ((la.fdiv 3 + tot).fmod 2 = 1), _, ⟨q1.2.2, p.1, l.1, p.2, l.2⟩, ((Ext.app hs (o := .list (ENDS.map strV))).trans (Ext.app _ (o := .list (PADS.map strV)))).trans (Ext.app _ (o := .list (LEADS.map strV))), ?_⟩
  exact Mine.ExsS.by [.c (V.obj (List.length hs + 1)) (a0 :: (hs ++ [O.list (List.map strV ENDS)])), .a 1, .v .ob (O.list [V.str (Str.mk #[10]), V.str (Str.mk #[13, 10]), V.str (Str.mk #[13]), V.str (Str.mk #[133])]), .v .nat (j1), .v .val (strV en), .a 1, .c (V.obj (List.length (hs ++ [O.list [V.str (Str.mk #[10]), V.str (Str.mk #[13, 10]), V.str (Str.mk #[13]), V.str (Str.mk #[133])]]) + 1)) (a0 :: (hs ++ [O.list [V.str (Str.mk #[10]), V.str (Str.mk #[13, 10]), V.str (Str.mk #[13]), V.str (Str.mk #[133])]] ++ [O.list (List.map strV PADS)])), .a 2, .v .ob (O.list [V.str (Str.mk #[]), V.str (Str.mk #[32, 32]), V.str (Str.mk #[9]), V.str (Str.mk #[32, 9, 32])]), .v .nat (j2), .v .val (strV pad), .a 1, .c (V.obj (List.length (hs ++ [O.list [V.str (Str.mk #[10]), V.str (Str.mk #[13, 10]), V.str (Str.mk #[13]), V.str (Str.mk #[133])]] ++ [O.list [V.str (Str.mk #[]), V.str (Str.mk #[32, 32]), V.str (Str.mk #[9]), V.str (Str.mk #[32, 9, 32])]]) + 1)) (a0 :: (hs ++ [O.list [V.str (Str.mk #[10]), V.str (Str.mk #[13, 10]), V.str (Str.mk #[13]), V.str (Str.mk #[133])]] ++ [O.list [V.str (Str.mk #[]), V.str (Str.mk #[32, 32]), V.str (Str.mk #[9]), V.str (Str.mk #[32, 9, 32])]] ++ [O.list (List.map strV LEADS)])), .a 2, .v .ob (O.list [V.str (Str.mk #[]), V.str (Str.mk #[32]), V.str (Str.mk #[9, 32])]), .v .nat (j3), .v .val (strV lead), .a 8] (an (ends41 (ns := ns) (d := d) (a0 := a0) (hs := hs)) (an (ga (l := hs) (o := O.list [V.str (Str.mk #[10]), V.str (Str.mk #[13, 10]), V.str (Str.mk #[13]), V.str (Str.mk #[133])]) (r := [])) (an i1 (an g1 (an (pads42 (ns := ns) (d := d) (a0 := a0) (hs := hs ++ [O.list [V.str (Str.mk #[10]), V.str (Str.mk #[13, 10]), V.str (Str.mk #[13]), V.str (Str.mk #[133])]])) (an (ga (l := hs ++ [O.list [V.str (Str.mk #[10]), V.str (Str.mk #[13, 10]), V.str (Str.mk #[13]), V.str (Str.mk #[133])]]) (o := O.list [V.str (Str.mk #[]), V.str (Str.mk #[32, 32]), V.str (Str.mk #[9]), V.str (Str.mk #[32, 9, 32])]) (r := [])) (an i2 (an g2 (an (leads43 (ns := ns) (d := d) (a0 := a0) (hs := hs ++ [O.list [V.str (Str.mk #[10]), V.str (Str.mk #[13, 10]), V.str (Str.mk #[13]), V.str (Str.mk #[133])]] ++ [O.list [V.str (Str.mk #[]), V.str (Str.mk #[32, 32]), V.str (Str.mk #[9]), V.str (Str.mk #[32, 9, 32])]])) (an (ga (l := hs ++ [O.list [V.str (Str.mk #[10]), V.str (Str.mk #[13, 10]), V.str (Str.mk #[13]), V.str (Str.mk #[133])]] ++ [O.list [V.str (Str.mk #[]), V.str (Str.mk #[32, 32]), V.str (Str.mk #[9]), V.str (Str.mk #[32, 9, 32])]]) (o := O.list [V.str (Str.mk #[]), V.str (Str.mk #[32]), V.str (Str.mk #[9, 32])]) (r := [])) (an i3 (an g3 trivial)))))))))))) (fun k e => by kernel_rfl)
end
end Mine
end
section
open PySem PySem.W PyProof.Rows
set_option Elab.async false
set_option linter.unusedVariables false
set_option linter.unusedSectionVars false
set_option maxRecDepth 100000
namespace Mine
theorem row_pad {pad r : List Nat} (hp : Blank pad) : RowC pad [] (34 :: r) := RowC.stop hp (by decide) (by decide) (by
  cases pad with
  | nil => exact fun a ha => by rw [← Option.some.inj ha]; decide
  | cons y p => exact ok_bb (u' := p ++ _) rfl (.inl (hp y (.head _))))
theorem pp_end {en pad r : List Nat} (hp : Blank pad) (st : Nat) (gap : Bool) : PP en pad r st gap [] [] := by
  refine ⟨fun _ h => (nomatch h), ?_⟩
  match st, gap with
  | 0, false => exact Txt2.quote
  | 0, true => exact fun ws h0 hws => Tl.blank (u := r) (x1 := []) (t1 := []) (x2 := []) (t2 := []) (c := 34) h0 hws rfl (by decide) (by decide) (by decide) (NSR.stop clean0 (by decide) (by decide) (by decide)) .quote
  | 1, _ => exact ⟨row_pad hp, Txt2.quote⟩
  | n + 2, _ => exact ⟨pad, [], [], [], rfl, rfl, row_pad hp, Txt2.quote⟩
section
variable {ns : List Int} {d : Nat} {a0 : O} {hs hs' : List O} {en pad lead : List Nat} {tx va : List Nat} {st : Nat} {gap : Bool} {tp la K N M C W D big v : V} {tot : Int}
theorem row11 {t : Nat} {l : List V} {lai : Int} {b : Bool} {s' : St} (ht : hs[t]? = some (.list l)) (e : FrlS (S ns) d F47 (.list (t + 1) true) 0 B47 ⟨locL t tot lai en pad lead b (sL tx) (sL va) st gap .undef .undef .undef .undef .undef .undef, a0 :: hs⟩ .next s') : ExsS (S ns) d (r47 11 1) ⟨locL t tot lai en pad lead b (sL tx) (sL va) st gap .undef .undef .undef .undef .undef .undef, a0 :: hs⟩ .next s' := by
  exact Mine.ExsS.by [.v .ob (O.list l), .w (Fl.next) (s')] (an ht (an e trivial)) (fun k e => by kernel_rfl)
theorem tail47 (E : Env3 en pad lead) (hx : tx.length ≤ 900000) : ∃ u, AllP u ∧ u.length ≤ 6 ∧ (∀ r, PP en pad r st gap u []) ∧ ExsS (S ns) d (r47 12 2) ⟨locG tp (.int tot) la (.str (sL en)) (.str (sL pad)) v big (.str (sL tx)) (.str (sL va)) (.int (st : Int)) (.bool gap) K N M C W D .undef .undef .undef .undef, a0 :: hs⟩ .next ⟨locG tp (.int tot) la (.str (sL en)) (.str (sL pad)) v big (.str (sL ((tx ++ u) ++ [34]))) (.str (sL va)) (.int (st : Int)) (.bool gap) K N M C W D .undef .undef .undef .undef, a0 :: hs⟩ := by
  have l34 : (Str.ofString "\"").cps.size = 1 := by decide +kernel
  by_cases q : decide (tot.fmod 3 = 2) = true
  · refine ⟨(92 :: en) ++ pad, (goes_line (st := st) (gap := gap) E).prt, len_app (Nat.succ_le_succ (prt_en E.he).2) E.lp, fun r => ?_, ?_⟩
    · have h := (goes_line (st := st) (gap := gap) E).back r [] [] (pp_end E.hp 2 false)
      rw [List.append_nil] at h
      exact h
    · have k1 : okL ((sL tx).cps.size + (Str.ofString "\\").cps.size) = true := big_ok hx (Nat.le_of_eq sz92)
      have k2 : okL ((sL tx ++ Str.ofString "\\").cps.size + en.length) = true := big_ok (b := 2) (a := 900001) (by rw [szA, sz92]; exact Nat.add_le_add_right hx 1) (prt_en E.he).2
      have k3 : okL (((sL tx ++ Str.ofString "\\") ++ sL en).cps.size + pad.length) = true := big_ok (b := 3) (a := 900003) (by rw [szA, szA, sz92]; exact Nat.add_le_add (Nat.add_le_add_right hx 1) (prt_en E.he).2) E.lp
      have k4 : okL ((((sL tx ++ Str.ofString "\\") ++ sL en) ++ sL pad).cps.size + (Str.ofString "\"").cps.size) = true := big_ok (b := 1) (a := 900006) (by rw [szA, szA, szA, sz92]; exact Nat.add_le_add (Nat.add_le_add (Nat.add_le_add_right hx 1) (prt_en E.he).2) E.lp) (Nat.le_of_eq l34)
      rw [show sL ((tx ++ ((92 :: en) ++ pad)) ++ [34]) = (((sL tx ++ Str.ofString "\\") ++ sL en) ++ sL pad) ++ Str.ofString "\"" from (catS _ [34]).symm.trans (congrArg (· ++ Str.ofString "\"") (catS4 tx [92] en pad).symm)]
      exact Mine.ExsS.by [.a 1, .t, .t, .t, .t, .a 1, .t, .a 1] (an q (an k1 (an k2 (an k3 (an k4 trivial))))) (fun k e => by kernel_rfl)
  · have q := eq_false_of_ne_true q
    refine ⟨[], AllP.nil, by decide, fun r => pp_end E.hp st gap, ?_⟩
    have k4 : okL ((sL tx).cps.size + (Str.ofString "\"").cps.size) = true := big_ok (b := 1) hx (Nat.le_of_eq l34)
    rw [List.append_nil, show sL (tx ++ [34]) = sL tx ++ Str.ofString "\"" from (catS _ [34]).symm]
    exact Mine.ExsS.by [.a 1, .f, .t, .a 1] (an q (an k4 trivial)) (fun k e => by kernel_rfl)
end
end Mine
end
section
open PySem PySem.W PyProof.Rows
set_option Elab.async false
set_option linter.unusedVariables false
set_option linter.unusedSectionVars false
set_option maxRecDepth 100000
namespace Mine
noncomputable def COMM : List Nat := [32, 35, 32, 110, 111, 34, 10]
theorem prt_comm : AllP COMM := fun y hy => (by decide : ∀ y ∈ COMM, y ∈ [9, 10, 13, 133] ∨ (32 ≤ y ∧ y ≤ 126)) y hy |>.elim .inl fun h => .inr (.inl h)
theorem prt_34 : Prt 34 := .inr (.inl (by decide))
section
variable {ns : List Int} {d : Nat} {hs : List O} {x vv : List Nat} {tp tot la en pad lead big st gap K N M C W D : V}
noncomputable abbrev txtL (x : List Nat) : List Nat := 34 :: (x ++ [34])
theorem start47 {L : List Nat} (hL : AllP L) (hz : L.length + 1 ≤ lim) (nf : NoFro hs) : ∃ σ h1, σ.ask = true ∧ σ.dn = false ∧ σ.ix = 0 ∧ Rd σ (L ++ [0]) ∧ Full h1 σ [startV (L ++ [0])] [] ∧ CallS (S ns) (d + 4) 14 [.obj 0, .str ⟨L.toArray⟩] [] (.inst 8 [] :: hs) .none (scO σ :: h1) :=
  ⟨_, _, rfl, rfl, rfl, ⟨rfl, by show (L ++ [0]).length ≤ lim; rw [List.length_append]; exact hz⟩, full0 nf, init14 hL hz⟩
theorem end47 (hx : Txt2 x vv (32 :: (35 :: [32, 110, 111, 34] ++ 10 :: 0 :: []))) (hp : AllP x) (hl : x.length ≤ 900100) (nf : NoFro hs) :
    ∃ l' h', ExsS (S ns) (d + 10) (r47 14 6) ⟨locG tp tot la en pad lead big (.str (sL (txtL x))) (.str (sL vv)) st gap K N M C W D .undef .undef .undef .undef, .void :: hs⟩ (.ret (.bool true)) ⟨l', h'⟩ := by
  have hL : AllP (txtL x ++ COMM) := (AllP.cons prt_34 (hp.app (AllP.cons prt_34 .nil))).app prt_comm
  have lt : (txtL x).length = x.length + 2 := by show (x ++ [34]).length + 1 = _; rw [List.length_append]; rfl
  have hz : (txtL x ++ COMM).length + 1 ≤ lim := by rw [List.length_append, lt]; exact Nat.le_trans (Nat.add_le_add_right (Nat.add_le_add_right (Nat.add_le_add_right hl 2) 7) 1) (by decide)
  refine el_2_6 (start47 (ns := ns) (d := d + 5) (hs := hs) hL hz nf) fun σ h1 ha hd hi rd f0 e0 => ?_
  rw [show (⟨(txtL x ++ COMM).toArray⟩ : Str) = sL (txtL x) ++ Str.ofString " # no\"\n" from (catS _ COMM).symm.trans (congrArg (sL (txtL x) ++ ·) (by decide +kernel))] at e0
  have rd : Rd σ (34 :: (x ++ 34 :: (32 :: (35 :: [32, 110, 111, 34] ++ 10 :: 0 :: [])))) := rd.as (by show 34 :: (((x ++ [34]) ++ COMM) ++ [0]) = _; rw [List.append_assoc, List.append_assoc]; rfl)
  refine el_1_2 (get1 (ns := ns) (d := d + 6) f0 hd) fun h2 f1 e1 => ?_
  refine (tokens (ns := ns) (d := d) (σ := took σ) hx (by decide) ⟨rd.at_, rd.z⟩ f1 ha hd).elim fun σ1 q => q.elim fun h3 q => q.elim fun σ2 q => q.elim fun h4 q => q.elim fun κ q => ?_
  have e2 := q.1
  have e3 := q.2.1
  have e4 := q.2.2
  have k1 : okL ((sL (txtL x)).cps.size + (Str.ofString " # no\"\n").cps.size) = true := big_ok (a := 900102) (b := 7) (by show (txtL x).length ≤ _; rw [lt]; exact Nat.add_le_add_right hl 2) (by decide +kernel)
  have k2 : okL (txtL x).length = true := okL_t (by rw [lt]; exact Nat.le_trans (Nat.add_le_add_right hl 2) (by decide))
  have v1 : decide ((sL vv) = sL vv) = true := decide_eq_true rfl
  have v2 : decide (((took σ).ix : Int) = 0) = true := ix_t hi
  have v3 : decide (((aft x (took σ)).ix : Int) = ((sL (txtL x)).cps.size : Int)) = true := decide_eq_true (congrArg Int.ofNat (by show σ.ix + (x.length + 2) = (txtL x).length; rw [hi, lt, Nat.zero_add]))
  refine ⟨locG tp tot la en pad lead big (.str (sL (txtL x))) (.str (sL vv)) st gap K N M C W D (.obj 0) (startV (txtL x ++ COMM ++ [0])) (tokV x vv (took σ)) (endV κ), scO σ2 :: h4, ?_⟩
  rw [← v3]
  exact Mine.ExsS.by [.t, .c (V.none) (scO σ :: h1), .a 1, .c (startV (txtL x ++ COMM ++ [0])) (scO (took σ) :: h2), .a 1, .c (tokV x vv (took σ)) (scO σ1 :: h3), .a 1, .c (endV κ) (scO σ2 :: h4), .a 4, .c (V.none) (scO σ2 :: h4), .a 2, .t, .a 2, .t, .t] (an k1 (an e0 (an e1 (an e2 (an e3 (an e4 (an v1 (an v2 (an k2 trivial))))))))) (fun k e => by kernel_rfl)
end
end Mine
end
section
open PySem PySem.W PyProof.Rows
set_option Elab.async false
set_option linter.unusedVariables false
set_option linter.unusedSectionVars false
set_option maxRecDepth 100000
namespace Mine
theorem law47 {ns : List Int} (h63 : ns.length ≤ 63) : ∃ h', CallS (S ns) 16 47 [.sta 9] [] [.void] (.bool true) h' := by
  have l18 : (ns.take 18).length ≤ 18 := List.length_take_le ..
  refine (head47a (ns := ns) (d := 16) (a0 := .void) (hs := []) h63).elim fun la e1 => ?_
  refine (head47b (ns := ns) (d := 15) (a0 := .void) (hs := [] ++ [O.list (tpV ns)]) (tp := .obj 1) (tot := ((ns.map V.int).length : Int)) (la := la)).elim fun en q => q.elim fun pad q => q.elim fun lead q => q.elim fun big q => q.elim fun hs2 q => ?_
  have E := q.1
  have ht : hs2[0]? = some (.list ((ns.take 18).map V.int)) := by rw [← tpV_eq]; exact q.2.1.get rfl
  have e2 := q.2.2
  refine (loop47 (ns := ns) (d := 14) (t := 0) (a0 := .void) (tot := ((ns.map V.int).length : Int)) (la := la) (big := big) E (Nat.le_trans l18 (by decide)) (R := ns.take 18) (A := []) (hs := hs2) (tx := [34]) (va := []) (st := 0) (gap := false) (K := .undef) (N := .undef) (M := .undef) (C := .undef) (W := .undef) (D := .undef) rfl ht (Nat.le_trans (Nat.add_le_add_left (Nat.mul_le_mul_left 26 l18) 1) (by decide)) (Nat.le_trans (Nat.add_le_add_left l18 0) (by decide)) (ok0 _) rfl rfl rfl rfl rfl rfl).elim fun r hr => ?_
  have e3 := row11 (ns := ns) (d := 16) (a0 := .void) (tx := [34]) (va := []) (st := 0) (gap := false) ht hr.2.2.2.2
  have lX : r.X.length ≤ 468 := Nat.le_trans hr.2.1 (Nat.mul_le_mul_left 26 l18)
  refine (tail47 (ns := ns) (d := 16) (a0 := .void) (hs := r.hs) (tx := [34] ++ r.X) (va := [] ++ r.v) (st := r.st) (gap := r.gap) (tp := .obj 1) (la := .int la) (tot := ((ns.map V.int).length : Int)) (v := .str (sL lead)) (big := .bool big) (K := r.K) (N := r.N) (M := r.M) (C := r.C) (W := r.W) (D := r.D) E (Nat.le_trans (len_app (Nat.le_refl 1) lX) (by decide))).elim fun u w => ?_
  have e4 := w.2.2.2
  have hx := (hr.1.back (32 :: (35 :: [32, 110, 111, 34] ++ 10 :: 0 :: [])) u [] (w.2.2.1 _)).pt
  rw [List.append_nil] at hx
  have nf : NoFro r.hs := hr.2.2.2.1.2.2 (q.2.1.2.2 rfl)
  refine (end47 (ns := ns) (d := 6) (hs := r.hs) (x := r.X ++ u) (vv := r.v) (tp := .obj 1) (tot := .int ((ns.map V.int).length : Int)) (la := .int la) (en := .str (sL en)) (pad := .str (sL pad)) (lead := .str (sL lead)) (big := .bool big) (st := .int (r.st : Int)) (gap := .bool r.gap) (K := r.K) (N := r.N) (M := r.M) (C := r.C) (W := r.W) (D := r.D) hx (hr.1.prt.app w.1) (Nat.le_trans (len_app lX w.2.1) (by decide)) nf).elim fun l' y => y.elim fun h' e5 => ?_
  exact ⟨h', CallS.rows (fun k e => by kernel_rfl) (e1.app (e2.app (e3.app (e4.app e5))))⟩
end Mine
end
section
open PySem PySem.W PySem.Calls PyProof.Rows
set_option maxRecDepth 100000
set_option maxHeartbeats 8000000
namespace Mine
theorem t03.tw10009564603823139957 : True := trivial
theorem t03.tw10016756301903653247 : True := trivial
theorem t03.tw10021546057752401710 : True := trivial
theorem t03.tw10029056920167331916 : True := trivial
theorem t03.tw10030635658519687262 : True := trivial
theorem t03.tw10040508638509235253 : True := trivial
theorem t03.tw10042951595423487299 : True := trivial
theorem t03.tw10050957584506531173 : True := trivial
theorem t03.tw10051199244198004685 : True := trivial
theorem t03.tw10064121735741796906 : True := trivial
theorem t03.tw10099404534113271137 : True := trivial
theorem t03.tw10104950669322916646 : True := trivial
theorem t03.tw10119133847236276195 : True := trivial
theorem t03.tw10120644033417033613 : True := trivial
theorem t03.tw10120679950007139827 : True := trivial
theorem t03.tw10123153239894294443 : True := trivial
theorem t03.tw10133705516127841693 : True := trivial
theorem t03.tw1013995328516736639 : True := trivial
theorem t03.tw10141617659314066521 : True := trivial
theorem t03.tw10141779096867260716 : True := trivial
theorem t03.tw10152025515890385655 : True := trivial
theorem t03.tw10161932829298113702 : True := trivial
theorem t03.tw10163088235965979849 : True := trivial
theorem t03.tw10168274003080309244 : True := trivial
theorem t03.tw10170951372106079399 : True := trivial
theorem t03.tw10185945366157537220 : True := trivial
theorem t03.tw10189040749361279270 : True := trivial
theorem t03.tw10200789304864600837 : True := trivial
theorem t03.tw10214206927267934339 : True := trivial
theorem t03.tw10241066888028715931 : True := trivial
theorem t03.tw10256216840886490925 : True := trivial
theorem t03.tw10274838904012444770 : True := trivial
theorem t03.tw10275449317068813269 : True := trivial
theorem t03.tw10294056791943202445 : True := trivial
theorem t03.tw10299382038604626745 : True := trivial
theorem t03.tw10302832749842841674 : True := trivial
theorem t03.tw10308699589900250200 : True := trivial
theorem t03.tw10311840154909297548 : True := trivial
theorem t03.tw10314305549166506518 : True := trivial
theorem t03.tw1031569287790813216 : True := trivial
theorem t03.tw10315834690497948430 : True := trivial
theorem t03.tw1032690741403069736 : True := trivial
theorem t03.tw10357163901598765611 : True := trivial
theorem t03.tw10378049334541288997 : True := trivial
theorem t03.tw10379158706219983783 : True := trivial
theorem t03.tw10384087146926112073 : True := trivial
theorem t03.tw10384880726156248317 : True := trivial
theorem t03.tw10396767994084590721 : True := trivial
theorem t03.tw10400235805875863312 : True := trivial
theorem t03.tw10406170053369056901 : True := trivial
theorem t03.tw10408070546715862368 : True := trivial
theorem t03.tw10422476459213544171 : True := trivial
theorem t03.tw10427176278786267587 : True := trivial
theorem t03.tw10436943280999588518 : True := trivial
theorem t03.tw10445792843168440634 : True := trivial
theorem t03.tw10451630018248745637 : True := trivial
theorem t03.tw10458017917036963467 : True := trivial
theorem t03.tw10462261635500376612 : True := trivial
theorem t03.tw10473146560130738101 : True := trivial
theorem t03.tw10481215709668189601 : True := trivial
theorem t03.tw10510232030376980330 : True := trivial
theorem t03.tw10514663533214056521 : True := trivial
theorem t03.tw10520639012006370621 : True := trivial
theorem t03.tw10539617659286440862 : True := trivial
theorem t03.tw10558855031923151986 : True := trivial
theorem t03.tw10559805402316460827 : True := trivial
theorem t03.tw10568055870461170784 : True := trivial
theorem t03.tw10584678912454264154 : True := trivial
theorem t03.tw10586235984923138300 : True := trivial
theorem t03.tw10588475004509355889 : True := trivial
theorem t03.tw10590709540042706251 : True := trivial
theorem t03.tw10596318141664902297 : True := trivial
theorem t03.tw10654229837174905954 : True := trivial
theorem t03.tw10658304157694239384 : True := trivial
theorem t03.tw10658855551734034092 : True := trivial
theorem t03.tw10686449817655256851 : True := trivial
theorem t03.tw10691861789719087777 : True := trivial
theorem t03.tw10724748886810757219 : True := trivial
theorem t03.tw10743355537939121307 : True := trivial
theorem t03.tw10767407107844940967 : True := trivial
theorem t03.tw10788383674010558236 : True := trivial
theorem t03.tw10806965989513374721 : True := trivial
theorem t03.tw10813839207308850773 : True := trivial
theorem t03.tw10821953326376261817 : True := trivial
theorem t03.tw10834847809274446802 : True := trivial
theorem t03.tw10836983053771842689 : True := trivial
theorem t03.tw10842331575945337458 : True := trivial
theorem t03.tw10847036940677430177 : True := trivial
theorem t03.tw10853677309843652025 : True := trivial
theorem t03.tw10858671678535664032 : True := trivial
theorem t03.tw10865625918042202528 : True := trivial
theorem t03.tw10871196411574357318 : True := trivial
theorem t03.tw10880584848784794410 : True := trivial
theorem t03.tw10883201486286369154 : True := trivial
theorem t03.tw10889291596558009901 : True := trivial
theorem t03.tw10890212524902900879 : True := trivial
theorem t03.tw10907057300631858724 : True := trivial
theorem t03.tw10918985131708267512 : True := trivial
theorem t03.tw10934748965282104043 : True := trivial
theorem t03.tw10942730272799209390 : True := trivial
theorem t03.tw10956177338522099155 : True := trivial
theorem t03.tw10959643541498773231 : True := trivial
theorem t03.tw10974484343691457781 : True := trivial
theorem t03.tw10976726789749298730 : True := trivial
theorem t03.tw10977607040864043829 : True := trivial
theorem t03.tw11003950563642304879 : True := trivial
theorem t03.tw11009299820920864054 : True := trivial
theorem t03.tw11038017732325807470 : True := trivial
theorem t03.tw11048195373990639173 : True := trivial
theorem t03.tw11051417798686306187 : True := trivial
theorem t03.tw11074263214001326944 : True := trivial
theorem t03.tw11109390534630928197 : True := trivial
theorem t03.tw11143114465911521061 : True := trivial
theorem t03.tw11146571433693496250 : True := trivial
theorem t03.tw11146853337468721987 : True := trivial
theorem t03.tw11178379196661975045 : True := trivial
theorem t03.tw11186497258639041415 : True := trivial
theorem t03.tw11188041011916349996 : True := trivial
theorem t03.tw11213909287397071457 : True := trivial
theorem t03.tw1122742277203702270 : True := trivial
theorem t03.tw11244940232580504316 : True := trivial
theorem t03.tw11252622312223645397 : True := trivial
theorem t03.tw11260125079964065408 : True := trivial
theorem t03.tw11268815448413745798 : True := trivial
theorem t03.tw11281504668524947042 : True := trivial
theorem t03.tw11329445298493895828 : True := trivial
theorem t03.tw11343826928520850018 : True := trivial
theorem t03.tw11345902640387351210 : True := trivial
theorem t03.tw11364533051668398493 : True := trivial
theorem t03.tw11366034930330551699 : True := trivial
theorem t03.tw11367749015969365120 : True := trivial
theorem t03.tw11402369144592045383 : True := trivial
theorem t03.tw11405345441503031835 : True := trivial
theorem t03.tw11410162137377843354 : True := trivial
theorem t03.tw11422104133476673253 : True := trivial
theorem t03.tw11428961705703980530 : True := trivial
theorem t03.tw11441532879016662652 : True := trivial
theorem t03.tw11459122483158654761 : True := trivial
theorem t03.tw11475936426763049633 : True := trivial
theorem t03.tw11482438784054625417 : True := trivial
theorem t03.tw11488887272452104644 : True := trivial
theorem t03.tw11509510156015574607 : True := trivial
theorem t03.tw11513785639379897903 : True := trivial
theorem t03.tw1152404270337693614 : True := trivial
theorem t03.tw11528425179413267429 : True := trivial
theorem t03.tw11535278707195531021 : True := trivial
theorem t03.tw1153529758409296964 : True := trivial
theorem t03.tw11554455124597834864 : True := trivial
theorem t03.tw11563750370454849969 : True := trivial
theorem t03.tw11563905879045984300 : True := trivial
theorem t03.tw11576690428225252968 : True := trivial
theorem t03.tw11603065095155697066 : True := trivial
theorem t03.tw11605997381826531873 : True := trivial
theorem t03.tw11631978725397107057 : True := trivial
theorem t03.tw11643463808684672034 : True := trivial
theorem t03.tw11668083094551977257 : True := trivial
theorem t03.tw11682265356263523201 : True := trivial
theorem t03.tw11687103777892245216 : True := trivial
theorem t03.tw11692121004375872280 : True := trivial
theorem t03.tw11703046487542844631 : True := trivial
theorem t03.tw11706586091636535480 : True := trivial
theorem t03.tw11713091520812386388 : True := trivial
theorem t03.tw11717898719175777231 : True := trivial
theorem t03.tw11720859344660182699 : True := trivial
theorem t03.tw11744863060797108113 : True := trivial
theorem t03.tw11748264951393976127 : True := trivial
theorem t03.tw11772917918250517234 : True := trivial
theorem t03.tw11779368228993114493 : True := trivial
theorem t03.tw11782409627109685302 : True := trivial
theorem t03.tw11782480833727070179 : True := trivial
theorem t03.tw11788561363738280175 : True := trivial
theorem t03.tw11798378624776822831 : True := trivial
theorem t03.tw11799373466912102061 : True := trivial
theorem t03.tw11802261951715030431 : True := trivial
theorem t03.tw11802624353859787956 : True := trivial
theorem t03.tw11803216511930224322 : True := trivial
theorem t03.tw11826196256432925454 : True := trivial
theorem t03.tw11828758084427785441 : True := trivial
theorem t03.tw11834802024466449245 : True := trivial
theorem t03.tw118354531907107276 : True := trivial
theorem t03.tw11838347011945686021 : True := trivial
theorem t03.tw11852714648982967139 : True := trivial
theorem t03.tw11862966359663397737 : True := trivial
theorem t03.tw11865207726391774330 : True := trivial
theorem t03.tw11866425974474006707 : True := trivial
theorem t03.tw11869110834754582675 : True := trivial
theorem t03.tw1187264327020398148 : True := trivial
theorem t03.tw11880823950489348119 : True := trivial
theorem t03.tw11892481122721024672 : True := trivial
theorem t03.tw1189496409023967017 : True := trivial
theorem t03.tw11901828778161256731 : True := trivial
theorem t03.tw11923450154617819508 : True := trivial
theorem t03.tw11940030627815577902 : True := trivial
theorem t03.tw11942893691177081119 : True := trivial
theorem t03.tw11961309934351355182 : True := trivial
theorem t03.tw11962541979132484193 : True := trivial
theorem t03.tw11967746155846110166 : True := trivial
theorem t03.tw11970909444816866551 : True := trivial
theorem t03.tw11992389863648340730 : True := trivial
theorem t03.tw11995956175111869320 : True := trivial
theorem t03.tw12001938778062171812 : True := trivial
theorem t03.tw12018565227820407008 : True := trivial
theorem t03.tw12025647091366359449 : True := trivial
theorem t03.tw12062443993745920817 : True := trivial
theorem t03.tw12072086763537364775 : True := trivial
theorem t03.tw12083926622516182785 : True := trivial
theorem t03.tw12087597768485693677 : True := trivial
theorem t03.tw12098779168229830539 : True := trivial
theorem t03.tw12111513106592158256 : True := trivial
theorem t03.tw12113087522335915162 : True := trivial
theorem t03.tw12114438601203090933 : True := trivial
theorem t03.tw12130580090332339715 : True := trivial
theorem t03.tw12132240610703485179 : True := trivial
theorem t03.tw12139053665779735734 : True := trivial
theorem t03.tw12139847125673515300 : True := trivial
theorem t03.tw12144087880266217619 : True := trivial
theorem t03.tw12170952792380126346 : True := trivial
theorem t03.tw12187622517226431265 : True := trivial
theorem t03.tw12189818164597507110 : True := trivial
theorem t03.tw12194175656457610664 : True := trivial
theorem t03.tw12206695900227467515 : True := trivial
theorem t03.tw12213356955380699420 : True := trivial
theorem t03.tw12230953831806750875 : True := trivial
theorem t03.tw12248956554658458741 : True := trivial
theorem t03.tw12258886583334198435 : True := trivial
theorem t03.tw12267710580792180616 : True := trivial
theorem t03.tw12267754800081607462 : True := trivial
theorem t03.tw12276519231284347001 : True := trivial
theorem t03.tw1228977838087974064 : True := trivial
theorem t03.tw12317087150735376085 : True := trivial
theorem t03.tw12318255312864954286 : True := trivial
theorem t03.tw12329858225982197417 : True := trivial
theorem t03.tw12345497177821742127 : True := trivial
theorem t03.tw123462946300919074 : True := trivial
theorem t03.tw12365013122055701226 : True := trivial
theorem t03.tw12365758746004870678 : True := trivial
theorem t03.tw12369668056553966957 : True := trivial
theorem t03.tw12391558759394264314 : True := trivial
theorem t03.tw12399653667907739831 : True := trivial
theorem t03.tw12412070896309758941 : True := trivial
theorem t03.tw12421572677058734385 : True := trivial
theorem t03.tw12426749528132528319 : True := trivial
theorem t03.tw12430384813945431479 : True := trivial
theorem t03.tw12449295751471209535 : True := trivial
theorem t03.tw12454271600587266367 : True := trivial
theorem t03.tw12461685017225890558 : True := trivial
theorem t03.tw12475798641745692174 : True := trivial
theorem t03.tw12491494574597028437 : True := trivial
theorem t03.tw12535892605838918232 : True := trivial
theorem t03.tw12536547647424288796 : True := trivial
theorem t03.tw12546175297898253158 : True := trivial
theorem t03.tw12548434338119102576 : True := trivial
theorem t03.tw12553279944873050576 : True := trivial
theorem t03.tw12560623323470245977 : True := trivial
theorem t03.tw12571806601084313238 : True := trivial
theorem t03.tw12574168381265605093 : True := trivial
theorem t03.tw12592580809620867274 : True := trivial
theorem t03.tw12601896313947489959 : True := trivial
theorem t03.tw12611009534925977616 : True := trivial
theorem t03.tw12656951949088442152 : True := trivial
theorem t03.tw12672192909986573512 : True := trivial
theorem t03.tw12682938050255137228 : True := trivial
theorem t03.tw12691101661519672595 : True := trivial
theorem t03.tw12694773598178634146 : True := trivial
theorem t03.tw12729436937820818974 : True := trivial
theorem t03.tw12729538805148442567 : True := trivial
theorem t03.tw12735524395864979885 : True := trivial
theorem t03.tw12735693174964480437 : True := trivial
theorem t03.tw12738136534654218475 : True := trivial
theorem t03.tw12771699245968575512 : True := trivial
theorem t03.tw12774780315590965537 : True := trivial
theorem t03.tw12800117424461858509 : True := trivial
theorem t03.tw12801503214620665727 : True := trivial
theorem t03.tw12812065419692275115 : True := trivial
theorem t03.tw12816546811565121150 : True := trivial
theorem t03.tw12820043492935128787 : True := trivial
theorem t03.tw12833154964522984110 : True := trivial
theorem t03.tw12839310935492233165 : True := trivial
theorem t03.tw12843539504532032400 : True := trivial
theorem t03.tw12851283620073463367 : True := trivial
theorem t03.tw12874572430041344625 : True := trivial
theorem t03.tw12882116455439726180 : True := trivial
theorem t03.tw12885538966772226409 : True := trivial
theorem t03.tw12891531782298445962 : True := trivial
theorem t03.tw12901659655084081451 : True := trivial
theorem t03.tw12923316691760001582 : True := trivial
theorem t03.tw12925075260516979941 : True := trivial
theorem t03.tw12928643915060974619 : True := trivial
theorem t03.tw12929664042713656354 : True := trivial
theorem t03.tw12949357396122144261 : True := trivial
theorem t03.tw12955075903703623119 : True := trivial
theorem t03.tw12965434132683271967 : True := trivial
theorem t03.tw12973559919614858881 : True := trivial
theorem t03.tw12975562967031646676 : True := trivial
theorem t03.tw12996563820817394762 : True := trivial
theorem t03.tw13017622821476492429 : True := trivial
theorem t03.tw13017673064893184978 : True := trivial
theorem t03.tw13021972009086196415 : True := trivial
theorem t03.tw13032264843462918407 : True := trivial
theorem t03.tw13047357042127950525 : True := trivial
theorem t03.tw1304896838714063765 : True := trivial
theorem t03.tw13049344625084721344 : True := trivial
theorem t03.tw13068497329289244924 : True := trivial
theorem t03.tw13116204248825615395 : True := trivial
theorem t03.tw13121124779836220564 : True := trivial
theorem t03.tw13125278169827210514 : True := trivial
theorem t03.tw1312852509530809235 : True := trivial
theorem t03.tw13138908831505130754 : True := trivial
theorem t03.tw1314510036288212377 : True := trivial
theorem t03.tw13168684717251456360 : True := trivial
theorem t03.tw13176604342811606877 : True := trivial
theorem t03.tw1318412350872452929 : True := trivial
theorem t03.tw1319423300044987974 : True := trivial
theorem t03.tw13206785283278895144 : True := trivial
theorem t03.tw13213113595244113601 : True := trivial
theorem t03.tw13243939532519658116 : True := trivial
theorem t03.tw13264749273062988249 : True := trivial
theorem t03.tw13272413727972503429 : True := trivial
theorem t03.tw13283244844160014308 : True := trivial
theorem t03.tw1328873640449083759 : True := trivial
theorem t03.tw13297635556667684803 : True := trivial
theorem t03.tw13309450182686782632 : True := trivial
theorem t03.tw13323216768320282670 : True := trivial
theorem t03.tw1336170367586598034 : True := trivial
theorem t03.tw13369281589511783468 : True := trivial
theorem t03.tw13391323630750654753 : True := trivial
theorem t03.tw13392561206473357778 : True := trivial
theorem t03.tw13397295257866213101 : True := trivial
theorem t03.tw1340446598472055624 : True := trivial
theorem t03.tw13409823058317401629 : True := trivial
theorem t03.tw13413015286094558231 : True := trivial
theorem t03.tw13420707434464747023 : True := trivial
theorem t03.tw13473240121287207936 : True := trivial
theorem t03.tw13474191113223084740 : True := trivial
theorem t03.tw13506913306927303906 : True := trivial
theorem t03.tw13520962020680519775 : True := trivial
theorem t03.tw13526060054987911817 : True := trivial
theorem t03.tw13529906294850018225 : True := trivial
theorem t03.tw13532740102280069618 : True := trivial
theorem t03.tw1354129383833289208 : True := trivial
theorem t03.tw13542383623524163639 : True := trivial
theorem t03.tw13548116312977334161 : True := trivial
theorem t03.tw13570949804825294995 : True := trivial
theorem t03.tw13583298562923471764 : True := trivial
theorem t03.tw13609925200790974522 : True := trivial
theorem t03.tw13613805288700847018 : True := trivial
theorem t03.tw13619894795204828154 : True := trivial
theorem t03.tw13639668221298382600 : True := trivial
theorem t03.tw13640604228501547177 : True := trivial
theorem t03.tw1365770660180713290 : True := trivial
theorem t03.tw13659525153481522303 : True := trivial
theorem t03.tw13663004089550534494 : True := trivial
theorem t03.tw13664062221691446675 : True := trivial
theorem t03.tw13678879252691917342 : True := trivial
theorem t03.tw13687306317775875568 : True := trivial
theorem t03.tw13710889618391513513 : True := trivial
theorem t03.tw13719511553124601534 : True := trivial
theorem t03.tw13720093885324246858 : True := trivial
theorem t03.tw13723998626280556883 : True := trivial
theorem t03.tw13726498101325744221 : True := trivial
theorem t03.tw13762767548880165646 : True := trivial
theorem t03.tw13766672301805998461 : True := trivial
theorem t03.tw13769257280188115791 : True := trivial
theorem t03.tw13797629364101112240 : True := trivial
theorem t03.tw13815015742025026262 : True := trivial
theorem t03.tw13818031020497168711 : True := trivial
theorem t03.tw13828807106443312219 : True := trivial
theorem t03.tw13836108630742461006 : True := trivial
theorem t03.tw13837419099421757312 : True := trivial
theorem t03.tw13840767196810297106 : True := trivial
theorem t03.tw13869382377761675267 : True := trivial
theorem t03.tw13897473119968017644 : True := trivial
theorem t03.tw13902923204379262271 : True := trivial
theorem t03.tw13906305847755156936 : True := trivial
theorem t03.tw13913283221990282315 : True := trivial
theorem t03.tw13920285920750120134 : True := trivial
theorem t03.tw13934969529097321911 : True := trivial
theorem t03.tw13937900520034203342 : True := trivial
theorem t03.tw13939227656963380473 : True := trivial
theorem t03.tw1394360521748908922 : True := trivial
theorem t03.tw13943712007530324204 : True := trivial
theorem t03.tw13946434077702173453 : True := trivial
theorem t03.tw13951266066802261214 : True := trivial
theorem t03.tw13959477896027499724 : True := trivial
theorem t03.tw13965395764214133532 : True := trivial
theorem t03.tw13965548764025159447 : True := trivial
theorem t03.tw13974091090177914048 : True := trivial
theorem t03.tw13974562347881695342 : True := trivial
theorem t03.tw13987803742913953795 : True := trivial
theorem t03.tw13991123343198048659 : True := trivial
theorem t03.tw13992433455309909474 : True := trivial
theorem t03.tw14006915724583751495 : True := trivial
theorem t03.tw14039371926130912089 : True := trivial
theorem t03.tw14043997986278302127 : True := trivial
theorem t03.tw14082980098847440677 : True := trivial
theorem t03.tw14083773893322628327 : True := trivial
theorem t03.tw14090908632050288681 : True := trivial
theorem t03.tw14104997539502000919 : True := trivial
theorem t03.tw1413467782190409666 : True := trivial
theorem t03.tw14137713263965347912 : True := trivial
theorem t03.tw14147414365769304107 : True := trivial
theorem t03.tw14150822604192875815 : True := trivial
theorem t03.tw141665271425149178 : True := trivial
theorem t03.tw14176214496788252890 : True := trivial
theorem t03.tw14179558093022540319 : True := trivial
theorem t03.tw14188949451109075401 : True := trivial
theorem t03.tw14189961931909184618 : True := trivial
theorem t03.tw14199888599808477202 : True := trivial
theorem t03.tw14209953495171538162 : True := trivial
theorem t03.tw14212366524944567937 : True := trivial
theorem t03.tw14232520648952828999 : True := trivial
theorem t03.tw14256764967489737133 : True := trivial
theorem t03.tw14264766956857703924 : True := trivial
theorem t03.tw14265042929349048282 : True := trivial
theorem t03.tw14291684814472319719 : True := trivial
theorem t03.tw14301810052723477584 : True := trivial
theorem t03.tw14305147042812139522 : True := trivial
theorem t03.tw14312952046411703742 : True := trivial
theorem t03.tw14320943919889388688 : True := trivial
theorem t03.tw14336973517047566714 : True := trivial
theorem t03.tw14355221525347032094 : True := trivial
theorem t03.tw14365797036438236876 : True := trivial
theorem t03.tw14367416396034699105 : True := trivial
theorem t03.tw14369740597932688763 : True := trivial
theorem t03.tw14373181823799734033 : True := trivial
theorem t03.tw14376470010872079622 : True := trivial
theorem t03.tw14415399071889028754 : True := trivial
theorem t03.tw1441911516232772527 : True := trivial
theorem t03.tw14419374180646058051 : True := trivial
theorem t03.tw14421411763714219943 : True := trivial
theorem t03.tw1442965022462874083 : True := trivial
theorem t03.tw14431002057742463268 : True := trivial
theorem t03.tw14434164700383071061 : True := trivial
theorem t03.tw14471946935123500193 : True := trivial
theorem t03.tw14475191034223209518 : True := trivial
theorem t03.tw14479270354822735365 : True := trivial
theorem t03.tw14480886261256646967 : True := trivial
theorem t03.tw14482975564062319318 : True := trivial
theorem t03.tw14497421409719161231 : True := trivial
theorem t03.tw14497796774179277323 : True := trivial
theorem t03.tw145159773486069992 : True := trivial
theorem t03.tw14525425970157365451 : True := trivial
theorem t03.tw14532633420281330396 : True := trivial
theorem t03.tw14546450219706412202 : True := trivial
theorem t03.tw14547104951750995972 : True := trivial
theorem t03.tw14568840710562592043 : True := trivial
theorem t03.tw14579161680596348442 : True := trivial
theorem t03.tw14590073167801345856 : True := trivial
theorem t03.tw14598262008972850587 : True := trivial
theorem t03.tw14612106433785787227 : True := trivial
theorem t03.tw14612743808309825437 : True := trivial
theorem t03.tw14620395250180862605 : True := trivial
theorem t03.tw14623948418972976342 : True := trivial
theorem t03.tw14624556039723872053 : True := trivial
theorem t03.tw14661669886172300482 : True := trivial
theorem t03.tw14670469260344188395 : True := trivial
theorem t03.tw14685190380459875947 : True := trivial
theorem t03.tw14685450260271550799 : True := trivial
theorem t03.tw14687481869434315892 : True := trivial
theorem t03.tw14699476307635604090 : True := trivial
theorem t03.tw14714362736341953275 : True := trivial
theorem t03.tw14717710583083103074 : True := trivial
theorem t03.tw14718203481192042925 : True := trivial
theorem t03.tw14726660307301235915 : True := trivial
theorem t03.tw1472680677966050650 : True := trivial
theorem t03.tw14757560618524198158 : True := trivial
theorem t03.tw14771543509156506738 : True := trivial
theorem t03.tw14777141230191134586 : True := trivial
theorem t03.tw14786611611479305374 : True := trivial
theorem t03.tw14799652356769272171 : True := trivial
theorem t03.tw14804115818009204474 : True := trivial
theorem t03.tw14813730857934486871 : True := trivial
theorem t03.tw14814285965845462289 : True := trivial
theorem t03.tw14822521225873110832 : True := trivial
theorem t03.tw14828235895388880096 : True := trivial
theorem t03.tw14830680627334282326 : True := trivial
theorem t03.tw14835459113346612905 : True := trivial
theorem t03.tw14851864406106662318 : True := trivial
theorem t03.tw14859793831842879147 : True := trivial
theorem t03.tw14881149231751366844 : True := trivial
theorem t03.tw14887553052657851072 : True := trivial
theorem t03.tw14896147893430691654 : True := trivial
theorem t03.tw14896709152869179431 : True := trivial
theorem t03.tw14906101514796541817 : True := trivial
theorem t03.tw14908490377236960811 : True := trivial
theorem t03.tw14911829726960540335 : True := trivial
theorem t03.tw14924524588211099135 : True := trivial
theorem t03.tw14930675729080591844 : True := trivial
theorem t03.tw14945696731697118005 : True := trivial
theorem t03.tw149522855840765084 : True := trivial
theorem t03.tw1495492738181436194 : True := trivial
theorem t03.tw14960102126172106687 : True := trivial
theorem t03.tw1497676611874866494 : True := trivial
theorem t03.tw14977048684970976173 : True := trivial
theorem t03.tw1499394707793590149 : True := trivial
theorem t03.tw15006145758263856938 : True := trivial
theorem t03.tw15013768264085218610 : True := trivial
theorem t03.tw15023376607876118255 : True := trivial
theorem t03.tw15024155870922876207 : True := trivial
theorem t03.tw150267759526705456 : True := trivial
theorem t03.tw1503244979118561931 : True := trivial
theorem t03.tw15033173618842972337 : True := trivial
theorem t03.tw15034782552816556100 : True := trivial
theorem t03.tw15035090181072665536 : True := trivial
theorem t03.tw15039088205060917820 : True := trivial
theorem t03.tw15040104007121964420 : True := trivial
theorem t03.tw15041259396141996900 : True := trivial
theorem t03.tw15049950456180724714 : True := trivial
theorem t03.tw15061554732724879232 : True := trivial
theorem t03.tw15074065206341738702 : True := trivial
theorem t03.tw15097072039963502461 : True := trivial
theorem t03.tw15099495162186041492 : True := trivial
theorem t03.tw151148200368157367 : True := trivial
theorem t03.tw15128016576277454144 : True := trivial
theorem t03.tw15145603568882529999 : True := trivial
theorem t03.tw15147269848814641135 : True := trivial
theorem t03.tw15158358032302064052 : True := trivial
theorem t03.tw15163113103426657993 : True := trivial
theorem t03.tw15173839135796651104 : True := trivial
theorem t03.tw15183763039616641422 : True := trivial
theorem t03.tw15198760548196581216 : True := trivial
theorem t03.tw15212857219384294692 : True := trivial
theorem t03.tw15213368583338817522 : True := trivial
theorem t03.tw15216706282093199836 : True := trivial
theorem t03.tw15223259177062422704 : True := trivial
theorem t03.tw15225230938140289833 : True := trivial
theorem t03.tw15227509349404969410 : True := trivial
theorem t03.tw1523275195619600118 : True := trivial
theorem t03.tw15254265815066945113 : True := trivial
theorem t03.tw15254632460122076316 : True := trivial
theorem t03.tw15262425997230557115 : True := trivial
theorem t03.tw15265400649109251322 : True := trivial
theorem t03.tw15267328151759623574 : True := trivial
theorem t03.tw15275788541232800190 : True := trivial
theorem t03.tw15284306601211658493 : True := trivial
theorem t03.tw15288046620357104508 : True := trivial
theorem t03.tw15291925011779394220 : True := trivial
theorem t03.tw15299235320113032464 : True := trivial
theorem t03.tw15315657761202200114 : True := trivial
theorem t03.tw15320177657421522599 : True := trivial
theorem t03.tw1532630305286201700 : True := trivial
theorem t03.tw15326496793639334175 : True := trivial
theorem t03.tw15364017672914447424 : True := trivial
theorem t03.tw15390145284791863289 : True := trivial
theorem t03.tw15393116722710577352 : True := trivial
theorem t03.tw15408923445360551685 : True := trivial
theorem t03.tw15422000181519414769 : True := trivial
theorem t03.tw15429629816154386402 : True := trivial
theorem t03.tw15429808966891012871 : True := trivial
theorem t03.tw15432410296190670985 : True := trivial
theorem t03.tw15485898681016061786 : True := trivial
theorem t03.tw15495060199288403035 : True := trivial
theorem t03.tw15520463800651631547 : True := trivial
theorem t03.tw15541004188736013445 : True := trivial
theorem t03.tw15573884906731182132 : True := trivial
theorem t03.tw15584025355253537020 : True := trivial
theorem t03.tw15597871666996802729 : True := trivial
theorem t03.tw15598915243035558216 : True := trivial
theorem t03.tw15599785536847825820 : True := trivial
theorem t03.tw15605571089102205765 : True := trivial
theorem t03.tw15610319151078120884 : True := trivial
theorem t03.tw15622465111658524421 : True := trivial
theorem t03.tw15626997088621652658 : True := trivial
theorem t03.tw15665200368337037929 : True := trivial
theorem t03.tw15672988235128073918 : True := trivial
theorem t03.tw15686265660897540590 : True := trivial
theorem t03.tw15690241471730812743 : True := trivial
theorem t03.tw15711186699105881072 : True := trivial
theorem t03.tw15716634978945869326 : True := trivial
theorem t03.tw15723107808736468617 : True := trivial
theorem t03.tw15759957388842241550 : True := trivial
theorem t03.tw15762050104519629617 : True := trivial
theorem t03.tw15776601765860267526 : True := trivial
theorem t03.tw15777179560321503748 : True := trivial
theorem t03.tw15779868029159124623 : True := trivial
theorem t03.tw15791507142619750105 : True := trivial
theorem t03.tw1579509386169271534 : True := trivial
theorem t03.tw15800304983908297652 : True := trivial
theorem t03.tw15800321916253940948 : True := trivial
theorem t03.tw15803637363784291031 : True := trivial
theorem t03.tw158218818618115830 : True := trivial
theorem t03.tw15826030429643512813 : True := trivial
theorem t03.tw15852289577061859368 : True := trivial
theorem t03.tw15865445065646900147 : True := trivial
theorem t03.tw15895885121379270175 : True := trivial
theorem t03.tw15906007612144484078 : True := trivial
theorem t03.tw15911143183680506890 : True := trivial
theorem t03.tw15916396003835935720 : True := trivial
theorem t03.tw15917122730274165353 : True := trivial
theorem t03.tw15929168390691296325 : True := trivial
theorem t03.tw15929242163950061607 : True := trivial
theorem t03.tw15930822990742850189 : True := trivial
theorem t03.tw15935428730002496254 : True := trivial
theorem t03.tw15946930026046182217 : True := trivial
theorem t03.tw15947116707097447618 : True := trivial
theorem t03.tw15952106782003291627 : True := trivial
theorem t03.tw15958947288132391048 : True := trivial
theorem t03.tw15961700927005405767 : True := trivial
theorem t03.tw15980969173108898153 : True := trivial
theorem t03.tw1598332028855650917 : True := trivial
theorem t03.tw15993570121375711768 : True := trivial
theorem t03.tw16000005904767789417 : True := trivial
theorem t03.tw16010493749222406578 : True := trivial
theorem t03.tw1601840605302762524 : True := trivial
theorem t03.tw16031450739086396986 : True := trivial
theorem t03.tw16043026936601357805 : True := trivial
theorem t03.tw16050783226703341579 : True := trivial
theorem t03.tw16076792889076961096 : True := trivial
theorem t03.tw16082775673834447211 : True := trivial
theorem t03.tw16100592800354172119 : True := trivial
theorem t03.tw16116332448524428526 : True := trivial
theorem t03.tw16128751399020942764 : True := trivial
theorem t03.tw16149565863917220726 : True := trivial
theorem t03.tw16150426967777687159 : True := trivial
theorem t03.tw16154254808569009114 : True := trivial
theorem t03.tw16157207599438631610 : True := trivial
theorem t03.tw16174167673349012199 : True := trivial
theorem t03.tw161745006771899450 : True := trivial
theorem t03.tw16178775041496508691 : True := trivial
theorem t03.tw16189131816439888215 : True := trivial
theorem t03.tw16200294580492934820 : True := trivial
theorem t03.tw162321752543741211 : True := trivial
theorem t03.tw16236974680466534567 : True := trivial
theorem t03.tw16242129244463609929 : True := trivial
theorem t03.tw162494818378628136 : True := trivial
theorem t03.tw16256078115570680575 : True := trivial
theorem t03.tw16259776612389397550 : True := trivial
theorem t03.tw16280119820834841518 : True := trivial
theorem t03.tw16290035558708738196 : True := trivial
theorem t03.tw1629689327081821939 : True := trivial
theorem t03.tw16301367755667048267 : True := trivial
theorem t03.tw16325979173830205334 : True := trivial
theorem t03.tw16327889368431281606 : True := trivial
theorem t03.tw16339913568011629351 : True := trivial
theorem t03.tw16362356501849780622 : True := trivial
theorem t03.tw1637605430154049835 : True := trivial
theorem t03.tw1637902259874398399 : True := trivial
theorem t03.tw1638500673715465615 : True := trivial
theorem t03.tw16393904824941395678 : True := trivial
theorem t03.tw16399595610195284490 : True := trivial
theorem t03.tw16413429684042636025 : True := trivial
theorem t03.tw16419590746677943007 : True := trivial
theorem t03.tw16478454212178744400 : True := trivial
theorem t03.tw16485853110660538810 : True := trivial
theorem t03.tw16490623623626493344 : True := trivial
theorem t03.tw16500942499041620595 : True := trivial
theorem t03.tw16553451958126485670 : True := trivial
theorem t03.tw1656535277435078907 : True := trivial
theorem t03.tw16583083515009632847 : True := trivial
theorem t03.tw16584741155921364970 : True := trivial
theorem t03.tw1663907609676746623 : True := trivial
theorem t03.tw16644474206947800774 : True := trivial
theorem t03.tw16677130283381682280 : True := trivial
theorem t03.tw16677477394532161822 : True := trivial
theorem t03.tw16685642934683557187 : True := trivial
theorem t03.tw16694957504955671604 : True := trivial
theorem t03.tw16714834618046636866 : True := trivial
theorem t03.tw1672437120397751036 : True := trivial
theorem t03.tw16748496381751581808 : True := trivial
theorem t03.tw16753261463736422144 : True := trivial
theorem t03.tw16755589019505730007 : True := trivial
theorem t03.tw16774004145403343530 : True := trivial
theorem t03.tw16777901565544487189 : True := trivial
theorem t03.tw16787482228149499485 : True := trivial
theorem t03.tw16794091920853854665 : True := trivial
theorem t03.tw16795411252953304287 : True := trivial
theorem t03.tw16807420334176177054 : True := trivial
theorem t03.tw16841373939138975867 : True := trivial
theorem t03.tw1688773573887855268 : True := trivial
theorem t03.tw16942116603126139176 : True := trivial
theorem t03.tw1694522088053872507 : True := trivial
theorem t03.tw16949653613310073894 : True := trivial
theorem t03.tw16963603885311716658 : True := trivial
theorem t03.tw16963642659452312107 : True := trivial
theorem t03.tw16969738126371895193 : True := trivial
theorem t03.tw16972307676521301104 : True := trivial
theorem t03.tw16976146723149752916 : True := trivial
theorem t03.tw16980075363905911686 : True := trivial
theorem t03.tw16987904535363006603 : True := trivial
theorem t03.tw16995391287924270223 : True := trivial
theorem t03.tw1699947359351268243 : True := trivial
theorem t03.tw17035856983887205856 : True := trivial
theorem t03.tw17036733250500663257 : True := trivial
theorem t03.tw17038013327027458373 : True := trivial
theorem t03.tw1704270824163611410 : True := trivial
theorem t03.tw17043215810463068210 : True := trivial
theorem t03.tw17057261426331716467 : True := trivial
theorem t03.tw17057943202007476774 : True := trivial
theorem t03.tw1711059368552870009 : True := trivial
theorem t03.tw17150104614397200617 : True := trivial
theorem t03.tw17162778459096623876 : True := trivial
theorem t03.tw17170973430514467017 : True := trivial
theorem t03.tw17172781023341631737 : True := trivial
theorem t03.tw17182908443841890285 : True := trivial
theorem t03.tw17185240226818973461 : True := trivial
theorem t03.tw17197159936681230748 : True := trivial
theorem t03.tw17205597996684015673 : True := trivial
theorem t03.tw17223682522211846804 : True := trivial
theorem t03.tw17245612769931225317 : True := trivial
theorem t03.tw17245948249918949348 : True := trivial
theorem t03.tw17247226171912866539 : True := trivial
theorem t03.tw17262996714912225307 : True := trivial
theorem t03.tw17279287461844722959 : True := trivial
theorem t03.tw17296779274664298842 : True := trivial
theorem t03.tw17321105726183029890 : True := trivial
theorem t03.tw17322531476412217022 : True := trivial
theorem t03.tw17327649197107045353 : True := trivial
theorem t03.tw17338651228946393110 : True := trivial
theorem t03.tw17340039206227983357 : True := trivial
theorem t03.tw17361528775631351710 : True := trivial
theorem t03.tw17373583414377407504 : True := trivial
theorem t03.tw17374325549235460742 : True := trivial
theorem t03.tw1739001764516803656 : True := trivial
theorem t03.tw17401704510948942489 : True := trivial
theorem t03.tw17423176575828812518 : True := trivial
theorem t03.tw17425403782154037589 : True := trivial
theorem t03.tw17437984748192690349 : True := trivial
theorem t03.tw1745019458028368009 : True := trivial
theorem t03.tw1747874862599053944 : True := trivial
theorem t03.tw17483174382817430130 : True := trivial
theorem t03.tw17512017309215671417 : True := trivial
theorem t03.tw17524499363731355495 : True := trivial
theorem t03.tw17530809777491813112 : True := trivial
theorem t03.tw17531096098691287387 : True := trivial
theorem t03.tw17533161184860311546 : True := trivial
theorem t03.tw17539883693775605627 : True := trivial
theorem t03.tw17554547834472491063 : True := trivial
theorem t03.tw17584458503075293488 : True := trivial
theorem t03.tw17610961496148340046 : True := trivial
theorem t03.tw17623386992238132402 : True := trivial
theorem t03.tw17652599914691890440 : True := trivial
theorem t03.tw17664655219104047040 : True := trivial
theorem t03.tw17664846849802616975 : True := trivial
theorem t03.tw1769252145555089862 : True := trivial
theorem t03.tw17694902584106903277 : True := trivial
theorem t03.tw17702995434136063321 : True := trivial
theorem t03.tw17704958598612716460 : True := trivial
theorem t03.tw17706841816941758069 : True := trivial
theorem t03.tw17730238338788370872 : True := trivial
theorem t03.tw17762975067878609338 : True := trivial
theorem t03.tw17770499224180423169 : True := trivial
theorem t03.tw17785195772698484623 : True := trivial
theorem t03.tw1778710746054598808 : True := trivial
theorem t03.tw17811956283034495034 : True := trivial
theorem t03.tw17832681863881483528 : True := trivial
theorem t03.tw17834734154158638169 : True := trivial
theorem t03.tw17864431607240065022 : True := trivial
theorem t03.tw17909784391482162214 : True := trivial
theorem t03.tw17914984302548827760 : True := trivial
theorem t03.tw17931940852743658627 : True := trivial
theorem t03.tw17937986324996866930 : True := trivial
theorem t03.tw179405099767144252 : True := trivial
theorem t03.tw17961783115293349116 : True := trivial
theorem t03.tw17965901324069149544 : True := trivial
theorem t03.tw17980444853855901148 : True := trivial
theorem t03.tw17989099894482981527 : True := trivial
theorem t03.tw17993069530325291323 : True := trivial
theorem t03.tw17993337292070325602 : True := trivial
theorem t03.tw1800417475705778943 : True := trivial
theorem t03.tw18032545305607382821 : True := trivial
theorem t03.tw18055191564027238950 : True := trivial
theorem t03.tw18072163577570531255 : True := trivial
theorem t03.tw18080114696030634902 : True := trivial
theorem t03.tw18080713446264219472 : True := trivial
theorem t03.tw18081420599816760823 : True := trivial
theorem t03.tw18123070006020560589 : True := trivial
theorem t03.tw18128727918494376510 : True := trivial
theorem t03.tw18146634940968650672 : True := trivial
theorem t03.tw18150780386204357627 : True := trivial
theorem t03.tw18150924555312898464 : True := trivial
theorem t03.tw1816898483547592627 : True := trivial
theorem t03.tw18175234799792935416 : True := trivial
theorem t03.tw18182019293001177680 : True := trivial
theorem t03.tw18185168998723158305 : True := trivial
theorem t03.tw1820334503482719126 : True := trivial
theorem t03.tw18206775559581963377 : True := trivial
theorem t03.tw1821832291133107322 : True := trivial
theorem t03.tw18230898255844998344 : True := trivial
theorem t03.tw18231140771706629869 : True := trivial
theorem t03.tw18236972620073343986 : True := trivial
theorem t03.tw18243293986208232033 : True := trivial
theorem t03.tw1825667483351039110 : True := trivial
theorem t03.tw18279452413702181445 : True := trivial
theorem t03.tw18282141454073736600 : True := trivial
theorem t03.tw18306241632363711225 : True := trivial
theorem t03.tw18310520678834876364 : True := trivial
theorem t03.tw18315578283353897064 : True := trivial
theorem t03.tw18343025311864267021 : True := trivial
theorem t03.tw18355778829172155666 : True := trivial
theorem t03.tw18357934514188807512 : True := trivial
theorem t03.tw18379167864975270248 : True := trivial
theorem t03.tw18405034134383710127 : True := trivial
theorem t03.tw18409747528990897453 : True := trivial
theorem t03.tw18413967719216552348 : True := trivial
theorem t03.tw18420835521685844827 : True := trivial
theorem t03.tw1843317159703038481 : True := trivial
theorem t03.tw1843467301238711646 : True := trivial
theorem t03.tw18437468798329185310 : True := trivial
theorem t03.tw1864831499576121685 : True := trivial
theorem t03.tw1868124772267864434 : True := trivial
theorem t03.tw1873573078019933326 : True := trivial
theorem t03.tw1881421946299501805 : True := trivial
theorem t03.tw1901290997303152563 : True := trivial
theorem t03.tw190170921466070063 : True := trivial
theorem t03.tw1904130158881625430 : True := trivial
theorem t03.tw1915699426231984039 : True := trivial
theorem t03.tw1923133528583220522 : True := trivial
theorem t03.tw193216551028706841 : True := trivial
theorem t03.tw193240536808129607 : True := trivial
theorem t03.tw1975658077500234469 : True := trivial
theorem t03.tw1998404653212523433 : True := trivial
theorem t03.tw2023089959199926797 : True := trivial
theorem t03.tw2030002961004435175 : True := trivial
theorem t03.tw2033637308920443954 : True := trivial
theorem t03.tw2040919020601997083 : True := trivial
theorem t03.tw2054045658261339956 : True := trivial
theorem t03.tw2061244934868870849 : True := trivial
theorem t03.tw2062591620797077011 : True := trivial
theorem t03.tw2063629958580060020 : True := trivial
theorem t03.tw2068830718561292695 : True := trivial
theorem t03.tw2078320178480427104 : True := trivial
theorem t03.tw2082596250233440665 : True := trivial
theorem t03.tw2092856709371245899 : True := trivial
theorem t03.tw2099675463294984123 : True := trivial
theorem t03.tw2103550872456324970 : True := trivial
theorem t03.tw212350009286841775 : True := trivial
theorem t03.tw2123604168516580229 : True := trivial
theorem t03.tw212621387230189747 : True := trivial
theorem t03.tw2136520782692707140 : True := trivial
theorem t03.tw2137247683290209163 : True := trivial
theorem t03.tw2151809093742183474 : True := trivial
theorem t03.tw2165495926377416131 : True := trivial
theorem t03.tw2166655327262411927 : True := trivial
theorem t03.tw2167131279889352095 : True := trivial
theorem t03.tw2167394465560313953 : True := trivial
theorem t03.tw2170592278270359472 : True := trivial
theorem t03.tw2180708991139339487 : True := trivial
theorem t03.tw2187028937187069404 : True := trivial
theorem t03.tw2204902486619546596 : True := trivial
theorem t03.tw2223819610868529973 : True := trivial
theorem t03.tw222499872683186049 : True := trivial
theorem t03.tw2275879456071121317 : True := trivial
theorem t03.tw2279547605785057709 : True := trivial
theorem t03.tw2279628145352665932 : True := trivial
theorem t03.tw2286314191069951138 : True := trivial
theorem t03.tw2296174363472768077 : True := trivial
theorem t03.tw2298484509711154330 : True := trivial
theorem t03.tw2300822064671105516 : True := trivial
theorem t03.tw2308306854105633768 : True := trivial
theorem t03.tw2325341184159058514 : True := trivial
theorem t03.tw2332222240011615565 : True := trivial
theorem t03.tw235738846611242911 : True := trivial
theorem t03.tw2358398224647377866 : True := trivial
theorem t03.tw2385519537413300192 : True := trivial
theorem t03.tw240460448939418348 : True := trivial
theorem t03.tw2409430119114549118 : True := trivial
theorem t03.tw241708110605142931 : True := trivial
theorem t03.tw2423293056856590147 : True := trivial
theorem t03.tw2427933519017162253 : True := trivial
theorem t03.tw243864002922686671 : True := trivial
theorem t03.tw2438672393079534319 : True := trivial
theorem t03.tw2443148943888431228 : True := trivial
theorem t03.tw244510041316249194 : True := trivial
theorem t03.tw2461927647130837564 : True := trivial
theorem t03.tw2467506300687958634 : True := trivial
theorem t03.tw2504978637274608330 : True := trivial
theorem t03.tw2513592524590549751 : True := trivial
theorem t03.tw2523292699095841756 : True := trivial
theorem t03.tw2534825901572832953 : True := trivial
theorem t03.tw2560627082616676666 : True := trivial
theorem t03.tw2560954658612623456 : True := trivial
theorem t03.tw256111939074319361 : True := trivial
theorem t03.tw2578272408832418763 : True := trivial
theorem t03.tw2592499279159274811 : True := trivial
theorem t03.tw2597805867741730741 : True := trivial
theorem t03.tw2599111557803509036 : True := trivial
theorem t03.tw2600334684272914627 : True := trivial
theorem t03.tw2641939149386082507 : True := trivial
theorem t03.tw2644582695521471439 : True := trivial
theorem t03.tw2644681125093561527 : True := trivial
theorem t03.tw2655680045904049620 : True := trivial
theorem t03.tw266556197073264338 : True := trivial
theorem t03.tw2670535760498583286 : True := trivial
theorem t03.tw2677651215328942580 : True := trivial
theorem t03.tw2708073749411341093 : True := trivial
theorem t03.tw2718107707379187566 : True := trivial
theorem t03.tw2723977887394602219 : True := trivial
theorem t03.tw2735600525930870814 : True := trivial
theorem t03.tw2749418085164284654 : True := trivial
theorem t03.tw2755453728911360628 : True := trivial
theorem t03.tw2757700270275105279 : True := trivial
theorem t03.tw2758158339534365355 : True := trivial
theorem t03.tw2770033733360551637 : True := trivial
theorem t03.tw2789858999229135575 : True := trivial
theorem t03.tw2818332643906721934 : True := trivial
theorem t03.tw2844841221665382688 : True := trivial
theorem t03.tw2883528335675930233 : True := trivial
theorem t03.tw2888180513436326779 : True := trivial
theorem t03.tw2892981727419843773 : True := trivial
theorem t03.tw2902333019201260215 : True := trivial
theorem t03.tw2903778784612542541 : True := trivial
theorem t03.tw2927758375098281089 : True := trivial
theorem t03.tw293503938149008062 : True := trivial
theorem t03.tw2940734662825633497 : True := trivial
theorem t03.tw2943879583361569932 : True := trivial
theorem t03.tw2946767649422529031 : True := trivial
theorem t03.tw2948188773360046710 : True := trivial
theorem t03.tw2949026580712872494 : True := trivial
theorem t03.tw295984135492873963 : True := trivial
theorem t03.tw296089046871050293 : True := trivial
theorem t03.tw2978370490987104488 : True := trivial
theorem t03.tw3000374735748436004 : True := trivial
theorem t03.tw3003606773571788102 : True := trivial
theorem t03.tw3027343630744677287 : True := trivial
theorem t03.tw3031355219674529704 : True := trivial
theorem t03.tw3046673574906221936 : True := trivial
theorem t03.tw3052395461679825570 : True := trivial
theorem t03.tw3110700701092122891 : True := trivial
theorem t03.tw3114716202917055354 : True := trivial
theorem t03.tw3126748350725068068 : True := trivial
theorem t03.tw3155650823585975130 : True := trivial
theorem t03.tw315896095400999683 : True := trivial
theorem t03.tw3168375687608855515 : True := trivial
theorem t03.tw3176427990940226881 : True := trivial
theorem t03.tw3177162003489534478 : True := trivial
theorem t03.tw3177164303256422846 : True := trivial
theorem t03.tw3190187063552927073 : True := trivial
theorem t03.tw3205941316464073517 : True := trivial
theorem t03.tw3209163713523239209 : True := trivial
theorem t03.tw320924701357298560 : True := trivial
theorem t03.tw3210030403671614159 : True := trivial
theorem t03.tw3220547838165845966 : True := trivial
theorem t03.tw3226880268587177867 : True := trivial
theorem t03.tw3244599498087954571 : True := trivial
theorem t03.tw3288112478883988050 : True := trivial
theorem t03.tw328818177074059708 : True := trivial
theorem t03.tw3293102895612391948 : True := trivial
theorem t03.tw3314502016665006917 : True := trivial
theorem t03.tw3315763717507498578 : True := trivial
theorem t03.tw3323403218732697500 : True := trivial
theorem t03.tw3324656789344271717 : True := trivial
theorem t03.tw333254450139312176 : True := trivial
theorem t03.tw3337526492483973883 : True := trivial
theorem t03.tw333794426297446548 : True := trivial
theorem t03.tw3339078550746786470 : True := trivial
theorem t03.tw3362616856516207337 : True := trivial
theorem t03.tw3373285632105141495 : True := trivial
theorem t03.tw3390429130495554438 : True := trivial
theorem t03.tw3390456422562586377 : True := trivial
theorem t03.tw3393423346642983005 : True := trivial
theorem t03.tw3394081424213865613 : True := trivial
theorem t03.tw3414512803993846270 : True := trivial
theorem t03.tw341459635547375624 : True := trivial
theorem t03.tw3429759562713833341 : True := trivial
theorem t03.tw3452237371608795395 : True := trivial
theorem t03.tw3472788367203482333 : True := trivial
theorem t03.tw3481133816673183183 : True := trivial
theorem t03.tw3483836353851806082 : True := trivial
theorem t03.tw3498781135398369816 : True := trivial
theorem t03.tw3511865889149939536 : True := trivial
theorem t03.tw3529003459388628410 : True := trivial
theorem t03.tw3546794563258665587 : True := trivial
theorem t03.tw3549068718719145723 : True := trivial
theorem t03.tw3552242669458240609 : True := trivial
theorem t03.tw3554343588574857949 : True := trivial
theorem t03.tw3562884924736057523 : True := trivial
theorem t03.tw3572765392098967637 : True := trivial
theorem t03.tw3576337914294518942 : True := trivial
theorem t03.tw3593078657730501488 : True := trivial
theorem t03.tw3604037811972155243 : True := trivial
theorem t03.tw3609672722130296894 : True := trivial
theorem t03.tw3646218795529903145 : True := trivial
theorem t03.tw3652155286522431818 : True := trivial
theorem t03.tw3656370847306483706 : True := trivial
theorem t03.tw3657886146966567331 : True := trivial
theorem t03.tw365881958966776840 : True := trivial
theorem t03.tw3666377780425399781 : True := trivial
theorem t03.tw3694225458486784291 : True := trivial
theorem t03.tw3700684882192512272 : True := trivial
theorem t03.tw3702323571306188693 : True := trivial
theorem t03.tw3713396975040706283 : True := trivial
theorem t03.tw3723963477118588291 : True := trivial
theorem t03.tw3735933177846325501 : True := trivial
theorem t03.tw3738741302343012678 : True := trivial
theorem t03.tw3744531100061998416 : True := trivial
theorem t03.tw3746300313902430773 : True := trivial
theorem t03.tw3746928545968138577 : True := trivial
theorem t03.tw3752306783723340338 : True := trivial
theorem t03.tw3761815615342833680 : True := trivial
theorem t03.tw3767420017412046876 : True := trivial
theorem t03.tw3772977156691958623 : True := trivial
theorem t03.tw3785781110548235487 : True := trivial
theorem t03.tw3799877805244499027 : True := trivial
theorem t03.tw3801385730494435177 : True := trivial
theorem t03.tw3814678757410354355 : True := trivial
theorem t03.tw382017585442781488 : True := trivial
theorem t03.tw382340270289949864 : True := trivial
theorem t03.tw3859824555311641881 : True := trivial
theorem t03.tw3869728201989867008 : True := trivial
theorem t03.tw3874106521635122864 : True := trivial
theorem t03.tw3877758798886405068 : True := trivial
theorem t03.tw3880418621024773492 : True := trivial
theorem t03.tw3882060769858146300 : True := trivial
theorem t03.tw3905465015953319567 : True := trivial
theorem t03.tw3920335714209538463 : True := trivial
theorem t03.tw392992587937533010 : True := trivial
theorem t03.tw3936950989705695047 : True := trivial
theorem t03.tw3955841453791986859 : True := trivial
theorem t03.tw3958558305648483283 : True := trivial
theorem t03.tw3958628456824070414 : True := trivial
theorem t03.tw3959376970074609718 : True := trivial
theorem t03.tw3969353383196413976 : True := trivial
theorem t03.tw3985749911603374148 : True := trivial
theorem t03.tw3989063832888251110 : True := trivial
theorem t03.tw3990152874108910435 : True := trivial
theorem t03.tw3994766520247756945 : True := trivial
theorem t03.tw4023390241728205482 : True := trivial
theorem t03.tw4027993864653007762 : True := trivial
theorem t03.tw4039711489509135426 : True := trivial
theorem t03.tw4100632041461500520 : True := trivial
theorem t03.tw411120987995970696 : True := trivial
theorem t03.tw4119008728893403315 : True := trivial
theorem t03.tw4147725472709074502 : True := trivial
theorem t03.tw4156365640888006929 : True := trivial
theorem t03.tw4170086143348899120 : True := trivial
theorem t03.tw417324565534818329 : True := trivial
theorem t03.tw4179946330961200632 : True := trivial
theorem t03.tw4190169209107230552 : True := trivial
theorem t03.tw4193158759281704157 : True := trivial
theorem t03.tw4194118477675486661 : True := trivial
theorem t03.tw4226903923881458221 : True := trivial
theorem t03.tw4233428825520527616 : True := trivial
theorem t03.tw424342331088550980 : True := trivial
theorem t03.tw4260223503501834095 : True := trivial
theorem t03.tw4260683956257163713 : True := trivial
theorem t03.tw4267309902844422205 : True := trivial
theorem t03.tw4272973560446984535 : True := trivial
theorem t03.tw4290308497744554799 : True := trivial
theorem t03.tw4305600655207339093 : True := trivial
theorem t03.tw4313268393682943259 : True := trivial
theorem t03.tw4313997643135594280 : True := trivial
theorem t03.tw4317760588568858013 : True := trivial
theorem t03.tw4320986367645523945 : True := trivial
theorem t03.tw4356077086612708439 : True := trivial
theorem t03.tw436663912883372392 : True := trivial
theorem t03.tw4370179123982462968 : True := trivial
theorem t03.tw4372114587446506563 : True := trivial
theorem t03.tw4379679706440807281 : True := trivial
theorem t03.tw4406106759064610022 : True := trivial
theorem t03.tw4407764391417436657 : True := trivial
theorem t03.tw4418824813763383852 : True := trivial
theorem t03.tw4422020150945541870 : True := trivial
theorem t03.tw448523468749220366 : True := trivial
theorem t03.tw4486511681015578924 : True := trivial
theorem t03.tw4490620341397253109 : True := trivial
theorem t03.tw4493901815682851917 : True := trivial
theorem t03.tw4538666048870505730 : True := trivial
theorem t03.tw4540197156475699766 : True := trivial
theorem t03.tw4549935312335106272 : True := trivial
theorem t03.tw4555935701776518902 : True := trivial
theorem t03.tw4559392795088658615 : True := trivial
theorem t03.tw4565042687200470892 : True := trivial
theorem t03.tw4566537966861034023 : True := trivial
theorem t03.tw4575787832518344043 : True := trivial
theorem t03.tw4596235651179254206 : True := trivial
theorem t03.tw4605449679208126609 : True := trivial
theorem t03.tw4620743772365032475 : True := trivial
theorem t03.tw4621929831700152148 : True := trivial
theorem t03.tw4627650844491097089 : True := trivial
theorem t03.tw4629028576886017360 : True := trivial
theorem t03.tw4631157765390028151 : True := trivial
theorem t03.tw4642667833020986716 : True := trivial
theorem t03.tw465237083308281509 : True := trivial
theorem t03.tw4689724503246664700 : True := trivial
theorem t03.tw4706907715411904584 : True := trivial
theorem t03.tw4712286454253237345 : True := trivial
theorem t03.tw4721201157287644372 : True := trivial
theorem t03.tw472714560410954159 : True := trivial
theorem t03.tw4750842747355151926 : True := trivial
theorem t03.tw475275455936425730 : True := trivial
theorem t03.tw4762769544861965464 : True := trivial
theorem t03.tw4774732263378215523 : True := trivial
theorem t03.tw4794876788088973708 : True := trivial
theorem t03.tw4796243629916011339 : True := trivial
theorem t03.tw4812684750129862176 : True := trivial
theorem t03.tw4837427979616201038 : True := trivial
theorem t03.tw486219821817750658 : True := trivial
theorem t03.tw4864000556261655659 : True := trivial
theorem t03.tw4881367381471782933 : True := trivial
theorem t03.tw4882586715867987179 : True := trivial
theorem t03.tw4894685610316211509 : True := trivial
theorem t03.tw4900015820422186354 : True := trivial
theorem t03.tw4928294953531863409 : True := trivial
theorem t03.tw4935156680297336611 : True := trivial
theorem t03.tw4937648139457171349 : True := trivial
theorem t03.tw4941557845075688554 : True := trivial
theorem t03.tw495174020819561230 : True := trivial
theorem t03.tw4954684544498406711 : True := trivial
theorem t03.tw4956513745534615763 : True := trivial
theorem t03.tw4971262012149414869 : True := trivial
theorem t03.tw4981392659674889451 : True := trivial
theorem t03.tw4983709006871412831 : True := trivial
theorem t03.tw4983709673985911359 : True := trivial
theorem t03.tw4988198473099899877 : True := trivial
theorem t03.tw5001063333464122467 : True := trivial
theorem t03.tw5007192505723374270 : True := trivial
theorem t03.tw5011122456685929261 : True := trivial
theorem t03.tw5013450467365716825 : True := trivial
theorem t03.tw5024059647702695554 : True := trivial
theorem t03.tw503000595814528088 : True := trivial
theorem t03.tw5039487656362119329 : True := trivial
theorem t03.tw5040776168322680732 : True := trivial
theorem t03.tw5044827409707337482 : True := trivial
theorem t03.tw5053074053262319681 : True := trivial
theorem t03.tw5077710319000135235 : True := trivial
theorem t03.tw5078748185784232685 : True := trivial
theorem t03.tw5082395719874731884 : True := trivial
theorem t03.tw5092368904939036667 : True := trivial
theorem t03.tw5097231554687940778 : True := trivial
theorem t03.tw5145673835307555690 : True := trivial
theorem t03.tw5154224786278258054 : True := trivial
theorem t03.tw5167242338831313231 : True := trivial
theorem t03.tw5175189236407230943 : True := trivial
theorem t03.tw520065583044002343 : True := trivial
theorem t03.tw5247781697188501464 : True := trivial
theorem t03.tw5253245306907845223 : True := trivial
theorem t03.tw5257555146143360827 : True := trivial
theorem t03.tw527413241862090589 : True := trivial
theorem t03.tw5279401182719607366 : True := trivial
theorem t03.tw5284868307221623406 : True := trivial
theorem t03.tw5285540350687726046 : True := trivial
theorem t03.tw532409368046247632 : True := trivial
theorem t03.tw5328111482118301548 : True := trivial
theorem t03.tw5340313999497128416 : True := trivial
theorem t03.tw5352834651458300391 : True := trivial
theorem t03.tw5353568625813179344 : True := trivial
theorem t03.tw5356053066413535042 : True := trivial
theorem t03.tw5381403445222070346 : True := trivial
theorem t03.tw5397918901156795168 : True := trivial
theorem t03.tw5420593525354301831 : True := trivial
theorem t03.tw5425819119367211451 : True := trivial
theorem t03.tw5431166203550751832 : True := trivial
theorem t03.tw5449718592228498776 : True := trivial
theorem t03.tw5450747278283717800 : True := trivial
theorem t03.tw5453362156430199115 : True := trivial
theorem t03.tw5491759274384500113 : True := trivial
theorem t03.tw5498108860296916129 : True := trivial
theorem t03.tw5508916224344701427 : True := trivial
theorem t03.tw5509758768907475809 : True := trivial
theorem t03.tw5509834474578681177 : True := trivial
theorem t03.tw5515739490503141111 : True := trivial
theorem t03.tw5527782908399490646 : True := trivial
theorem t03.tw5545471141896205458 : True := trivial
theorem t03.tw5553276888527507091 : True := trivial
theorem t03.tw5557005049724483127 : True := trivial
theorem t03.tw5557749903965161154 : True := trivial
theorem t03.tw5564686623372770865 : True := trivial
theorem t03.tw5579331901823742075 : True := trivial
theorem t03.tw5605882417653833411 : True := trivial
theorem t03.tw5608547057807092106 : True := trivial
theorem t03.tw561095042085374378 : True := trivial
theorem t03.tw5630427420375668660 : True := trivial
theorem t03.tw5632679298611535043 : True := trivial
theorem t03.tw5646081290578537368 : True := trivial
theorem t03.tw5657690209555385359 : True := trivial
theorem t03.tw5665129606902639844 : True := trivial
theorem t03.tw569080881767584291 : True := trivial
theorem t03.tw5732326215489543475 : True := trivial
theorem t03.tw5740936018943466352 : True := trivial
theorem t03.tw5756266248014760931 : True := trivial
theorem t03.tw5762931144377341049 : True := trivial
theorem t03.tw5763745819761449627 : True := trivial
theorem t03.tw5775331114610993967 : True := trivial
theorem t03.tw5776713961474448427 : True := trivial
theorem t03.tw5834280483304258160 : True := trivial
theorem t03.tw5850559821778625463 : True := trivial
theorem t03.tw5868141324793229312 : True := trivial
theorem t03.tw589131001939257010 : True := trivial
theorem t03.tw5937526966610760063 : True := trivial
theorem t03.tw5945925866914887211 : True := trivial
theorem t03.tw5947282230233639180 : True := trivial
theorem t03.tw5948026603831340322 : True := trivial
theorem t03.tw5955172594728111558 : True := trivial
theorem t03.tw5970967542768461460 : True := trivial
theorem t03.tw5985193371893115743 : True := trivial
theorem t03.tw600809681436326730 : True := trivial
theorem t03.tw6018145853208983309 : True := trivial
theorem t03.tw6034984468342504853 : True := trivial
theorem t03.tw6044068304911535316 : True := trivial
theorem t03.tw6044868387908434184 : True := trivial
theorem t03.tw6050495059317844963 : True := trivial
theorem t03.tw6058728509522622551 : True := trivial
theorem t03.tw6068784422611836257 : True := trivial
theorem t03.tw607892285792593021 : True := trivial
theorem t03.tw6092920105479954457 : True := trivial
theorem t03.tw6096001088701629111 : True := trivial
theorem t03.tw6096972273902254167 : True := trivial
theorem t03.tw6101796628077178319 : True := trivial
theorem t03.tw6112394639251931704 : True := trivial
theorem t03.tw611492357428895222 : True := trivial
theorem t03.tw6117636673219188226 : True := trivial
theorem t03.tw612273009584066066 : True := trivial
theorem t03.tw612459945949243971 : True := trivial
theorem t03.tw6133087143416534445 : True := trivial
theorem t03.tw6148439007790711803 : True := trivial
theorem t03.tw6159933350306468641 : True := trivial
theorem t03.tw6195899595275823272 : True := trivial
theorem t03.tw6204026233251045142 : True := trivial
theorem t03.tw6219506237640065739 : True := trivial
theorem t03.tw6225229793715829842 : True := trivial
theorem t03.tw6231139925859512730 : True := trivial
theorem t03.tw6255592447069385317 : True := trivial
theorem t03.tw6265749767082784562 : True := trivial
theorem t03.tw6283693463478895597 : True := trivial
theorem t03.tw6288539527704807701 : True := trivial
theorem t03.tw6309407902307729440 : True := trivial
theorem t03.tw6310943082727052841 : True := trivial
theorem t03.tw6324693229740095604 : True := trivial
theorem t03.tw6327276093926089156 : True := trivial
theorem t03.tw6334271507222507204 : True := trivial
theorem t03.tw6336058006928032108 : True := trivial
theorem t03.tw639080979126432692 : True := trivial
theorem t03.tw64135985263955948 : True := trivial
theorem t03.tw641651712344505134 : True := trivial
theorem t03.tw6420264374700895251 : True := trivial
theorem t03.tw64288047202193046 : True := trivial
theorem t03.tw6467864561335511227 : True := trivial
theorem t03.tw6472409886467995865 : True := trivial
theorem t03.tw6483629538866153333 : True := trivial
theorem t03.tw648665956024897595 : True := trivial
theorem t03.tw6490578007440255962 : True := trivial
theorem t03.tw649172974254564096 : True := trivial
theorem t03.tw6498922499555832250 : True := trivial
theorem t03.tw6502477263800973387 : True := trivial
theorem t03.tw6519277174461421318 : True := trivial
theorem t03.tw6532822965829872249 : True := trivial
theorem t03.tw6565560658977832872 : True := trivial
theorem t03.tw658845601998805891 : True := trivial
theorem t03.tw6606434247783248965 : True := trivial
theorem t03.tw6611261998936610601 : True := trivial
theorem t03.tw6614207933772009635 : True := trivial
theorem t03.tw6637634417133021858 : True := trivial
theorem t03.tw6641385844012859318 : True := trivial
theorem t03.tw6646715232268287141 : True := trivial
theorem t03.tw6652403145838429637 : True := trivial
theorem t03.tw666094310661712206 : True := trivial
theorem t03.tw6663640903709782653 : True := trivial
theorem t03.tw6670896473017029992 : True := trivial
theorem t03.tw6671144137730968002 : True := trivial
theorem t03.tw6679776352740261904 : True := trivial
theorem t03.tw6685010697700559468 : True := trivial
theorem t03.tw6693041288219405876 : True := trivial
theorem t03.tw6697707645820048293 : True := trivial
theorem t03.tw6727711701743161338 : True := trivial
theorem t03.tw6729163720025608588 : True := trivial
theorem t03.tw6735333630315528133 : True := trivial
theorem t03.tw6758014239170272567 : True := trivial
theorem t03.tw6767929241549843495 : True := trivial
theorem t03.tw6769176335360405695 : True := trivial
theorem t03.tw6769230728835177233 : True := trivial
theorem t03.tw6771631185298013527 : True := trivial
theorem t03.tw6780711404151735170 : True := trivial
theorem t03.tw6807431017167759105 : True := trivial
theorem t03.tw6809789790345357916 : True := trivial
theorem t03.tw6811151930082833690 : True := trivial
theorem t03.tw685259430191658761 : True := trivial
theorem t03.tw6861748309081283229 : True := trivial
theorem t03.tw6874970940323903276 : True := trivial
theorem t03.tw6892022721932387575 : True := trivial
theorem t03.tw6894944965500610277 : True := trivial
theorem t03.tw6900530482044302300 : True := trivial
theorem t03.tw6904742603019305008 : True := trivial
theorem t03.tw6905717957149956285 : True := trivial
theorem t03.tw6919940093169069955 : True := trivial
theorem t03.tw6921279924576658541 : True := trivial
theorem t03.tw6949452487277468751 : True := trivial
theorem t03.tw6953619311093392764 : True := trivial
theorem t03.tw6959278309923687600 : True := trivial
theorem t03.tw6975296271516664828 : True := trivial
theorem t03.tw6991655095447139857 : True := trivial
theorem t03.tw7012245048228310646 : True := trivial
theorem t03.tw7016681968306810934 : True := trivial
theorem t03.tw7027474603839878878 : True := trivial
theorem t03.tw7039943980366025744 : True := trivial
theorem t03.tw7040145981328467268 : True := trivial
theorem t03.tw7043897758510487903 : True := trivial
theorem t03.tw7056920609303611040 : True := trivial
theorem t03.tw7058702367729658129 : True := trivial
theorem t03.tw7061742911268077474 : True := trivial
theorem t03.tw7065583522647201996 : True := trivial
theorem t03.tw7072549605285923677 : True := trivial
theorem t03.tw7125363014230789153 : True := trivial
theorem t03.tw7134687477069708639 : True := trivial
theorem t03.tw7140682556714581014 : True := trivial
theorem t03.tw7142893758350053595 : True := trivial
theorem t03.tw7153347079636705763 : True := trivial
theorem t03.tw7158804163133610330 : True := trivial
theorem t03.tw7173796696730680214 : True := trivial
theorem t03.tw7175833873006788706 : True := trivial
theorem t03.tw7180418207289405862 : True := trivial
theorem t03.tw7191022522297203820 : True := trivial
theorem t03.tw724099318167997393 : True := trivial
theorem t03.tw7245572800189431737 : True := trivial
theorem t03.tw7256568909063894834 : True := trivial
theorem t03.tw7264989558692622689 : True := trivial
theorem t03.tw7271831601781839892 : True := trivial
theorem t03.tw7275084457327429824 : True := trivial
theorem t03.tw7285869819064352236 : True := trivial
theorem t03.tw7308364431221546087 : True := trivial
theorem t03.tw731870707061630448 : True := trivial
theorem t03.tw7326599452671667174 : True := trivial
theorem t03.tw7329827803926889481 : True := trivial
theorem t03.tw7330183357802909542 : True := trivial
theorem t03.tw7345497579168976437 : True := trivial
theorem t03.tw7353416198305708263 : True := trivial
theorem t03.tw7364558292138367903 : True := trivial
theorem t03.tw7368662046326072883 : True := trivial
theorem t03.tw737079105562818015 : True := trivial
theorem t03.tw738644925760796418 : True := trivial
theorem t03.tw7387380447785661397 : True := trivial
theorem t03.tw7393837729227166028 : True := trivial
theorem t03.tw7396248404565694119 : True := trivial
theorem t03.tw741357998958946331 : True := trivial
theorem t03.tw7417943390196605446 : True := trivial
theorem t03.tw7425241775965764901 : True := trivial
theorem t03.tw743738735132460837 : True := trivial
theorem t03.tw7460072439920094946 : True := trivial
theorem t03.tw7485402771476786912 : True := trivial
theorem t03.tw7490259831149984112 : True := trivial
theorem t03.tw7518808128996835700 : True := trivial
theorem t03.tw7527240661346634311 : True := trivial
theorem t03.tw7542474473018644786 : True := trivial
theorem t03.tw7545405931126703028 : True := trivial
theorem t03.tw7563372170388918755 : True := trivial
theorem t03.tw7569346182696487214 : True := trivial
theorem t03.tw7572227402893083924 : True := trivial
theorem t03.tw7573496723510912411 : True := trivial
theorem t03.tw7585099977503331337 : True := trivial
theorem t03.tw7593669949714136735 : True := trivial
theorem t03.tw7615016436295530651 : True := trivial
theorem t03.tw7652522504936615320 : True := trivial
theorem t03.tw7667854198806793948 : True := trivial
theorem t03.tw7673428180334641640 : True := trivial
theorem t03.tw7678666613928776231 : True := trivial
theorem t03.tw7695406424193215812 : True := trivial
theorem t03.tw7697903962359573639 : True := trivial
theorem t03.tw7706841454181804502 : True := trivial
theorem t03.tw7719007869592074927 : True := trivial
theorem t03.tw7737227114849834930 : True := trivial
theorem t03.tw7737353301288807291 : True := trivial
theorem t03.tw7745239211042866106 : True := trivial
theorem t03.tw7747448846084302754 : True := trivial
theorem t03.tw7760530326525167521 : True := trivial
theorem t03.tw7774162878317253034 : True := trivial
theorem t03.tw7774761282372262680 : True := trivial
theorem t03.tw7787770710488352199 : True := trivial
theorem t03.tw7803201795557119507 : True := trivial
theorem t03.tw780825082280488242 : True := trivial
theorem t03.tw7808657934564963789 : True := trivial
theorem t03.tw7810206191522656087 : True := trivial
theorem t03.tw7822058291022163277 : True := trivial
theorem t03.tw7840438875953138404 : True := trivial
theorem t03.tw7857784185842259169 : True := trivial
theorem t03.tw7859515330916183515 : True := trivial
theorem t03.tw7884002441282814750 : True := trivial
theorem t03.tw7885670903119464809 : True := trivial
theorem t03.tw7897460704101708450 : True := trivial
theorem t03.tw7906603501727463861 : True := trivial
theorem t03.tw7907469200353545874 : True := trivial
theorem t03.tw7915749843081013398 : True := trivial
theorem t03.tw7918491796621110176 : True := trivial
theorem t03.tw7933672778722274123 : True := trivial
theorem t03.tw7955087478692498471 : True := trivial
theorem t03.tw7960239012442124750 : True := trivial
theorem t03.tw7969226521025185532 : True := trivial
theorem t03.tw797748103336633767 : True := trivial
theorem t03.tw798601834966220215 : True := trivial
theorem t03.tw7987703744867483553 : True := trivial
theorem t03.tw801606745095890519 : True := trivial
theorem t03.tw8020121462052266657 : True := trivial
theorem t03.tw8032865364177159414 : True := trivial
theorem t03.tw804374178002548879 : True := trivial
theorem t03.tw8050093451248923292 : True := trivial
theorem t03.tw8057901430547323711 : True := trivial
theorem t03.tw8059734048298064092 : True := trivial
theorem t03.tw8069460529982889828 : True := trivial
theorem t03.tw8082616588986489777 : True := trivial
theorem t03.tw8091065185922949189 : True := trivial
theorem t03.tw8115805258737000519 : True := trivial
theorem t03.tw8154016759215151127 : True := trivial
theorem t03.tw8158912576039892258 : True := trivial
theorem t03.tw8168388727955229022 : True := trivial
theorem t03.tw8187518847147429844 : True := trivial
theorem t03.tw8188798567052727800 : True := trivial
theorem t03.tw8195288322361247776 : True := trivial
theorem t03.tw8196513189735946950 : True := trivial
theorem t03.tw8239304143397231598 : True := trivial
theorem t03.tw8242873393912565200 : True := trivial
theorem t03.tw8291544650273209666 : True := trivial
theorem t03.tw8298992047160824713 : True := trivial
theorem t03.tw8309059829377513569 : True := trivial
theorem t03.tw8318478098095630488 : True := trivial
theorem t03.tw8353837424197113062 : True := trivial
theorem t03.tw8367551790720668524 : True := trivial
theorem t03.tw8372797877498914086 : True := trivial
theorem t03.tw8403294838826761723 : True := trivial
theorem t03.tw8411446446300646618 : True := trivial
theorem t03.tw8421371694893506081 : True := trivial
theorem t03.tw8434758606480196014 : True := trivial
theorem t03.tw8448390042726193574 : True := trivial
theorem t03.tw8477012505858545184 : True := trivial
theorem t03.tw8483314850826493610 : True := trivial
theorem t03.tw8491322850101604098 : True := trivial
theorem t03.tw8502408660218072439 : True := trivial
theorem t03.tw8507203878217155965 : True := trivial
theorem t03.tw8513556564666990658 : True := trivial
theorem t03.tw8523948447822557032 : True := trivial
theorem t03.tw8533736952203685471 : True := trivial
theorem t03.tw8556175599097419955 : True := trivial
theorem t03.tw8573767665918507890 : True := trivial
theorem t03.tw8590858514749298264 : True := trivial
theorem t03.tw8596734500257947624 : True := trivial
theorem t03.tw861997488685862284 : True := trivial
theorem t03.tw862019822332654051 : True := trivial
theorem t03.tw8631466609826859499 : True := trivial
theorem t03.tw8654118254499931265 : True := trivial
theorem t03.tw8672338273827658920 : True := trivial
theorem t03.tw868901300077065382 : True := trivial
theorem t03.tw8723847426382222824 : True := trivial
theorem t03.tw8762659185926996976 : True := trivial
theorem t03.tw8782439481649638502 : True := trivial
theorem t03.tw8788951049720072140 : True := trivial
theorem t03.tw8794400927418990345 : True := trivial
theorem t03.tw880503194613987381 : True := trivial
theorem t03.tw8810896052644955837 : True := trivial
theorem t03.tw8826780467250167550 : True := trivial
theorem t03.tw8864116224359250791 : True := trivial
theorem t03.tw887221190481566865 : True := trivial
theorem t03.tw8875443048578847439 : True := trivial
theorem t03.tw8885874112976916213 : True := trivial
theorem t03.tw8893534795971865827 : True := trivial
theorem t03.tw8896739988406185946 : True := trivial
theorem t03.tw8912113273812728328 : True := trivial
theorem t03.tw8935612353988436297 : True := trivial
theorem t03.tw8942928835441132958 : True := trivial
theorem t03.tw8949174755181127041 : True := trivial
theorem t03.tw8952984989901895346 : True := trivial
theorem t03.tw8955610383190590384 : True := trivial
theorem t03.tw8974332162166624402 : True := trivial
theorem t03.tw8981029238421555457 : True := trivial
theorem t03.tw8985496855495031071 : True := trivial
theorem t03.tw8994945632136244459 : True := trivial
theorem t03.tw8995399154405968515 : True := trivial
theorem t03.tw9015597351413524136 : True := trivial
theorem t03.tw9028510036741208525 : True := trivial
theorem t03.tw9036269650828240075 : True := trivial
theorem t03.tw9039532580586085615 : True := trivial
theorem t03.tw9040192250605818991 : True := trivial
theorem t03.tw9043694471692687468 : True := trivial
theorem t03.tw9053245285524424831 : True := trivial
theorem t03.tw9056043110255590711 : True := trivial
theorem t03.tw9075737815785229706 : True := trivial
theorem t03.tw9077343967634161703 : True := trivial
theorem t03.tw9080936281214177147 : True := trivial
theorem t03.tw9081328071714838838 : True := trivial
theorem t03.tw908370170308227609 : True := trivial
theorem t03.tw9085091756417359506 : True := trivial
theorem t03.tw9089458697357867333 : True := trivial
theorem t03.tw9152351941011899529 : True := trivial
theorem t03.tw9152518651055125070 : True := trivial
theorem t03.tw9158408777313894629 : True := trivial
theorem t03.tw9159039513315462132 : True := trivial
theorem t03.tw9172298915492789533 : True := trivial
theorem t03.tw9178749527513625152 : True := trivial
theorem t03.tw9183712941154096862 : True := trivial
theorem t03.tw919630319689639448 : True := trivial
theorem t03.tw9197338512772080387 : True := trivial
theorem t03.tw9213328730457001426 : True := trivial
theorem t03.tw9219359657695953310 : True := trivial
theorem t03.tw9226121308907838710 : True := trivial
theorem t03.tw9239070221358012290 : True := trivial
theorem t03.tw9245708242039463896 : True := trivial
theorem t03.tw9259287479160448257 : True := trivial
theorem t03.tw9261301061967689009 : True := trivial
theorem t03.tw9268695254056241628 : True := trivial
theorem t03.tw9303683622382486076 : True := trivial
theorem t03.tw9306867111504768081 : True := trivial
theorem t03.tw9319293187408128605 : True := trivial
theorem t03.tw9360702718183934584 : True := trivial
theorem t03.tw9389263831102186528 : True := trivial
theorem t03.tw9401800833220690570 : True := trivial
theorem t03.tw9424534685239843613 : True := trivial
theorem t03.tw9425921405095617995 : True := trivial
theorem t03.tw944154925849391195 : True := trivial
theorem t03.tw9456356330537146732 : True := trivial
theorem t03.tw9469243747952395629 : True := trivial
theorem t03.tw9511887297977722219 : True := trivial
theorem t03.tw9518331854414483483 : True := trivial
theorem t03.tw9522148612976444239 : True := trivial
theorem t03.tw9543788585297361270 : True := trivial
theorem t03.tw9544209731443910930 : True := trivial
theorem t03.tw954772717428412580 : True := trivial
theorem t03.tw9549580043804802580 : True := trivial
theorem t03.tw9564144071128264238 : True := trivial
theorem t03.tw9569836085148865743 : True := trivial
theorem t03.tw9617026100894924392 : True := trivial
theorem t03.tw961723158962919949 : True := trivial
theorem t03.tw963010875476954387 : True := trivial
theorem t03.tw9640048168961717932 : True := trivial
theorem t03.tw9656017814785493754 : True := trivial
theorem t03.tw9657179898245506018 : True := trivial
theorem t03.tw965778321262290745 : True := trivial
theorem t03.tw9698597968173105455 : True := trivial
theorem t03.tw9699613220824160036 : True := trivial
theorem t03.tw9714254411349366752 : True := trivial
theorem t03.tw9726106264853619120 : True := trivial
theorem t03.tw9735450138600626104 : True := trivial
theorem t03.tw9749714476554290857 : True := trivial
theorem t03.tw9757649647753883819 : True := trivial
theorem t03.tw9781994229621777493 : True := trivial
theorem t03.tw9791392797697740419 : True := trivial
theorem t03.tw9794376982773953926 : True := trivial
theorem t03.tw9800435896143633606 : True := trivial
theorem t03.tw9827807172187892182 : True := trivial
theorem t03.tw9832891439057084997 : True := trivial
theorem t03.tw9835222426694108424 : True := trivial
theorem t03.tw9838658437731448455 : True := trivial
theorem t03.tw9840296949997655616 : True := trivial
theorem t03.tw9872294699659902107 : True := trivial
theorem t03.tw9904859003322151146 : True := trivial
theorem t03.tw9911107052095980377 : True := trivial
theorem t03.tw9918393970161242099 : True := trivial
theorem t03.tw9920191109562713558 : True := trivial
theorem t03.tw9924192711717747339 : True := trivial
theorem t03.tw9946327871539906717 : True := trivial
theorem t03.tw995508150950190058 : True := trivial
theorem t03.tw995929480219760101 : True := trivial
theorem t03.tw998229608257186447 : True := trivial
theorem t03.tw9994063797150485680 : True := trivial
theorem t03.tw9995414026520296715 : True := trivial
theorem t03 : PySem.Challenge.rw_te0006_03.Holds := by
  w_on; o_law; k_head
  (case hw => w_witness2)
  k_go0
  rename_i w s₀ s₁ mg mb G Y fa o pm doc kV ho hg KX X V0 GL T B TE TW x1 x2 M x3 x4 hcd ns hs hlay0 hL1 hr1 hl2 x5 x6 sa vs x7 hL ra w1 r0 hI hr hc1 hc2 K0 hD h₁ F N0
  refine (law47 (ns := ns) (by omega)).elim fun h' H => ?_
  refine join_law (w := w) (ns := ns) (a := sa) ?C KX T hI hL H rfl rfl rfl rfl rfl K0 F ?hb fun h' tk m' F' => ?fin
  case C => exact ⟨⟨by kernel_rfl, by kernel_rfl, by kernel_rfl, by kernel_rfl, by kernel_rfl, by kernel_rfl, by kernel_rfl, by kernel_rfl, by kernel_rfl, by kernel_rfl, by kernel_rfl, by kernel_rfl, by kernel_rfl, by kernel_rfl, by kernel_rfl, by kernel_rfl, by kernel_rfl, by kernel_rfl, by kernel_rfl, by kernel_rfl, by kernel_rfl, by kernel_rfl, by kernel_rfl, by kernel_rfl, by kernel_rfl, by kernel_rfl, by kernel_rfl, by kernel_rfl, by kernel_rfl, by kernel_rfl, by kernel_rfl, by kernel_rfl, by kernel_rfl, by kernel_rfl, by kernel_rfl, by kernel_rfl, by kernel_rfl, by kernel_rfl, by kernel_rfl, by kernel_rfl, by kernel_rfl, by kernel_rfl, by kernel_rfl, by kernel_rfl, by kernel_rfl, by kernel_rfl, by kernel_rfl, trivial⟩, by kernel_rfl, by kernel_rfl, by kernel_rfl, by kernel_rfl, by kernel_rfl, by kernel_rfl, by kernel_rfl, ⟨by kernel_rfl, by kernel_rfl, by kernel_rfl, by kernel_rfl, by kernel_rfl, by kernel_rfl, by kernel_rfl, by kernel_rfl, by kernel_rfl, by kernel_rfl, by kernel_rfl, by kernel_rfl, by kernel_rfl, by kernel_rfl, by kernel_rfl, by kernel_rfl, by kernel_rfl, by kernel_rfl, by kernel_rfl, by kernel_rfl, by kernel_rfl⟩, ⟨by kernel_rfl, by kernel_rfl, by kernel_rfl⟩, ⟨by kernel_rfl, by kernel_rfl, by kernel_rfl⟩⟩
  case hb => kernel_rfl
  case fin => close_w
end Mine
end
theorem PySem.Challenge.cw_te0006_03_holds : PySem.Challenge.rw_te0006_03.Holds := by
  exact Mine.t03
