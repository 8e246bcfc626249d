import PyProof.Rows.All
import Wide.All
import OpenK.AllK
import Wide.FinOn
import PyProof.NoPylong
import Lean
import PySem.Challenge.RW_te0006_02
set_option Elab.async false
set_option linter.all false
set_option bootstrap.genMatcherCode false
set_option genSizeOf false
set_option genInjectivity false
set_option genCtorIdx false
set_option tactic.hygienic false
set_option maxRecDepth 100000
open Array renaming getElem?_eq_some_iff→Db
open Bool renaming false_ne_true→AI,and_eq_true_iff→AJ,and_eq_true→BY,false_eq_true→Ca,not_eq_true'→E8,and_false→FD
open Char renaming toNat→GF
open Exists renaming elim→AB,imp→Af
open ForInStep renaming yield→DC
open Int renaming ofNat_lt→Bl,natCast_nonneg→CD,toNat_of_nonneg→Ef,not_lt→FC,le_trans→GB
open List renaming length→A9,append_assoc→AC,map→AD,length_append→AE,toArray→AG,getElem?_eq_some_iff→AM,length_map→AQ,append_nil→AR,mem_cons→AU,length_cons→AX,mem_singleton→AY,getElem?_set_ne→Aa,take→Ac,mem_append_right→Ad,map_append→Ae,set→Ai,not_mem_nil→Ap,map_cons→At,size_toArray→Ay,all_eq_true→Az,perm_append_comm_assoc→B4,length_eq_zero_iff→B5,mem_append_left→B7,mem_map_of_mem→B9,mem_append→BK,length_set→BQ,length_nil→Bk,getElem?_map→Bn,nodup_cons→Bw,cons_append→By,getElem?_append_left→Bz,nodup_append→C1,mem_map→C4,nil_append→C7,Perm→C9,getElem?_set→CJ,getElem?_eq_none→CR,lookup_cons→CY,isEmpty_iff→CZ,forIn_cons→Co,getElem?_append_right→Cu,getD_eq_getElem?_getD→Cv,length_singleton→D1,reverse_reverse→DB,flatten_append→DI,mem_range→DO,getElem?_set_self→DS,map_map→DV,contains_iff_mem→DZ,length_drop→Dp,map_congr_left→Ds,all_cons→Dv,nodup_nil→EG,getElem?_eq_getElem→Ew,range→FB,take_of_length_le→FQ,take_nil→FW,take_append_drop→Fi,set_set→GA
open List.Perm renaming append_left→D2
open List.cons renaming inj→AZ
open Nat renaming le_trans→AL,le_refl→AT,lt_of_lt_of_le→Ab,ne_of_lt→Ah,le_add_right→BN,le_of_succ_le→BO,le_add_left→BP,add_assoc→BV,le_of_ble_eq_true→Bc,ne_of_gt→Bh,beq→Bq,le_of_lt→Bu,add_comm→Bv,zero_le→Bx,zero_add→C2,add_le_add→C3,lt_irrefl→CG,le_of_eq→CI,add_le_add_left→CL,succ_le_succ→CX,le_succ_of_le→Ck,not_lt→DR,eq_of_beq_eq_true→DY,lt_trans→Do,lt_of_succ_lt_succ→E3,ble→EF,sub_self→Eu,lt_of_le_of_lt→Ev,not_le→G7,le_antisymm→G9
open Ne renaming symm→Cq
open Option renaming bind_eq_some_iff→Ak,map_eq_some_iff→Ao,isSome_iff_exists→DA
open Option.some renaming inj→AH
open PUnit renaming unit→FA
open Pure renaming pure→Be
open PyProof.Rows renaming subscriptTail→DD
open PySem renaming wpAny_bind→AF,wpAny_pure→AN,NameKind→Al,wpAny_holding→BB,codeAny→Bb,wpAny_mono→Bi,holding→Bm,wpAny_standAt→Bp,cellsFrom→Br,DictEntry→C0,keywordEach→C5,compareOp→C8,sizeLine→CK,mainGlobals→Cb,sysModules→Ce,Program→Cg,standAt→Cp,starEach→D6,backToKw→D8,strKind→DJ,intKind→DW,pairTrees→Dg,Builtin→EI,binaryOp→ES,isSubtype→Eo,recursionLimit→F0,wpAny_truthy_bool→FI,wpAny_field→FM
open PySem.Around renaming frames_deeper→Df
open PySem.Heap renaming lt_size→Av,get?_push_of_some→BH,SameBut→BW,get?_update_self→D3,get?_update_other→DT,dictOf_iff→Da
open PySem.Keeper renaming boundFrame→FK
open PySem.NameKind renaming free→Bj,cell→Ct,globalImplicit→Du
open PySem.Obj renaming mapFields→Ec,data_mapFields→Et
open PySem.PyData renaming keyHash→DN
open PySem.Str renaming ofString→A8,join→B3
open PySem.Txt renaming contains→B0
open PySem.Value.ref renaming inj→FV
open PySem.W renaming hasDictIn→EK
open PySem PySem.W PySem.Calls PyProof.Rows
namespace Mine.Internal
inductive V where
 |none|undef
 |bool (b:Bool)|int (i:Int)|str (s:Str)
 |txt
 |tup (xs:List V)
 |rcd (c:Nat) (fs:List (Str×V))
 |obj (i:Nat)|fn (f:Nat)|cls (c:Nat)|sta (n:Nat)
 |rng (a b:Int)
 |bi (id:String)|ty (n:String)
 |cref (i:Nat)
inductive O where
 |inst (c:Nat) (fs:List (Str×V))
 |list (xs:List V)
 |dict (es:List (V×V))
 |fro (es:List (V×V))
 |cell (v:V)
 |sdict (es:List (V×V))
 |exc (c:Nat)
 |dead
 |void
structure St where
 loc:List (Str×V)
 heap:List O
inductive Fl where
 |next|brk|cont|ret (v:V)
inductive CA where
 |free|fn (f:Nat)|sta (n:Nat)
set_option genCtorIdx true in
inductive ab where
 |rcd|self|exc
structure Fn where
 params:List Str
 dflts:List V
 body:List Stmt
 scope:Scope
 sup:Option (Nat×Nat):=none
structure FH where
 kind:ab
 init:Nat
 attrs:List (Str×CA)
structure BD where
 fns:Nat→Option Fn
 cls:Nat→Option FH
 glob:Str→Option V
 sta:Nat→O
inductive It where
 |list (i:Nat) (en:Bool)
 |str (s:Str) (en:Bool)
 |rng (a b:Int)
 |dict (i:Nat)
set_option genCtorIdx true in
inductive U where
 |nat|vals|strs|ob|val|oval|ents|bool
@[reducible] def U.T:U→Type
 | .nat=>Nat
 | .vals=>List V
 | .strs=>List Str
 | .ob=>O
 | .val=>V
 | .oval=>Option V
 | .ents=>List (V×V)
 | .bool=>Bool
inductive Au where
 |none
 |ret (r:Except V V) (h:List O)
 |ite (b:Bool) (x y:Au)
 |opt (u:U) (a:Option u.T) (k:u.T→Au)
 |call (d f:Nat) (vs:List V) (kws:List (Str×V)) (h:List O) (k e:V→List O→Au)
 |whl (d:Nat) (t:Expr) (b:List Stmt) (s:St) (k:Fl→St→Au) (e:V→St→Au)
 |frl (d:Nat) (t:Expr) (it:It) (j:Nat) (b:List Stmt) (s:St) (k:Fl→St→Au) (e:V→St→Au)
 |cmp (d:Nat) (elt t:Expr) (ifs:List Expr) (it:It) (j i:Nat) (s:St) (k:Unit→St→Au) (e:V→St→Au)
noncomputable def M (α:Type):=St→(α→St→Au)→(V→St→Au)→Au
noncomputable def M.pure {α:Type}(a:α):M α:=fun s k e=>k a s
noncomputable def M.bind {α β:Type}(m:M α)(f:α→M β):M β:=fun s k e=>m s (fun a s=>f a s k e) e
noncomputable def stuck {α:Type}:M α:=fun zz zz zz=>.none
noncomputable def Ep {α:Type}(b:Bool)(x y:M α):M α:=fun s k e=>.ite b (x s k e) (y s k e)
noncomputable def ZW {α:Type}(b:Bool)(x y:M α):M α:=fun s k e=>bif b then x s k e else y s k e
noncomputable def req {α:Type}(b:Bool)(x:M α):M α:=Ep b x stuck
noncomputable def chk {α:Type}(b:Bool)(x:M α):M α:=ZW b x stuck
noncomputable def oB {α:Type}(o:Option α)(f:α→Au):Au:=match o with
 |some a=>f a
 |none=>.none
noncomputable def Ax {α:Type}(o:Option α):M α:=fun s k zz=>oB o fun a=>k a s
noncomputable def dyn (u:U)(o:Option u.T):M u.T:=fun s k zz=>.opt u o fun a=>k a s
noncomputable def TP {α β:Type}(o:Option α)(n:M β)(f:α→M β):M β:=fun s k e=>match o with
 |some a=>f a s k e
 |none=>n s k e
noncomputable abbrev HM:=List O→(V→List O→Au)→(V→List O→Au)→Au
noncomputable def L6 (f:HM):M V:=fun s k e=>f s.heap (fun v h=>k v ⟨s.loc,h⟩) (fun x h=>e x ⟨s.loc,h⟩)
noncomputable def Cc (x:Str):List (Str×V)→Option V
 |[]=>none
 |(y,v)::l=>if x=y then some v else Cc x l
noncomputable def Kg (x:Str)(v:V):List (Str×V)→List (Str×V)
 |[]=>[]
 |(y,u)::l=>if x=y then(y,v)::l else(y,u)::Kg x v l
noncomputable def put (x:Str)(v:V):List (Str×V)→List (Str×V)
 |[]=>[(x,v)]
 |(y,u)::l=>if x=y then(y,v)::l else(y,u)::put x v l
theorem FS (x:Str)(p:Str×V)(l:List (Str×V)):Cc x (p::l)=if x=p.1 then some p.2 else Cc x l:=rfl
theorem Yf (x:Str)(v:V)(p:Str×V)(l:List (Str×V)):put x v (p::l)=if x=p.1 then(p.1,v)::l else(p.1,p.2)::put x v l:=rfl
theorem YQ (x:Str)(v:V)(p:Str×V)(l:List (Str×V)):Kg x v (p::l)=if x=p.1 then(p.1,v)::l else(p.1,p.2)::Kg x v l:=rfl
set_option backward.match.sparseCases false in
noncomputable def Gw:V→Bool
 | .fn _=>true
 | .cls _=>true
 | .sta _=>true
 | .bi _=>true
 | .ty _=>true
 |_=>false
set_option backward.match.sparseCases false in
noncomputable def MM:V→Bool
 | .undef=>true
 |_=>false
set_option backward.match.sparseCases false in
noncomputable def IM:V→Bool
 | .none=>true
 |_=>false
set_option backward.match.sparseCases false in
noncomputable def DF:V→Option Int
 | .int i=>some i
 |_=>none
set_option backward.match.sparseCases false in
noncomputable def Dh:V→Option Str
 | .str s=>some s
 |_=>none
set_option backward.match.sparseCases false in
noncomputable def SQ:V→Option Bool
 | .bool b=>some b
 |_=>none
set_option backward.match.sparseCases false in
noncomputable def G0:V→Option Nat
 | .obj i=>some i
 |_=>none
set_option backward.match.sparseCases false in
noncomputable def LP:V→Option (List V)
 | .tup xs=>some xs
 |_=>none
set_option backward.match.sparseCases false in
noncomputable def LR:V→Option Nat
 | .cref i=>some i
 |_=>none
set_option backward.match.sparseCases false in
noncomputable def oL:O→Option (List V)
 | .list xs=>some xs
 |_=>none
set_option backward.match.sparseCases false in
noncomputable def oD:O→Option (List (V×V))
 | .dict es=>some es
 |_=>none
set_option backward.match.sparseCases false in
noncomputable def oF:O→Option (List (V×V))
 | .fro es=>some es
 |_=>none
set_option backward.match.sparseCases false in
noncomputable def oI:O→Option (Nat×List (Str×V))
 | .inst c fs=>some (c,fs)
 |_=>none
set_option backward.match.sparseCases false in
noncomputable def oC:O→Option V
 | .cell v=>some v
 |_=>none
noncomputable def QH (v:V):Option V:=if MM v=true then none else some v
set_option backward.match.sparseCases false in
noncomputable def MV (h:List O)(i:Nat)(f:O→Au):Au:=match i,h with
 |0,o::_=>f o
 |i,h=>.opt .ob h[i]? f
noncomputable def rd {α:Type}(p:O→Option α)(i:Nat):M α:=fun s k zz=>MV s.heap i fun o=>oB (p o) fun x=>k x s
noncomputable def GO (i:Nat)(o:O):M Unit:=fun s k zz=>k () ⟨s.loc,s.heap.set i o⟩
noncomputable def Fa (o:O):M V:=fun s k zz=>k (.obj s.heap.length) ⟨s.loc,s.heap++[o]⟩
noncomputable def De (x:Str):M V:=fun s k zz=>oB (Cc x s.loc) fun v=>match LR v with
 |some i=>MV s.heap i fun o=>oB (oC o) fun w=>oB (QH w) fun v=>k v s
 |none=>oB (QH v) fun v=>k v s
noncomputable def Cn:V→Bool
 | .cref _=>false
 |v=> !Gw v
noncomputable def Fs (u v:V):Bool:=Cn u&& !Gw v
noncomputable def EX (x:Str)(v:V):M Unit:=fun s k zz=>oB (Cc x s.loc) fun u=>.ite (Fs u v) (k () ⟨Kg x v s.loc,s.heap⟩) (oB (LR u) fun i=>MV s.heap i fun o=>oB (oC o) fun zz=>k () ⟨s.loc,s.heap.set i (.cell v)⟩)
set_option backward.match.sparseCases false in
noncomputable def Hh:Const→Option V
 | .none=>some .none
 | .bool b=>some (.bool b)
 | .int i=>some (.int i)
 | .str s=>some (.str s)
 |_=>none
noncomputable def lim:Nat:=1000000
noncomputable def BE (n:Nat):Bool:=EF n lim
set_option backward.match.sparseCases false in
noncomputable def IE (S:BD):V→M Bool
 | .none=>.pure false
 | .bool b=>.pure b
 | .int i=>.pure (decide (i≠0))
 | .str s=>req (BE s.cps.size) (.pure (decide (s.cps.size≠0)))
 | .obj i=>(rd oL i).bind fun xs=>req (BE xs.length) (.pure (decide (xs.length≠0)))
 | .sta n=>(Ax (oL (S.sta n))).bind fun xs=>req (BE xs.length) (.pure (decide (xs.length≠0)))
 |_=>stuck
set_option backward.match.sparseCases false in
noncomputable def Lc:V→V→Option Bool
 | .int a,b=>(DF b).map fun b=>decide (a=b)
 | .str a,b=>(Dh b).map fun b=>decide (a=b)
 | .none,b=>(DF b).map fun zz=>false
 |_,_=>none
set_option backward.match.sparseCases false in
noncomputable def Hx (f:V→V→Option Bool):List V→List V→Option Bool
 |[],[]=>some true
 |a::as,b::bs=>(f a b).bind fun r=>bif r then Hx f as bs else none
 |_,_=>none
noncomputable def E9 (a b:V):Option Bool:=match LP a with
 |some as=>(LP b).bind fun bs=>Hx Lc as bs
 |none=>Lc a b
noncomputable def XV (a b:V):M Bool:=match G0 a with
 |some i=>(Ax (G0 b)).bind fun j=>(rd oL i).bind fun xs=>(rd oL j).bind fun ys=>dyn .bool (Hx E9 xs ys)
 |none=>match LP a with
  |some _=>dyn .bool (E9 a b)
  |none=>Ax (E9 a b)
noncomputable def Aw (n:Nat):V:=.str ⟨#[n]⟩
noncomputable def M6 {K:Type}[DecidableEq K](as:V→Option K)(k:K):List V→Option Bool
 |[]=>some false
 |x::xs=>(as x).bind fun j=>(M6 as k xs).map fun b=>decide (j=k)||b
noncomputable def Fe (a:V)(xs:List V):Option Bool:=match DF a with
 |some i=>M6 DF i xs
 |none=>(Dh a).bind fun s=>M6 Dh s xs
noncomputable def H8 {K:Type}[DecidableEq K](as:V→Option K)(k:K):List (V×V)→Option (Option V)
 |[]=>some none
 |p::r=>(as p.1).bind fun j=>if j=k then some (some p.2) else H8 as k r
theorem Ls {K:Type}[DecidableEq K](as:V→Option K)(k:K)(p:V×V)(r:List (V×V)):H8 as k (p::r)=(as p.1).bind fun j=>if j=k then some (some p.2) else H8 as k r:=rfl
noncomputable def Hp (a:V)(es:List (V×V)):Option (Option V):=match DF a with
 |some i=>H8 DF i es
 |none=>(Dh a).bind fun s=>if es.isEmpty=true then none else H8 Dh s es
noncomputable def Nv (k:Int)(v:V):List (V×V)→Option (List (V×V))
 |[]=>some [(.int k,v)]
 |(x,u)::r=>(DF x).bind fun j=>if j=k then some ((x,v)::r) else(Nv k v r).map ((x,u)::·)
noncomputable def Ny (k:Int):List (V×V)→Option (List (V×V))
 |[]=>none
 |(x,u)::r=>(DF x).bind fun j=>if j=k then some r else(Ny k r).map ((x,u)::·)
noncomputable def N7:O→O
 | .fro es=>.dict es
 |o=>o
set_option backward.match.sparseCases false in
noncomputable def NT (S:BD)(v:V):M O:=match v with
 | .sta n=>.pure (S.sta n)
 | .obj i=>(rd some i).bind fun o=>.pure (N7 o)
 |_=>stuck
set_option backward.match.sparseCases false in
noncomputable def ZV (a:V):O→M Bool
 | .list xs=>dyn .bool (Fe a xs)
 | .dict es=>(dyn .oval (Hp a es)).bind fun r=>.pure r.isSome
 | .sdict es=>(dyn .oval (Hp a es)).bind fun r=>.pure r.isSome
 |_=>stuck
noncomputable def Uo (S:BD)(a b:V):M Bool:=match Dh b with
 |some t=>(Ax (Dh a)).bind fun s=>.pure (B0 t s)
 |none=>(NT S b).bind (ZV a)
noncomputable def isNone (v:V):M Bool:=chk (!MM v) (.pure (IM v))
noncomputable def QJ (p:Int→Int→Bool)(a b:V):M Bool:=(Ax (DF a)).bind fun x=>(Ax (DF b)).bind fun y=>.pure (p x y)
noncomputable def Um (a b:V):M Bool:=match SQ b with
 |some q=>(Ax (SQ a)).bind fun p=>.pure (decide (p=q))
 |none=>chk (IM b) (isNone a)
noncomputable def X4 (a b:V):M Bool:=match DF a with
 |some x=>(Ax (DF b)).bind fun y=>.pure (decide (x≤y))
 |none=>(Ax (Dh a)).bind fun x=>(Ax (Dh b)).bind fun y=>.pure (!(decide (y.cps.toList<x.cps.toList)))
noncomputable def Pp (m:M Bool):M Bool:=m.bind fun r=>.pure (!r)
noncomputable def KZ (S:BD)(op:CmpOp)(a b:V):M Bool:=match op with
 | .Eq=>XV a b
 | .NotEq=>Pp (Ax (Lc a b))
 | .Lt=>QJ (fun x y=>decide (x<y)) a b
 | .LtE=>X4 a b
 | .Gt=>QJ (fun x y=>decide (y<x)) a b
 | .GtE=>QJ (fun x y=>decide (y≤x)) a b
 | .Is=>Um a b
 | .IsNot=>Pp (Um a b)
 | .In=>Uo S a b
 | .NotIn=>Pp (Uo S a b)
noncomputable def J7 (a b:V)(f:Int→Int→M V):M V:=(Ax (DF a)).bind fun x=>(Ax (DF b)).bind fun y=>f x y
noncomputable def UC (a b:V):M V:=match DF a with
 |some x=>(Ax (DF b)).bind fun y=>.pure (.int (x+y))
 |none=>match Dh a with
  |some x=>(Ax (Dh b)).bind fun y=>req (BE (x.cps.size+y.cps.size)) (.pure (.str (x++y)))
  |none=>(Ax (G0 a)).bind fun i=>(Ax (G0 b)).bind fun j=>(rd oL i).bind fun xs=>(rd oL j).bind fun ys=>req (BE (xs.length+ys.length)) (Fa (.list (xs++ys)))
noncomputable def XQ (f:Str)(b:V):M V:=stuck
set_option backward.match.sparseCases false in
noncomputable def U8 (op:Operator)(a b:V):M V:=match op with
 | .Add=>UC a b
 | .Sub=>J7 a b fun x y=>.pure (.int (x - y))
 | .FloorDiv=>J7 a b fun x y=>req (decide (y≠0∧y.natAbs<1073741824)) (.pure (.int (x.fdiv y)))
 | .Mod=>match Dh a with
  |some f=>XQ f b
  |none=>J7 a b fun x y=>req (decide (y≠0)) (.pure (.int (x.fmod y)))
 | .Mult=>J7 a b fun x y=>req (decide (x.natAbs<1073741824∧y.natAbs<1073741824)) (.pure (.int (x * y)))
 |_=>stuck
set_option backward.match.sparseCases false in
noncomputable def WJ (S:BD)(op:UnaryOp)(a:V):M V:=match op with
 | .USub=>(Ax (DF a)).bind fun x=>.pure (.int (-x))
 | .Not=>(IE S a).bind fun b=>.pure (.bool (!b))
 |_=>stuck
noncomputable def FE (i:Int)(n:Nat):Option Nat:=
 if n≤1000000 then(if 0≤i then(if i.toNat<n then some i.toNat else none) else(if -i≤(n:Int) then some (i+n).toNat else none)) else none
noncomputable def IV (n:Nat)(v:V)(d:Nat):Option Nat:=match DF v with
 |some i=>some (if 0≤i then min i.toNat n else(i+n).toNat)
 |none=>if IM v=true then some d else none
noncomputable def B1 {α:Type}(xs:List α)(l u:Nat):List α:=(xs.take u).drop l
noncomputable def NI (S:BD)(v l u:V):M V:=match Dh v with
 |some s=>req (BE s.cps.size) ((dyn .nat (IV s.cps.size l 0)).bind fun a=>(dyn .nat (IV s.cps.size u s.cps.size)).bind fun b=>.pure (.str ⟨(B1 s.cps.toList a b).toArray⟩))
 |none=>(NT S v).bind fun o=>(Ax (oL o)).bind fun xs=>req (BE xs.length) ((dyn .nat (IV xs.length l 0)).bind fun a=>(dyn .nat (IV xs.length u xs.length)).bind fun b=>Fa (.list (B1 xs a b)))
noncomputable def Zo (i:V):O→M V
 | .list xs=>(Ax (DF i)).bind fun k=>(dyn .nat (FE k xs.length)).bind fun(j:Nat)=>dyn .val xs[j]?
 | .dict es=>(dyn .oval (Hp i es)).bind fun r=>dyn .val r
 | .sdict es=>(dyn .oval (Hp i es)).bind fun r=>dyn .val r
 |_=>stuck
noncomputable def Sl (S:BD)(v i:V):M V:=match Dh v with
 |some s=>(Ax (DF i)).bind fun k=>(dyn .nat (FE k s.cps.size)).bind fun(j:Nat)=>(dyn .nat s.cps[j]?).bind fun c=>.pure (Aw c)
 |none=>match LP v with
  |some xs=>(Ax (DF i)).bind fun k=>(dyn .nat (FE k xs.length)).bind fun(j:Nat)=>dyn .val xs[j]?
  |none=>(NT S v).bind (Zo i)
noncomputable def EQ (S:BD)(c:Nat)(n:Str):Option CA:=(S.cls c).bind fun k=>(k.attrs.find? fun p=>decide (p.1=n)).map (·.2)
noncomputable def Ur (n:Str)(fs:List (Str×V)):Option V:=(Cc n fs).bind fun x=>if Gw x=true then none else some x
set_option backward.match.sparseCases false in
noncomputable def ZC (n:Str)(fs:List (Str×V)):Option CA→Option V
 |some .free=>Ur n fs
 |some (.sta k)=>if(Cc n fs).isNone=true then some (.sta k) else none
 |_=>none
set_option backward.match.sparseCases false in
noncomputable def Zu (n:Str)(fs:List (Str×V)):Option CA→Option V
 |some .free=>Ur n fs
 |_=>none
set_option backward.match.sparseCases false in
noncomputable def Jw (S:BD)(v:V)(n:Str):M V:=match v with
 | .rcd c fs=>Ax (Zu n fs (EQ S c n))
 | .obj i=>(rd oI i).bind fun p=>Ax (ZC n p.2 (EQ S p.1 n))
 |_=>stuck
noncomputable def Nd:Option CA→Bool
 |some .free=>true
 |_=>false
set_option backward.match.sparseCases false in
noncomputable def TG (S:BD)(i:Nat)(n:Str)(x:V):O→M Unit
 | .inst c fs=>chk (Nd (EQ S c n)&&EF (put n x fs).length 1000) (GO i (.inst c (put n x fs)))
 | .exc c=>chk (Nd (EQ S c n)) (GO i (.inst c [(n,x)]))
 |_=>stuck
noncomputable def HT (S:BD)(v:V)(n:Str)(x:V):M Unit:=(Ax (G0 v)).bind fun i=>(rd some i).bind (TG S i n x)
set_option backward.match.sparseCases false in
noncomputable def TF (j:Nat)(k:Int)(x:V):O→M Unit
 | .dict es=>req (BE es.length) ((dyn .ents (Nv k x es)).bind fun r=>GO j (.dict r))
 | .list xs=>(dyn .nat (FE k xs.length)).bind fun(n:Nat)=>GO j (.list (xs.set n x))
 |_=>stuck
noncomputable def KO (v i x:V):M Unit:=(Ax (G0 v)).bind fun j=>(Ax (DF i)).bind fun k=>(rd some j).bind (TF j k x)
noncomputable def Nx (v i:V):M Unit:=(Ax (G0 v)).bind fun j=>(Ax (DF i)).bind fun k=>(rd oD j).bind fun es=>req (BE es.length) ((dyn .ents (Ny k es)).bind fun r=>GO j (.dict r))
inductive Je where
 |fn (f:Nat) (pre:List V)
 |cls (c:Nat)
 |bi (n:String)
 |ty (n:String)
 |lm (n:String) (i:Nat)
 |join (s:Str)
set_option backward.match.sparseCases false in
noncomputable def Y3:V→M Je
 | .fn f=>.pure (.fn f [])
 | .cls c=>.pure (.cls c)
 | .bi n=>.pure (.bi n)
 | .ty n=>.pure (.ty n)
 |_=>stuck
noncomputable def TX (n:Str):Option String:=if n=("append":Str) then some "list.append" else if n=("extend":Str) then some "list.extend" else if n=("pop":Str) then some "list.pop" else none
set_option backward.match.sparseCases false in
noncomputable def Pt (n:Str)(fs:List (Str×V))(i:Nat):Option CA→Option Je
 |some (.fn f)=>if(Cc n fs).isNone=true then some (.fn f [.obj i]) else none
 |_=>none
set_option backward.match.sparseCases false in
noncomputable def Ps (S:BD)(n:Str)(i:Nat):O→Option Je
 | .inst c fs=>Pt n fs i (EQ S c n)
 | .list _=>(TX n).map fun b=>.lm b i
 |_=>none
noncomputable def TV (S:BD)(v:V)(n:Str):M Je:=match Dh v with
 |some s=>if n=("join":Str) then .pure (.join s) else stuck
 |none=>(Ax (G0 v)).bind fun i=>(rd (Ps S n i) i)
noncomputable def Mz:List V→Option (List Str)
 |[]=>some []
 |x::r=>(Dh x).bind fun s=>(Mz r).map (s::·)
noncomputable def Ci (S:BD)(c:Nat):Bool:=match S.cls c with
 |some q=>(match q.kind with
  | .exc=>true
  |_=>false)
 |none=>false
set_option backward.match.sparseCases false in
noncomputable def XD (S:BD)(v c:V):M V:=match c,v with
 | .cls k,.rcd j _=>chk ((S.cls k).isSome&&((S.cls j).isSome&& !Ci S j)) (.pure (.bool (decide (j=k))))
 | .ty n,.str _=>if n="str" then .pure (.bool true) else stuck
 |_,_=>stuck
noncomputable def TY (S:BD)(v:V):M V:=match Dh v with
 |some s=>req (BE s.cps.size) (.pure (.int s.cps.size))
 |none=>(NT S v).bind fun o=>(Ax (oL o)).bind fun xs=>req (BE xs.length) (.pure (.int xs.length))
noncomputable def V3 (S:BD)(n:String):List V→M V
 |[v]=>if n="len" then TY S v else stuck
 |[v,c]=>if n="isinstance" then XD S v c else stuck
 |_=>stuck
noncomputable def UM (n:String):List V→M V
 |[v]=>if n="list" then(Ax (G0 v)).bind fun i=>(rd oD i).bind fun es=>req (BE es.length) (Fa (.list (es.map (·.1))))
   else if n="range" then(Ax (DF v)).bind fun b=>req (BE b.natAbs) (.pure (.rng 0 b)) else stuck
 |[v,u]=>if n="range" then(Ax (DF v)).bind fun a=>(Ax (DF u)).bind fun b=>req (BE a.natAbs&&BE b.natAbs) (.pure (.rng a b)) else stuck
 |_=>stuck
noncomputable def Ui (n:String)(i:Nat):List V→M V
 |[v]=>(rd oL i).bind fun xs=>
  if n="list.append" then req (BE xs.length) ((GO i (.list (xs++[v]))).bind fun zz=>.pure V.none)
  else if n="list.extend" then(Ax (G0 v)).bind fun j=>req (decide (j≠i)) ((rd oL j).bind fun ys=>req (BE (xs.length+ys.length)) ((GO i (.list (xs++ys))).bind fun zz=>.pure V.none))
  else if n="list.pop" then(Ax (DF v)).bind fun k=>req (decide (k=0)&&BE xs.length) ((dyn .val xs.head?).bind fun v=>(GO i (.list xs.tail)).bind fun zz=>.pure v)
  else stuck
 |[]=>if n="list.pop" then(rd oL i).bind fun xs=>req (BE xs.length) ((dyn .val xs.getLast?).bind fun v=>(GO i (.list xs.dropLast)).bind fun zz=>.pure v) else stuck
 |_=>stuck
noncomputable def slots {α:Type}(ps:List Str)(vs:List α)(kw:List (Str×α))(ds:List α):List (Str×α):=
 ((ps.drop (ps.length - ds.length)).zip ds).foldl (fun acc p=>if(acc.lookup p.1).isNone then acc++[(p.1,p.2)] else acc) (ps.zip vs++kw)
noncomputable def boundOf {α:Type}(ps:List Str)(vs:List α)(kw:List (Str×α))(ds:List α):List (Str×α):=ps.filterMap fun n=>((slots ps vs kw ds).lookup n).map (n,·)
noncomputable def fits {α:Type}(ps:List Str)(vs:List α)(kw:List (Str×α))(ds:List α):Bool:=
 decide (vs.length≤ps.length)&&kw.all (fun p=>ps.contains p.1&& !(ps.take vs.length).contains p.1)&&decide ((kw.map (·.1)).Nodup)&&decide (ds.length≤ps.length)&&
  ((ps.take (ps.length - ds.length)).filter fun n=>((ps.zip vs++kw).lookup n).isNone).isEmpty
noncomputable def Jv (fn:Fn)(vs:List V)(kws:List (Str×V)):Option (List (Str×V)):=
 if fits fn.params vs kws fn.dflts=true then some (boundOf fn.params vs kws fn.dflts) else none
set_option backward.match.sparseCases false in
noncomputable def Dk (g:Str→Option V)(binds:List (Str×V)):List (Str×Al)→List O→List (Str×V)×List O
 |[],h=>([],h)
 |(x,k)::r,h=>match k with
  | .local=>let q:=Dk g binds r h;((x,(Cc x binds).getD .undef)::q.1,q.2)
  | .cell=>let q:=Dk g binds r (h++[.cell ((Cc x binds).getD .undef)]);((x,.cref h.length)::q.1,q.2)
  | .globalImplicit=>let q:=Dk g binds r h;(match g x with|some v=>(x,v)::q.1|none=>q.1,q.2)
  |_=>Dk g binds r h
noncomputable def entry (S:BD)(sc:Scope)(binds:List (Str×V))(h:List O):St:=let q:=Dk S.glob binds sc.names h;⟨q.1,q.2⟩
noncomputable def IC (en:Bool)(k:Nat)(v:V):V:=bif en then .tup [.int k,v] else v
noncomputable def Kw (it:It)(k:Nat):M (Option V):=match it with
 | .list i en=>(rd oL i).bind fun xs=>req (EF k xs.length) (dyn .oval (some (xs[k]?.map (IC en k))))
 | .str s en=>dyn .oval (some ((s.cps[k]?.map Aw).map (IC en k)))
 | .rng a b=>dyn .oval (some (if a+k<b then some (.int (a+k)) else none))
 | .dict i=>(rd oF i).bind fun es=>dyn .oval (some (es[k]?.map (·.1)))
set_option backward.match.sparseCases false in
noncomputable def ay (i:Nat):O→M It
 | .list _=>.pure (.list i false)
 | .dict es=>req (BE es.length) ((GO i (.fro es)).bind fun zz=>.pure (.dict i))
 |_=>stuck
set_option backward.match.sparseCases false in
noncomputable def Q1 (v:V):M It:=match v with
 | .obj i=>(rd some i).bind (ay i)
 | .str s=>.pure (.str s false)
 | .rng a b=>req (BE a.natAbs&&BE b.natAbs) (.pure (.rng a b))
 |_=>stuck
set_option backward.match.sparseCases false in
noncomputable def IS (v:V):M It:=match v with
 | .obj i=>(rd oL i).bind fun zz=>.pure (.list i true)
 | .str s=>.pure (.str s true)
 |_=>stuck
noncomputable def Ia (d:Nat)(t:Expr)(b:List Stmt):M Fl:=fun s k e=>.whl d t b s k e
noncomputable def M0 (d:Nat)(t:Expr)(it:It)(j:Nat)(b:List Stmt):M Fl:=fun s k e=>.frl d t it j b s k e
noncomputable def KY (d:Nat)(elt t:Expr)(ifs:List Expr)(it:It)(j i:Nat):M Unit:=fun s k e=>.cmp d elt t ifs it j i s k e
structure Fh where
 ev:Nat→Expr→M V
 tr:Nat→Expr→M Bool
 ex:Nat→Stmt→M Fl
noncomputable def nz (d:Nat):Bool:= !(Bq d 0)
noncomputable def GI:Nat:=16
noncomputable def Hv (d:Nat):Nat:=bif Bq d GI then 15 else d
set_option backward.match.sparseCases false in
noncomputable def Mg:Expr→Option (Str×Pos)
 | .Name x p=>some (x,p)
 |_=>none
set_option backward.match.sparseCases false in
noncomputable def Mp:Expr→Option (Expr×List Expr×Bool)
 | .Call f as ks _=>some (f,as,ks.isEmpty)
 |_=>none
noncomputable def noStar (e:Expr):Bool:= !(Bq e.ctorIdx 22)
noncomputable def ER (d:Nat)(f:Nat)(vs:List V)(kws:List (Str×V)):HM:=fun h k e=>match d with
 |0=>.none
 |d+1=>.call d f vs kws h k e
set_option backward.match.sparseCases false in
noncomputable def Rg:O→Option Unit
 | .void=>some ()
 |_=>none
noncomputable def Za (i:Nat)(h:List O)(k:V→List O→Au):Au:=MV h i fun o=>oB (oI o) fun p=>k (.rcd p.1 p.2) (h.set i .dead)
noncomputable def ZS (S:BD)(d:Nat)(c:Nat)(vs:List V)(kws:List (Str×V)):HM:=fun h k e=>oB (S.cls c) fun q=>match q.kind with
 | .self=>MV h 0 fun o=>oB (Rg o) fun zz=>ER d q.init (.obj 0::vs) kws (h.set 0 (.inst c [])) (fun u h=>bif IM u then k (.obj 0) h else .none) e
 | .rcd=>ER d q.init (.obj h.length::vs) kws (h++[.inst c []]) (fun u h'=>bif IM u then Za h.length h' k else .none) e
 | .exc=>.none
noncomputable def Tn (c i:Nat)(h:List O)(k:V→List O→Au):Au:=MV h i fun o=>oB (oI o) fun p=>bif Bq p.1 c then k (.rcd p.1 p.2) (h.set i .dead) else .none
noncomputable def Q9 (S:BD)(d:Nat)(c:Nat)(vs:List V):HM:=fun h k e=>oB (S.cls c) fun q=>match q.kind with
 | .exc=>ER d q.init (.obj h.length::vs) [] (h++[.exc c]) (fun u h'=>bif IM u then Tn c h.length h' e else .none) (fun zz zz=>.none)
 |_=>.none
noncomputable def N6 (f:HM):M Fl:=fun s k e=>f s.heap (fun zz zz=>.none) (fun x h=>e x ⟨s.loc,h⟩)
section
variable (S:BD)(r:Fh)
noncomputable def IR (d:Nat):List Expr→M (List V)
 |[]=>.pure []
 |e::es=>chk (noStar e) ((r.ev d e).bind fun v=>(IR d es).bind fun vs=>.pure (v::vs))
noncomputable def Ug (k:Keyword):Bool:=k.arg.isSome
noncomputable def Hn (as:List Expr)(ks:List Keyword):Bool:=as.all noStar&&ks.all Ug
noncomputable def Il (d:Nat):List Keyword→M (List (Str×V))
 |[]=>.pure []
 |k::es=>(Ax k.arg).bind fun n=>(r.ev d k.value).bind fun v=>(Il d es).bind fun vs=>.pure ((n,v)::vs)
noncomputable def Us (d:Nat)(o:Option Expr):M V:=match o with
 |none=>.pure .none
 |some e=>r.ev d e
set_option backward.match.sparseCases false in
noncomputable def LL (m:M Fl):Fl→M Fl
 | .next=>m
 |f=>.pure f
noncomputable def DP (d:Nat):List Stmt→M Fl
 |[]=>.pure .next
 |s::ss=>(r.ex d s).bind (LL (DP d ss))
noncomputable def Ju (d:Nat)(op:BoolOp):List Expr→M V
 |[]=>stuck
 |e::es=>(r.ev d e).bind fun v=>if es.isEmpty=true then .pure v else(IE S v).bind fun t=>match op with
  | .Or=>Ep t (.pure v) (Ju d op es)
  | .And=>Ep t (Ju d op es) (.pure v)
noncomputable def HG (d:Nat)(op:BoolOp):List Expr→M Bool
 |[]=>.pure (match op with| .Or=>false| .And=>true)
 |e::es=>(r.tr d e).bind fun t=>match op with
  | .Or=>Ep t (.pure true) (HG d op es)
  | .And=>Ep t (HG d op es) (.pure false)
noncomputable def Jm (e:Expr):Bool:= !(Bq e.ctorIdx 7||Bq e.ctorIdx 22)
noncomputable def Fw (d:Nat)(a:V):List CmpOp→List Expr→M Bool
 |op::ops,e::es=>chk (Jm e&&(!ops.isEmpty||es.isEmpty)) ((r.ev d e).bind fun b=>(KZ S op a b).bind fun t=>
  if ops.isEmpty=true then .pure t else Ep t (Fw d b ops es) (.pure false))
 |_,_=>stuck
theorem PH (d:Nat)(a:V)(op:CmpOp)(ops:List CmpOp)(e:Expr)(es:List Expr):Fw S r d a (op::ops) (e::es)=chk (Jm e&&(!ops.isEmpty||es.isEmpty)) ((r.ev d e).bind fun b=>(KZ S op a b).bind fun t=>
  if ops.isEmpty=true then .pure t else Ep t (Fw S r d b ops es) (.pure false)):=rfl
set_option backward.match.sparseCases false in
noncomputable def JQ:Expr→Option V
 | .Constant k _ _=>Hh k
 |_=>none
noncomputable def F7:List (Option Expr)→List Expr→Option (List (Str×V))
 |[],[]=>some []
 |k::ks,e::es=>(k.bind JQ).bind fun a=>(Dh a).bind fun i=>(JQ e).bind fun b=>(F7 ks es).map ((i,b)::·)
 |_,_=>none
noncomputable def RT (l:List (Str×V)):Bool:=decide ((l.map (·.1)).Nodup)
noncomputable def Go (l:List (Str×V)):List (V×V):=l.map fun p=>(.str p.1,p.2)
noncomputable def dictM (ks:List (Option Expr))(vs:List Expr):M V:=match ks with
 |[]=>chk vs.isEmpty (Fa (.dict []))
 |_=>(Ax (F7 ks vs)).bind fun l=>chk (RT l&&EF l.length 33) (Fa (.sdict (Go l)))
noncomputable def Mi (s:Str):List V→M V
 |[v]=>(Ax (G0 v)).bind fun i=>(rd oL i).bind fun xs=>(dyn .strs (Mz xs)).bind fun l=>req (BE ((l.map fun x=>x.cps.size).sum+s.cps.size * l.length)) (.pure (.str (B3 s l)))
 |_=>stuck
noncomputable def LS (S:BD)(d:Nat)(c:Je)(vs:List V)(kws:List (Str×V)):M V:=match c with
 | .fn f pre=>L6 (ER d f (pre++vs) kws)
 | .cls c=>L6 (ZS S d c vs kws)
 | .bi n=>chk (nz d&&kws.isEmpty) (V3 S n vs)
 | .ty n=>chk (nz d&&kws.isEmpty) (UM n vs)
 | .lm n i=>chk kws.isEmpty (Ui n i vs)
 | .join s=>chk kws.isEmpty (Mi s vs)
noncomputable def Kz (e:Expr):Option Str:=(Mg e).map (·.1)
noncomputable def LF (e:Expr):Option Expr:=(Mp e).bind fun q=>(Kz q.1).bind fun n=>if n=("enumerate":Str)∧q.2.2=true then(if q.2.1.length=1 then q.2.1.head? else none) else none
set_option backward.match.sparseCases false in
noncomputable def Mj:V→Bool
 | .ty n=>n=="enumerate"
 |_=>false
noncomputable def Jq (d:Nat)(e:Expr):M It:=chk (Jm e) (match LF e with
 |some x=>chk (noStar x) ((De "enumerate").bind fun f=>chk (Mj f) ((r.ev d x).bind IS))
 |none=>(r.ev d e).bind Q1)
noncomputable def Ge:List Expr→List V→M Unit
 |[],[]=>.pure ()
 |t::ts,v::vs=>(Ax (Kz t)).bind fun x=>(EX x v).bind fun zz=>Ge ts vs
 |_,_=>stuck
set_option backward.match.sparseCases false in
noncomputable def HL (d:Nat)(t:Expr)(v:V):M Unit:=match t with
 | .Name x _=>EX x v
 | .Attribute o n _=>(r.ev d o).bind fun ov=>HT S ov n v
 | .Subscript o i _=>(r.ev d o).bind fun ov=>(r.ev d i).bind fun iv=>KO ov iv v
 | .Tuple ts _ _=>(Ax (LP v)).bind fun vs=>chk (nz d&&(decide (ts.length=vs.length)&&ts.all fun t=>(Kz t).isSome)) (Ge ts vs)
 |_=>stuck
set_option backward.match.sparseCases false in
noncomputable def EA:It→Bool
 | .list _ en=>en
 | .str _ en=>en
 |_=>false
noncomputable def Na (e:Expr):Bool:=Bq e.ctorIdx 25
noncomputable def F4 (it:It)(t:Expr):Bool:= !EA it||Na t
set_option backward.match.sparseCases false in
noncomputable def CW (g:Str→Option V)(loc:List (Str×V)):List (Str×Al)→List (Str×V)
 |[]=>[]
 |(x,k)::r=>match k with
  | .local=>(x,.undef)::CW g loc r
  | .free=>(match Cc x loc with|some v=>(x,v)::CW g loc r|none=>CW g loc r)
  | .globalImplicit=>(match g x with|some v=>(x,v)::CW g loc r|none=>CW g loc r)
  |_=>CW g loc r
noncomputable def ZT (loc:List (Str×V))(p:Str×Al):Bool:=match p.2 with
 | .free=>((Cc p.1 loc).bind LR).isSome
 | .cell=>false
 |_=>true
set_option backward.match.sparseCases false in
noncomputable def Yy:ScopeKind→Bool
 | .function=>true
 |_=>false
noncomputable def O2 (sc:Scope)(loc:List (Str×V)):Bool:=
 Yy sc.kind&&decide ((sc.names.map (·.1)).Nodup)&& !(sc.names.map (·.1)).contains ("__debug__":Str)&&sc.names.all (ZT loc)
noncomputable def LM (sc:Scope)(m:M Unit):M Unit:=fun s k e=>bif O2 sc s.loc then m ⟨CW S.glob s.loc sc.names,s.heap⟩ (fun u s'=>k u ⟨s.loc,s'.heap⟩) (fun zz zz=>.none) else .none
set_option backward.match.sparseCases false in
noncomputable def HJ:It→Bool
 | .dict _=>false
 |_=>true
noncomputable def TI (sc:Scope):M Unit:=fun s k e=>bif O2 sc s.loc then k () s else .none
noncomputable def Mm (d:Nat)(elt t iter:Expr)(ifs:List Expr)(sc:Scope):M V:=chk (nz d)<|(TI sc).bind fun zz=>(Jq r d iter).bind fun it=>chk (HJ it&&F4 it t)
 ((Fa (.list [])).bind fun v=>(Ax (G0 v)).bind fun i=>(LM S sc (KY (Hv d) elt t ifs it 0 i)).bind fun zz=>.pure v)
noncomputable def Z6:List Comprehension→Option (Expr×Expr×List Expr)
 |[⟨t,iter,ifs,k⟩]=>if k=0 then some (t,iter,ifs) else none
 |_=>none
set_option backward.match.sparseCases false in
noncomputable def Pq:Expr→Bool
 | .Call _ as ks _=> !(as.isEmpty&&ks.isEmpty)
 |_=>true
set_option backward.match.sparseCases false in
noncomputable def Uy (d:Nat)(f:Expr)(as:List Expr)(ks:List Keyword)(p:Pos):M V:=chk (decide (as.length+ks.length<20)&&Hn as ks) (match f with
 | .Attribute o n ap=>chk (decide (ap.endLine=p.line)&&Pq o) ((r.ev d o).bind fun ov=>(TV S ov n).bind fun c=>(IR r d as).bind fun vs=>(Il r d ks).bind fun kvs=>LS S d c vs kvs)
 | .Name x xp=>(r.ev d (.Name x xp)).bind fun fv=>(Y3 fv).bind fun c=>(IR r d as).bind fun vs=>(Il r d ks).bind fun kvs=>LS S d c vs kvs
 |_=>stuck)
set_option backward.match.sparseCases false in
noncomputable def Qu:Expr→Option (Option Expr×Option Expr×Pos)
 | .Slice l u none p=>some (l,u,p)
 |_=>none
noncomputable def Sm (d:Nat)(v i:Expr):M V:=match Qu i with
 |some q=>(r.ev d v).bind fun vv=>(Us r d q.1).bind fun a=>(Us r d q.2.1).bind fun b=>NI S vv a b
 |none=>(r.ev d v).bind fun vv=>(r.ev d i).bind fun iv=>Sl S vv iv
set_option backward.match.sparseCases false in
noncomputable def Zd (d:Nat):Expr→M V
 | .Constant c _ _=>Ax (Hh c)
 | .Name x _=>De x
 | .BoolOp op vs _=>Ju S r d op vs
 | .BinOp l op x _=>(r.ev d l).bind fun a=>(r.ev d x).bind fun b=>U8 op a b
 | .UnaryOp op x _=>(r.ev d x).bind fun a=>WJ S op a
 | .IfExp t b o _=>(r.tr d t).bind fun q=>Ep q (r.ev d b) (r.ev d o)
 | .Dict ks vs _=>dictM ks vs
 | .List es _=>(IR r d es).bind fun vs=>chk (BE vs.length) (Fa (.list vs))
 | .Tuple es _ _=>(IR r d es).bind fun vs=>chk (BE vs.length) (.pure (.tup vs))
 | .Compare l ops cs _=>(r.ev d l).bind fun a=>(Fw S r d a ops cs).bind fun b=>.pure (.bool b)
 | .Call f as ks p=>Uy S r d f as ks p
 | .Attribute o n _=>chk (Pq o) ((r.ev d o).bind fun ov=>Jw S ov n)
 | .Subscript v i _=>Sm S r d v i
 | .ListComp elt gs sc _=>(Ax (Z6 gs)).bind fun g=>Mm S r d elt g.1 g.2.1 g.2.2 sc
 |_=>stuck
set_option backward.match.sparseCases false in
noncomputable def aB:Expr→Option Expr
 | .UnaryOp .Not x _=>some x
 |_=>none
noncomputable def Ul (e:Expr):Bool:=Bq e.ctorIdx 3||Bq e.ctorIdx 0||Bq e.ctorIdx 5||Bq e.ctorIdx 15
set_option backward.match.sparseCases false in
noncomputable def ZI (d:Nat)(e:Expr):M Bool:=match e with
 | .UnaryOp op x p=>TP (aB (.UnaryOp op x p)) stuck fun x=>Pp (r.tr d x)
 | .BoolOp op vs _=>HG r d op vs
 | .Compare l ops cs _=>(r.ev d l).bind fun a=>Fw S r d a ops cs
 |e=>chk (!Ul e) ((r.ev d e).bind (IE S))
set_option backward.match.sparseCases false in
noncomputable def OE (op:Operator)(a b:V):M V:=match op with
 | .Add=>J7 a b fun x y=>.pure (.int (x+y))
 | .Sub=>J7 a b fun x y=>.pure (.int (x - y))
 |_=>stuck
noncomputable def DH:O→Bool
 | .fro _=>false
 |_=>true
noncomputable def Im:It→M Unit
 | .dict i=>(rd oF i).bind fun es=>fun s k zz=>.ite ((s.heap.set i (.dict es)).all DH) (k () ⟨s.loc,s.heap.set i (.dict es)⟩) .none
 |_=>.pure ()
noncomputable def Dj (e:Expr):Bool:=Bq e.ctorIdx 8||Bq e.ctorIdx 9||Bq e.ctorIdx 10
noncomputable def Yx (e:Expr):Bool:=Bq e.ctorIdx 21
noncomputable def XE (e:Expr):Bool:=Bq e.ctorIdx 16
set_option backward.match.sparseCases false in
noncomputable def J8 (x:Str)(p:Pos):Expr→Bool
 | .ListComp _ _ sc q=>p.line==q.line&& !(sc.names.any fun(n,k)=>n==x&&(k== .local||k== .cell))
 |_=>false
set_option backward.match.sparseCases false in
noncomputable def Jk (t e:Expr):Bool:=match t with
 | .Name x p=> !Dj e||J8 x p e
 | .Attribute ..=> !Dj e
 | .Subscript ..=> !Dj e
 | .Tuple ..=>Yx e||XE e
 |_=>false
noncomputable def Po {α:Type}:List α→Option α
 |[a]=>some a
 |_=>none
set_option backward.match.sparseCases false in
noncomputable def Xh:Expr→Option (Expr×Expr×Pos)
 | .Subscript o i p=>some (o,i,p)
 |_=>none
set_option backward.match.sparseCases false in
noncomputable def Y8 (d:Nat)(t:Expr)(op:Operator)(e:Expr):M Fl:=match t with
 | .Name x _=>(De x).bind fun old=>(r.ev d e).bind fun v=>(OE op old v).bind fun n=>(EX x n).bind fun zz=>.pure .next
 | .Attribute o a _=>(r.ev d o).bind fun ov=>(Jw S ov a).bind fun old=>(r.ev d e).bind fun v=>(OE op old v).bind fun n=>(HT S ov a n).bind fun zz=>.pure .next
 |_=>stuck
noncomputable def aH (x:Str):M Unit:=fun s k zz=>oB (Cc x s.loc) fun u=>bif Cn u then k () s else .none
set_option backward.match.sparseCases false in
noncomputable def PW (t e:Expr):M Unit:=match t with
 | .Name x _=>bif Dj e then aH x else .pure ()
 |_=>.pure ()
noncomputable def Ho {α:Type}(m:M α):M α:=fun s k zz=>m s k fun zz zz=>.none
noncomputable def JJ (it:It)(m:M Fl):M Fl:=match it with
 | .dict _=>Ho m
 |_=>m
set_option backward.match.sparseCases false in
noncomputable def LQ:V→Option Nat
 | .cls c=>some c
 |_=>none
noncomputable def Wk:V→Option Nat
 | .rcd c _=>some c
 |_=>none
noncomputable def RO:Option Expr→Option Expr→Option (Str×Pos×List Expr)
 |some x,none=>(Mp x).bind fun q=>bif q.2.2 then(Mg q.1).map fun n=>(n.1,n.2,q.2.1) else none
 |_,_=>none
noncomputable def RN (d:Nat)(q:Str×Pos×List Expr):M Fl:=chk (nz d&&Hn q.2.2 []) ((De q.1).bind fun fv=>(Ax (LQ fv)).bind fun c=>(IR r d q.2.2).bind fun vs=>chk (BE vs.length) (N6 (Q9 S d c vs)))
noncomputable def Tj:List ExceptHandler→Option (Str×Pos×Str×List Stmt)
 |[.ExceptHandler (some t) (some n) (b::bs) _]=>(Mg t).map fun q=>(q.1,q.2,n,b::bs)
 |_=>none
noncomputable def Ob (n:Str):M Unit:=fun s k zz=>oB (Cc n s.loc) fun u=>bif Fs u .none then k () ⟨[],s.heap⟩ else .none
noncomputable def XT (d:Nat)(q:Str×Pos×Str×List Stmt)(x:V):M Fl:=(De q.1).bind fun cv=>(Ax (LQ cv)).bind fun c=>(Ax (Wk x)).bind fun j=>chk (decide (j=c)) ((EX q.2.2.1 x).bind fun zz=>(DP r 0 q.2.2.2).bind fun f=>(Ob q.2.2.1).bind fun zz=>.pure f)
noncomputable def Sd (d:Nat)(b:List Stmt)(hs:List ExceptHandler):M Fl:=match Tj hs with
 |none=>Ho (DP r d b)
 |some q=>bif Bq d GI then fun s k e=>DP r d b s k fun x s'=>Ho (XT r d q x) s' k e else Ho (DP r d b)
set_option backward.match.sparseCases false in
noncomputable def Zc (d:Nat):Stmt→M Fl
 | .Expr e _=>chk (!Dj e) ((r.ev d e).bind fun zz=>.pure .next)
 | .Return o _=>(Us r d o).bind fun v=>.pure (.ret v)
 | .Assign ts e _=>(Ax (Po ts)).bind fun t=>chk (Jk t e) ((PW t e).bind fun zz=>(r.ev d e).bind fun v=>(HL S r d t v).bind fun zz=>.pure .next)
 | .AugAssign t op e _=>Y8 S r d t op e
 | .Delete ts _=>(Ax (Po ts)).bind fun t=>(Ax (Xh t)).bind fun q=>(r.ev d q.1).bind fun ov=>(r.ev d q.2.1).bind fun iv=>(Nx ov iv).bind fun zz=>.pure .next
 | .If t b o _=>(r.tr d t).bind fun q=>Ep q (DP r d b) (DP r d o)
 | .While t b o _=>chk (nz d&&o.isEmpty) (Ia d t b)
 | .For t iter b o _=>chk (nz d&&o.isEmpty) ((Jq r d iter).bind fun it=>chk (F4 it t) ((JJ it (M0 d t it 0 b)).bind fun f=>(Im it).bind fun zz=>.pure f))
 | .Try b hs o f _=>chk (o.isEmpty&&f.isEmpty) (Sd r d b hs)
 | .Raise x c _=>(Ax (RO x c)).bind fun q=>RN S r d q
 |_=>stuck
noncomputable def Sk (d:Nat)(g k:Nat)(fn:Fn):M Fl:=match fn.params with
 |[ps,px]=>(De ps).bind fun a=>(Ax (G0 a)).bind fun i=>(rd oI i).bind fun p=>chk (decide (p.1=k)) ((De px).bind fun b=>(L6 (ER d g [.obj i,b] [])).bind fun zz=>DP r d (fn.body.drop 1))
 |_=>stuck
set_option backward.match.sparseCases false in
noncomputable def Ib (m:M Fl):Fl→M Fl
 | .brk=>.pure .next
 | .ret v=>.pure (.ret v)
 |_=>m
noncomputable def Ip (d:Nat)(fn:Fn):M Fl:=match fn.sup with
 |none=>DP r d fn.body
 |some gk=>Ho (Sk r d gk.1 gk.2 fn)
set_option backward.match.sparseCases false in
noncomputable def HV (k:V→List O→Au):Fl→St→Au
 | .ret v,s=>k v s.heap
 | .next,s=>k .none s.heap
 |_,_=>.none
noncomputable def He (e:V→List O→Au)(x:V)(s:St):Au:=e x s.heap
noncomputable def Gc (d f:Nat)(vs:List V)(kws:List (Str×V)):HM:=fun h k e=>oB (S.fns f) fun fn=>oB (Jv fn vs kws) fun b=>Ip r d fn (entry S fn.scope b h) (HV k) (He e)
noncomputable def SY (d:Nat)(t:Expr)(b:List Stmt):M Fl:=(r.tr d t).bind fun q=>Ep q ((DP r d b).bind (Ib (Ia d t b))) (.pure .next)
noncomputable def To (d:Nat)(t:Expr)(it:It)(k:Nat)(b:List Stmt):M Fl:=(Kw it k).bind fun o=>TP o (.pure .next) fun v=>(HL S r d t v).bind fun zz=>(DP r d b).bind (Ib (M0 d t it (k+1) b))
noncomputable def Ty (d:Nat)(elt t:Expr)(ifs:List Expr)(it:It)(k i:Nat):M Unit:=(Kw it k).bind fun o=>TP o (.pure ()) fun v=>(HL S r d t v).bind fun zz=>(HG r d .And ifs).bind fun q=>
 Ep q ((r.ev d elt).bind fun x=>(Ui "list.append" i [x]).bind fun zz=>KY d elt t ifs it (k+1) i) (KY d elt t ifs it (k+1) i)
end
noncomputable def E (S:BD):Nat→Fh
 |0=>⟨fun zz zz=>stuck,fun zz zz=>stuck,fun zz zz=>stuck⟩
 |n+1=>⟨Zd S (E S n),ZI S (E S n),Zc S (E S n)⟩
set_option backward.match.sparseCases false in
noncomputable def stp (S:BD):Au→Au
 | .call d f vs kws h k e=>Gc S (E S 40) d f vs kws h k e
 | .whl d t b s k e=>SY (E S 40) d t b s k e
 | .frl d t it j b s k e=>To S (E S 40) d t it j b s k e
 | .cmp d elt t ifs it j i s k e=>Ty S (E S 40) d elt t ifs it j i s k e
 |t=>t
noncomputable def Y1 (rc:Au→Prop)(o:Except V V×List O):Au→Prop
 | .none=>False
 | .ret r h=>(r,h)=o
 | .ite b x y=>match b with
  |true=>Y1 rc o x
  |false=>Y1 rc o y
 | .opt _ a k=>match a with
  |some x=>Y1 rc o (k x)
  |none=>False
 | .call d f vs kws h k e=>rc (.call d f vs kws h k e)
 | .whl d t b s k e=>rc (.whl d t b s k e)
 | .frl d t it j b s k e=>rc (.frl d t it j b s k e)
 | .cmp d elt t ifs it j i s k e=>rc (.cmp d elt t ifs it j i s k e)
noncomputable def rc (S:BD)(o:Except V V×List O):Nat→Au→Prop
 |0=>fun zz=>False
 |n+1=>fun t=>Y1 (rc S o n) o (stp S t)
structure Lv where
 S:BD
 n:Nat
noncomputable def Y (l:Lv)(o:Except V V×List O)(t:Au):Prop:=Y1 (rc l.S o l.n) o t
section
universe u0 u1 u2 u3 u4 u5 u6 u7
theorem Dc {α:Type _}{a b:α}{G:Prop}(h:some a=some b)(k:a=b→G):G:=k (AH h)
theorem AP {α:Type _}{b:α}{G:Prop}(h:none=some b):G:=nomatch h
theorem Lq {e:Expr}{q:Str×Pos}(h:Mg e=some q):e= .Name q.1 q.2:=by
 rcases e with _|_<;>first|exact AP h|exact AH h▸rfl
theorem PI {e:Expr}{q:Expr×List Expr×Bool}(h:Mp e=some q):∃ks p,e= .Call q.1 q.2.1 ks p∧ks.isEmpty=q.2.2:=by
 rcases e with _|_<;>first|exact AP h|exact AH h▸⟨_,_,rfl,rfl⟩
theorem bF {α0:Sort u0}{α1:Sort u1}{α2:Sort u2}{α3:Sort u3}{α4:Sort u4}{A0:α0→α1→α2→α3→α4→Prop}{A1:α0→α1→α2→α3→α4→Prop}{A2:α0→α1→α2→α3→α4→Prop}{A3:α0→α1→α2→α3→α4→Prop}{G:Prop}(h:∃x0:α0,∃x1:α1,∃x2:α2,∃x3:α3,∃x4:α4,A0 x0 x1 x2 x3 x4∧A1 x0 x1 x2 x3 x4∧A2 x0 x1 x2 x3 x4∧A3 x0 x1 x2 x3 x4)(k:∀x0 x1 x2 x3 x4,A0 x0 x1 x2 x3 x4→A1 x0 x1 x2 x3 x4→A2 x0 x1 x2 x3 x4→A3 x0 x1 x2 x3 x4→G):G:=AB h fun x0 h=>AB h fun x1 h=>AB h fun x2 h=>AB h fun x3 h=>AB h fun x4 h=>k x0 x1 x2 x3 x4 h.1 h.2.1 h.2.2.1 h.2.2.2
theorem Nu {α0:Sort u0}{α1:Sort u1}{α2:Sort u2}{α3:Sort u3}{α4:Sort u4}{α5:Sort u5}{A0:α0→α1→α2→α3→α4→α5→Prop}{A1:α0→α1→α2→α3→α4→α5→Prop}{A2:α0→α1→α2→α3→α4→α5→Prop}{A3:α0→α1→α2→α3→α4→α5→Prop}{A4:α0→α1→α2→α3→α4→α5→Prop}{G:Prop}(h:∃x0:α0,∃x1:α1,∃x2:α2,∃x3:α3,∃x4:α4,∃x5:α5,A0 x0 x1 x2 x3 x4 x5∧A1 x0 x1 x2 x3 x4 x5∧A2 x0 x1 x2 x3 x4 x5∧A3 x0 x1 x2 x3 x4 x5∧A4 x0 x1 x2 x3 x4 x5)(k:∀x0 x1 x2 x3 x4 x5,A0 x0 x1 x2 x3 x4 x5→A1 x0 x1 x2 x3 x4 x5→A2 x0 x1 x2 x3 x4 x5→A3 x0 x1 x2 x3 x4 x5→A4 x0 x1 x2 x3 x4 x5→G):G:=AB h fun x0 h=>AB h fun x1 h=>AB h fun x2 h=>AB h fun x3 h=>AB h fun x4 h=>AB h fun x5 h=>k x0 x1 x2 x3 x4 x5 h.1 h.2.1 h.2.2.1 h.2.2.2.1 h.2.2.2.2
theorem bE {α0:Sort u0}{α1:Sort u1}{α2:Sort u2}{α3:Sort u3}{α4:Sort u4}{α5:Sort u5}{α6:Sort u6}{α7:Sort u7}{A0:α0→α1→α2→α3→α4→α5→α6→α7→Prop}{A1:α0→α1→α2→α3→α4→α5→α6→α7→Prop}{A2:α0→α1→α2→α3→α4→α5→α6→α7→Prop}{G:Prop}(h:∃x0:α0,∃x1:α1,∃x2:α2,∃x3:α3,∃x4:α4,∃x5:α5,∃x6:α6,∃x7:α7,A0 x0 x1 x2 x3 x4 x5 x6 x7∧A1 x0 x1 x2 x3 x4 x5 x6 x7∧A2 x0 x1 x2 x3 x4 x5 x6 x7)(k:∀x0 x1 x2 x3 x4 x5 x6 x7,A0 x0 x1 x2 x3 x4 x5 x6 x7→A1 x0 x1 x2 x3 x4 x5 x6 x7→A2 x0 x1 x2 x3 x4 x5 x6 x7→G):G:=AB h fun x0 h=>AB h fun x1 h=>AB h fun x2 h=>AB h fun x3 h=>AB h fun x4 h=>AB h fun x5 h=>AB h fun x6 h=>AB h fun x7 h=>k x0 x1 x2 x3 x4 x5 x6 x7 h.1 h.2.1 h.2.2
theorem S7 {α0:Sort u0}{α1:Sort u1}{α2:Sort u2}{A0:α0→α1→α2→Prop}{A1:α0→α1→α2→Prop}{A2:α0→α1→α2→Prop}{A3:α0→α1→α2→Prop}{A4:α0→α1→α2→Prop}{A5:α0→α1→α2→Prop}{G:Prop}(h:∃x0:α0,∃x1:α1,∃x2:α2,A0 x0 x1 x2∧A1 x0 x1 x2∧A2 x0 x1 x2∧A3 x0 x1 x2∧A4 x0 x1 x2∧A5 x0 x1 x2)(k:∀x0 x1 x2,A0 x0 x1 x2→A1 x0 x1 x2→A2 x0 x1 x2→A3 x0 x1 x2→A4 x0 x1 x2→A5 x0 x1 x2→G):G:=AB h fun x0 h=>AB h fun x1 h=>AB h fun x2 h=>k x0 x1 x2 h.1 h.2.1 h.2.2.1 h.2.2.2.1 h.2.2.2.2.1 h.2.2.2.2.2
theorem XZ {α0:Sort u0}{α1:Sort u1}{α2:Sort u2}{α3:Sort u3}{α4:Sort u4}{α5:Sort u5}{A0:α0→α1→α2→α3→α4→α5→Prop}{A1:α0→α1→α2→α3→α4→α5→Prop}{A2:α0→α1→α2→α3→α4→α5→Prop}{A3:α0→α1→α2→α3→α4→α5→Prop}{A4:α0→α1→α2→α3→α4→α5→Prop}{A5:α0→α1→α2→α3→α4→α5→Prop}{A6:α0→α1→α2→α3→α4→α5→Prop}{A7:α0→α1→α2→α3→α4→α5→Prop}{G:Prop}(h:∃x0:α0,∃x1:α1,∃x2:α2,∃x3:α3,∃x4:α4,∃x5:α5,A0 x0 x1 x2 x3 x4 x5∧A1 x0 x1 x2 x3 x4 x5∧A2 x0 x1 x2 x3 x4 x5∧A3 x0 x1 x2 x3 x4 x5∧A4 x0 x1 x2 x3 x4 x5∧A5 x0 x1 x2 x3 x4 x5∧A6 x0 x1 x2 x3 x4 x5∧A7 x0 x1 x2 x3 x4 x5)(k:∀x0 x1 x2 x3 x4 x5,A0 x0 x1 x2 x3 x4 x5→A1 x0 x1 x2 x3 x4 x5→A2 x0 x1 x2 x3 x4 x5→A3 x0 x1 x2 x3 x4 x5→A4 x0 x1 x2 x3 x4 x5→A5 x0 x1 x2 x3 x4 x5→A6 x0 x1 x2 x3 x4 x5→A7 x0 x1 x2 x3 x4 x5→G):G:=AB h fun x0 h=>AB h fun x1 h=>AB h fun x2 h=>AB h fun x3 h=>AB h fun x4 h=>AB h fun x5 h=>k x0 x1 x2 x3 x4 x5 h.1 h.2.1 h.2.2.1 h.2.2.2.1 h.2.2.2.2.1 h.2.2.2.2.2.1 h.2.2.2.2.2.2.1 h.2.2.2.2.2.2.2
theorem FP {α0:Sort u0}{α1:Sort u1}{A0:α0→α1→Prop}{A1:α0→α1→Prop}{A2:α0→α1→Prop}{A3:α0→α1→Prop}{A4:α0→α1→Prop}{G:Prop}(h:∃x0:α0,∃x1:α1,A0 x0 x1∧A1 x0 x1∧A2 x0 x1∧A3 x0 x1∧A4 x0 x1)(k:∀x0 x1,A0 x0 x1→A1 x0 x1→A2 x0 x1→A3 x0 x1→A4 x0 x1→G):G:=AB h fun x0 h=>AB h fun x1 h=>k x0 x1 h.1 h.2.1 h.2.2.1 h.2.2.2.1 h.2.2.2.2
theorem S9 {α0:Sort u0}{α1:Sort u1}{A0:α0→α1→Prop}{A1:α0→α1→Prop}{A2:α0→α1→Prop}{A3:α0→α1→Prop}{A4:α0→α1→Prop}{A5:α0→α1→Prop}{G:Prop}(h:∃x0:α0,∃x1:α1,A0 x0 x1∧A1 x0 x1∧A2 x0 x1∧A3 x0 x1∧A4 x0 x1∧A5 x0 x1)(k:∀x0 x1,A0 x0 x1→A1 x0 x1→A2 x0 x1→A3 x0 x1→A4 x0 x1→A5 x0 x1→G):G:=AB h fun x0 h=>AB h fun x1 h=>k x0 x1 h.1 h.2.1 h.2.2.1 h.2.2.2.1 h.2.2.2.2.1 h.2.2.2.2.2
theorem EB {α0:Sort u0}{A0:α0→Prop}{G:Prop}(h:∃x0:α0,A0 x0)(k:∀x0,A0 x0→G):G:=AB h fun x0 h=>k x0 h
theorem AS {α0:Sort u0}{A0:α0→Prop}{A1:α0→Prop}{G:Prop}(h:∃x0:α0,A0 x0∧A1 x0)(k:∀x0,A0 x0→A1 x0→G):G:=AB h fun x0 h=>k x0 h.1 h.2
theorem Dx {α0:Sort u0}{A0:α0→Prop}{A1:α0→Prop}{A2:α0→Prop}{G:Prop}(h:∃x0:α0,A0 x0∧A1 x0∧A2 x0)(k:∀x0,A0 x0→A1 x0→A2 x0→G):G:=AB h fun x0 h=>k x0 h.1 h.2.1 h.2.2
theorem Fv {α0:Sort u0}{α1:Sort u1}{A0:α0→α1→Prop}{G:Prop}(h:∃x0:α0,∃x1:α1,A0 x0 x1)(k:∀x0 x1,A0 x0 x1→G):G:=AB h fun x0 h=>AB h fun x1 h=>k x0 x1 h
theorem Dl {α0:Sort u0}{α1:Sort u1}{A0:α0→α1→Prop}{A1:α0→α1→Prop}{G:Prop}(h:∃x0:α0,∃x1:α1,A0 x0 x1∧A1 x0 x1)(k:∀x0 x1,A0 x0 x1→A1 x0 x1→G):G:=AB h fun x0 h=>AB h fun x1 h=>k x0 x1 h.1 h.2
theorem BF {α0:Sort u0}{α1:Sort u1}{A0:α0→α1→Prop}{A1:α0→α1→Prop}{A2:α0→α1→Prop}{G:Prop}(h:∃x0:α0,∃x1:α1,A0 x0 x1∧A1 x0 x1∧A2 x0 x1)(k:∀x0 x1,A0 x0 x1→A1 x0 x1→A2 x0 x1→G):G:=AB h fun x0 h=>AB h fun x1 h=>k x0 x1 h.1 h.2.1 h.2.2
theorem bH {α0:Sort u0}{α1:Sort u1}{α2:Sort u2}{A0:α0→α1→α2→Prop}{G:Prop}(h:∃x0:α0,∃x1:α1,∃x2:α2,A0 x0 x1 x2)(k:∀x0 x1 x2,A0 x0 x1 x2→G):G:=AB h fun x0 h=>AB h fun x1 h=>AB h fun x2 h=>k x0 x1 x2 h
theorem Hf {α0:Sort u0}{α1:Sort u1}{α2:Sort u2}{A0:α0→α1→α2→Prop}{A1:α0→α1→α2→Prop}{A2:α0→α1→α2→Prop}{G:Prop}(h:∃x0:α0,∃x1:α1,∃x2:α2,A0 x0 x1 x2∧A1 x0 x1 x2∧A2 x0 x1 x2)(k:∀x0 x1 x2,A0 x0 x1 x2→A1 x0 x1 x2→A2 x0 x1 x2→G):G:=AB h fun x0 h=>AB h fun x1 h=>AB h fun x2 h=>k x0 x1 x2 h.1 h.2.1 h.2.2
theorem DU {α0:Sort u0}{α1:Sort u1}{α2:Sort u2}{A0:α0→α1→α2→Prop}{A1:α0→α1→α2→Prop}{A2:α0→α1→α2→Prop}{A3:α0→α1→α2→Prop}{G:Prop}(h:∃x0:α0,∃x1:α1,∃x2:α2,A0 x0 x1 x2∧A1 x0 x1 x2∧A2 x0 x1 x2∧A3 x0 x1 x2)(k:∀x0 x1 x2,A0 x0 x1 x2→A1 x0 x1 x2→A2 x0 x1 x2→A3 x0 x1 x2→G):G:=AB h fun x0 h=>AB h fun x1 h=>AB h fun x2 h=>k x0 x1 x2 h.1 h.2.1 h.2.2.1 h.2.2.2
theorem S6 {α0:Sort u0}{α1:Sort u1}{α2:Sort u2}{α3:Sort u3}{A0:α0→α1→α2→α3→Prop}{A1:α0→α1→α2→α3→Prop}{G:Prop}(h:∃x0:α0,∃x1:α1,∃x2:α2,∃x3:α3,A0 x0 x1 x2 x3∧A1 x0 x1 x2 x3)(k:∀x0 x1 x2 x3,A0 x0 x1 x2 x3→A1 x0 x1 x2 x3→G):G:=AB h fun x0 h=>AB h fun x1 h=>AB h fun x2 h=>AB h fun x3 h=>k x0 x1 x2 x3 h.1 h.2
theorem Fu {α0:Sort u0}{α1:Sort u1}{α2:Sort u2}{α3:Sort u3}{A0:α0→α1→α2→α3→Prop}{A1:α0→α1→α2→α3→Prop}{A2:α0→α1→α2→α3→Prop}{G:Prop}(h:∃x0:α0,∃x1:α1,∃x2:α2,∃x3:α3,A0 x0 x1 x2 x3∧A1 x0 x1 x2 x3∧A2 x0 x1 x2 x3)(k:∀x0 x1 x2 x3,A0 x0 x1 x2 x3→A1 x0 x1 x2 x3→A2 x0 x1 x2 x3→G):G:=AB h fun x0 h=>AB h fun x1 h=>AB h fun x2 h=>AB h fun x3 h=>k x0 x1 x2 x3 h.1 h.2.1 h.2.2
theorem CN {α0:Sort u0}{α1:Sort u1}{α2:Sort u2}{α3:Sort u3}{A0:α0→α1→α2→α3→Prop}{A1:α0→α1→α2→α3→Prop}{A2:α0→α1→α2→α3→Prop}{A3:α0→α1→α2→α3→Prop}{G:Prop}(h:∃x0:α0,∃x1:α1,∃x2:α2,∃x3:α3,A0 x0 x1 x2 x3∧A1 x0 x1 x2 x3∧A2 x0 x1 x2 x3∧A3 x0 x1 x2 x3)(k:∀x0 x1 x2 x3,A0 x0 x1 x2 x3→A1 x0 x1 x2 x3→A2 x0 x1 x2 x3→A3 x0 x1 x2 x3→G):G:=AB h fun x0 h=>AB h fun x1 h=>AB h fun x2 h=>AB h fun x3 h=>k x0 x1 x2 x3 h.1 h.2.1 h.2.2.1 h.2.2.2
structure Tp where
 prog:Cg
 w:World
 base:Heap
 K:Frag
 S:BD
 af:Nat→Addr
 ac:Nat→Addr
 as:Nat→Addr
 p:Cg
 loose:List Str
 mg:Str→Option Value
 mb:Str→Option Value
noncomputable abbrev DE:=Addr×Addr
noncomputable abbrev BS:=List (Addr×Obj)
structure Kn where
 D:List (Option DE)
 I:BS
structure Fm where
 tp:Tp
 env:Env
 h₀:Heap
 J:BS
structure Cx where
 fm:Fm
 A:Around
 outer:List Env
 lv:Nat
noncomputable abbrev Cx.tp (c:Cx):=c.fm.tp
noncomputable abbrev Cx.env (c:Cx):=c.fm.env
noncomputable abbrev Cx.h₀ (c:Cx):=c.fm.h₀
noncomputable abbrev Cx.J (c:Cx):=c.fm.J
noncomputable abbrev Cx.prog (c:Cx):=c.tp.prog
noncomputable abbrev Cx.w (c:Cx):=c.tp.w
noncomputable abbrev Cx.base (c:Cx):=c.tp.base
noncomputable abbrev Cx.K (c:Cx):=c.tp.K
noncomputable abbrev Cx.S (c:Cx):=c.tp.S
noncomputable abbrev Cx.l (c:Cx):Lv:=⟨c.S,c.lv⟩
noncomputable abbrev Cx.af (c:Cx):=c.tp.af
noncomputable abbrev Cx.ac (c:Cx):=c.tp.ac
noncomputable abbrev Cx.as (c:Cx):=c.tp.as
noncomputable def HP (vs:List Value)(n:Nat):Obj:=⟨.type "tuple",.none,.seq vs.toArray n, #[]⟩
noncomputable def Zt (a b:Int)(t u v:Tok):Obj:=⟨.type "range",.none,.fields #[.int a t,.int b u,.int 1 v], #[]⟩
noncomputable def QO (ob:Obj)(C dx:Addr):Prop:=ob.cls= .ref C∧ob.dict=some dx∧notCls ob=true
noncomputable def Js (t:Addr):Data:=.fields #[.ref t,.none,.none,.none,.bool false,.none]
noncomputable def QP (θ:Tp)(c:Nat)(ob:Obj)(dx:Addr):Prop:=QO ob (θ.ac c) dx∧(Ci θ.S c=true→∃t,ob.data=Js t)
mutual
noncomputable def Ag (θ:Tp)(k:Kn):V→Value→Prop
 | .none,x=>x= .none
 | .bool b,x=>x= .bool b
 | .int i,x=>∃t,x= .int i t
 | .str s,x=>∃t,x= .str s t
 | .txt,x=>∃s t,x= .str s t
 | .tup xs,x=>∃(a:Addr) (n:Nat) (vs:List Value),(a,HP vs n)∈k.I∧Am θ k xs vs∧x= .ref a
 | .rcd c fs,v=>∃(x dx:Addr) (es:List C0) (n:Nat),(∃ob,(x,ob)∈k.I∧QO ob (θ.ac c) dx)∧(dx,dictOf es n)∈k.I∧EV θ k fs es∧v= .ref x
 | .rng a b,v=>∃(x:Addr) (t u w:Tok),(x,Zt a b t u w)∈k.I∧v= .ref x
 | .obj i,v=>∃d:DE,k.D[i]? =some (some d)∧v= .ref d.1
 | .fn f,v=>v= .ref (θ.af f)
 | .cls k,v=>v= .ref (θ.ac k)
 | .sta n,v=>v= .ref (θ.as n)
 | .bi id,v=>v= .builtin id
 | .ty n,v=>v= .type n
 | .undef,_=>False
 | .cref _,_=>False
noncomputable def Am (θ:Tp)(k:Kn):List V→List Value→Prop
 |[],vs=>vs=[]
 |x::xs,vs=>∃v us,Ag θ k x v∧Am θ k xs us∧vs=v::us
noncomputable def EV (θ:Tp)(k:Kn):List (Str×V)→List C0→Prop
 |[],es=>es=[]
 |(n,x)::fs,es=>∃h t v us,Ag θ k x v∧EV θ k fs us∧es=⟨h,.str n t,v⟩::us
end
noncomputable def B8 (k k':Kn):Prop:=(∀(i:Nat) (d:DE),k.D[i]? =some (some d)→k'.D[i]? =some (some d))∧∀p∈k.I,p∈k'.I
theorem B8.refl (k:Kn):B8 k k:=⟨fun zz zz h=>h,fun zz h=>h⟩
theorem B8.trans {k k' k'':Kn}(a:B8 k k')(b:B8 k' k''):B8 k k'':=⟨fun i d h=>b.1 i d (a.1 i d h),fun p h=>b.2 p (a.2 p h)⟩
theorem B8.app {D:List (Option DE)}{I:BS}(x:Option DE):B8 ⟨D,I⟩ ⟨D++[x],I⟩:=⟨fun zz zz h=>(Bz (AM.mp h).1).trans h,fun zz h=>h⟩
section
variable {θ:Tp}{k k':Kn}
theorem TU (e:B8 k k'):∀a:V,∀v,Ag θ k a v→Ag θ k' a v:=
 V.rec (motive_1:=fun a=>∀v,Ag θ k a v→Ag θ k' a v) (motive_2:=fun xs=>∀vs,Am θ k xs vs→Am θ k' xs vs) (motive_3:=fun fs=>∀es,EV θ k fs es→EV θ k' fs es) (motive_4:=fun p=>∀v,Ag θ k p.2 v→Ag θ k' p.2 v)
  (fun zz h=>h) (fun zz h=>h) (fun zz zz h=>h) (fun zz zz h=>h) (fun zz zz h=>h) (fun zz h=>h)
  (fun zz ih zz h=>Hf h fun a n vs h1 h2 h3=>⟨a,n,vs,e.2 _ h1,ih _ h2,h3⟩)
  (fun zz zz ih zz h=>CN h fun x dx es n h1 h2 h3 h4=>⟨x,dx,es,n,h1.imp fun zz h=>⟨e.2 _ h.1,h.2⟩,e.2 _ h2,ih _ h3,h4⟩)
  (fun zz zz h=>AS h fun d h1 h2=>⟨d,e.1 _ _ h1,h2⟩) (fun zz zz h=>h) (fun zz zz h=>h) (fun zz zz h=>h)
  (fun zz zz zz h=>S6 h fun x t u w h1 h2=>⟨x,t,u,w,e.2 _ h1,h2⟩) (fun zz zz h=>h) (fun zz zz h=>h) (fun zz zz h=>h)
  (fun zz h=>h) (fun zz zz h1 h2 zz h=>BF h fun v us a b c=>⟨v,us,h1 _ a,h2 _ b,c⟩)
  (fun zz h=>h) (fun zz zz h1 h2 zz h=>Fu h fun h t v us a b c=>⟨h,t,v,us,h1 _ a,h2 _ b,c⟩)
  (fun zz zz h=>h)
theorem Ag.mono (e:B8 k k'){a:V}{v:Value}(h:Ag θ k a v):Ag θ k' a v:=TU e a v h
theorem Am.mono (e:B8 k k'):∀{xs:List V} {vs:List Value},Am θ k xs vs→Am θ k' xs vs:=fun{xs}=>by
 induction xs with
 |nil=>exact id
 |cons x xs ih=>exact fun⟨v,us,a,b,c⟩=>⟨v,us,a.mono e,ih b,c⟩
theorem EV.mono (e:B8 k k'):∀{xs:List (Str×V)} {vs:List C0},EV θ k xs vs→EV θ k' xs vs:=fun{xs}=>by
 induction xs with
 |nil=>exact id
 |cons x xs ih=>exact fun⟨h,t,v,us,a,b,c⟩=>⟨h,t,v,us,a.mono e,ih b,c⟩
theorem Ag.bool (b:Bool):Ag θ k (.bool b) (.bool b):=rfl
theorem Ag.int (i:Int)(t:Tok):Ag θ k (.int i) (.int i t):=⟨t,rfl⟩
theorem Ag.str (s:Str)(t:Tok):Ag θ k (.str s) (.str s t):=⟨t,rfl⟩
theorem Ag.obj {i:Nat}{d:DE}(h:k.D[i]? =some (some d)):Ag θ k (.obj i) (.ref d.1):=⟨d,h,rfl⟩
theorem Am.cons {x:V}{v:Value}{xs:List V}{vs:List Value}(h:Ag θ k x v)(hs:Am θ k xs vs):Am θ k (x::xs) (v::vs):=⟨v,vs,h,hs,rfl⟩
end
noncomputable def Kv {K:Type}(f:K→V)(θ:Tp)(k:Kn):List (V×V)→List (K×Value)→Prop
 |[],l=>l=[]
 |p::es,l=>∃(i:K) (v:Value) (us:List (K×Value)),p.1=f i∧Ag θ k p.2 v∧Kv f θ k es us∧l=(i,v)::us
theorem Kv.mono {K:Type}{f:K→V}{θ:Tp}{k k':Kn}(e:B8 k k'):∀{es:List (V×V)} {l:List (K×Value)},Kv f θ k es l→Kv f θ k' es l:=fun{es}=>by
 induction es with
 |nil=>exact id
 |cons x xs ih=>exact fun h=>DU h fun i v us a b c d=>⟨i,v,us,a,b.mono e,ih c,d⟩
set_option backward.match.sparseCases false in
noncomputable def Ff (θ:Tp)(k:Kn):O→DE→BS→Addr→Obj→Prop
 | .inst c fs,d,hd,a,ob=>(∃o1,hd=[(d.1,o1)]∧QP θ c o1 a)∧∃es n,ob=dictOf es n∧EV θ k fs es
 | .list xs,d,hd,a,ob=>hd=[]∧a=d.1∧∃vs n,ob=listOf (AG vs) n∧Am θ k xs vs
 | .cell v,d,hd,a,ob=>hd=[]∧a=d.1∧∃ov,ob.data= .cell ov∧(MM v=true∨∃x,ov=some x∧Ag θ k v x)
 | .dict es,d,hd,a,ob=>hd=[]∧a=d.1∧(d.1==Ce)=false∧∃kvs,ob.IsDictOf (DW θ.prog θ.w) kvs∧Kv V.int θ k es kvs
 | .sdict es,d,hd,a,ob=>hd=[]∧a=d.1∧((d.1==Ce)=false∧es.isEmpty=false)∧∃kvs,ob.IsDictOf (DJ θ.prog θ.w) kvs∧Kv V.str θ k es kvs
 | .exc c,d,hd,a,ob=>hd=[]∧a=d.1∧(ob.cls= .ref (θ.ac c)∧Ci θ.S c=true)∧ob.dict=none∧∃t,ob.data=Js t
 |_,_,_,_,_=>False
set_option backward.match.sparseCases false in
noncomputable def J2 (θ:Tp)(J:BS)(k:Kn):O→Option DE→BS→Prop
 | .dead,_,L=>L=[]
 | .void,d,L=>d=none∧L=[]
 | .fro es,d,L=>L=[]∧∃d' ob,d=some d'∧(d'.1,ob)∈J∧Ff θ k (.dict es) d' [] d'.1 ob
 |o,d,L=>∃d' hd a ob,d=some d'∧L=hd++[(a,ob)]∧Ff θ k o d' hd a ob
noncomputable def CT (θ:Tp)(J:BS)(k:Kn):List O→List (Option DE)→BS→Prop
 |[],D,M=>D=[]∧M=[]
 |o::os,D,M=>∃d ds L M',D=d::ds∧M=L++M'∧J2 θ J k o d L∧CT θ J k os ds M'
section
variable {θ:Tp}{J:BS}{k k':Kn}
theorem Ff.mono (e:B8 k k'){o:O}{d:DE}{hd:BS}{a:Addr}{ob:Obj}:Ff θ k o d hd a ob→Ff θ k' o d hd a ob:=by
 rcases o with⟨c,fs⟩|⟨xs⟩|⟨es⟩|_|⟨v⟩|⟨es⟩|_
 case inst=>exact fun h=>⟨h.1,Af (fun zz=>Af fun zz h=>⟨h.1,h.2.mono e⟩) h.2⟩
 case sdict=>exact fun h=>⟨h.1,h.2.1,h.2.2.1,Af (fun zz h=>⟨h.1,h.2.mono e⟩) h.2.2.2⟩
 case list=>exact fun h=>⟨h.1,h.2.1,Af (fun zz=>Af fun zz h=>⟨h.1,h.2.mono e⟩) h.2.2⟩
 case dict=>exact fun h=>⟨h.1,h.2.1,h.2.2.1,Af (fun zz h=>⟨h.1,h.2.mono e⟩) h.2.2.2⟩
 case cell=>exact fun h=>⟨h.1,h.2.1,Af (fun zz h=>⟨h.1,h.2.imp id (Af fun zz h=>⟨h.1,h.2.mono e⟩)⟩) h.2.2⟩
 all_goals exact id
theorem J2.imp {J':BS}(e:B8 k k')(hJ:∀(p:Addr×Obj) kvs,p∈J→p.2.IsDictOf (DW θ.prog θ.w) kvs→p∈J'){o:O}{d:Option DE}{L:BS}:J2 θ J k o d L→J2 θ J' k' o d L:=by
 cases o with
 |dead=>exact id
 |void=>exact id
 |fro es=>exact fun h=>⟨h.1,Af (fun zz=>Af fun zz h=>⟨h.1,AS h.2.2.2.2.2 fun zz z zz=>hJ _ _ h.2.1 z,Ff.mono (o:=.dict es) e h.2.2⟩) h.2⟩
 |inst c fs=>exact Af fun zz=>Af fun zz=>Af fun zz=>Af fun zz h=>⟨h.1,h.2.1,h.2.2.mono (o:=.inst c fs) e⟩
 |list xs=>exact Af fun zz=>Af fun zz=>Af fun zz=>Af fun zz h=>⟨h.1,h.2.1,h.2.2.mono (o:=.list xs) e⟩
 |dict es=>exact Af fun zz=>Af fun zz=>Af fun zz=>Af fun zz h=>⟨h.1,h.2.1,h.2.2.mono (o:=.dict es) e⟩
 |cell v=>exact Af fun zz=>Af fun zz=>Af fun zz=>Af fun zz h=>⟨h.1,h.2.1,h.2.2.mono (o:=.cell v) e⟩
 |sdict es=>exact Af fun zz=>Af fun zz=>Af fun zz=>Af fun zz h=>⟨h.1,h.2.1,h.2.2.mono (o:=.sdict es) e⟩
 |exc c=>exact Af fun zz=>Af fun zz=>Af fun zz=>Af fun zz h=>⟨h.1,h.2.1,h.2.2.mono (o:=.exc c) e⟩
theorem CT.imp {J':BS}(e:B8 k k')(hJ:∀(p:Addr×Obj) kvs,p∈J→p.2.IsDictOf (DW θ.prog θ.w) kvs→p∈J'){os:List O}:∀{D:List (Option DE)} {M:BS},CT θ J k os D M→CT θ J' k' os D M:=by
 induction os with
 |nil=>exact id
 |cons o os ih=>exact Af fun zz=>Af fun zz=>Af fun zz=>Af fun zz h=>⟨h.1,h.2.1,h.2.2.1.imp e hJ,ih h.2.2.2⟩
theorem CT.mono (e:B8 k k'){os:List O}{D:List (Option DE)}{M:BS}(h:CT θ J k os D M):CT θ J k' os D M:=h.imp e fun zz zz h zz=>h
theorem CT.split {o:O}{os:List O}:∀{D:List (Option DE)} {M:BS} {i:Nat},CT θ J k os D M→os[i]? =some o→
  ∃d pre L post,D[i]? =some d∧M=pre++(L++post)∧J2 θ J k o d L∧∀o' d' L',J2 θ J k o' d' L'→CT θ J k (os.set i o') (D.set i d') (pre++(L'++post)):=by
 induction os with
 |nil=>exact fun zz e=>AP e
 |cons o₁ os ih=>
  intro D M i h e
  refine CN h fun d ds L M' h1 h2 h3 h4=>?_
  subst h1 h2
  rcases i with _|i
  ·exact Dc e fun q=>⟨d,[],L,M',rfl,rfl,q▸h3,fun o' d' L' h'=>⟨d',ds,L',M',rfl,rfl,h',h4⟩⟩
  ·exact CN (ih h4 e) fun d₁ pre L₁ post e1 e2 e3 K=>⟨d₁,L++pre,L₁,post,e1,by rw[e2,AC],e3,fun o' d' L' h'=>⟨d,ds.set i d',L,pre++(L'++post),rfl,AC ..,h3,K o' d' L' h'⟩⟩
theorem CT.snoc {o:O}{d:Option DE}{L:BS}(hc:J2 θ J k o d L){os:List O}:∀{D:List (Option DE)} {M:BS},CT θ J k os D M→CT θ J k (os++[o]) (D++[d]) (M++L):=by
 induction os with
 |nil=>exact fun h=>⟨d,[],L,[],by rw[h.1];rfl,by rw[h.2,AR];rfl,hc,rfl,rfl⟩
 |cons o₁ os ih=>exact fun h=>CN h fun d₁ ds L₁ M' h1 h2 h3 h4=>⟨d₁,ds++[d],L₁,M'++L,by rw[h1];rfl,by rw[h2,AC],h3,ih h4⟩
theorem CT.length {os:List O}:∀{D:List (Option DE)} {M:BS},CT θ J k os D M→os.length=D.length:=by
 induction os with
 |nil=>exact fun h=>h.1▸rfl
 |cons o os ih=>exact fun h=>CN h fun d ds L M' h1 h2 h3 h4=>by rw[h1,AX,AX,ih h4]
end
noncomputable def QT (φ:Fm)(k:Kn)(m:Str→Option Value)(x:Str)(a:V):Prop:=
 (φ.env.kindOf x=some .local∧LR a=none∧(MM a=true∨∃v,m x=some v∧Ag φ.tp k a v))∨(φ.env.kindOf x=some .globalImplicit∧φ.tp.S.glob x=some a∧Gw a=true)∨
  (φ.env.kindOf x=some .cell∧∃i q z,a= .cref i∧φ.env.cells.lookup x=some q∧k.D[i]? =some (some (q,z)))
noncomputable def Iv (φ:Fm)(k:Kn)(m:Str→Option Value)(loc:List (Str×V)):Prop:=∀x a,Cc x loc=some a→(x==("__debug__":Str))=false∧QT φ k m x a
theorem QT.mono {φ:Fm}{k k':Kn}(e:B8 k k'){m:Str→Option Value}{x:Str}{a:V}(h:QT φ k m x a):QT φ k' m x a:=
 h.imp (fun z=>⟨z.1,z.2.1,z.2.2.imp id (Af fun zz y=>⟨y.1,y.2.mono e⟩)⟩) (Or.imp id fun z=>⟨z.1,Af (fun i=>Af fun q=>Af fun zz y=>⟨y.1,y.2.1,e.1 _ _ y.2.2⟩) z.2⟩)
theorem Iv.mono {φ:Fm}{k k':Kn}(e:B8 k k'){m:Str→Option Value}{loc:List (Str×V)}(h:Iv φ k m loc):Iv φ k' m loc:=fun x a q=>⟨(h x a q).1,(h x a q).2.mono e⟩
structure Aj (φ:Fm)(k:Kn)(st:St)(h:Heap):Type where
 m:Str→Option Value
 MO:BS
 F:Fr φ.h₀ φ.env.locals h m
 N:News φ.h₀ φ.env.locals h (MO++(φ.J++k.I))
 nd:((MO++(φ.J++k.I)).map (·.1)).Nodup
 loc:Iv φ k m st.loc
 heap:CT φ.tp φ.J k st.heap k.D MO
structure Top (θ:Tp):Prop where
 X:θ.K.In θ.base
 T:TopRead θ.p θ.loose θ.mg θ.mb θ.base
 TT:∃mean,PyProof.Rows.Top θ.p θ.loose mean θ.mg θ.mb θ.base
 lim:θ.base.NoLimit
 globSt:∀x a,θ.S.glob x=some a→Gw a=true
 globs:∀x a,θ.S.glob x=some a→
  ∃v,Ag θ ⟨[],[]⟩ a v∧(nsIn θ.K Cb x=some (some v)∨(nsIn θ.K Cb x=some none∧bootBuiltins x=some v∧x≠"__name__"))
structure BI (c:Cx):Prop where
 top:Top c.tp
 kind:c.env.scope.kind= .function
 gl:c.env.globals=Cb
 bi:c.env.builtins=builtinsNs
 frames:c.A.frames=some c.outer
 stays:c.base.StaysIn c.h₀
 ff:∀h m news,Fr c.h₀ c.env.locals h m→News c.h₀ c.env.locals h news→(hideAll h (news.map (·.1))).FunFrames c.base c.outer
theorem BI.X {c:Cx}(G:BI c):c.K.In c.h₀:=G.top.X.keeps G.stays
theorem BI.g {c:Cx}(G:BI c):c.h₀.Ns Cb c.tp.mg:=G.top.T.g.keeps G.stays
theorem BI.b {c:Cx}(G:BI c):c.h₀.Ns builtinsNs c.tp.mb:=G.top.T.b.keeps G.stays
theorem BI.nolim {c:Cx}(G:BI c):c.h₀.NoLimit:=G.top.lim.keeps G.stays
noncomputable abbrev Cx.M (c:Cx):Model:=model c.prog c.w
noncomputable def En {α β:Type}(c:Cx)(C:Kn→α→β→Prop)(k:Kn)(s:Shared)(K:α→St→Au)(o:Except V V×List O)(Q:β→Shared→Prop):Prop:=
 ∀k' a b st' h' tk,B8 k k'→Aj c.fm k' st' h'→C k' a b→Y c.l o (K a st')→Q b {s with heap:=h',toks:=tk}
noncomputable def aU (B h:Heap)(e:Addr)(vs:Array Value):Prop:=vs[1]? =some .none∨∃T oT ts fl,vs[1]? =some (.ref T)∧B.get? T=none∧T≠e∧h.get? T=some oT∧oT.data= .fields ts∧ts[3]? =some fl
structure El (B:Heap)(l:List Env)(e:Addr)(cls:Value)(dx:Addr)(h:Heap):Prop where
 stays:B.StaysIn h
 new:B.get? e=none
 frames:h.FunFrames B l
 obj:∃oe vs,h.get? e=some oe∧oe.cls=cls∧oe.dict=some dx∧oe.data= .fields vs∧aU B h e vs
structure D0 (φ:Fm)(l:List Env)(k:Kn)(st:St)(h:Heap)(a:V)(e:Addr):Type where
 B:Heap
 m:Str→Option Value
 MO:BS
 j:Nat
 fs:List (Str×V)
 dx:Addr
 es:List C0
 n:Nat
 base:φ.tp.base.StaysIn B
 fly:El B l e (.ref (φ.tp.ac j)) dx h
 rows:∀p∈MO++(φ.J++k.I),B.get? p.1=some p.2∧φ.h₀.get? p.1=none
 nd:((MO++(φ.J++k.I)).map (·.1)).Nodup
 up:φ.h₀.UpToSlots h
 ns:h.Ns φ.env.locals m
 above:φ.h₀.objs.size≤φ.env.locals
 loc:Iv φ k m st.loc
 heap:CT φ.tp φ.J k st.heap k.D MO
 isx:Ci φ.tp.S j=true
 val:a= .rcd j fs
 row:(dx,dictOf es n)∈k.I
 flds:EV φ.tp k fs es
noncomputable def FF (c:Cx)(k:Kn)(s:Shared)(X:V→St→Au)(o:Except V V×List O)(E:Value→Shared→Prop):Prop:=
 ∀k' a st' e h' tk,B8 k k'→D0 c.fm c.outer k' st' h' a e→Y c.l o (X a st')→E (.ref e) {s with heap:=h',toks:=tk}
noncomputable def Dy (c:Cx)(X:V→St→Au)(o:Except V V×List O):Prop:=∀a st',Y c.l o (X a st')→False
noncomputable def AV {α β:Type}(c:Cx)(k₀:Kn)(C:Kn→α→β→Prop)(t:Sem β)(m:M α):Prop:=
 ∀k st s K X o Q E,B8 k₀ k→Aj c.fm k st s.heap→Y c.l o (m st K X)→En c C k s K o Q→FF c k s X o E→wpAny c.M c.A t Q E s
section
variable {α β:Type}{c:Cx}{C:Kn→α→β→Prop}{k k':Kn}{s:Shared}{K:α→St→Au}{X:V→St→Au}{o:Except V V×List O}{Q:β→Shared→Prop}{E:Value→Shared→Prop}
theorem En.ext {h':Heap}{tk:Nat}(H:En c C k s K o Q)(e:B8 k k'):En c C k' {s with heap:=h',toks:=tk} K o Q:=fun k'' a b st' h'' tk' l R hc P=>H k'' a b st' h'' tk' (e.trans l) R hc P
theorem FF.ext {h':Heap}{tk:Nat}(H:FF c k s X o E)(e:B8 k k'):FF c k' {s with heap:=h',toks:=tk} X o E:=fun k'' a st' x h'' tk' l R P=>H k'' a st' x h'' tk' (e.trans l) R P
theorem Dy.err {c':Cx}{k:Kn}{s:Shared}{E:Value→Shared→Prop}(H:Dy c X o)(e:c'.l=c.l:=by rfl):FF c' k s X o E:=fun zz a st' zz zz zz zz zz P=>(H a st' (e▸P)).elim
theorem Dy.no:Dy c (fun zz zz=>.none) o:=fun zz zz P=>P.elim
theorem FF.no {E:Value→Shared→Prop}:FF c k s (fun zz zz=>.none) o E:=Dy.no.err
theorem En.now {st:St}{a:α}{b:β}(H:En c C k s K o Q)(tk:Nat)(R:Aj c.fm k st s.heap)(hc:C k a b)(P:Y c.l o (K a st)):Q b {s with toks:=tk}:=H k a b st s.heap tk (.refl _) R hc P
end
section
variable {α β:Type}{c:Cx}{k:Kn}{C:Kn→α→β→Prop}{t:Sem β}{m:M α}
theorem AV.pure {a:α}{b:β}(h:∀k',B8 k k'→C k' a b):AV c k C (Be b) (.pure a):=
 fun k₁ st s K X o Q E l R P HQ zz=>AN (HQ.now s.toks R (h _ l) P)
theorem AV.bind {α' β':Type}{C':Kn→α'→β'→Prop}{f:β→Sem β'}{g:α→M α'}(h:AV c k C t m)(H:∀k' a b,B8 k k'→C k' a b→AV c k' C' (f b) (g a)):AV c k C' (t >>= f) (m.bind g):=
 fun k₁ st s K X o Q E l R P HQ HE=>AF (h k₁ st s _ X o _ E l R P (fun k' a b st' h' tk l' R' hc P'=>H k' a b (l.trans l') hc k' st' _ K X o Q E (.refl _) R' P' (HQ.ext l') (HE.ext l')) HE)
theorem AV.via {γ:Type}{t:Sem γ}{f:γ→Sem β}(x:γ)(hx:∀(Q:γ→Shared→Prop) E s,Q x s→wpAny c.M c.A t Q E s)(h:AV c k C (f x) m):AV c k C (t >>= f) m:=
 fun k₁ st s K X o Q E l R P HQ HE=>AF (hx _ _ _ (h k₁ st s K X o Q E l R P HQ HE))
theorem AV.hold {vs:List Value}(h:AV c k C t m):AV c k C (Bm vs t) m:=fun k₁ st s K X o Q E l R P HQ HE=>BB (h k₁ st s K X o Q E l R P HQ HE)
theorem AV.stand {pos:Pos}{f:Unit→Sem β}(h:AV c k C (f ()) m):AV c k C (Cp pos >>= f) m:=.via () (fun zz zz zz h=>Bp h) h
theorem AV.stuck:AV c k C t (Internal.stuck:M α):=fun zz zz zz zz zz zz zz zz zz zz P=>P.elim
theorem AV.ite {b:Bool}{m':M α}(h:b=true→AV c k C t m)(h':b=false→AV c k C t m'):AV c k C t (Ep b m m'):=by
 rcases b with _|_
 ·exact fun k₁ st s K X o Q E l R P HQ HE=>h' rfl k₁ st s K X o Q E l R P HQ HE
 ·exact fun k₁ st s K X o Q E l R P HQ HE=>h rfl k₁ st s K X o Q E l R P HQ HE
theorem AV.iteS {b:Bool}{m':M α}(h:b=true→AV c k C t m)(h':b=false→AV c k C t m'):AV c k C t (ZW b m m'):=by
 rcases b with _|_
 ·exact h' rfl
 ·exact h rfl
theorem AV.chk {b:Bool}(h:b=true→AV c k C t m):AV c k C t (chk b m):=.iteS h fun zz=>.stuck
theorem AV.req {b:Bool}(h:b=true→AV c k C t m):AV c k C t (req b m):=.ite h fun zz=>.stuck
theorem AV.guard {p:Prop}[Decidable p](h:p→AV c k C t m):AV c k C t (Internal.chk (decide p) m):=.chk fun e=>h (of_decide_eq_true e)
theorem AV.guardD {p:Prop}[Decidable p](h:p→AV c k C t m):AV c k C t (Internal.req (decide p) m):=.req fun e=>h (of_decide_eq_true e)
theorem AV.sizeS {n:Nat}(h:n≤lim→AV c k C t m):AV c k C t (Internal.chk (BE n) m):=.chk fun e=>h (Bc e)
theorem AV.size {n:Nat}(h:n≤lim→AV c k C t m):AV c k C t (Internal.req (BE n) m):=.req fun e=>h (Bc e)
theorem AV.ifp {p:Prop}[Decidable p]{m':M α}(h:p→AV c k C t m)(h':¬p→AV c k C t m'):AV c k C t (if p then m else m'):=
 if q:p then by rw[if_pos q];exact h q else by rw[if_neg q];exact h' q
theorem AV.gp {p:Prop}[Decidable p](h:p→AV c k C t m):AV c k C t (if p then m else Internal.stuck):=.ifp h fun zz=>.stuck
theorem AV.look {γ:Type}{o:Option γ}{g:γ→M α}(h:∀x,o=some x→AV c k C t (g x)):AV c k C t ((Ax o).bind g):=by
 rcases o with _|x
 ·exact fun zz zz zz zz zz zz zz zz zz zz P=>P.elim
 ·exact h x rfl
theorem AV.dyn {u:U}{o:Option u.T}{g:u.T→M α}(h:∀x,o=some x→AV c k C t (g x)):AV c k C t ((Internal.dyn u o).bind g):=by
 rcases o with _|x
 ·exact fun zz zz zz zz zz zz zz zz zz zz P=>P.elim
 ·exact fun k₁ st s K X o Q E l R P HQ HE=>h x rfl k₁ st s K X o Q E l R P HQ HE
theorem AV.last {o:Option α}(h:∀x,o=some x→AV c k C t (.pure x)):AV c k C t (Ax o):=by
 rcases o with _|x
 ·exact fun zz zz zz zz zz zz zz zz zz zz P=>P.elim
 ·exact h x rfl
end
section
variable {γ:Type}{l:Lv}{o:Except V V×List O}{G:Prop}
theorem BX {x:Option γ}{f:γ→Au}(P:Y l o (oB x f))(h:∀a,x=some a→Y l o (f a)→G):G:=by
 rcases x with _|a
 ·exact P.elim
 ·exact h a rfl P
theorem DX {u:U}{x:Option u.T}{f:u.T→Au}(P:Y l o (.opt u x f))(h:∀a,x=some a→Y l o (f a)→G):G:=by
 rcases x with _|a
 ·exact P.elim
 ·exact h a rfl P
theorem Fz {h:List O}{i:Nat}{f:O→Au}(P:Y l o (MV h i f))(H:∀ob,h[i]? =some ob→Y l o (f ob)→G):G:=by
 have D:∀{i:Nat},Y l o (.opt .ob (h[i]?:Option O) f)→(∀ob,h[i]? =some ob→Y l o (f ob)→G)→G:=fun P H=>DX P H
 rcases i with _|i
 ·
  rcases h with _|⟨a,h⟩
  ·exact P.elim
  ·exact H a rfl P
 ·exact D P H
theorem JE {α:Type}{p:O→Option γ}{i:Nat}{g:γ→M α}{st:St}{K:α→St→Au}{X:V→St→Au}(P:Y l o (((Internal.rd p i).bind g) st K X))(H:∀ob x,st.heap[i]? =some ob→p ob=some x→Y l o (g x st K X)→G):G:=
 Fz P fun ob e P=>BX P fun x e2 P=>H ob x e e2 P
theorem FT {α:Type}{b:Bool}{m:M α}{st:St}{K:α→St→Au}{X:V→St→Au}(P:Y l o (chk b m st K X))(h:b=true→Y l o (m st K X)→G):G:=by
 rcases b with _|_
 ·exact P.elim
 ·exact h rfl P
theorem Jj {α:Type}{b:Bool}{m:M α}{st:St}{K:α→St→Au}{X:V→St→Au}(P:Y l o (req b m st K X))(h:b=true→Y l o (m st K X)→G):G:=by
 rcases b with _|_
 ·exact P.elim
 ·exact h rfl P
theorem EW {α:Type}{n:Nat}{m:M α}{st:St}{K:α→St→Au}{X:V→St→Au}(P:Y l o (req (BE n) m st K X))(h:n≤lim→Y l o (m st K X)→G):G:=Jj P fun e=>h (Bc e)
theorem JU {b:Bool}{x:Au}(P:Y l o (bif b then x else .none))(h:b=true→Y l o x→G):G:=by
 rcases b with _|_
 ·exact P.elim
 ·exact h rfl P
theorem Yv {b:Bool}{x:Au}(P:Y l o (.ite b x .none))(h:b=true→Y l o x→G):G:=by
 rcases b with _|_
 ·exact P.elim
 ·exact h rfl P
theorem LK {a b:V}(P:QH a=some b)(h:¬MM a=true→a=b→G):G:=by
 unfold QH at P
 by_cases u:MM a=true
 ·rw[if_pos u] at P;exact AP P
 ·rw[if_neg u] at P;exact h u (AH P)
theorem I5 {p:Prop}[Decidable p]{x:Option γ}{o:γ}(P:(if p then x else none)=some o)(h:p→x=some o→G):G:=by
 by_cases q:p
 ·rw[if_pos q] at P;exact h q P
 ·rw[if_neg q] at P;exact AP P
end
section
variable {α β:Type}{c:Cx}{k:Kn}{C:Kn→α→β→Prop}{t:Sem β}{m:M α}
theorem AV.rd {γ:Type}{i:Nat}{p:O→Option γ}{g:γ→M α}
  (h:∀k' st s K X o Q E ob x,B8 k k'→Aj c.fm k' st s.heap→st.heap[i]? =some ob→p ob=some x→Y c.l o (g x st K X)→En c C k' s K o Q→FF c k' s X o E→wpAny c.M c.A t Q E s):AV c k C t ((Internal.rd p i).bind g):=
 fun k₁ st s K X o Q E l R P HQ HE=>JE P fun ob x e1 e2 P=>h k₁ st s K X o Q E ob x l R e1 e2 P HQ HE
theorem AV.still {a:α}(h:∀k' s Q E,B8 k k'→(∀tk b,C k' a b→Q b {s with toks:=tk})→wpAny c.M c.A t Q E s):AV c k C t (.pure a):=
 fun k₁ st s K X o Q E l R P HQ zz=>h k₁ s Q E l fun tk b hc=>HQ.now tk R hc P
end
end
theorem La {D:List (Option DE)}{i:Nat}{d:DE}(hd:D[i]? =some (some d)):D.set i (some d)=D:=List.ext_getElem? fun j=>by
 rw[CJ]
 split
 ·next z=>subst z;rw[if_pos (AM.mp hd).1,hd]
 ·rfl
theorem Cj:lim≤CK:=by unfold lim CK;decide
theorem Ln (A L X:BS):C9 ((A++L)++X) (L++(A++X)):=(AC A L X).symm▸B4 A L X
theorem Pj (A J L I:BS):C9 (A++(J++(L++I))) (L++(A++(J++I))):=(D2 A (B4 J L I)).trans (B4 A L (J++I))
theorem HW {L X:BS}(h1:(L.map (·.1)).Nodup)(h2:(X.map (·.1)).Nodup)(hf:∀q∈L,∀p∈X,p.1≠q.1):((L++X).map (·.1)).Nodup:=by
 rw[Ae,C1]
 exact⟨h1,h2,fun a ha b hb e=>AS (C4.mp ha) fun q hq e1=>AS (C4.mp hb) fun p hp e2=>hf q hq p hp (e2.trans (e.symm.trans e1.symm))⟩
theorem EY (a:Addr)(o:Obj):(([(a,o)]:BS).map (·.1)).Nodup:=by simp
theorem Eh {X Y:BS}(p:C9 X Y)(h:(Y.map (·.1)).Nodup):(X.map (·.1)).Nodup:=(p.map (·.1)).nodup_iff.mpr h
section
variable {φ:Fm}{k:Kn}{st:St}{h h':Heap}
noncomputable def Aj.same (R:Aj φ k st h)(F':Fr φ.h₀ φ.env.locals h' R.m)(N':News φ.h₀ φ.env.locals h' (R.MO++(φ.J++k.I))):Aj φ k st h':=⟨R.m,R.MO,F',N',R.nd,R.loc,R.heap⟩
noncomputable def Aj.push (R:Aj φ k st h){o:O}{d:Option DE}{L:BS}(F':Fr φ.h₀ φ.env.locals h' R.m)(N':News φ.h₀ φ.env.locals h' (L++(R.MO++(φ.J++k.I))))(hc:J2 φ.tp φ.J k o d L)(hn:(L.map (·.1)).Nodup)
  (hf:∀q∈L,∀p∈R.MO++(φ.J++k.I),p.1≠q.1):Aj φ ⟨k.D++[d],k.I⟩ ⟨st.loc,st.heap++[o]⟩ h':=
 ⟨R.m,R.MO++L,F',fun p hp=>N' p ((Ln ..).mem_iff.mp hp),Eh (Ln ..) (HW hn R.nd hf),R.loc.mono (B8.app d),CT.snoc (hc.imp (B8.app d) fun zz zz h zz=>h) (R.heap.mono (B8.app d))⟩
theorem B8.more (L:BS):B8 k ⟨k.D,L++k.I⟩:=⟨fun zz zz h=>h,fun zz h=>Ad _ h⟩
noncomputable def Aj.pushI (R:Aj φ k st h){L:BS}(F':Fr φ.h₀ φ.env.locals h' R.m)(N':News φ.h₀ φ.env.locals h' (L++(R.MO++(φ.J++k.I))))(hn:(L.map (·.1)).Nodup)(hf:∀q∈L,∀p∈R.MO++(φ.J++k.I),p.1≠q.1):Aj φ ⟨k.D,L++k.I⟩ st h':=
 ⟨R.m,R.MO,F',fun p hp=>N' p ((Pj ..).mem_iff.mp hp),Eh (Pj ..) (HW hn R.nd hf),R.loc.mono (B8.more L),R.heap.mono (B8.more L)⟩
theorem Aj.newAt (R:Aj φ k st h)(d:DE):Ag φ.tp ⟨k.D++[some d],k.I⟩ (.obj st.heap.length) (.ref d.1):=⟨d,by rw[R.heap.length];simp,rfl⟩
theorem WW {L:BS}{a:Addr}{o:Obj}(hf:∀p∈L,p.1<a):∀q∈[(a,o)],∀p∈L,p.1≠q.1:=fun q hq p hp=>by rw[AY.mp hq];exact Ah (hf p hp)
noncomputable def Aj.pushList (R:Aj φ k st h){xs:List V}{vs:List Value}{l:Addr}{n:Nat}(hs:Am φ.tp k xs vs)(F':Fr φ.h₀ φ.env.locals h' R.m)(N':News φ.h₀ φ.env.locals h' ((l,listOf vs.toArray n)::(R.MO++(φ.J++k.I))))
  (hf:∀p∈R.MO++(φ.J++k.I),p.1<l):Aj φ ⟨k.D++[some (l,0)],k.I⟩ ⟨st.loc,st.heap++[.list xs]⟩ h':=
 R.push (L:=[(l,listOf vs.toArray n)]) (o:=.list xs) (d:=some (l,0)) F' N' ⟨(l,0),[],l,_,rfl,rfl,rfl,rfl,vs,n,rfl,hs⟩ (EY ..) (WW hf)
theorem Aj.bears (R:Aj φ k st h):∀p∈k.I,h.get? p.1=some p.2:=fun p hp=>(R.N p (Ad _ (Ad _ hp))).1
theorem Aj.inI (R:Aj φ k st h){p:Addr×Obj}(hp:p∈k.I):p∈R.MO++(φ.J++k.I):=Ad _ (Ad _ hp)
theorem Ff.row {θ:Tp}{J:BS}{o:O}{d:DE}{hd:BS}{a:Addr}{ob:Obj}(h:Ff θ k o d hd a ob):J2 θ J k o (some d) (hd++[(a,ob)]):=by
 cases o with
 |dead=>exact h.elim
 |void=>exact h.elim
 |fro es=>exact h.elim
 |inst c fs=>exact⟨d,hd,a,ob,rfl,rfl,h⟩
 |list xs=>exact⟨d,hd,a,ob,rfl,rfl,h⟩
 |dict es=>exact⟨d,hd,a,ob,rfl,rfl,h⟩
 |cell v=>exact⟨d,hd,a,ob,rfl,rfl,h⟩
 |sdict es=>exact⟨d,hd,a,ob,rfl,rfl,h⟩
 |exc c=>exact⟨d,hd,a,ob,rfl,rfl,h⟩
noncomputable def live:O→Bool
 | .dead=>false
 | .void=>false
 | .fro _=>false
 |_=>true
theorem J2.body {θ:Tp}{J:BS}{o:O}{d:Option DE}{L:BS}(hl:live o=true)(h:J2 θ J k o d L):∃d' hd a ob,d=some d'∧L=hd++[(a,ob)]∧Ff θ k o d' hd a ob:=by
 rcases o with _|_|_|⟨es⟩|_
 case dead=>cases hl
 case void=>cases hl
 case fro=>cases hl
 all_goals exact h
theorem Le (A hd B X:BS)(p:Addr×Obj):(A++((hd++[p])++B))++X=(A++hd)++p::(B++X):=by simp
structure G2 (R:Aj φ k st h)(i:Nat)(o:O)(v:Value)(d:DE)(hd:BS)(a:Addr)(ob:Obj)(p1 p2:BS):Prop where
 hD:k.D[i]? =some (some d)
 hv:v= .ref d.1
 body:Ff φ.tp k o d hd a ob
 eq:R.MO=p1++((hd++[(a,ob)])++p2)
 hpR:∀o' hd' a' ob',Ff φ.tp k o' d hd' a' ob'→CT φ.tp φ.J k (st.heap.set i o') k.D (p1++((hd'++[(a',ob')])++p2))
theorem Aj.turn (R:Aj φ k st h){i:Nat}{o:O}(e:st.heap[i]? =some o)(hl:live o=true){v:Value}(hv:Ag φ.tp k (.obj i) v){G:Prop}(K:∀d hd a ob p1 p2,G2 R i o v d hd a ob p1 p2→G):G:=by
 refine AS hv fun d hd hv=>CN (R.heap.split e) fun d' p1 L p2 e1 e2 e3 H=>?_
 refine Fu (e3.body hl) fun d₁ hh a ob e4 e5 e6=>?_
 subst e4 e5
 cases AH (AH (hd.symm.trans e1))
 refine K d hh a ob p1 p2 ⟨hd,hv,e6,e2,fun o' hd' a' ob' hb=>?_⟩
 have z:=H o' (some d) _ hb.row
 rwa [La hd] at z
theorem Vk {h₀:Heap}{L a:Addr}{ob ob':Obj}{pre post:BS}(N:News h₀ L h (pre++(a,ob)::post))(h1:∀p∈pre,p.1≠a)(h2:∀p∈post,p.1≠a)(hs:BW a h h')(ho:h'.get? a=some ob'):News h₀ L h' (pre++(a,ob')::post):=
 fun p hp=>(BK.mp hp).elim (fun z=>have q:=N p (B7 _ z);⟨(hs.2 _ (h1 p z)).trans q.1,q.2⟩) fun z=>(AU.mp z).elim (fun z=>by
  have q:=N (a,ob) (Ad _ (.head _))
  rw[z];exact⟨ho,q.2⟩) fun z=>have q:=N p (Ad _ (.tail _ z));⟨(hs.2 _ (h2 p z)).trans q.1,q.2⟩
theorem Uq {h₀:Heap}{L a:Addr}{m:Str→Option Value}(F:Fr h₀ L h m)(h1:a≠L)(h2:h₀.get? a=none)(hs:BW a h h'):Fr h₀ L h' m:=
 ⟨F.ns.sameBut hs (Cq h1),fun b o e=>(hs.2 b (fun z=>by rw[z,h2] at e;exact AP e)).trans (F.keep b o e),F.above⟩
section
variable {R:Aj φ k st h}{i:Nat}{o:O}{v:Value}{d:DE}{hd:BS}{a:Addr}{ob:Obj}{p1 p2:BS}(T:G2 R i o v d hd a ob p1 p2)
include T
theorem G2.all:R.MO++(φ.J++k.I)=(p1++hd)++(a,ob)::(p2++(φ.J++k.I)):=by rw[T.eq,Le]
theorem G2.N:News φ.h₀ φ.env.locals h ((p1++hd)++(a,ob)::(p2++(φ.J++k.I))):=T.all▸R.N
theorem G2.nd:(((p1++hd)++(a,ob)::(p2++(φ.J++k.I))).map (·.1)).Nodup:=T.all▸R.nd
theorem G2.n1:∀p∈p1++hd,p.1≠a:=fun p hp z=>by
 have nd:=T.nd
 rw[Ae,At,C1] at nd
 exact nd.2.2 p.1 (B9 hp) a (.head _) z
theorem G2.n2:∀p∈p2++(φ.J++k.I),p.1≠a:=fun p hp z=>by
 have nd:=T.nd
 rw[Ae,At,C1,Bw] at nd
 exact nd.2.1.1 (C4.mpr ⟨p,hp,z⟩)
theorem G2.at:(a,ob)∈R.MO++(φ.J++k.I):=by rw[T.all];exact Ad _ (.head _)
theorem G2.row:h.get? a=some ob∧a≠φ.env.locals∧φ.h₀.get? a=none:=R.N (a,ob) T.at
theorem G2.mem {p:Addr×Obj}(hp:p∈hd):p∈R.MO++(φ.J++k.I):=by rw[T.all];exact B7 _ (Ad _ hp)
noncomputable def G2.put {o':O}{ob':Obj}(F':Fr φ.h₀ φ.env.locals h' R.m)(N':News φ.h₀ φ.env.locals h' ((p1++hd)++(a,ob')::(p2++(φ.J++k.I))))(hb:Ff φ.tp k o' d hd a ob'):Aj φ k ⟨st.loc,st.heap.set i o'⟩ h':=
 ⟨R.m,p1++((hd++[(a,ob')])++p2),F',by rw[Le];exact N',by
  have nd:=T.nd
  rw[Ae,At] at nd
  rw[Le,Ae,At];exact nd,R.loc,T.hpR o' hd a ob' hb⟩
noncomputable def G2.but {o':O}{ob':Obj}(hs:BW a h h')(ho:h'.get? a=some ob')(hb:Ff φ.tp k o' d hd a ob'):Aj φ k ⟨st.loc,st.heap.set i o'⟩ h':=
 T.put (Uq R.F T.row.2.1 T.row.2.2 hs) (Vk T.N T.n1 T.n2 hs ho) hb
end
theorem Mx {a:Addr}{o o':Obj}{post:BS}(h':∀p∈post,p.1≠a){pre:BS}:(∀p∈pre,p.1≠a)→Upd a o o' (pre++(a,o)::post) (pre++(a,o')::post):=by
 induction pre with
 |nil=>exact fun zz=>.head h'
 |cons q pre ih=>exact fun h=>.tail (h q (.head _)) (ih fun p hp=>h p (.tail _ hp))
end
section
variable {θ:Tp}{k:Kn}
theorem Am.length {xs:List V}:∀{vs:List Value},Am θ k xs vs→xs.length=vs.length:=by
 induction xs with
 |nil=>exact fun h=>h▸rfl
 |cons x xs ih=>exact fun h=>BF h fun v us zz h e=>by rw[e,AX,AX,ih h]
theorem Am.get {xs:List V}:∀{vs:List Value} {i:Nat} {x:V},Am θ k xs vs→xs[i]? =some x→∃v,vs[i]? =some v∧Ag θ k x v:=by
 induction xs with
 |nil=>exact fun zz e=>AP e
 |cons y xs ih=>
  intro vs i x h e
  refine BF h fun v us h1 h2 e1=>?_
  subst e1
  rcases i with _|i
  ·exact⟨v,rfl,AH e▸h1⟩
  ·exact(ih (vs:=us) (i:=i) h2 e:)
theorem Am.append {ys:List V}{ws:List Value}(hk:Am θ k ys ws){xs:List V}:∀{vs:List Value},Am θ k xs vs→Am θ k (xs++ys) (vs++ws):=by
 induction xs with
 |nil=>exact fun h=>h▸hk
 |cons x xs ih=>exact fun h=>BF h fun v us h1 h2 e=>e▸⟨v,us++ws,h1,ih h2,rfl⟩
theorem Am.one {x:V}{v:Value}(h:Ag θ k x v):Am θ k [x] [v]:=⟨v,[],h,rfl,rfl⟩
theorem Am.take {xs:List V}:∀{vs:List Value} (n:Nat),Am θ k xs vs→Am θ k (xs.take n) (vs.take n):=by
 induction xs with
 |nil=>exact fun n h=>by rw[show _=[] from h,FW,FW];exact rfl
 |cons x xs ih=>
  intro vs n h
  refine BF h fun v us h1 h2 e=>?_
  subst e
  rcases n with _|n
  ·exact rfl
  ·exact⟨v,_,h1,ih n h2,rfl⟩
theorem Am.drop {xs:List V}:∀{vs:List Value} (n:Nat),Am θ k xs vs→Am θ k (xs.drop n) (vs.drop n):=by
 induction xs with
 |nil=>exact fun n h=>by rw[show _=[] from h,List.drop_nil,List.drop_nil];exact rfl
 |cons x xs ih=>
  intro vs n h
  refine BF h fun v us h1 h2 e=>?_
  subst e
  rcases n with _|n
  ·exact⟨v,us,h1,h2,rfl⟩
  ·exact ih n h2
theorem Am.set {xs:List V}:∀{vs:List Value} (n:Nat) {x:V} {v:Value},Am θ k xs vs→Ag θ k x v→Am θ k (xs.set n x) (vs.set n v):=by
 induction xs with
 |nil=>exact fun n zz zz h zz=>by rw[show _=[] from h];exact rfl
 |cons y xs ih=>
  intro vs n x v h hx
  refine BF h fun u us h1 h2 e=>?_
  subst e
  rcases n with _|n
  ·exact⟨v,us,hx,h2,rfl⟩
  ·exact⟨u,_,h1,ih n h2 hx,rfl⟩
theorem Am.last {xs:List V}:∀{vs:List Value} {z:V},Am θ k xs vs→xs.getLast? =some z→∃ps u,Am θ k xs.dropLast ps∧Ag θ k z u∧kl_last vs=some (ps,u):=by
 induction xs with
 |nil=>exact fun zz e=>AP e
 |cons y xs ih=>
  intro vs z h e
  refine BF h fun u us h1 h2 e1=>?_
  subst e1
  rcases xs with _|⟨y2,xs⟩
  ·
   cases (show us=[] from h2)
   exact⟨[],u,rfl,AH e▸h1,rfl⟩
  ·
   obtain⟨ps,w,a1,a2,a3⟩:=ih (vs:=us) h2 (by rw[List.getLast?_cons_cons] at e;exact e)
   exact⟨u::ps,w,⟨u,ps,h1,a1,rfl⟩,a2,by unfold kl_last;rw[a3]⟩
theorem EV.look {n:Str}{fs:List (Str×V)}:∀{es:List C0},EV θ k fs es→match Cc n fs with|some x=>∃v,getL n es=some (some v)∧Ag θ k x v|none=>getL n es=some none:=by
 induction fs with
 |nil=>exact fun h=>by rw[show _=[] from h];exact rfl
 |cons p fs ih=>
  intro es h
  refine Fu h fun hh t v us h1 h2 e=>?_
  ·subst e
   by_cases q:n=p.1
   ·rw[FS,if_pos q]
    refine⟨v,?_,h1⟩
    unfold getL
    rw[List.find?_cons_of_pos (p:=fun e:C0=>e.key.isStr n) (show(Value.str p.1 t).isStr n=true from beq_iff_eq.mpr q.symm)]
   ·have e2:(p.1==n)=false:=beq_eq_false_iff_ne.mpr fun z=>q z.symm
    rw[FS,if_neg q]
    have e3:getL n (⟨hh,.str p.1 t,v⟩::us)=getL n us:=by
     unfold getL
     rw[List.find?_cons_of_neg (p:=fun e:C0=>e.key.isStr n) (by rw[show(Value.str p.1 t).isStr n=false from e2];exact AI)]
     rfl
    rw[e3]
    exact ih h2
theorem EV.put {n:Str}{x:V}{v:Value}(hx:Ag θ k x v)(hsh:Int)(tk:Tok){fs:List (Str×V)}:∀{es:List C0},EV θ k fs es→EV θ k (put n x fs) (putL n hsh (.str n tk) v es):=by
 induction fs with
 |nil=>exact fun h=>by rw[show _=[] from h];exact⟨hsh,tk,v,[],hx,rfl,rfl⟩
 |cons p fs ih=>
  intro es h
  refine Fu h fun hh t u us h1 h2 e=>?_
  ·subst e
   rw[Yf]
   unfold putL
   by_cases q:n=p.1
   ·rw[if_pos q,if_pos (show(Value.str p.1 t).isStr n=true from beq_iff_eq.mpr q.symm)]
    exact⟨hh,t,v,us,hx,h2,rfl⟩
   ·rw[if_neg q,if_neg (show ¬(Value.str p.1 t).isStr n=true from fun z=>q (beq_iff_eq.mp z).symm)]
    exact⟨hh,t,u,_,h1,ih h2,rfl⟩
theorem EV.length {fs:List (Str×V)}:∀{es:List C0},EV θ k fs es→fs.length=es.length:=by
 induction fs with
 |nil=>exact fun h=>by rw[show _=[] from h];rfl
 |cons x xs ih=>exact fun h=>Fu h fun zz zz v us zz h e=>by rw[e,AX,AX,ih h]
end
theorem Nb {u:V}(h:Gw u=true):LR u=none∧∀a,Fs u a=false:=by
 rcases u with _|_<;>first|exact⟨rfl,fun zz=>rfl⟩|exact(AI h).elim
theorem Wu {o:O}{v:V}(h:oC o=some v){G:Prop}(k:o= .cell v→G):G:=by
 rcases o with _|_<;>first|exact AP h|exact k (congrArg O.cell (AH h))
noncomputable abbrev CV (c:Cx)(k:Kn)(a:V)(v:Value):Prop:=Ag c.tp k a v
noncomputable abbrev CU (k:Kn)(a:Unit)(v:Unit):Prop:=True
noncomputable abbrev CB (k:Kn)(a:Bool)(v:Bool):Prop:=a=v
noncomputable abbrev Jf (k:Kn)(a:Bool)(v:Value):Prop:=v= .bool a
theorem B8.nil (k:Kn):B8 ⟨[],[]⟩ k:=⟨fun zz zz h=>AP h,fun zz h=>nomatch h⟩
theorem F9 {a:V}{i:Int}{G:Prop}(h:DF a=some i)(K:a= .int i→G):G:=by
 rcases a with _|_|_|⟨j⟩|_
 case int=>exact K (AH h▸rfl)
 all_goals exact AP h
theorem ET {a:V}{i:Str}{G:Prop}(h:Dh a=some i)(K:a= .str i→G):G:=by
 rcases a with _|_|_|_|⟨j⟩|_
 case str=>exact K (AH h▸rfl)
 all_goals exact AP h
theorem V4 {a:V}{i:Bool}{G:Prop}(h:SQ a=some i)(K:a= .bool i→G):G:=by
 rcases a with _|_|⟨j⟩|_
 case bool=>exact K (AH h▸rfl)
 all_goals exact AP h
theorem FU {a:V}{i:Nat}{G:Prop}(h:G0 a=some i)(K:a= .obj i→G):G:=by
 rcases a with _|_|_|_|_|_|_|_|⟨j⟩|_
 case obj=>exact K (AH h▸rfl)
 all_goals exact AP h
theorem Jy {a:V}{i:List V}{G:Prop}(h:LP a=some i)(K:a= .tup i→G):G:=by
 rcases a with _|_|_|_|_|_|⟨j⟩|_
 case tup=>exact K (AH h▸rfl)
 all_goals exact AP h
theorem L8 {a:V}{G:Prop}(h:IM a=true)(K:a= .none→G):G:=by
 rcases a with _|_
 case none=>exact K rfl
 all_goals exact(AI h).elim
theorem TQ {o:O}{xs:List V}{G:Prop}(h:oL o=some xs)(K:o= .list xs→G):G:=by
 rcases o with _|⟨j⟩|_
 case list=>exact K (AH h▸rfl)
 all_goals exact AP h
theorem Zz {o:O}{xs:List (V×V)}{G:Prop}(h:oD o=some xs)(K:o= .dict xs→G):G:=by
 rcases o with _|_|⟨j⟩|_
 case dict=>exact K (AH h▸rfl)
 all_goals exact AP h
theorem Wt {o:O}{xs:List (V×V)}{G:Prop}(h:oF o=some xs)(K:o= .fro xs→G):G:=by
 rcases o with _|_|_|⟨j⟩|_
 case fro=>exact K (AH h▸rfl)
 all_goals exact AP h
theorem TR {o:O}{p:Nat×List (Str×V)}{G:Prop}(h:oI o=some p)(K:o= .inst p.1 p.2→G):G:=by
 rcases o with⟨j,fs⟩|_
 case inst=>exact K (AH h▸rfl)
 all_goals exact AP h
section
variable {α β:Type}{c:Cx}{k:Kn}{C:Kn→α→β→Prop}
theorem AV.int {T:Value→Sem β}{g:Int→M α}{a:V}{x:Value}(ha:Ag c.tp k a x)(h:∀i t,AV c k C (T (.int i t)) (g i)):AV c k C (T x) ((Ax (DF a)).bind g):=
 .look fun i e=>F9 e fun q=>by subst q;exact AB (show ∃t,x= .int i t from ha) fun t q=>q▸h i t
theorem AV.str {T:Value→Sem β}{g:Str→M α}{a:V}{x:Value}(ha:Ag c.tp k a x)(h:∀i t,AV c k C (T (.str i t)) (g i)):AV c k C (T x) ((Ax (Dh a)).bind g):=
 .look fun i e=>ET e fun q=>by subst q;exact AB (show ∃t,x= .str i t from ha) fun t q=>q▸h i t
theorem AV.intOr {T:Value→Sem β}{g:Int→M α}{m:M α}{a:V}{x:Value}(ha:Ag c.tp k a x)(h:∀i t,AV c k C (T (.int i t)) (g i))(h':AV c k C (T x) m):AV c k C (T x) (match DF a with|some i=>g i|none=>m):=by
 rcases e:DF a with _|i
 ·exact h'
 ·exact F9 e fun q=>by subst q;exact AB (show ∃t,x= .int i t from ha) fun t q=>q▸h i t
theorem AV.strOr {T:Value→Sem β}{g:Str→M α}{m:M α}{a:V}{x:Value}(ha:Ag c.tp k a x)(h:∀i t,AV c k C (T (.str i t)) (g i))(h':AV c k C (T x) m):AV c k C (T x) (match Dh a with|some i=>g i|none=>m):=by
 rcases e:Dh a with _|i
 ·exact h'
 ·exact ET e fun q=>by subst q;exact AB (show ∃t,x= .str i t from ha) fun t q=>q▸h i t
end
section
variable {c:Cx}{k:Kn}
theorem Hi {θ:Tp}{k:Kn}{a:V}{v:Value}(h:Ag θ k a v):LR a=none:=by rcases a with _|_<;>first|rfl|exact False.elim h
theorem KS (G:BI c){st:St}{s:Shared}{x:Str}{K:V→St→Au}{X:V→St→Au}{o:Except V V×List O}{Q:Value→Shared→Prop}{E:Value→Shared→Prop}(R:Aj c.fm k st s.heap)(P:Y c.l o (De x st K X))(HQ:∀a b,Ag c.tp k a b→Y c.l o (K a st)→Q b s):(x==("__debug__":Str))=false∧wpAny c.M c.A (loadName c.env x) Q E s:=by
 refine BX P fun a e P=>⟨(R.loc x a e).1,(R.loc x a e).2.elim (fun h=>?_) fun h=>h.elim (fun h=>?_) fun h=>?_⟩
 ·rw[h.2.1] at P
  refine BX P fun b e1 P=>LK e1 fun u e1=>?_
  subst e1
  exact h.2.2.elim (fun z=>(u z).elim) fun z=>AS z fun v hv hc=>wpAny_loadName_local G.kind h.1 R.F.ns hv (HQ _ _ hc P)
 ·have e1:LR a=none:=(Nb h.2.2).1
  rw[e1] at P
  refine BX P fun b e1 P=>LK e1 fun u e1=>?_
  subst e1
  rw[loadName_read G.kind h.1]
  refine AS (G.top.globs x a h.2.1) fun v hc hn=>?_
  have fin:Q v s:=HQ _ _ (hc.mono (B8.nil k)) P
  have g:=G.g.keeps R.F.keep
  rw[←G.gl] at g
  exact hn.elim (fun hn=>loadGlobal_global g (mg_of G.X G.g hn) fin) fun hn=>loadGlobal_builtin g (mg_none_of G.X G.g hn.1) (by rw[G.bi];exact G.b.keeps R.F.keep) ((G.top.T.builtins x hn.2.2).trans hn.2.1) fin
 ·refine h.2.elim fun i z=>z.elim fun q z=>Dx z fun dz e1 e2 e3=>?_
  subst e1
  refine Fz P fun ob e4 P1=>BX P1 fun b' e5 P2=>BX P2 fun b u P3=>LK u fun u' g3=>?_
  subst g3
  refine Wu e5 fun eo=>?_
  subst eo
  refine R.turn e4 rfl (v:=.ref q) ⟨(q,dz),e3,rfl⟩ fun d hd a ob p1 p2 T=>?_
  rw[←show a=q from T.body.2.1.trans (FV T.hv).symm] at e2
  exact AS T.body.2.2 fun ov e6 hc=>hc.elim (fun z=>(u' z).elim) fun hc=>AS hc fun v e7 hc=>wpAny_loadName_cell G.kind h.1 e2 ⟨_,T.row.1,e6.trans (congrArg _ e7)⟩ (HQ _ _ hc P3)
theorem Lu (G:BI c){st:St}{s:Shared}{x:Str}{K:V→St→Au}{X:V→St→Au}{o:Except V V×List O}{Q:Value→Shared→Prop}{E:Value→Shared→Prop}(R:Aj c.fm k st s.heap)(P:Y c.l o (De x st K X))(HQ:En c (CV c) k s K o Q):(x==("__debug__":Str))=false∧wpAny c.M c.A (loadName c.env x) Q E s:=
 KS G R P fun a b hc P=>HQ.now s.toks R hc P
theorem AV.load (G:BI c){x:Str}:AV c k (CV c) (loadName c.env x) (De x):=fun k' st s K X o Q E l R P HQ HE=>(Lu G R P HQ).2
theorem AV.name (G:BI c){x:Str}{pos:Pos}:AV c k (CV c) (eval (.Name x pos) c.env) (De x):=fun k' st s K X o Q E l R P HQ HE=>wpAny_Name (Lu G R P HQ).2 (Lu (E:=E) G R P HQ).1
theorem AV.const {q:Const}{n:Nat}{pos:Pos}:AV c k (CV c) (eval (.Constant q n pos) c.env) (Ax (Hh q)):=by
 rcases q with _|_|⟨b⟩|⟨i⟩|⟨t⟩|_
 case none=>exact .still fun zz s zz zz zz h=>wpAny_Constant_none (h s.toks _ rfl)
 case bool=>exact .still fun zz s zz zz zz h=>wpAny_Constant_bool (h s.toks _ rfl)
 case int=>exact .still fun zz zz zz zz zz h=>wpAny_Constant_int (h _ _ ⟨_,rfl⟩)
 case str=>exact .still fun zz zz zz zz zz h=>wpAny_Constant_str (h _ _ ⟨_,rfl⟩)
 all_goals exact .last fun x e=>AP e
theorem Ov (x y:Str)(v:V)(l:List (Str×V)):Cc y (Kg x v l)=if y=x then(Cc x l).map fun zz=>v else Cc y l:=by
 induction l with
 |nil=>exact(ite_self _).symm
 |cons p l ih=>
  rw[YQ]
  by_cases h:x=p.1
  ·rw[if_pos h,FS,FS,FS,if_pos h,←h]
   by_cases q:y=x
   ·rw[if_pos q,if_pos q];rfl
   ·rw[if_neg q,if_neg q,if_neg q]
  ·rw[if_neg h,FS,FS,FS,if_neg h,ih]
   by_cases q:y=x
   ·rw[if_neg (q▸h),if_pos q,if_pos q]
   ·rw[if_neg q,if_neg q]
theorem AV.store (G:BI c){x:Str}{a:V}{v:Value}(hv:Ag c.tp k a v):AV c k CU (storeName c.env x v) (EX x a):=by
 intro k₁ st s K X o Q E l R P HQ HE
 refine BX P fun u e P=>?_
 refine(R.loc x u e).2.elim (fun h=>?_) fun h=>h.elim (fun h=>?_) fun h=>?_
 ·rw[h.2.1] at P
  rcases hs:Fs u a with _|_
  ·rw[hs] at P;exact P.elim
  rw[hs] at P
  refine wpAny_storeName_local h.1 R.F.ns (fun h' hn hsb=>HQ k₁ () () ⟨Kg x a st.loc,st.heap⟩ h' _ (.refl _) ⟨_,R.MO,R.F.set hn hsb,R.N.set hsb,R.nd,fun y b hb=>?_,R.heap⟩ trivial P) (by show(c.env.scope.kind== .class||(c.env.scope.kind== .module&&c.env.locals != c.env.globals))=false;rw[G.kind];rfl)
  rw[Ov] at hb
  by_cases q:y=x
  ·rw[if_pos q,e] at hb
   exact⟨q▸(R.loc x u e).1,.inl ⟨q▸h.1,Dc hb fun z=>z▸Hi hv,.inr ⟨v,if_pos q,Dc hb fun z=>z▸hv.mono l⟩⟩⟩
  ·rw[if_neg q] at hb
   exact⟨(R.loc y b hb).1,(R.loc y b hb).2.imp (fun z=>⟨z.1,z.2.1,z.2.2.imp id (Af fun w z=>⟨(if_neg q).trans z.1,z.2⟩)⟩) id⟩
 ·have e1:LR u=none∧Gw u=true:=⟨(Nb h.2.2).1,h.2.2⟩
  have e2:Fs u a=false:=(Nb h.2.2).2 a
  rw[e1.1,e2] at P
  exact P.elim
 ·refine h.2.elim fun i z=>z.elim fun q z=>Dx z fun dz e1 e2 e3=>?_
  subst e1
  refine Fz P fun ob e4 P1=>BX P1 fun b e5 P2=>?_
  refine Wu e5 fun eo=>?_
  subst eo
  refine R.turn e4 rfl (v:=.ref q) ⟨(q,dz),e3,rfl⟩ fun d hd a ob p1 p2 T=>?_
  rw[←show a=q from T.body.2.1.trans (FV T.hv).symm] at e2
  exact AS T.body.2.2 fun ov e6 zz=>wpAny_storeName_cell G.kind h.1 e2 ⟨_,T.row.1,e6⟩ fun h' hv'' hsb=>AS hv'' fun ob' e7 e8=>HQ k₁ () () _ h' _ (.refl _) (T.but (o':=.cell _) hsb e7 ⟨T.body.1,T.body.2.1,_,e8,.inr ⟨v,rfl,hv.mono l⟩⟩) trivial P2
theorem AV.bindName (G:BI c){x:Str}{a:V}{v:Value}(hv:Ag c.tp k a v):AV c k CU (bindName c.env x v) (EX x a):=
 fun k₁ st s K X o Q E l R P HQ HE=>wpAny_bindName (AV.store G hv k₁ st s K X o Q E l R P HQ HE)
theorem Aj.list {st:St}{h:Heap}(R:Aj c.fm k st h){i:Nat}{ob:O}{xs:List V}(e:st.heap[i]? =some ob)(ho:oL ob=some xs){v:Value}(hv:Ag c.tp k (.obj i) v){G:Prop}
  (K:∀a vs n,v= .ref a→(a,listOf (AG vs) n)∈R.MO++(c.J++k.I)→Am c.tp k xs vs→h.IsList a vs.toArray→G):G:=by
 refine TQ ho fun ho=>?_
 subst ho
 refine R.turn e rfl hv fun d hd a ob p1 p2 T=>Dl T.body.2.2 fun vs n h1 h2=>?_
 have m:(d.1,listOf (AG vs) n)∈R.MO++(c.J++k.I):=by rw[←T.body.2.1,←h1];exact T.at
 exact K d.1 vs n T.hv m h2 ⟨_,(R.N _ m).1,rfl,_,rfl⟩
theorem GN {T:Value→Value→Sem Value}{g:Int→Int→M V}{a b:V}{x y:Value}(ha:Ag c.tp k a x)(hb:Ag c.tp k b y)(h:∀i t j u,AV c k (CV c) (T (.int i t) (.int j u)) (g i j)):AV c k (CV c) (T x y) (J7 a b g):=
 .int (T:=fun x=>T x y) ha fun i t=>.int (T:=fun y=>T (.int i t) y) hb fun j u=>h i t j u
theorem VX {op:Operator}{a b:V}{x y:Value}(ha:Ag c.tp k a x)(hb:Ag c.tp k b y):AV c k (CV c) (ES op x y) (U8 op a b):=by
 rcases op with _|_
 case Add=>
  show AV c k (CV c) _ (UC a b)
  unfold UC
  refine .intOr (T:=fun x=>ES .Add x y) ha (fun i t=>.int (T:=fun y=>ES .Add (.int i t) y) hb fun j u=>.still fun zz zz zz zz zz h=>add_int (h _ _ ⟨_,rfl⟩)) ?_
  refine .strOr (T:=fun x=>ES .Add x y) ha (fun i t=>.str (T:=fun y=>ES .Add (.str i t) y) hb fun j u=>.size fun hl=>.still fun zz zz zz zz zz h=>add_str (fun zz zz=>h _ _ ⟨_,rfl⟩) (AL hl Cj)) ?_
  refine .look fun i ea=>FU ea fun q=>.look fun j eb=>FU eb fun q'=>?_
  subst q q'
  refine .rd fun k' st s K X o Q E ob xs l R e hp P HQ HE=>JE P fun ob₂ ys e2 hp2 P=>EW P fun hl P=>R.list e hp (ha.mono l) fun p vs n q zz hs hL=>R.list e2 hp2 (hb.mono l) fun p2 ws m q2 zz hs2 hL2=>?_
  subst q q2
  exact add_lists R.F R.N hL hL2 (fun h' F' N'=>HQ _ (.obj st.heap.length) _ ⟨st.loc,st.heap++[O.list (xs++ys)]⟩ h' s.toks (B8.app _) (R.pushList (hs2.append hs) F' N' fun p hp=>Av (R.N p hp).1) (R.newAt _) P) (by rw[←hs.length,←hs2.length];exact AL hl Cj)
 case Sub=>exact GN (T:=ES .Sub) ha hb fun i t j u=>.still fun zz zz zz zz zz h=>sub_int (h _ _ ⟨_,rfl⟩)
 case FloorDiv=>exact GN (T:=ES .FloorDiv) ha hb fun i t j u=>.guardD fun hl=>.still fun zz zz zz zz zz h=>floordiv_int hl.1 (h _ _ ⟨_,rfl⟩) (.inl (PyProof.noPylong_small hl.2))
 case Mod=>
  exact .strOr (T:=fun x=>ES .Mod x y) (g:=fun f=>XQ f b) (m:=J7 a b fun x y=>req (decide (y≠0)) (.pure (.int (x.fmod y)))) ha (fun f t=>.stuck) (GN (T:=ES .Mod) ha hb fun i t j u=>.guardD fun hl=>.still fun zz zz zz zz zz h=>mod_int' hl (h _ _ ⟨_,rfl⟩))
 case Mult=>exact GN (T:=ES .Mult) ha hb fun i t j u=>.guardD fun hl=>.still fun zz zz zz zz zz h=>mul_int (h _ _ ⟨_,rfl⟩) (.of_left (intBits_le_64 (by have:=hl.1;lia) (by have:=hl.1;lia)))
 all_goals exact .stuck
theorem Ok {op:Operator}{a b:V}{x y:Value}(ha:Ag c.tp k a x)(hb:Ag c.tp k b y):AV c k (CV c) (inplaceOp op x y) (OE op a b):=by
 rcases op with _|_
 case Add=>exact GN (T:=inplaceOp .Add) ha hb fun i t j u=>.still fun zz zz zz zz zz h=>iadd_int (h _ _ ⟨_,rfl⟩)
 case Sub=>exact GN (T:=inplaceOp .Sub) ha hb fun i t j u=>.still fun zz zz zz zz zz h=>isub_int (h _ _ ⟨_,rfl⟩)
 all_goals exact .stuck
structure G4 (θ:Tp):Prop where
 list:∀n xs,θ.S.sta n= .list xs→∃vs,Am θ ⟨[],[]⟩ xs vs∧θ.base.IsList (θ.as n) vs.toArray
 dict:∀n es,θ.S.sta n= .dict es→∃kvs,Kv V.str θ ⟨[],[]⟩ es kvs∧θ.base.DictOf (DJ θ.prog θ.w) (θ.as n) kvs∧(θ.as n==Ce)=false∧es.isEmpty=false
 sdict:∀n es,θ.S.sta n= .sdict es→False
theorem JB (G:BI c)(SO:G4 c.tp){a:V}{v:Value}(ha:Ag c.tp k a v):AV c k CB (truthy v) (IE c.S a):=by
 rcases a with _|_|⟨b⟩|⟨i⟩|⟨s⟩|_|_|_|⟨i⟩|_|_|⟨n⟩|_
 case none=>cases (show v= .none from ha);exact .still fun zz s zz zz zz h=>fun zz zz zz=>h s.toks _ rfl
 case bool=>cases (show v= .bool b from ha);exact .still fun zz s zz zz zz h=>FI (h s.toks _ rfl)
 case int=>
  refine AB (show ∃t,v= .int i t from ha) fun t q=>?_
  subst q
  refine .still fun zz s zz zz zz h=>truthy_int (h s.toks _ ?_)
  simp only[CB,ne_eq,bne,decide_not]
  rfl
 case str=>
  refine AB (show ∃t,v= .str s t from ha) fun t q=>?_
  subst q
  refine .size fun hl=>.still fun zz zz zz zz zz h=>P.truthy_str (fun hq=>?_) (h _ _ ?_)
  ·have hq:(2 ^ 63:Nat)≤s.cps.size:=Int.ofNat_le.mp hq
   exact absurd (AL hq hl) (by unfold lim;decide)
  ·show decide (s.cps.size≠0)=((s.cps.size:Int) != 0)
   rw[show((s.cps.size:Int) != 0)=(s.cps.size != 0) from by rw[Bool.eq_iff_iff,bne_iff_ne,bne_iff_ne];exact not_congr Int.natCast_eq_zero]
   exact(Bool.eq_iff_iff.mpr (by rw[decide_eq_true_iff,bne_iff_ne]))
 case obj=>
  refine .rd fun k' st s K X o Q E ob xs l R e hx P HQ HE=>EW P fun hl P=>R.list e hx (ha.mono l) fun a vs n q zz hs hL=>?_
  subst q
  refine wpAny_truthy_list hL (by have hl:xs.length≤1000000:=hl;rw[Ay,←hs.length];lia) (HQ.now _ R ?_ P)
  have:=hs.length
  show decide (xs.length≠0)= !vs.toArray.isEmpty
  rw[this]
  rcases vs with _|_<;>rfl
 case sta=>
  refine .look fun xs e=>.size fun hl=>fun k₁ st s K X o Q E l R P HQ HE=>TQ e fun e=>?_
  refine AS (SO.list n xs e) fun vs h1 h2=>?_
  rw[show v= .ref _ from ha]
  have h2:s.heap.IsList (c.as n) vs.toArray:=Af (fun o z=>⟨R.F.keep _ _ (G.stays _ _ z.1),z.2⟩) h2
  have hq:=h1.length
  refine wpAny_truthy_list h2 (by have hl:xs.length≤1000000:=hl;rw[Ay,←hq];lia) (HQ.now _ R ?_ P)
  show decide (xs.length≠0)= !vs.toArray.isEmpty
  rw[hq]
  rcases vs with _|_<;>rfl
 all_goals exact .stuck
theorem WS (G:BI c)(SO:G4 c.tp){op:UnaryOp}{a:V}{v:Value}(ha:Ag c.tp k a v):AV c k (CV c) (unaryOp op v) (WJ c.S op a):=by
 rcases op with _|_
 case USub=>exact .int (T:=unaryOp .USub) ha fun i t=>.still fun zz zz zz zz zz h=>neg_int (h _ _ ⟨_,rfl⟩)
 case Not=>exact fun k₁ st s K X o Q E l R P HQ HE=>not_value (JB G SO (ha.mono l) k₁ st s _ X o _ E (.refl _) R P (fun k' p q st' h' tk l' R' hb P'=>HQ k' _ _ st' h' tk l' R' (by rw[show p=q from hb];exact rfl) P') HE)
 all_goals exact .stuck
end
section
open PySem.SeqAt
noncomputable def Iu (c:Cx)(k:Kn)(h:Heap)(ob:O)(y:Value):Prop:=∃a,y= .ref a∧match ob with
 | .list xs=>∃vs,Am c.tp k xs vs∧h.IsList a vs.toArray
 | .dict es=>(a==Ce)=false∧((∃kvs,Kv V.int c.tp k es kvs∧h.DictOf (DW c.prog c.w) a kvs)∨(es.isEmpty=false∧∃kvs,Kv V.str c.tp k es kvs∧h.DictOf (DJ c.prog c.w) a kvs))
 | .sdict es=>(a==Ce)=false∧es.isEmpty=false∧∃kvs,Kv V.str c.tp k es kvs∧h.DictOf (DJ c.prog c.w) a kvs
 |_=>True
section
variable {c:Cx}{k:Kn}
theorem Iu.dict {h:Heap}{es:List (V×V)}{y:Value}(S:Iu c k h (.sdict es) y):Iu c k h (.dict es) y:=Af (fun zz h=>⟨h.1,h.2.1,.inr h.2.2⟩) S
theorem Aj.seen {st:St}{h:Heap}(R:Aj c.fm k st h){i:Nat}{ob:O}(e:st.heap[i]? =some ob){y:Value}(hv:Ag c.tp k (.obj i) y):Iu c k h (N7 ob) y:=by
 rcases ob with _|⟨xs⟩|⟨es⟩|⟨es⟩|_|⟨es⟩|_
 case list=>exact R.list e rfl hv fun a vs n q zz hs hL=>⟨a,q,vs,hs,hL⟩
 case dict=>exact R.turn e rfl hv fun d hd a ob p1 p2 T=>⟨d.1,T.hv,T.body.2.2.1,.inl (AS T.body.2.2.2 fun kvs h1 h2=>⟨kvs,h2,Da.mpr ⟨ob,T.body.2.1▸T.row.1,h1⟩⟩)⟩
 case fro=>
  refine AS hv fun d hd hv=>CN (R.heap.split e) fun d' p1 L p2 e1 zz e3 zz=>?_
  refine BF e3.2 fun d₁ ob e4 e5 e6=>?_
  cases AH ((AH (hd.symm.trans e1)).trans e4)
  exact⟨d.1,hv,e6.2.2.1,.inl (AS e6.2.2.2 fun kvs h1 h2=>⟨kvs,h2,Da.mpr ⟨ob,(R.N (d.1,ob) (Ad _ (B7 _ e5))).1,h1⟩⟩)⟩
 case sdict=>exact R.turn e rfl hv fun d hd a ob p1 p2 T=>⟨d.1,T.hv,T.body.2.2.1.1,T.body.2.2.1.2,AS T.body.2.2.2 fun kvs h1 h2=>⟨kvs,h2,Da.mpr ⟨ob,T.body.2.1▸T.row.1,h1⟩⟩⟩
 all_goals exact AS hv fun d zz hv=>⟨d.1,hv,trivial⟩
theorem AV.obj {α β:Type}{C:Kn→α→β→Prop}{t:Sem β}{b:V}{y:Value}{g:O→M α}(G:BI c)(SO:G4 c.tp)(hb:Ag c.tp k b y)
  (h:∀k' st s K X o Q E ob,B8 k k'→Aj c.fm k' st s.heap→Iu c k' s.heap ob y→Y c.l o (g ob st K X)→En c C k' s K o Q→FF c k' s X o E→wpAny c.M c.A t Q E s):AV c k C t ((NT c.S b).bind g):=by
 rcases b with _|_|_|_|_|_|_|_|⟨i⟩|_|_|⟨n⟩|_
 case obj=>exact fun k₁ st s K X o Q E l R P HQ HE=>Fz P fun ob' e1 P=>BX P fun ob e2 P=>h k₁ st s K X o Q E (N7 ob) l R (R.seen (AH e2▸e1) (hb.mono l)) P HQ HE
 case sta=>
  refine fun k₁ st s K X o Q E l R P HQ HE=>h k₁ st s K X o Q E (c.S.sta n) l R ⟨_,hb,?_⟩ P HQ HE
  have keep:∀b o,c.base.get? b=some o→s.heap.get? b=some o:=fun b o e=>R.F.keep b o (G.stays b o e)
  rcases e:c.S.sta n with _|⟨xs⟩|⟨es⟩|_|_|⟨es⟩|_
  case list=>exact AS (SO.list n xs e) fun vs h1 h2=>⟨vs,h1.mono (B8.nil _),Af (fun o z=>⟨keep _ _ z.1,z.2⟩) h2⟩
  case dict=>exact Dx (SO.dict n es e) fun kvs h1 h2 h3=>⟨h3.1,.inr ⟨h3.2,kvs,h1.mono (B8.nil _),h2.keep keep⟩⟩
  case sdict=>exact(SO.sdict n es e).elim
  all_goals trivial
 all_goals exact fun zz zz zz zz zz zz zz zz zz zz P=>P.elim
end
theorem Jh (a b:Str):(a==b)=decide (a=b):=by
 by_cases h:a=b
 ·rw[decide_eq_true h,beq_iff_eq];exact h
 ·rw[decide_eq_false h,beq_eq_false_iff_ne];exact h
section
variable {θ:Tp}{k:Kn}
theorem UK {a b:V}{x y:Value}{r:Bool}{P:Value→Value→Bool→Prop}(e:Lc a b=some r)(ha:Ag θ k a x)(hb:Ag θ k b y)(h1:∀i t j u,P (.int i t) (.int j u) (decide (i=j)))(h2:∀i t j u,P (.str i t) (.str j u) (decide (i=j)))(h3:∀j u,P .none (.int j u) false):P x y r:=by
 rcases a with _|_|_|⟨i⟩|⟨i⟩|_
 case int=>exact AS (Ao.mp e) fun j e1 e2=>F9 e1 fun q=>by subst q;exact AB (show ∃t,x= .int i t from ha) fun t q=>AB (show ∃t,y= .int j t from hb) fun u z=>q▸z▸e2▸h1 i t j u
 case str=>exact AS (Ao.mp e) fun j e1 e2=>ET e1 fun q=>by subst q;exact AB (show ∃t,x= .str i t from ha) fun t q=>AB (show ∃t,y= .str j t from hb) fun u z=>q▸z▸e2▸h2 i t j u
 case none=>exact AS (Ao.mp e) fun j e1 e2=>F9 e1 fun q=>by subst q;exact AB (show ∃t,y= .int j t from hb) fun u z=>(show x= .none from ha)▸z▸e2▸h3 j u
 all_goals exact AP e
theorem PN {K:Type}[DecidableEq K]{as:V→Option K}{i:K}{A:Around}{s:Shared}{y:Value}(f:Value→Bool)(H:∀x v j,as x=some j→Ag θ k x v→f v=decide (j=i)∧EqAt A s v y (decide (j=i))){xs:List V}:∀{vs:List Value} {r:Bool},Am θ k xs vs→M6 as i xs=some r→
  vs.any f=r∧∀z∈vs,EqAt A s z y (f z):=by
 induction xs with
 |nil=>exact fun h e=>by rw[show _=[] from h];exact⟨AH e,fun zz h=>nomatch h⟩
 |cons x xs ih=>
  intro vs r h e
  refine BF h fun v us h1 h2 e1=>AS (Ak.mp e) fun j e2 e3=>AS (Ao.mp e3) fun b e4 e5=>?_
  subst e1 e5
  have hd:=H x v j e2 h1
  exact⟨by rw[List.any_cons,hd.1,(ih h2 e4).1],fun z hz=>(AU.mp hz).elim (fun q=>by rw[q,hd.1];exact hd.2) ((ih h2 e4).2 z)⟩
set_option backward.match.sparseCases false in
noncomputable def bD (i:Int):Value→Bool
 | .int j _=>decide (j=i)
 |_=>false
set_option backward.match.sparseCases false in
noncomputable def bC (i:Str):Value→Bool
 | .str j _=>decide (j=i)
 |_=>false
theorem Y9 {a:V}{x:Value}(ha:Ag θ k a x){xs:List V}{vs:List Value}{r:Bool}(A:Around)(s:Shared)(h:Am θ k xs vs)(e:Fe a xs=some r):∃f,vs.any f=r∧∀z∈vs,EqAt A s z x (f z):=by
 unfold Fe at e
 rcases ei:DF a with _|i
 ·
  rw[ei] at e
  refine AS (Ak.mp e) fun i e1 e=>ET e1 fun q=>?_
  subst q
  refine AB (show ∃t,x= .str i t from ha) fun u q=>⟨_,PN (bC i) (fun x v j e1 hv=>ET e1 fun q=>?_) h e⟩
  subst q
  exact AB (show ∃t,v= .str j t from hv) fun t q=>by rw[q];exact⟨rfl,by subst_vars;rw[←Jh];exact EqAt.str_str j t i u⟩
 ·
  rw[ei] at e
  refine F9 ei fun q=>?_
  subst q
  refine AB (show ∃t,x= .int i t from ha) fun u q=>⟨_,PN (bD i) (fun x v j e1 hv=>F9 e1 fun q=>?_) h e⟩
  subst q
  exact AB (show ∃t,v= .int j t from hv) fun t q=>by rw[q];exact⟨rfl,by subst_vars;exact EqAt.int_int j t i u⟩
noncomputable def Zj (θ:Tp)(k:Kn)(o:Option Value):Option V→Prop
 |some x=>∃v,o=some v∧Ag θ k x v
 |none=>o=none
theorem Ou {K:Type}[DecidableEq K]{f:K→V}{as:V→Option K}(hf:∀i,as (f i)=some i){i:K}{es:List (V×V)}:∀{kvs:List (K×Value)} {q:Option V},Kv f θ k es kvs→H8 as i es=some q→Zj θ k (valueAt kvs i) q:=by
 induction es with
 |nil=>exact fun h e=>by rw[show _=[] from h,←AH e];exact rfl
 |cons p es ih=>
  intro kvs q h e
  refine DU h fun j v us h1 h2 h3 h4=>?_
  subst h4
  rw[Ls,h1,hf] at e
  have e:(if j=i then some (some p.2) else H8 as i es)=some q:=e
  unfold valueAt
  by_cases z:j=i
  ·rw[if_pos z] at e
   rw[←AH e,List.find?_cons_of_pos (by simpa using z)]
   exact⟨v,rfl,h2⟩
  ·rw[if_neg z] at e
   rw[List.find?_cons_of_neg (by simpa using z)]
   exact ih h3 e
theorem RY {c:Cx}{h:Heap}{y:Value}{es:List (V×V)}{a:V}{x:Value}{q:Option V}(S:Iu c k h (.dict es) y)(ha:Ag c.tp k a x)(e:Hp a es=some q){G:Prop}
  (H:∀{K:Type} [DecidableEq K] (knd:KeyKind c.prog c.w K) (d:Addr) (f:K→Option Value) (i:K),y= .ref d→(d==Ce)=false→knd.is i x=true→h.MapOf knd d f→Zj c.tp k (f i) q→G):G:=by
 refine AS S fun d hd S=>?_
 have S:(d==Ce)=false∧((∃kvs,Kv V.int c.tp k es kvs∧h.DictOf (DW c.prog c.w) d kvs)∨(es.isEmpty=false∧∃kvs,Kv V.str c.tp k es kvs∧h.DictOf (DJ c.prog c.w) d kvs)):=S
 unfold Hp at e
 rcases ei:DF a with _|i
 ·
  rw[ei] at e
  refine AS (Ak.mp e) fun i e1 e=>ET e1 fun q=>?_
  subst q
  refine AB (show ∃t,x= .str i t from ha) fun u q=>?_
  rcases es with _|⟨p,es⟩
  ·exact AP e
  ·exact S.2.elim (fun z=>AS z fun kvs h1 h2=>DU h1 fun j v us h1 zz zz zz=>by
    have e:H8 Dh i (p::es)=_:=e
    rw[Ls,h1] at e;exact AP e) fun z=>AS z.2 fun kvs h1 h2=>H (DJ c.prog c.w) d _ i hd S.1 (q▸strKind_is ..) h2.mapOf (Ou (f:=V.str) (fun zz=>rfl) h1 e)
 ·
  rw[ei] at e
  refine F9 ei fun q=>?_
  subst q
  refine AB (show ∃t,x= .int i t from ha) fun u q=>?_
  refine S.2.elim (fun z=>AS z fun kvs h1 h2=>H (DW c.prog c.w) d _ i hd S.1 (q▸intKind_is ..) h2.mapOf (Ou (f:=V.int) (fun zz=>rfl) h1 e)) fun z=>AS z.2 fun kvs h1 h2=>?_
  rcases es with _|⟨p,es⟩
  ·exact(AI z.1.symm).elim
  ·exact DU h1 fun j v us h1 zz zz zz=>by
    have e:H8 DF i (p::es)=_:=e
    rw[Ls,h1] at e;exact AP e
end
section
variable {c:Cx}{k:Kn}
theorem R0 (G:BI c)(SO:G4 c.tp){a b:V}{x y:Value}(ha:Ag c.tp k a x)(hb:Ag c.tp k b y){T:Value→Value→Sem Value}{ng:Bool→Bool}
  (hS:∀{A:Around} {Q:Value→Shared→Prop} {E:Value→Shared→Prop} {s:Shared} (u v:Str) (t w:Tok),Q (.bool (ng (B0 u v))) s→wpAny c.M A (T (.str v t) (.str u w)) Q E s)
  (hL:∀{A:Around} {Q:Value→Shared→Prop} {E:Value→Shared→Prop} {s:Shared} {l:Addr} {items:Array Value} {x:Value} (e:Value→Bool),s.heap.IsList l items→(∀y,y∈items→EqAt A.in1 s y x (e y))→Q (.bool (ng (items.any e))) s→wpAny c.M A (T x (.ref l)) Q E s)
  (hD:∀{A:Around} {Q:Value→Shared→Prop} {E:Value→Shared→Prop} {s:Shared} {K:Type} [DecidableEq K] {knd:KeyKind c.prog c.w K} {d:Addr} {f:K→Option Value} {i:K} {x:Value},knd.is i x=true→(d==Ce)=false→s.heap.MapOf knd d f→Q (.bool (ng (f i).isSome)) {s with toks:=s.toks+1}→wpAny c.M A (T x (.ref d)) Q E s):
  AV c k Jf (T x y) ((Uo c.S a b).bind fun r=>.pure (ng r)):=by
 intro k₁ st s K X o Q E l R P HQ HE
 unfold Uo at P
 revert P
 rcases eb:Dh b with _|t
 ·
  refine fun P=>AV.obj (α:=Bool) (C:=Jf) (g:=fun ob=>(ZV a ob).bind fun r=>.pure (ng r)) G SO hb (fun k' st s K X o Q E ob l R S P HQ HE=>?_) k₁ st s K X o Q E l R P HQ HE
  have D:∀es,Iu c k' s.heap (.dict es) y→Y c.l o ((((Internal.dyn .oval (Hp a es)).bind fun r=>.pure r.isSome).bind fun r=>.pure (ng r)) st K X)→wpAny c.M c.A (T x y) Q E s:=fun es S P=>DX (u:=.oval) P fun(r:Option V) e P=>RY S (ha.mono l) e fun{K} zz knd d f i hd hs hi hm hf=>hd▸hD hi hs hm (HQ.now _ R (by
    rcases r with _|z
    ·rw[show f i=none from hf];exact rfl
    ·exact AS hf fun v hv zz=>by rw[hv];exact rfl) P)
  rcases ob with _|_
  case list xs=>exact DX (u:=.bool) P fun r e P=>AS S fun d hd S=>AS S fun vs h1 h2=>AS (Y9 (ha.mono l) c.A.in1 s h1 e) fun f h3 h4=>hd▸hL f h2 (fun z hz=>h4 z (by simpa using hz)) (HQ.now s.toks R (by rw[List.any_toArray,h3]) P)
  case dict es=>exact D es S P
  case sdict es=>exact D es S.dict P
  all_goals exact P.elim
 ·
  refine fun P=>BX P fun u e P=>ET eb fun q=>ET e fun z=>?_
  subst q z
  exact AB (show ∃t',x= .str u t' from ha) fun t1 q=>AB (show ∃t',y= .str t t' from hb) fun t2 z=>q▸z▸hS t u t1 t2 (HQ.now s.toks R rfl P)
theorem KM {op:CmpOp}{p:Int→Int→Bool}{a b:V}{x y:Value}(ha:Ag c.tp k a x)(hb:Ag c.tp k b y)(h:∀{A:Around} {Q:Value→Shared→Prop} {E:Value→Shared→Prop} {s:Shared} (i j:Int) (t u:Tok),Q (.bool (p i j)) s→wpAny c.M A (C8 op (.int i t) (.int j u)) Q E s):
  AV c k Jf (C8 op x y) (QJ p a b):=
 .int (T:=fun x=>C8 op x y) ha fun i t=>.int (T:=fun y=>C8 op (.int i t) y) hb fun j u=>.still fun zz s zz zz zz hq=>h i j t u (hq s.toks _ rfl)
theorem SG {a:V}{v:Value}(h:Ag c.tp k a v)(u:MM a=false):(v== .none)=IM a:=by
 cases a with
 |none=>rw[show v= .none from h];rfl
 |undef=>exact(AI u.symm).elim
 |cref=>exact False.elim h
 |bool b=>rw[show v= .bool b from h];rfl
 |int i=>exact AB (show ∃t,v= .int i t from h) fun t q=>q▸rfl
 |str i=>exact AB (show ∃t,v= .str i t from h) fun t q=>q▸rfl
 |txt=>exact AB h fun s h=>AB h fun t q=>q▸rfl
 |tup xs=>exact AB h fun a h=>AB h fun n h=>AB h fun vs h=>h.2.2▸rfl
 |rcd xs fs=>exact AB h fun a h=>AB h fun n h=>AB h fun vs h=>AB h fun vs h=>h.2.2.2▸rfl
 |obj i=>exact AB h fun d h=>h.2▸rfl
 |rng a b=>exact AB h fun a h=>AB h fun n h=>AB h fun vs h=>AB h fun vs h=>h.2▸rfl
 |fn f=>rw[show v= .ref _ from h];rfl
 |cls f=>rw[show v= .ref _ from h];rfl
 |sta f=>rw[show v= .ref _ from h];rfl
 |bi f=>rw[show v= .builtin f from h];rfl
 |ty f=>rw[show v= .type f from h];rfl
theorem PA {θ:Tp}{A:Around}{s:Shared}{a b:V}{x y:Value}(e:Lc a b=some true)(ha:Ag θ k a x)(hb:Ag θ k b y):EqAt A s x y true:=by
 rcases a with _|_|_|⟨i⟩|⟨i⟩|_
 case int=>exact AS (Ao.mp e) fun j e1 e2=>F9 e1 fun q=>by subst q;exact AB (show ∃t,x= .int i t from ha) fun t q=>AB (show ∃t,y= .int j t from hb) fun u z=>by rw[q,z,←e2];exact EqAt.int_int i t j u
 case str=>exact AS (Ao.mp e) fun j e1 e2=>ET e1 fun q=>by subst q;exact AB (show ∃t,x= .str i t from ha) fun t q=>AB (show ∃t,y= .str j t from hb) fun u z=>by rw[q,z,←e2,←Jh];exact EqAt.str_str i t j u
 case none=>exact AS (Ao.mp e) fun j zz e2=>(AI e2).elim
 all_goals exact AP e
theorem SR {θ:Tp}{A:Around}{s:Shared}{f:V→V→Option Bool}(H:∀a b x y,f a b=some true→Ag θ k a x→Ag θ k b y→EqAt A s x y true){xs:List V}:∀{ys:List V} {vs ws:List Value} {r:Bool},Am θ k xs vs→Am θ k ys ws→Hx f xs ys=some r→
  r=true∧vs.length=ws.length∧∀j (h1:j<vs.length) (h2:j<ws.length),EqAt A s vs[j] ws[j] true:=by
 induction xs with
 |nil=>
  intro ys vs ws r h1 h2 e
  rcases ys with _|_
  ·
   cases (show vs=[] from h1)
   cases (show ws=[] from h2)
   exact⟨(AH e).symm,rfl,fun j h=>absurd h (Nat.not_lt_zero j)⟩
  ·exact AP e
 |cons x xs ih=>
  intro ys vs ws r h1 h2 e
  rcases ys with _|⟨y,ys⟩
  ·exact AP e
  ·
   refine BF h1 fun v us a1 a2 a3=>BF h2 fun v' us' b1 b2 b3=>?_
   subst a3 b3
   refine AS (Ak.mp e) fun q e1 e2=>?_
   rcases q with _|_
   ·exact AP e2
   ·
    have i:=ih a2 b2 e2
    refine⟨i.1,congrArg (·+1) i.2.1,fun j h1 h2=>?_⟩
    rcases j with _|j
    ·exact H _ _ _ _ e1 a1 b1
    ·exact i.2.2 j (E3 h1) (E3 h2)
theorem MG (n:Nat):(FB n).all (fun zz=>true)=true:=Az.mpr fun zz zz=>rfl
theorem RK {st:St}{s:Shared}(R:Aj c.fm k st s.heap){A:Around}(hu:A.units<cLine){as bs:List V}{x y:Value}(ha:Ag c.tp k (.tup as) x)(hb:Ag c.tp k (.tup bs) y){r:Bool}(e:Hx Lc as bs=some r):
  r=true∧∃p q,x= .ref p∧y= .ref q∧RcAt A s x y true:=by
 refine Hf ha fun p n vs h1 h2 h3=>Hf hb fun q m ws g1 g2 g3=>?_
 have i:=SR (A:=A.in1) (s:=s) (fun a b x y e ha hb=>PA e ha hb) h2 g2 e
 refine⟨i.1,p,q,h3,g3,?_⟩
 have z:=RcAt.tuples (A:=A) (s:=s) (l:=p) (b:=q) (items:=vs.toArray) (items2:=ws.toArray) (e:=fun zz=>true) ⟨_,R.bears _ h1,rfl,n,rfl⟩ ⟨_,R.bears _ g1,rfl,m,rfl⟩ hu fun j h1 h2=>by simpa using i.2.2 j (by simpa using h1) (by simpa using h2)
 rw[MG,Ay,Ay,i.2.1,beq_self_eq_true,Bool.and_true] at z
 rw[h3,g3]
 exact z
theorem Vz {st:St}{s:Shared}(R:Aj c.fm k st s.heap){A:Around}(hu:A.units<cLine){a b:V}{x y:Value}(e:E9 a b=some true)(ha:Ag c.tp k a x)(hb:Ag c.tp k b y):EqAt A s x y true:=by
 unfold E9 at e
 rcases ea:LP a with _|as
 ·rw[ea] at e;exact PA e ha hb
 ·
  rw[ea] at e
  refine AS (Ak.mp e) fun bs eb e1=>Jy ea fun q=>Jy eb fun q'=>?_
  subst q q'
  refine BF (RK R hu ha hb e1).2 fun p q h1 h2 h3=>?_
  subst h1 h2
  by_cases z:p=q
  ·subst z;exact EqAt.same _
  ·exact EqAt.of_refs z h3
theorem WU (hu:c.A.units+4<cLine){a b:V}{x y:Value}(ha:Ag c.tp k a x)(hb:Ag c.tp k b y):AV c k Jf (C8 .Eq x y) (XV a b):=by
 unfold XV
 rcases ea:G0 a with _|i
 ·
  rcases et:LP a with _|as
  ·
   refine .last fun r e=>?_
   unfold E9 at e
   rw[et] at e
   exact .still fun k' s Q E l h=>UK (P:=fun x y r=>RcAt c.A s x y r) e ha hb (fun i t j u=>RcAt.int_int i t j u) (fun i t j u=>by rw[←Jh];exact RcAt.str_str i t j u) (fun j u=>RcAt.none_int j u) _ _ _ _ (h s.toks _ rfl)
  ·
   refine .dyn (u:=.bool) (g:=fun r:Bool=>M.pure r) fun(r:Bool) e=>?_
   unfold E9 at e
   rw[et] at e
   refine AS (Ak.mp e) fun bs eb e1=>Jy et fun q=>Jy eb fun q'=>?_
   subst q q'
   ·refine fun k₁ st s K X o Q E l R P HQ HE=>?_
    have z:=RK (A:=c.A) R (by lia) (ha.mono l) (hb.mono l) e1
    exact BF z.2 fun p q zz zz h3=>h3 _ _ _ _ (HQ.now s.toks R (by rw[z.1]) P)
 ·
  refine .look fun j eb=>FU ea fun q=>FU eb fun q'=>?_
  subst q q'
  refine .rd fun k' st s K X o Q E ob xs l R e hp P HQ HE=>Fz P fun ob₂ e2 P=>BX P fun ys hp2 P=>DX (u:=.bool) (f:=fun a=>K a st) P fun(r:Bool) hr P=>?_
  refine R.list e hp (ha.mono l) fun p vs n q zz hs hL=>R.list e2 hp2 (hb.mono l) fun p2 ws m q2 zz hs2 hL2=>?_
  subst q q2
  have i:=SR (A:=c.A.in1) (s:=s) (fun a b x y e ha hb=>Vz R (by show c.A.units+1<cLine;lia) e ha hb) hs hs2 hr
  have z:=RcAt.lists (A:=c.A) (e:=fun zz=>true) hL hL2 (by simpa using i.2.1) (by lia) fun j h1 h2=>i.2.2 j (by simpa using h1) (by simpa using h2)
  rw[MG] at z
  exact z _ _ _ _ (HQ.now s.toks R (by rw[i.1]) P)
theorem Qz {T:Value→Value→Sem Value}{ng:Bool→Bool}(h1:∀{A:Around} {Q:Value→Shared→Prop} {E:Value→Shared→Prop} {s:Shared} (p q:Bool),Q (.bool (ng (decide (p=q)))) s→wpAny c.M A (T (.bool p) (.bool q)) Q E s)
  (h2:∀{A:Around} {Q:Value→Shared→Prop} {E:Value→Shared→Prop} {s:Shared} (x:Value),Q (.bool (ng (x== .none))) s→wpAny c.M A (T x .none) Q E s){a b:V}{x y:Value}(ha:Ag c.tp k a x)(hb:Ag c.tp k b y):AV c k Jf (T x y) ((Um a b).bind fun r=>.pure (ng r)):=by
 unfold Um
 rcases eb:SQ b with _|q
 ·
  refine .chk fun z=>L8 z fun z=>?_
  subst z
  rw[show y= .none from hb]
  exact .chk (m:=M.bind (.pure (IM a)) fun r=>.pure (ng r)) fun u=>.still fun zz s zz zz zz h=>h2 x (h s.toks _ (by rw[SG ha (by revert u;cases MM a<;>simp)]))
 ·
  refine .look fun p e=>V4 eb fun z=>V4 e fun z'=>?_
  subst z z'
  rw[show x= .bool p from ha,show y= .bool q from hb]
  exact .still fun zz s zz zz zz h=>h1 p q (h s.toks _ rfl)
theorem Ji (G:BI c)(hu:c.A.units+4<cLine)(SO:G4 c.tp){op:CmpOp}{a b:V}{x y:Value}(ha:Ag c.tp k a x)(hb:Ag c.tp k b y):AV c k Jf (C8 op x y) (KZ c.S op a b):=by
 cases op with
 |Eq=>exact WU hu ha hb
 |NotEq=>exact .look fun r e=>.still fun k' s Q E l h=>UK (P:=fun x y r=>RcNeAt c.A s x y (!r)) e ha hb (fun i t j u=>RcNeAt.int_int i t j u) (fun i t j u=>by rw[←Jh];exact RcNeAt.str_str i t j u) (fun j u=>RcNeAt.none_int j u) _ _ _ _ (h s.toks _ rfl)
 |Lt=>exact KM ha hb fun i j t u h=>lt_int h
 |Gt=>exact KM ha hb fun i j t u h=>gt_int h
 |GtE=>exact KM ha hb fun i j t u h=>ge_int h
 |LtE=>
  show AV c k Jf _ (X4 a b)
  unfold X4
  exact .intOr (T:=fun x=>C8 .LtE x y) ha (fun i t=>.int (T:=fun y=>C8 .LtE (.int i t) y) hb fun j u=>.still fun zz s zz zz zz h=>le_int (h s.toks _ rfl))
   (.str (T:=fun x=>C8 .LtE x y) ha fun i t=>.str (T:=fun y=>C8 .LtE (.str i t) y) hb fun j u=>.still fun zz s zz zz zz h=>PySem.P.le_str (h s.toks _ rfl))
 |Is=>exact Qz (T:=C8 .Is) (ng:=fun b=>b) (fun p q h=>wpAny_is_plain rfl (by rcases p with _|_<;>rcases q with _|_<;>exact h)) (fun x h=>is_none_gen h) ha hb
 |IsNot=>exact Qz (T:=C8 .IsNot) (ng:=fun b=> !b) (fun p q h=>wpAny_isNot_plain rfl (by rcases p with _|_<;>rcases q with _|_<;>exact h)) (fun x h=>isnot_none_gen h) ha hb
 |In=>exact R0 G SO ha hb (T:=C8 .In) (ng:=fun b=>b) (fun u v t w h=>SB.contains h) (fun e h1 h2 h3=>in_listAt e h1 h2 h3) fun h1 h2 h3 h4=>wpAny_in_of h1 h2 h3 h4
 |NotIn=>exact R0 G SO ha hb (T:=C8 .NotIn) (ng:=fun b=> !b) (fun u v t w h=>SB.notContains h) (fun e h1 h2 h3=>notIn_listAt e h1 h2 h3) fun h1 h2 h3 h4=>wpAny_notIn_of h1 h2 h3 h4
end
end
theorem Hl {prog:Cg}{w:World}{A:Around}{E:Value→Shared→Prop}{s:Shared}{value slice:Expr}{o i:Value}{T id:String}{Q:Value→Shared→Prop}(hT:s.TypeIs o T)
  (hl:typeLookup (.type T) "__getitem__"=pure (some (.builtin id)))(hg:wpAny (model prog w) A (getItem o i) Q E s):wpAny (model prog w) A (DD value slice o i) Q E s:=by
 refine AB (show ∃ops,subscripted slice false o i=operate ops (getItem o i) from ?_) fun ops h=>tail_any hT hl hg h
 rcases slice with _|_|_|_|_|_|_|_|_|_|_|_|_|_|_|_|_|_|_|_|_|_|_|_|_|_|⟨a,b,st,p⟩
 case Slice=>rcases st with _|_<;>exact⟨_,rfl⟩
 all_goals exact⟨_,rfl⟩
theorem LB {k:Int}{n j:Nat}(h:FE k n=some j):n≤1000000∧j<n∧(0≤k∧j=k.toNat∨k<0∧-k≤(n:Int)∧j=(k+n).toNat):=by
 unfold FE at h
 by_cases hn:n≤1000000
 ·rw[if_pos hn] at h
  by_cases h0:0≤k
  ·rw[if_pos h0] at h
   by_cases h1:k.toNat<n
   ·rw[if_pos h1] at h;exact Dc h fun h=>⟨hn,h▸h1,.inl ⟨h0,h.symm⟩⟩
   ·rw[if_neg h1] at h;exact AP h
  ·rw[if_neg h0] at h
   by_cases h1:-k≤(n:Int)
   ·rw[if_pos h1] at h;exact Dc h fun h=>⟨hn,by lia,.inr ⟨by lia,h1,h.symm⟩⟩
   ·rw[if_neg h1] at h;exact AP h
 ·rw[if_neg hn] at h;exact AP h
theorem Am.slice {θ:Tp}{k:Kn}{xs:List V}{vs:List Value}(h:Am θ k xs vs)(a b:Nat):Am θ k (B1 xs a b) (B1 vs a b):=(h.take b).drop a
theorem Mr {n d r:Nat}{a:V}(h:IV n a d=some r){θ:Tp}{k:Kn}{v:Value}(ha:Ag θ k a v):∃lo,IsPart v lo∧(d=0→kms_lo lo n=r)∧(d=n→kms_hi lo n=r):=by
 unfold IV at h
 rcases ei:DF a with _|i
 ·
  rw[ei] at h
  exact I5 h fun z h=>L8 z fun z=>by subst z;rw[show v= .none from ha];exact⟨none,.none,fun q=>(AH h▸q).symm▸rfl,fun q=>(AH h▸q).symm▸rfl⟩
 ·
  rw[ei] at h
  refine F9 ei fun z=>Dc h fun h'=>?_
  subst z h'
  refine AB (show ∃t,v= .int i t from ha) fun t q=>⟨some i,q▸ .int i t,fun zz=>?_,fun zz=>?_⟩
  ·unfold kms_lo
   by_cases h0:i<0
   ·simp only[if_pos h0,if_neg (show ¬0≤i by lia)];lia
   ·simp only[if_neg h0,if_pos (show 0≤i by lia)]
  ·unfold kms_hi
   by_cases h0:i<0
   ·simp only[if_pos h0,if_neg (show ¬0≤i by lia)];lia
   ·simp only[if_neg h0,if_pos (show 0≤i by lia)]
theorem Jo (value:Expr)(x:Str)(t:Tok)(r:Value):letTemporaryGo value (.str x t) r=pure ():=by
 rcases value with _|_<;>rfl
noncomputable abbrev QR (k:Int)(n j:Nat):Prop:=n≤1000000∧j<n∧(0≤k∧j=k.toNat∨k<0∧-k≤(n:Int)∧j=(k+n).toNat)
theorem Rp {k:Int}{n j:Nat}(h:QR k n j):k=j∨k<0∧k+n=j:=
 h.2.2.imp (fun z=>by rw[z.2];exact(Ef z.1).symm) fun z=>⟨z.1,by
  rw[z.2.2]
  have q:=Int.sub_nonneg.mpr z.2.1
  rw[Int.sub_neg,Int.add_comm] at q
  exact(Ef q).symm⟩
theorem Gm {k:Int}{n j:Nat}(h:QR k n j):-2 ^ 63≤k∧k<2 ^ 63:=
 (Rp h).elim (fun e=>e▸⟨GB (by decide) (CD j),Int.lt_of_lt_of_le (Bl.mpr h.2.1) (GB (Int.ofNat_le.mpr h.1) (by decide))⟩) fun e=>
  ⟨GB (show(-2 ^ 63:Int)≤-1000000 by decide) (GB (Int.neg_le_neg (Int.ofNat_le.mpr h.1)) (Int.neg_le_of_neg_le (h.2.2.elim (fun z=>absurd e.1 (FC.mpr z.1)) (·.2.1)))),Int.lt_trans e.1 (by decide)⟩
theorem Ni {k:Int}{n j:Nat}(h:QR k n j):(k<0→0≤k+n∧k+n<n)∧(¬k<0→0≤k∧k<n):=
 (Rp h).elim (fun e=>e▸⟨fun q=>absurd q (FC.mpr (CD j)),fun zz=>⟨CD j,Bl.mpr h.2.1⟩⟩) fun e=>
  ⟨fun zz=>e.2▸⟨CD j,Bl.mpr h.2.1⟩,fun q=>absurd e.1 q⟩
theorem XK {k:Int}{n j:Nat}(h:QR k n j):¬k< -2 ^ 63∧¬2 ^ 63≤k:=⟨FC.mpr (Gm h).1,Int.not_le.mpr (Gm h).2⟩
theorem Ol {i:Int}{n j:Nat}(hj:FE i n=some j):seqIndex? i n=some j:=by
 have h:=LB hj
 unfold seqIndex?
 by_cases h0:i<0
 ·simp only[if_pos h0];rw[if_pos (by simp only[BY,decide_eq_true_eq];exact(Ni h).1 h0)];exact congrArg some (h.2.2.elim (fun z=>absurd h0 (FC.mpr z.1)) fun z=>z.2.2.symm)
 ·simp only[if_neg h0];rw[if_pos (by simp only[BY,decide_eq_true_eq];exact(Ni h).2 h0)];exact congrArg some (h.2.2.elim (fun z=>z.2.symm) fun z=>absurd z.1 h0)
section
variable {c:Cx}{k:Kn}
theorem Re {st:St}{s:Shared}{K:V→St→Au}{o:Except V V×List O}{Q:Value→Shared→Prop}{E:Value→Shared→Prop}{value slice:Expr}{l:Addr}{vs:List Value}{xs:List V}{i:Int}{t:Tok}{j:Nat}{z:V}
  (R:Aj c.fm k st s.heap)(hs:Am c.tp k xs vs)(hL:s.heap.IsList l vs.toArray)(hj:FE i xs.length=some j)(hz:xs[j]? =some z)(P:Y c.l o (K z st))(HQ:En c (CV c) k s K o Q):wpAny c.M c.A (DD value slice (.ref l) (.int i t)) Q E s:=by
 have h:=LB hj
 have hq:=hs.length
 refine AS (hs.get hz) fun v hv hc=>Hl hL.typeIs slot_list_getitem.lookup (h.2.2.elim (fun z=>?_) fun z=>?_)
 ·exact wpAny_getItem_list hL z.1 (Gm h).2 (by rw[←z.2];simpa using hv) (HQ.now s.toks R hc P)
 ·exact wpAny_getItem_list_neg hL z.1 (by rw[Ay,←hq];exact Int.neg_le_of_neg_le z.2.1) (Gm h).1 (by rw[Ay,←hq,←z.2.2];simpa using hv) (HQ.now s.toks R hc P)
theorem VQ (G:BI c)(SO:G4 c.tp){value slice:Expr}{a b:V}{x y:Value}(ha:Ag c.tp k a x)(hb:Ag c.tp k b y):AV c k (CV c) (DD value slice x y) (Sl c.S a b):=by
 unfold Sl
 rcases ea:Dh a with _|t
 ·
  cases et:LP a with
  |some xs=>
   refine Jy et fun q=>?_
   subst q
   refine .int (T:=fun y=>DD value slice x y) hb fun i u=>fun k₁ st s K X o Q E l R P HQ HE=>DX (u:=.nat) P fun(j:Nat) hj P=>DX (u:=.val) P fun(z:V) hz P'=>Hf (ha.mono l) fun p n vs h1 h2 h3=>?_
   subst h3
   have h:=LB hj
   have hq:=h2.length
   have hT:IsTup s.heap p vs.toArray:=⟨_,R.bears _ h1,rfl,n,rfl⟩
   refine AS (h2.get hz) fun v hv hc=>Hl ⟨_,R.bears _ h1,rfl⟩ PySem.F.slot_tuple_getitem.lookup (getItem_tuple hT (Gm h).1 (Gm h).2 (Ol (by rw[Ay,←hq];exact hj)) (by simpa using hv) (HQ.now s.toks R hc P'))
  |none=>
  refine AV.obj G SO ha fun k' st s K X o Q E ob l R S P HQ HE=>?_
  have D:∀es,Iu c k' s.heap (.dict es) x→Y c.l o (((Internal.dyn .oval (Hp b es)).bind fun r=>Internal.dyn .val r) st K X)→wpAny c.M c.A (DD value slice x y) Q E s:=fun es S P=>
   DX (u:=.oval) P fun(r:Option V) hr P=>DX (u:=.val) P fun(z:V) hz P=>RY S (hb.mono l) hr fun{K'} zz knd d f i hd zz hi hm hf=>by
    subst hz hd
    exact AS hf fun v hv hc=>Hl hm.typeIs slot_dict_getitem.lookup (wpAny_getItem_of hi hm hv (HQ.now _ R hc P))
  rcases ob with _|⟨xs⟩|⟨es⟩|_|_|⟨es⟩|_
  case list=>
   refine BX P fun i ei P=>DX (u:=.nat) P fun(j:Nat) hj P=>DX (u:=.val) P fun(z:V) hz P'=>F9 ei fun q=>?_
   subst q
   exact AB (show ∃t,y= .int i t from hb) fun t q=>AS S fun d hd S=>AS S fun vs h1 h2=>by rw[q,hd];exact Re R h1 h2 hj hz P' HQ
  case dict=>exact D es S P
  case sdict=>exact D es S.dict P
  all_goals exact P.elim
 ·
  refine .int (T:=fun y=>DD value slice x y) hb fun i u=>.dyn (u:=.nat) fun(j:Nat) hj=>.dyn (u:=.nat) fun(ch:Nat) hc=>ET ea fun q=>?_
  subst q
  refine AB (show ∃u,x= .str t u from ha) fun u q=>?_
  subst q
  have h:=LB hj
  refine .still fun zz s zz zz zz hq=>Hl (typeIs_str s _ _) PySem.F.slot_str_getitem.lookup (PySem.P.getItem_str (c:=ch) (by simp only[Bool.or_eq_false_iff,decide_eq_false_iff_not];exact XK h) ?_ (hq _ _ ⟨_,rfl⟩))
  exact(congrArg (fun z=>Option.bind z _) (Ol hj)).trans hc
theorem WP (lo hi:Option Int)(n:Nat):EI.Str.strSliceIndices lo hi 1 n=sliceRange (kms_lo lo n:Nat) (kms_hi hi n:Nat) 1:=by
 have:=kms_bounds lo hi n
 have e1:=congrArg Prod.fst this
 have e2:=congrArg (fun p=>p.2.1) this
 simp only at e1 e2
 rw[←e1,←e2]
 rfl
theorem Rb (v:Option Int)(n:Nat):kms_hi v n≤n:=by
 unfold kms_hi
 split
 ·exact AT _
 ·split
  ·exact Nat.sub_le ..
  ·exact Nat.min_le_right ..
theorem JA {α:Type}(xs:List α)(a b:Nat):B1 xs a b=(xs.drop a).take (b - a):=by
 unfold B1
 rw[List.drop_take]
theorem Qh (x:Str)(lo hi:Option Int):Txt.slice x lo hi=⟨(B1 x.cps.toList (kms_lo lo x.cps.size) (kms_hi hi x.cps.size)).toArray⟩:=by
 unfold Txt.slice
 rw[WP,show x.length=x.cps.size from rfl,sliceRange_one,pick_run,←JA]
 split
 ·rename_i h
  simp only[beq_self_eq_true,Bool.true_and,AQ,List.length_range,beq_iff_eq] at h
  have h2:=Rb hi x.cps.size
  rw[JA,h]
  by_cases hz:x.cps.size=0
  ·have e:x.cps.toList=[]:=B5.mp (by simpa using hz)
   have e2:x.cps= #[]:=Array.eq_empty_of_size_eq_zero hz
   rw[e,List.drop_nil,FW,←e2]
  ·have e:kms_lo lo x.cps.size=0:=by lia
   rw[e,List.drop_zero,FQ (by simp)]
 ·rfl
theorem Qw (G:BI c)(SO:G4 c.tp){value:Expr}{lower upper:Option Expr}{sp:Pos}{a l u:V}{x y z:Value}(ha:Ag c.tp k a x)(hl:Ag c.tp k l y)(hu:Ag c.tp k u z){st:St}{s:Shared}{K:V→St→Au}{X:V→St→Au}{o:Except V V×List O}{Q:Value→Shared→Prop}{E:Value→Shared→Prop}
  (R:Aj c.fm k st s.heap)(P:Y c.l o (NI c.S a l u st K X))(HQ:En c (CV c) k s K o Q):
   wpAny c.M c.A (DD value (.Slice lower upper none sp) x (.ref s.heap.objs.size)) Q E {s with heap:=s.heap.push {cls:=.type "slice",data:=.fields #[y,z,.none]}}:=by
 unfold NI at P
 revert P
 rcases ea:Dh a with _|t
 ·
  have H:∀{xs:List V} {r:Value},Iu c k s.heap (.list xs) r→x=r→Y c.l o (((Ax (oL (.list xs))).bind fun xs=>req (BE xs.length) ((dyn .nat (IV xs.length l 0)).bind fun a=>(dyn .nat (IV xs.length u xs.length)).bind fun b=>Fa (.list (B1 xs a b)))) st K X)→
    wpAny c.M c.A (DD value (.Slice lower upper none sp) x (.ref s.heap.objs.size)) Q E {s with heap:=s.heap.push {cls:=.type "slice",data:=.fields #[y,z,.none]}}:=fun{xs r} S er P=>by
   refine AS S fun d hd S=>AS S fun vs hs hL=>EW P fun hz P=>DX (u:=.nat) P fun(p:Nat) hp P=>DX (u:=.nat) P fun(q:Nat) hq P=>?_
   refine Dx (Mr hp hl) fun lo p1 p3 zz=>Dx (Mr hq hu) fun hi q1 zz q3=>?_
   have hlen:=hs.length
   rw[er,hd]
   refine kba_turn (value':=.Name "_" ⟨0,0,0,0⟩) (fun zz=>rfl) (kms_slice_lit (zs:=B1 vs p q) R.F R.N hL p1 q1 ?_ (fun l h' F' N' hlt=>?_) rfl (fun zz=>rfl) ?_)
   ·show kms_pick vs lo hi=_
    unfold kms_pick
    rw[←hlen,p3 rfl,q3 rfl,JA]
   ·exact HQ ⟨_,k.I⟩ (.obj st.heap.length) _ ⟨st.loc,st.heap++[O.list (B1 xs p q)]⟩ h' s.toks (B8.app _) (R.pushList (hs.slice _ _) F' N' hlt) (R.newAt _) P
   ·rw[Ay,←hlen]
    exact AL hz Cj
  rcases a with _|_|_|_|_|_|_|_|⟨i⟩|_|_|⟨n⟩|_
  case obj=>
   refine fun P=>Fz P fun ob' e1 P=>BX P fun ob e2 P=>?_
   have S:=R.seen e1 ha
   rw[AH e2] at S
   have P:Y c.l o (((Ax (oL (N7 ob))).bind fun xs=>req (BE xs.length) ((dyn .nat (IV xs.length l 0)).bind fun a=>(dyn .nat (IV xs.length u xs.length)).bind fun b=>Fa (.list (B1 xs a b)))) st K X):=P
   revert S P
   rcases N7 ob with _|⟨xs⟩|_
   case list=>exact fun S P=>H S rfl P
   all_goals exact fun zz P=>P.elim
  case sta=>
   refine fun P=>?_
   have keep:∀b o,c.base.get? b=some o→s.heap.get? b=some o:=fun b o e=>R.F.keep b o (G.stays b o e)
   have P:Y c.l o (((Ax (oL (c.S.sta n))).bind fun xs=>req (BE xs.length) ((dyn .nat (IV xs.length l 0)).bind fun a=>(dyn .nat (IV xs.length u xs.length)).bind fun b=>Fa (.list (B1 xs a b)))) st K X):=P
   revert P
   rcases e:c.S.sta n with _|⟨xs⟩|_
   case list=>exact fun P=>AS (SO.list n xs e) fun vs h1 h2=>H ⟨_,rfl,vs,h1.mono (B8.nil _),Af (fun o z=>⟨keep _ _ z.1,z.2⟩) h2⟩ ha P
   all_goals exact fun P=>P.elim
  all_goals exact fun P=>P.elim
 ·
  refine fun P=>EW P fun hz P=>DX (u:=.nat) P fun(p:Nat) hp P=>DX (u:=.nat) P fun(q:Nat) hq P'=>ET ea fun e=>?_
  subst e
  refine AB (show ∃u,x= .str t u from ha) fun u e=>?_
  subst e
  refine Dx (Mr hp hl) fun lo p1 p3 zz=>Dx (Mr hq hu) fun hi q1 zz q3=>?_
  have hsz:t.length≤CK:=AL hz Cj
  have e:=Qh t lo hi
  rw[p3 rfl,q3 rfl] at e
  have fin:∀h' t' tk,Fr c.h₀ c.env.locals h' R.m→News c.h₀ c.env.locals h' (R.MO++(c.J++k.I))→Q (.str (Txt.slice t lo hi) t') {s with heap:=h',toks:=tk}:=fun h' t' tk F' N'=>by
   rw[e]
   exact HQ k (.str _) _ st h' tk (.refl _) (R.same F' N') ⟨_,rfl⟩ P'
  rcases p1 with _|_<;>cases q1
  ·exact slice_strN_nn R.F R.N fin rfl (Jo _ _ _) hsz
  ·exact slice_strN_ns R.F R.N fin rfl (Jo _ _ _) hsz
  ·exact slice_strN_sn R.F R.N fin rfl (Jo _ _ _) hsz
  ·exact slice_strN_ss R.F R.N fin rfl (Jo _ _ _) hsz
end
section
open Builtin Builtin.ObjectAttr
set_option backward.match.sparseCases false in
noncomputable def Rh:Value→Bool
 | .ref _=>true
 |_=>false
theorem Td {v:Value}(h:Rh v=true):∃C,v= .ref C:=by
 rcases v with _|_<;>first|exact(AI h).elim|exact⟨_,rfl⟩
noncomputable def IQ:List Value→Bool
 |[]=>false
 |a::r=>(Rh a&&IQ r)||(a::r==[.type "Exception",.type "BaseException",.type "object"])
theorem Hs {l:List Value}(h:IQ l=true):(∀self,refuseLoop self "__setattr__" l=pure ())∧l.contains (.type "BaseException")=true∧l.contains (.type "object")=true∧l.isEmpty=false:=by
 induction l with
 |nil=>cases h
 |cons a l ih=>
  refine(Bool.or_eq_true_iff.mp h).elim (fun h=>?_) fun h=>?_
  ·refine AB (Td (AJ.mp h).1) fun C e=>?_
   subst e
   have i:=ih (AJ.mp h).2
   exact⟨fun self=>(refuseLoop_ref self _ C l).trans (i.1 self),by rw[List.contains_cons,i.2.1,Bool.or_true],by rw[List.contains_cons,i.2.2.1,Bool.or_true],rfl⟩
  ·rw[eq_of_beq h]
   exact⟨PySem.F.store_Exception.passes,by decide,by decide,rfl⟩
noncomputable def GT (K:Frag)(C:Addr):Bool:=(clsIn K C).any fun cd=>IQ cd.mro
section
variable {prog:Cg}{w:World}{A:Around}{E:Value→Shared→Prop}{s:Shared}{K:Frag}{C x:Addr}{ox:Obj}{od:Option Obj}{name:Str}{v:Value}
theorem MR (X:K.In s.heap)(h:GT K C=true):∃cd,clsIn K C=some cd∧Looks (model prog w) s.heap (mroOf (.ref C)) cd.mro∧IQ cd.mro=true∧∀b,Looks (model prog w) s.heap (Eo (.ref C) b) (cd.mro.contains b):=by
 obtain⟨cd,hc,ho⟩:=any_some h
 exact⟨cd,hc,(looks_clsIn X hc).andThen .now,ho,fun b=>looks_mroIn X (by unfold mroIn;rw[hc,Option.bind_some,if_neg (by rw[(Hs ho).2.2.2];decide)])⟩
theorem Oa {Q:Unit→Shared→Prop}(X:K.In s.heap)(I:InstAt s.heap x ox C od)(hs:findIn K (.ref C) "__setattr__"=some (some (.builtin "object.__setattr__")))(hp:GT K C=true)(ht:takerIn K C name=some none)
  (h:∀b,wpAny (model prog w) A.in1 (storeInOwnDict (.ref x) (.ref C) (.str name s.toks) name v b) (fun fin s'=>fin= .done (.ret .none)∧Q () s') (fun e s'=>E e s') {s with toks:=s.toks+1}):
  wpAny (model prog w) A (setAttr (.ref x) name v) Q E s:=by
 have SF:=PySem.F.store_object
 refine set_plain X I hs ?_
 refine AB (MR (prog:=prog) (w:=w) X hp) fun cd Z=>?_
 have L:=Hs Z.2.2.1
 have sub:Looks (model prog w) s.heap (isInstance (.ref x) (.type "object")) true:=I.type.andThen (by have:=Z.2.2.2 (.type "object");rwa [L.2.2.1] at this)
 refine codeAny_call_builtin SF.slot.plain SF.entry (@check_slot (model prog w) _ _ _ "object.__setattr__" "object" "__setattr__" (.ref x) [.str name s.toks,v] [] _ SF.kind SF.split (sub.keeps fun zz zz e=>e) (SF.args (.ref x) (.str name s.toks) v) ?_)
 refine AB (show ∃attr,findIn K (.ref C) name=some attr∧Looks (model prog w) s.heap (storeTaker? attr) none from ?_) fun attr ha=>?_
 ·obtain⟨attr,ha,hr⟩:=Ak.mp ht
  refine⟨attr,ha,?_⟩
  rcases attr with _|a
  ·exact .now
  ·
   obtain⟨b,hb,e⟩:=Ao.mp hr
   refine(looks_takesIn X hb).andThen ?_
   rcases b with _|_
   ·exact .now
   ·cases e
 rw[osa_eq,refuse_eq]
 refine AF (AF (I.type _ _ _ _ (fun zz zz e=>e) (AF (Z.2.1 _ _ _ _ (fun zz zz e=>e) ?_))))
 rw[L.1]
 refine AN (AF (I.type _ _ _ _ (fun zz zz e=>e) (AF (looks_findIn X ha.1 _ _ _ _ (fun zz zz e=>e) (AF (ha.2 _ _ _ _ (fun zz zz e=>e) ?_))))))
 refine Bi (h _) (fun fin s' z=>?_) fun zz zz z=>z
 rw[z.1]
 exact z.2
theorem Wv {d:Addr}{es:List C0}{n:Nat}{Q:Unit→Shared→Prop}(D:s.heap.get? d=some (dictOf es n))(hl:(getL name es).isSome=true)
  (h:∀h',BW d s.heap h'→h'.get? d=some (dictOf (putL name (DN w.params name) (.str name s.toks) v es) (putN name es n))→Q () {s with heap:=h',toks:=s.toks+1}):wpAny (model prog w) A (nsSet d name v) Q E s:=by
 unfold nsSet
 refine AF (AF (wpAny_askSetting (AN (AF (wpAny_mkText (AF (wpAny_loadPart D ?_)))))))
 have c:(!es.any (·.key.isStr name)&&es.any (·.refKey))=false:=by
  unfold getL at hl
  rcases he:es.find? (·.key.isStr name) with _|en<;>rw[he] at hl
  ·by_cases z:es.any (·.refKey)=true
   ·exact(AI ((congrArg Option.isSome (if_pos z)).symm.trans hl)).elim
   ·rw[Bool.not_eq_true] at z;rw[z,FD]
  ·rw[List.any_eq_true.mpr ⟨en,List.mem_of_find?_eq_some he,List.find?_some he⟩];rfl
 dsimp only
 rw[aRefKeyMayBeTheName_at,←Array.any_toList,←Array.any_toList,c]
 refine wpAny_updatePart D (h _ ⟨?_,fun b hb=>DT _ _ (Cq hb)⟩ ?_)
 ·first|exact CI (Heap.size_update ..).symm|simp
 ·rw[←putName_dict]
  exact D3 _ D (by rw[putName_dict];rfl)
theorem Rm {d:Addr}{es:List C0}{n:Nat}{tk:Tok}{Q:Fin→Shared→Prop}(D:s.heap.get? d=some (dictOf es n))(hl:(getL name es).isSome=true)(hz:(putL name (DN w.params name) (.str name s.toks) v es).length≤1000)
  (h:∀h',BW d s.heap h'→h'.get? d=some (dictOf (putL name (DN w.params name) (.str name s.toks) v es) (putN name es n))→Q (.done (.ret .none)) {s with heap:=h',toks:=s.toks+1}):wpAny (model prog w) A (storeInDict d (.str name tk) name v) Q E s:=by
 refine AF (AN (AF (Wv D hl fun h' h1 h2=>AF (wpAny_lookBehind h2 (pastItsLine_dict (by rw[Ay,sizeLine_eq];lia)) (AN (h h' h1 h2))))))
theorem VF {dx:Addr}{es:List C0}{n:Nat}{Q:Unit→Shared→Prop}(X:K.In s.heap)(I:InstAt s.heap x ox C (some (dictOf es n)))(hd:ox.dict=some dx)(hs:findIn K (.ref C) "__setattr__"=some (some (.builtin "object.__setattr__")))(hp:GT K C=true)(ht:takerIn K C name=some none)(hh:EK K C=true)
  (hl:(getL name es).isSome=true)(hz:(putL name (DN w.params name) (.str name (s.toks+1)) v es).length≤1000)
  (h:∀h',BW dx s.heap h'→h'.get? dx=some (dictOf (putL name (DN w.params name) (.str name (s.toks+1)) v es) (putN name es n))→Q () {s with heap:=h',toks:=s.toks+2}):
  wpAny (model prog w) A (setAttr (.ref x) name v) Q E s:=by
 refine Oa X I hs hp ht fun b=>?_
 obtain⟨cd,hc,hd'⟩:=any_some hh
 obtain⟨hx,hcl,hn,hdd⟩:=I
 obtain⟨oc,odi,oda,osl⟩:=ox
 dsimp only at hcl hd hdd
 subst hcl hd
 refine AF (AN (AF (AF (wpAny_loadPart hx (AF (looks_clsIn X hc _ _ _ _ (fun zz zz e=>e) ?_))))))
 rw[hd']
 exact AN (a:=some dx) (Rm (s:={s with toks:=s.toks+1}) hdd hl hz fun h' h1 h2=>⟨rfl,h h' h1 h2⟩)
theorem WF {Q:Unit→Shared→Prop}(X:K.In s.heap)(I:InstAt s.heap x ox C none)(hd:ox.dict=none)(hs:findIn K (.ref C) "__setattr__"=some (some (.builtin "object.__setattr__")))(hp:GT K C=true)(ht:takerIn K C name=some none)(hh:EK K C=true)
  (h:∀h',h'.get? x=some {ox with dict:=some s.heap.objs.size}→h'.get? s.heap.objs.size=some (dictOf [⟨DN w.params name,.str name (s.toks+1),v⟩] 1)→(∀b o,b≠x→s.heap.get? b=some o→h'.get? b=some o)→Q () {s with heap:=h',toks:=s.toks+2}):
  wpAny (model prog w) A (setAttr (.ref x) name v) Q E s:=by
 refine Oa X I hs hp ht fun b=>?_
 refine AS (any_some hh) fun cd hc hd'=>?_
 obtain⟨hx,hcl,hn,hdd⟩:=I
 have hfr:=(Heap.get?_some_iff.mp hx).2
 obtain⟨oc,odi,oda,osl⟩:=ox
 dsimp only at hcl hd hdd
 subst hcl hd
 have ne:x≠s.heap.objs.size:=Ah (Av hx)
 refine AF (AN (AF (AF (wpAny_loadPart hx (AF (looks_clsIn X hc _ _ _ _ (fun zz zz e=>e) ?_))))))
 rw[hd']
 have hx1:(s.heap.push {cls:=.type "dict",data:=.dict #[]}).get? x=some ⟨.ref C,none,oda,osl⟩:=BH _ hx
 have fin:wpAny (model prog w) A.in1 (do
   let d ←alloc {cls:=.type "dict",data:=.dict #[]}
   update x fun o=>{o with dict:=some d}
   dictMade (.ref C) x d) (fun d s'=>wpAny (model prog w) A.in1 (match d with
    |some d=>storeInDict d (.str name s.toks) name v
    |none=>noDictFor (.ref x) (.ref C) name b) (fun fin s'=>fin= .done (.ret .none)∧Q () s') (fun e s'=>E e s') s') (fun e s'=>E e s') {s with toks:=s.toks+1}:=by
  refine AF (wpAny_alloc (AF (wpAny_update hx1 (AN (a:=some s.heap.objs.size) ?_))))
  have hD:((s.heap.push {cls:=.type "dict",data:=.dict #[]}).update x fun o=>{o with dict:=some s.heap.objs.size}).get? s.heap.objs.size=some (dictOf [] 0):=(DT _ _ ne).trans (Heap.get?_push_at rfl rfl)
  refine Rm (s:=⟨_,s.gens,s.drawn,s.toks+1,s.os⟩) hD rfl (by show 1≤1000;decide) fun h' h1 h2=>⟨rfl,h h' ?_ h2 fun b o hb e=>?_⟩
  ·refine(h1.2 x ne).trans (D3 _ hx1 ?_)
   rcases oda with _|_<;>first|rfl|exact hfr
  ·exact(h1.2 b (Ah (Av e))).trans ((DT _ _ (Cq hb)).trans (BH _ e))
 rcases oda with _|_<;>first|exact fin|cases hn
theorem SN:builtinKind "BaseException.__getattribute__"=some .slot:=by decide+kernel
theorem QK:splitId "BaseException.__getattribute__"=some ("BaseException","__getattribute__"):=by decide+kernel
theorem QL:plainId "BaseException.__getattribute__"=true:=by decide+kernel
theorem SP (self:Value):bindSpecial (.builtin "BaseException.__getattribute__") self=pure (.builtin "BaseException.__getattribute__",[self]):=
 (Slot.of (T:="BaseException") (name:="__getattribute__") (owner:="BaseException") (n:="__getattribute__") (by rw[typeLookup_type,builtinLookup_eq_fast];kernel_rfl) (by decide+kernel) (by decide+kernel) (by decide+kernel)
  (.inl (by decide+kernel)) (by rw[isSubtype_type];kernel_rfl)).bind self
theorem WG {expr:Bool}{Q:Value→Shared→Prop}(X:K.In s.heap)(I:InstAt s.heap x ox C od)(hga:findIn K (.ref C) "__getattribute__"=some (some (.builtin "BaseException.__getattribute__")))(hgh:findIn K (.ref C) "__getattr__"=some none)(hp:GT K C=true)
  (hf:findObj K C od name=some (.value v))(hh:handedIn v=true)(h:Q v {s with toks:=s.toks+1}):wpAny (model prog w) A (getAttr (.ref x) name expr) Q E s:=by
 refine AB (MR (prog:=prog) (w:=w) X hp) fun cd Z=>?_
 have sub:Looks (model prog w) s.heap (isInstance (.ref x) (.type "BaseException")) true:=I.type.andThen (by have:=Z.2.2.2 (.type "BaseException");rwa [(Hs Z.2.2.1).2.1] at this)
 have L1:=looks_findIn (M:=model prog w) X hga
 have L2:=looks_findIn (M:=model prog w) X hgh
 have L3:=looks_find (M:=model prog w) X I hf
 unfold getAttr getAttrBy
 refine AF (wpAny_mkText (BB (AF (I.type _ _ _ _ (fun zz zz e=>e) (AF (L1 _ _ _ _ (fun zz zz e=>e) ?_))))))
 show wpAny _ _ (getAttrByItsOwn _ _ _ _ _ _) _ _ _
 unfold getAttrByItsOwn
 refine AF (L2 _ _ _ _ (fun zz zz e=>e) (AF (wpAny_attempt (BB ?_))))
 have e:callGetattribute (.ref x) (.str name s.toks) (.builtin "BaseException.__getattribute__") expr=boundAndCalled (.builtin "BaseException.__getattribute__") (.ref x) (.str name s.toks):=by unfold callGetattribute;rcases expr with _|_<;>rfl
 rw[e]
 unfold boundAndCalled
 rw[SP]
 refine AF (AN (wpAny_call (codeAny_call_builtin QL PySem.F.entry_bexc_ga (@check_slot (model prog w) _ _ _ "BaseException.__getattribute__" "BaseException" "__getattribute__" (.ref x) [.str name s.toks] [] _ SN QK (sub.keeps fun zz zz e=>e) (PySem.F.args_bexc_ga (.ref x) (.str name s.toks)) ?_))))
 refine AF (AN (AF (AN (AF (I.type _ _ _ _ (fun zz zz e=>e) (AF (L3 _ _ _ _ (fun zz zz e=>e) (AN ?_))))))))
 show wpAny _ _ (handedOut v) _ _ _
 rw[handedOut_of hh];exact AN h
end
end
noncomputable def Yz (θ:Tp)(k:Nat)(n:Str):Prop:=(Ci θ.S k=false∧plainGet θ.K (θ.ac k) n=true)∨
 (Ci θ.S k=true∧findIn θ.K (.ref (θ.ac k)) "__getattribute__"=some (some (.builtin "BaseException.__getattribute__"))∧findIn θ.K (.ref (θ.ac k)) "__getattr__"=some none∧GT θ.K (θ.ac k)=true)
noncomputable def SW (θ:Tp)(k:Nat)(n:Str):CA→Prop
 | .free=>Yz θ k n∧EK θ.K (θ.ac k)=true∧takerIn θ.K (θ.ac k) n=some none∧∃attr,findIn θ.K (.ref (θ.ac k)) n=some attr∧noGet θ.K attr=true
 | .fn f=>plainGet θ.K (θ.ac k) n=true∧findIn θ.K (.ref (θ.ac k)) n=some (some (.ref (θ.af f)))∧isFn θ.K (.ref (θ.af f))=true
 | .sta m=>plainGet θ.K (θ.ac k) n=true∧EK θ.K (θ.ac k)=true∧findIn θ.K (.ref (θ.ac k)) n=some (some (.ref (θ.as m)))∧specialIn θ.K (.ref (θ.as m)) "__get__"=some none∧copiedNames.contains n=false
structure Jz (θ:Tp):Prop where
 attr:∀k n ca,EQ θ.S k n=some ca→SW θ k n ca
 set:∀k q,θ.S.cls k=some q→findIn θ.K (.ref (θ.ac k)) "__setattr__"=some (some (.builtin "object.__setattr__"))∧(Ci θ.S k=false→plainOver θ.K (θ.ac k)=true)
theorem Ng {h:Heap}{x dx C:Addr}{ob od:Obj}(I:QO ob C dx)(h1:h.get? x=some ob)(h2:h.get? dx=some od):InstAt h x ob C (some od):=⟨h1,I.1,I.2.2,by rw[I.2.1];exact h2⟩
theorem JH {φ:Fm}{k:Kn}{st:St}{h:Heap}(R:Aj φ k st h){i:Nat}{ob:O}{p:Nat×List (Str×V)}(e:st.heap[i]? =some ob)(hp:oI ob=some p){v:Value}(hv:Ag φ.tp k (.obj i) v){G:Prop}
  (K:∀d o1 dx es n p1 p2,G2 R i (.inst p.1 p.2) v d [(d.1,o1)] dx (dictOf es n) p1 p2→v= .ref d.1→EV φ.tp k p.2 es→QP φ.tp p.1 o1 dx→InstAt h d.1 o1 (φ.tp.ac p.1) (some (dictOf es n))→G):G:=by
 refine TR hp fun q=>?_
 subst q
 refine R.turn e rfl hv fun d hd a ob p1 p2 T=>AS T.body.1 fun o1 b1 b2=>Dl T.body.2 fun es n h1 h2=>?_
 subst b1 h1
 exact K d o1 a es n p1 p2 T T.hv h2 b2 (Ng b2.1 (R.N _ (T.mem (.head _))).1 (R.N _ T.at).1)
theorem Vx {φ:Fm}{k:Kn}{st:St}{h:Heap}(R:Aj φ k st h){i c:Nat}(e:st.heap[i]? =some (.exc c)){v:Value}(hv:Ag φ.tp k (.obj i) v){G:Prop}
  (K:∀d ob,v= .ref d.1→h.get? d.1=some ob→(ob.cls= .ref (φ.tp.ac c)∧Ci φ.tp.S c=true)→ob.dict=none→(∃t,ob.data=Js t)→
   (∀h' ob' D oD o',h'.get? d.1=some ob'→h'.get? D=some oD→h.objs.size≤D→(∀b o,b≠d.1→h.get? b=some o→h'.get? b=some o)→Ff φ.tp k o' d [(d.1,ob')] D oD→Nonempty (Aj φ k ⟨st.loc,st.heap.set i o'⟩ h'))→G):G:=by
 refine R.turn e rfl hv fun d hd a ob p1 p2 T=>?_
 have b1:=T.body.1
 have b2:=T.body.2.1
 subst b1 b2
 refine K d ob T.hv T.row.1 T.body.2.2.1 T.body.2.2.2.1 T.body.2.2.2.2 fun h' ob' D oD o' g1 g2 gD hk hb=>?_
 have up:D≠φ.env.locals∧φ.h₀.get? D=none:=by
  refine⟨fun z=>absurd (Ab R.F.ns.lt gD) (by rw[z];exact CG _),?_⟩
  rcases e:φ.h₀.get? D with _|o
  ·rfl
  ·exact absurd (Ab (Av (R.F.keep _ o e)) gD) (CG _)
 have H:=T.hpR o' [(d.1,ob')] D oD hb
 have all:∀p,p∈(p1++(([(d.1,ob')]++[(D,oD)])++p2))++(φ.J++k.I)→p=(d.1,ob')∨p=(D,oD)∨(p∈R.MO++(φ.J++k.I)∧p.1≠d.1):=fun p hp=>by
  rw[T.all]
  have n1:=T.n1
  have n2:=T.n2
  simp only[AR,BK,AU,AY,Ap,or_false] at hp n1 n2 ⊢
  rcases hp with(hp|(hp|hp)|hp)|hp
  ·exact .inr (.inr ⟨.inl hp,n1 p hp⟩)
  ·exact .inl hp
  ·exact .inr (.inl hp)
  ·exact .inr (.inr ⟨.inr (.inr (.inl hp)),n2 p (.inl hp)⟩)
  ·exact .inr (.inr ⟨.inr (.inr (.inr hp)),n2 p (.inr hp)⟩)
 refine⟨⟨R.m,_,⟨R.F.ns.at fun o e=>hk _ o (Cq T.row.2.1) e,fun b o e=>hk b o (fun z=>by rw[z,T.row.2.2] at e;exact AP e) (R.F.keep b o e),R.F.above⟩,fun p hp=>?_,?_,R.loc,H⟩⟩
 ·exact(all p hp).elim (fun e=>by rw[e];exact⟨g1,T.row.2⟩) fun z=>z.elim (fun e=>by rw[e];exact⟨g2,up⟩) fun z=>⟨hk _ _ z.2 (R.N p z.1).1,(R.N p z.1).2⟩
 ·have pm:C9 ((p1++(([(d.1,ob')]++[(D,oD)])++p2))++(φ.J++k.I)) ([(D,oD)]++((p1++([(d.1,ob')]++p2))++(φ.J++k.I))):=by
   simp only[AC]
   exact(D2 p1 (B4 [(d.1,ob')] [(D,oD)] _)).trans (B4 p1 [(D,oD)] _)
  refine Eh pm (HW (EY ..) ?_ fun q hq p hp=>?_)
  ·have nd:=T.nd
   simp only[AR,Ae,At,AC,By,C7] at nd ⊢
   exact nd
  ·rw[AY.mp hq]
   refine Ah (Ab ?_ gD)
   have hp:p∈p1++([(d.1,ob')]++(p2++(φ.J++k.I))):=by simpa [AC] using hp
   refine(BK.mp hp).elim (fun z=>Av (R.N p (by rw[T.all];simp[z])).1) fun z=>(AU.mp z).elim (fun e=>by rw[e];exact Av T.row.1) fun z=>Av (R.N p (by rw[T.all];exact Ad _ (.tail _ z))).1
section
variable {c:Cx}{k:Kn}
theorem K8 {θ:Tp}{a:V}{v:Value}(h:Ag θ k a v)(hs:Gw a=false):handedIn v=true:=by
 rcases a with _|_|⟨b⟩|⟨i⟩|⟨i⟩|_|⟨xs⟩|⟨xs,fs⟩|⟨i⟩|_|_|_|⟨a,b⟩|_
 case none=>rw[show v= .none from h];rfl
 case undef=>exact False.elim h
 case cref=>exact False.elim h
 case bool=>rw[show v= .bool b from h];rfl
 case int=>exact AB (show ∃t,v= .int i t from h) fun t q=>q▸rfl
 case str=>exact AB (show ∃t,v= .str i t from h) fun t q=>q▸rfl
 case txt=>exact AB h fun s h=>AB h fun t q=>q▸rfl
 case tup=>exact AB h fun a h=>AB h fun n h=>AB h fun vs h=>h.2.2▸rfl
 case rcd=>exact AB h fun a h=>AB h fun n h=>AB h fun vs h=>AB h fun vs h=>h.2.2.2▸rfl
 case obj=>exact AB h fun d h=>h.2▸rfl
 case rng=>exact AB h fun a h=>AB h fun n h=>AB h fun vs h=>AB h fun vs h=>h.2▸rfl
 all_goals exact(AI hs.symm).elim
theorem Z2 {n:Str}{fs:List (Str×V)}{x:V}(e:Ur n fs=some x){G:Prop}(H:Cc n fs=some x→Gw x=false→G):G:=by
 refine AS (Ak.mp e) fun z h1 h2=>?_
 rcases u:Gw z with _|_
 ·rw[if_neg (by rw[u];exact AI)] at h2;exact Dc h2 fun q=>by subst q;exact H h1 u
 ·rw[if_pos u] at h2;exact AP h2
theorem P0 (G:BI c)(CO:Jz c.tp){st:St}{s:Shared}{K:V→St→Au}{o:Except V V×List O}{Q:Value→Shared→Prop}{E:Value→Shared→Prop}{j:Nat}{n:Str}{ex:Bool}{fs:List (Str×V)}{es:List C0}{x:V}{a:Addr}{o1:Obj}{m:Nat}
  (R:Aj c.fm k st s.heap)(hI:InstAt s.heap a o1 (c.ac j) (some (dictOf es m)))(hf:EV c.tp k fs es)(ca:EQ c.S j n=some .free)(e:Ur n fs=some x)(P:Y c.l o (K x st))(HQ:En c (CV c) k s K o Q):wpAny c.M c.A (getAttr (.ref a) n ex) Q E s:=by
 refine Z2 e fun h1 h2=>?_
 have g:=CO.attr _ _ _ ca
 have z:=hf.look (n:=n)
 rw[h1] at z
 exact AS z fun v hv hc=>AS g.2.2.2 fun attr g1 g2=>g.1.elim (fun y=>get_own R.F G.X hI y.2 g.2.1 g1 g2 hv (K8 hc h2) (HQ.now _ R hc P)) fun y=>
  WG (G.X.keeps R.F.keep) hI y.2.1 y.2.2.1 y.2.2.2 (findObj_own g.2.1 g1 g2 hv) (K8 hc h2) (HQ.now _ R hc P)
theorem NN (G:BI c)(CO:Jz c.tp){a:V}{x:Value}{n:Str}{ex:Bool}(ha:Ag c.tp k a x):AV c k (CV c) (getAttr x n ex) (Jw c.S a n):=by
 rcases a with _|_|_|_|_|_|_|⟨j,fs⟩|⟨i⟩|_
 case rcd=>
  refine fun k₁ st s K X o Q E l R P HQ HE=>BX P fun z e P=>?_
  refine CN (ha.mono l) fun x' dx es n' h1 h2 h3 h4=>?_
  subst h4
  rcases ca:EQ c.S j n with _|q
  ·rw[ca] at e;exact AP e
  ·
   rw[ca] at e
   rcases q with _|_
   case free=>exact AS h1 fun ob g1 g2=>P0 G CO R (Ng g2 (R.bears _ g1) (R.bears _ h2)) h3 ca e P HQ
   all_goals exact AP e
 case obj=>
  refine .rd fun k' st s K X o Q E ob p l R e hp P HQ HE=>BX P fun x₁ e1 P=>?_
  refine JH R e hp (ha.mono l) fun d o1 dx es m p1 p2 T hv hf hO hI=>?_
  subst hv
  rcases ca:EQ c.S p.1 n with _|q
  ·rw[ca] at e1;exact AP e1
  ·
   rw[ca] at e1
   rcases q with _|_|⟨j⟩
   case free=>exact P0 G CO R hI hf ca e1 P HQ
   case sta=>
    refine I5 e1 fun h1 h2=>?_
    have g:=CO.attr _ _ _ ca
    have z:=hf.look (n:=n)
    rw[Option.isNone_iff_eq_none.mp h1] at z
    exact get_cls R.F G.X hI g.1 g.2.1 g.2.2.1 g.2.2.2.1 rfl g.2.2.2.2 z (HQ.now (a:=x₁) _ R (Dc h2 fun q=>q▸rfl) P)
   all_goals exact AP e1
 all_goals exact .stuck
theorem Nl {S:BD}{j:Nat}{n:Str}{q:CA}(ca:EQ S j n=some q):∃q,S.cls j=some q:=AS (Ak.mp ca) fun q e1 zz=>⟨q,e1⟩
theorem Nc {o:Option CA}(h:Nd o=true):o=some .free:=by
 rcases o with _|q
 ·cases h
 ·rcases q with _|_<;>first|rfl|cases h
theorem K4 (G:BI c)(CO:Jz c.tp){a b:V}{x y:Value}{n:Str}(ha:Ag c.tp k a x)(hb:Ag c.tp k b y):AV c k CU (setAttr x n y) (HT c.S a n b):=by
 refine .look fun i ea=>FU ea fun q=>?_
 subst q
 refine .rd fun k' st s K X o Q E ob p l R e hp P HQ HE=>?_
 cases AH hp
 rcases ob with⟨j,fs⟩|_|_|_|_|_|⟨j⟩|_
 case inst=>
  refine FT P fun h P=>?_
  refine JH (p:=(j,fs)) R e rfl (ha.mono l) fun d o1 dx es m p1 p2 T hv hf hO hI=>?_
  subst hv
  have h:=AJ.mp h
  have hz:=Bc h.2
  have ca:=Nc h.1
  have g:=CO.attr _ _ _ ca
  refine AB (Nl ca) fun q hq=>?_
  have hl:(getL n es).isSome=true:=by
   have z:=hf.look (n:=n)
   revert z
   rcases Cc n fs with _|w
   ·exact fun z=>by rw[show getL n es=some none from z];rfl
   ·exact fun z=>AS z fun v hv zz=>by rw[hv];rfl
  have hf':=hf.put (n:=n) (hb.mono l) (DN c.w.params n) (s.toks+1)
  refine g.1.elim (fun gy=>?_) fun gy=>?_
  ·have U:=Mx (o:=dictOf es m) (o':=dictOf (putL n (DN c.w.params n) (.str n (s.toks+1)) y es) (putN n es m)) T.n2 T.n1
   rw[←T.all] at U
   exact set_dict R.F G.X R.N hI hO.1.2.1 (CO.set _ _ hq).1 ((CO.set _ _ hq).2 gy.1) g.2.2.1 g.2.1 hl rfl U (by rw[←hf'.length];exact hz) fun h' F' N'=>HQ k' () () _ h' _ (.refl _) (T.put (o':=.inst j (put n b fs)) F' N' ⟨⟨o1,rfl,hO⟩,_,_,rfl,hf'⟩) trivial P
  ·exact VF (G.X.keeps R.F.keep) hI hO.1.2.1 (CO.set _ _ hq).1 gy.2.2.2 g.2.2.1 g.2.1 hl (by rw[←hf'.length];exact hz) fun h' h1 h2=>HQ k' () () _ h' _ (.refl _) (T.but (o':=.inst j (put n b fs)) h1 h2 ⟨⟨o1,rfl,hO⟩,_,_,rfl,hf'⟩) trivial P
 case exc=>
  refine FT P fun h P=>Vx R e (ha.mono l) fun d ob hv ho hc hd ht H=>?_
  subst hv
  have ca:=Nc h
  have g:=CO.attr _ _ _ ca
  refine AB (Nl ca) fun q hq=>AB ht fun t ht=>?_
  have hI:InstAt s.heap d.1 ob (c.ac j) none:=⟨ho,hc.1,by unfold notCls;rw[ht];rfl,by rw[hd];trivial⟩
  refine g.1.elim (fun gy=>?_) fun gy=>?_
  ·exact absurd gy.1 (by rw[show Ci c.S j=true from hc.2];exact fun z=>nomatch z)
  ·refine WF (G.X.keeps R.F.keep) hI hd (CO.set _ _ hq).1 gy.2.2.2 g.2.2.1 g.2.1 fun h' h1 h2 h3=>(H h' _ _ _ (.inst j [(n,b)]) h1 h2 (AT _) h3 ⟨⟨_,rfl,⟨hc.1,rfl,by unfold notCls;rw[ht];rfl⟩,fun zz=>⟨t,ht⟩⟩,_,_,rfl,_,_,_,[],hb.mono l,rfl,rfl⟩).elim fun R'=>HQ k' () () _ h' _ (.refl _) R' trivial P
 all_goals exact P.elim
theorem Pc (G:BI c)(CO:Jz c.tp){st:St}{s:Shared}(R:Aj c.fm k st s.heap){i j f:Nat}{fs:List (Str×V)}{n:Str}{x:Value}{pl:Sem Bool}(ha:Ag c.tp k (.obj i) x)(ho:st.heap[i]? =some (.inst j fs))
  (h1:EQ c.S j n=some (.fn f))(h2:Cc n fs=none){Q:Value×List Value→Shared→Prop}{E:Value→Shared→Prop}(h:Q (.ref (c.af f),[x]) s):wpAny c.M c.A (getMethod x n pl) Q E s:=by
 refine JH (p:=(j,fs)) R ho rfl ha fun d o1 dx es m p1 p2 T hv hf hO hI=>?_
 subst hv
 have g:=CO.attr _ _ _ h1
 have z:=hf.look (n:=n)
 rw[h2] at z
 exact method_inst R.F G.X hI g.1 g.2.1 g.2.2 z h
end
section
variable {θ:Tp}{k:Kn}
theorem X7 {q:Int}{x:V}{v:Value}(hx:Ag θ k x v){es:List (V×V)}:∀{kvs:List (Int×Value)} {r:List (V×V)},Kv V.int θ k es kvs→(kvs.map (·.1)).Nodup→Nv q x es=some r→Kv V.int θ k r (stored kvs q v):=by
 induction es with
 |nil=>exact fun h zz e=>by rw[show _=[] from h,←AH e];exact⟨q,v,[],rfl,hx,rfl,rfl⟩
 |cons p es ih=>
  intro kvs r h hn e
  refine DU h fun j w us h1 h2 h3 h4=>?_
  subst h4
  have e:((DF p.1).bind fun j=>if j=q then some ((p.1,x)::es) else(Nv q x es).map ((p.1,p.2)::·))=some r:=e
  rw[h1] at e
  have e':(if j=q then some ((V.int j,x)::es) else(Nv q x es).map ((V.int j,p.2)::·))=some r:=e
  clear e
  rw[At,Bw] at hn
  by_cases z:j=q
  ·rw[if_pos z] at e'
   subst z
   rw[←AH e',show stored ((j,w)::us) j v=(j,v)::us by
    unfold stored
    rw[if_pos (by simp),At]
    simp only[if_true]
    congr 1
    refine(Ds fun p hp=>?_).trans (List.map_id' us)
    rw[if_neg]
    exact fun e=>hn.1 (C4.mpr ⟨p,hp,e⟩)]
   exact⟨j,v,us,rfl,hx,h3,rfl⟩
  ·rw[if_neg z] at e'
   refine AS (Ao.mp e') fun r' e1 e2=>?_
   subst e2
   rw[show stored ((j,w)::us) q v=(j,w)::stored us q v by
    unfold stored
    rw[List.any_cons,decide_eq_false (show ¬(j,w).1=q from z),Bool.false_or]
    split
    ·rw[At,if_neg (show ¬(j,w).1=q from z)]
    ·rfl]
   exact⟨j,w,_,rfl,h2,ih h3 hn.2 e1,rfl⟩
theorem X9 {q:Int}{es:List (V×V)}:∀{kvs:List (Int×Value)} {r:List (V×V)},Kv V.int θ k es kvs→(kvs.map (·.1)).Nodup→Ny q es=some r→Kv V.int θ k r (without kvs q)∧(valueAt kvs q).isSome=true:=by
 induction es with
 |nil=>exact fun zz zz e=>AP e
 |cons p es ih=>
  intro kvs r h hn e
  refine DU h fun j w us h1 h2 h3 h4=>?_
  subst h4
  have e:((DF p.1).bind fun j=>if j=q then some es else(Ny q es).map ((p.1,p.2)::·))=some r:=e
  rw[h1] at e
  have e':(if j=q then some es else(Ny q es).map ((V.int j,p.2)::·))=some r:=e
  clear e
  rw[At,Bw] at hn
  by_cases z:j=q
  ·rw[if_pos z] at e'
   subst z
   rw[←AH e',show without ((j,w)::us) j=us by
    have:=without_of_not_mem us j hn.1
    unfold without at this ⊢
    rw[List.filter_cons_of_neg (by simp),this]]
   exact⟨h3,by simp[valueAt]⟩
  ·rw[if_neg z] at e'
   refine AS (Ao.mp e') fun r' e1 e2=>?_
   subst e2
   have i:=ih h3 hn.2 e1
   unfold without valueAt
   rw[List.filter_cons_of_pos (by simpa using z),List.find?_cons_of_neg (by simpa using z)]
   exact⟨⟨j,w,_,rfl,h2,i.1,rfl⟩,i.2⟩
theorem X8 {f:Int→V}{es:List (V×V)}:∀{kvs:List (Int×Value)} {j:Nat} {p:V×V} {q:Int} {x:Value},Kv f θ k es kvs→es[j]? =some p→kvs[j]? =some (q,x)→p.1=f q:=by
 induction es with
 |nil=>exact fun zz e zz=>AP e
 |cons p es ih=>
  intro kvs j p' q x h e e'
  refine DU h fun i w us h1 h2 h3 h4=>?_
  subst h4
  rcases j with _|j
  ·rw[←AH e,h1,(Prod.mk.inj (AH e')).1]
  ·exact ih h3 e e'
theorem Kv.length {K:Type}{f:K→V}{es:List (V×V)}:∀{kvs:List (K×Value)},Kv f θ k es kvs→es.length=kvs.length:=by
 induction es with
 |nil=>exact fun h=>by rw[show _=[] from h];rfl
 |cons p es ih=>exact fun h=>DU h fun j w us zz zz h3 h4=>by rw[h4,AX,AX,ih h3]
end
section
variable {c:Cx}{k:Kn}
theorem LJ {K:Type}[DecidableEq K]{knd:KeyKind c.prog c.w K}{h:Heap}{a:Addr}{kvs:List (K×Value)}(hd:h.DictOf knd a kvs):(kvs.map (·.1)).Nodup:=AB hd fun zz h=>AB h fun zz h=>AB h fun zz h=>h.2.2.2.2.2
theorem NV {φ:Fm}{st:St}{h:Heap}(R:Aj φ k st h){i:Nat}{ob:O}{es:List (V×V)}(e:st.heap[i]? =some ob)(hp:oD ob=some es){v:Value}(hv:Ag φ.tp k (.obj i) v){G:Prop}
  (K:∀a kvs,v= .ref a→(a==Ce)=false→Kv V.int φ.tp k es kvs→h.DictOf (DW φ.tp.prog φ.tp.w) a kvs→(∀es' kvs' h',Kv V.int φ.tp k es' kvs'→h'.DictOf (DW φ.tp.prog φ.tp.w) a kvs'→BW a h h'→Nonempty (Aj φ k ⟨st.loc,st.heap.set i (.dict es')⟩ h'))→G):G:=by
 refine Zz hp fun q=>?_
 subst q
 refine R.turn e rfl hv fun d hd a ob p1 p2 T=>AS T.body.2.2.2 fun kvs h1 h2=>?_
 have b2:=T.body.2.1
 subst b2
 exact K d.1 kvs T.hv T.body.2.2.1 h2 (Da.mpr ⟨ob,T.row.1,h1⟩) fun es' kvs' h' k1 k2 k3=>AS (Da.mp k2) fun o' g1 g2=>⟨T.but k3 g1 ⟨T.body.1,rfl,T.body.2.2.1,kvs',g2,k1⟩⟩
theorem OR {a b:V}{x y:Value}(ha:Ag c.tp k a x)(hb:Ag c.tp k b y):AV c k CU (delItem x y) (Nx a b):=by
 refine .look fun i ea=>FU ea fun q=>.look fun j eb=>F9 eb fun q'=>?_
 subst q q'
 refine AB (show ∃t,y= .int j t from hb) fun t q=>?_
 subst q
 refine .rd fun k' st s K X o Q E ob es l R e hp P HQ HE=>EW P fun hl P=>DX (u:=.ents) P fun(r:List (V×V)) hr P=>?_
 refine NV R e hp (ha.mono l) fun a kvs hv zz h1 h2 H=>?_
 subst hv
 have h3:=X9 h1 (LJ h2) hr
 unfold delItem
 try with_reducible refine BB ?_
 refine AF (wpAny_sequenceKey h2.typeIs (by decide) (AF (wpAny_callSpecial?_slot (name:=A8 "__delitem__") h2.typeIs PySem.F.slot_dict_delitem
  (call_meetsIn PySem.F.slot_dict_delitem h2.typeIs PySem.F.entry_dict_delitem (PySem.F.args_dict_delitem_2 _ _) (meets_dict_delitem_pairs _ a (intKind_is ..)) ⟨kvs,h2,(by rw[←h1.length];exact AL hl Cj),h3.2,fun h' hd hs=>?_⟩))))
 exact AN ((H r _ h' h3.1 hd hs).elim fun R'=>HQ k' () () _ h' _ (.refl _) R' trivial P)
theorem NU {φ:Fm}{st:St}{h:Heap}(R:Aj φ k st h){i:Nat}{ob:O}{xs:List V}(e:st.heap[i]? =some ob)(hp:oL ob=some xs){v:Value}(hv:Ag φ.tp k (.obj i) v){G:Prop}
  (K:∀a ws n p1 p2 d,v= .ref a→G2 R i (.list xs) v d [] a (listOf (AG ws) n) p1 p2→Am φ.tp k xs ws→(∀xs' ws' n' h',Am φ.tp k xs' ws'→Fr φ.h₀ φ.env.locals h' R.m→News φ.h₀ φ.env.locals h' ((p1++[])++(a,listOf (AG ws') n')::(p2++(φ.J++k.I)))→Nonempty (Aj φ k ⟨st.loc,st.heap.set i (.list xs')⟩ h'))→G):G:=by
 refine TQ hp fun q=>?_
 subst q
 refine R.turn e rfl hv fun d hd a ob p1 p2 T=>Dl T.body.2.2 fun ws n h1 h2=>?_
 have b1:=T.body.1
 have b2:=T.body.2.1
 subst b1 h1
 exact K a ws n p1 p2 d (b2▸T.hv) T h2 fun xs' ws' n' h' c1 F' N'=>⟨T.put F' N' ⟨rfl,b2,ws',n',rfl,c1⟩⟩
theorem OQ {a b z:V}{x y v:Value}(ha:Ag c.tp k a x)(hb:Ag c.tp k b y)(hz:Ag c.tp k z v):AV c k CU (setItem x y v) (KO a b z):=by
 refine .look fun i ea=>FU ea fun q=>.look fun j eb=>F9 eb fun q'=>?_
 subst q q'
 refine AB (show ∃t,y= .int j t from hb) fun t q=>?_
 subst q
 refine .rd fun k' st s K X o Q E ob p l R e hp P HQ HE=>?_
 cases AH hp
 rcases ob with _|⟨xs⟩|⟨es⟩|_
 case dict=>
  refine EW P fun hl P=>DX (u:=.ents) P fun(r:List (V×V)) hr P=>?_
  exact NV R e rfl (ha.mono l) fun a kvs hv zz h1 h2 H=>hv▸wpAny_setItem_pairs (intKind_is ..) h2 (fun h' hd hs=>(H r _ h' (X7 (hz.mono l) h1 (LJ h2) hr) hd hs).elim fun R'=>HQ k' () () _ h' _ (.refl _) R' trivial P) (by rw[←h1.length];exact AL hl Cj)
 case list=>
  refine DX (u:=.nat) P fun(n:Nat) hn P=>NU R e rfl (ha.mono l) fun a ws m p1 p2 d hv T hc H=>?_
  subst hv
  have h:=LB hn
  have hq:=hc.length
  have hs:=Ay (as:=ws)
  have ho:s.heap.get? a=some (listOf ws.toArray m):=T.row.1
  have fin:∀f:Array Value→Array Value,f ws.toArray=(ws.set n v).toArray→Q () {s with heap:=s.heap.update a (Obj.mapSeq f)}:=fun f hf=>by
   refine(H (xs.set n z) (ws.set n v) m _ (hc.set n (hz.mono l)) (Uq R.F T.row.2.1 T.row.2.2 (BW.update ..)) ?_).elim fun R'=>HQ k' () () _ _ s.toks (.refl _) R' trivial P
   have N:=T.N
   refine ki_turn f N (fun p hp=>T.n1 p hp) T.n2 hf ?_
   simp
  refine h.2.2.elim (fun y=>?_) fun y=>?_
  ·exact ki_setAt ho y.1 (Gm h).2 (by rw[hs,←hq];exact((Ni h).2 (FC.mpr y.1)).2) (fin _ (by rw[←y.2];simp))
  ·exact ki_setBack ho y.1 (by rw[hs,←hq];exact Int.neg_le_of_neg_le y.2.1) (Gm h).1 (fin _ (by rw[hs,←hq,←y.2.2];simp))
 all_goals exact P.elim
theorem Qy {n:String}{i:Nat}{x:Value}{xs:List V}{vs:List Value}(ha:Ag c.tp k (.obj i) x)(hs:Am c.tp k xs vs):AV c k (CV c) (call (.builtin n) (x::vs)) (Ui n i xs):=by
 rcases xs with _|⟨v,xs⟩
 ·
  rw[show vs=[] from hs]
  refine .gp fun e=>?_
  subst e
  refine .rd fun k' st s K X o Q E ob ys l R e hp P HQ HE=>EW P fun hl P=>DX (u:=.val) P fun(z:V) hz P=>NU R e hp (ha.mono l) fun a ws m p1 p2 d hv T hc H=>?_
  subst hv
  refine BF (hc.last hz) fun ps u e1 e2 e3=>?_
  have U:=Mx (o:=listOf (AG ws) m) (o':=listOf ps.toArray (m+1)) T.n2 T.n1
  refine kl_pop (its:=ws.toArray) (p:=ps) (y:=u) R.F T.N (by simpa using e3) U ?_ fun h' F' N'=>(H ys.dropLast ps (m+1) h' e1 F' N').elim fun R'=>HQ k' z u _ h' s.toks (.refl _) R' e2 P
  show ws.length≤_
  rw[←hc.length];exact AL hl Cj
 cases xs with
 |cons=>exact .stuck
 |nil=>
 refine BF hs fun w us hw hu e=>?_
 cases (show us=[] from hu)
 subst e
 refine .rd fun k' st s K X o Q E ob ys l R e hp P HQ HE=>?_
 have hw:=hw.mono l
 refine NU R e hp (ha.mono l) fun a ws m p1 p2 d hv T hc H=>?_
 subst hv
 have hlen:=hc.length
 have U:=fun o'=>Mx (o:=listOf (AG ws) m) (o':=o') T.n2 T.n1
 have done:∀xs' ws' n' h',Am c.tp k' xs' ws'→Fr c.h₀ c.env.locals h' R.m→News c.h₀ c.env.locals h' ((p1++[])++(a,listOf (AG ws') n')::(p2++(c.J++k'.I)))→∀y z,Ag c.tp k' y z→Y c.l o (K y ⟨st.loc,st.heap.set i (.list xs')⟩)→Q z {s with heap:=h'}:=
  fun xs' ws' n' h' c1 F' N' y z hz P=>(H xs' ws' n' h' c1 F' N').elim fun R'=>HQ k' y z _ h' s.toks (.refl _) R' hz P
 by_cases h1:n="list.append"
 ·subst h1
  have P:Y c.l o (req (BE ys.length) ((GO i (.list (ys++[v]))).bind fun zz=>.pure V.none) st K X):=P
  refine EW P fun hl P=>append_K R.F T.N (U _) (fun h' F' N'=>?_) (by rw[Ay,←hlen];exact AL hl Cj)
  exact done (ys++[v]) (ws++[w]) _ h' ((Am.one hw).append hc) F' (by simpa using N') .none _ rfl P
 rw[if_neg h1] at P
 by_cases h2:n="list.extend"
 ·subst h2
  have P:Y c.l o (((Ax (G0 v)).bind fun j=>req (decide (j≠i)) ((rd oL j).bind fun zs=>req (BE (ys.length+zs.length)) ((GO i (.list (ys++zs))).bind fun zz=>.pure V.none))) st K X):=P
  refine BX P fun j ej P=>Jj P fun hj P=>JE P fun ob₂ zs e2 hp2 P=>EW P fun hl P9=>FU ej fun q=>?_
  subst q
  refine R.list e2 hp2 hw fun l₂ us k₂ hv2 hm₂ hs₂ hL₂=>?_
  subst hv2
  rw[T.all] at hm₂
  have hlen₂:=hs₂.length
  have hd:¬(!ws.toArray.isEmpty&&EI.List.listTooLong (ws.toArray.size+us.toArray.size))=true:=by
   unfold EI.List.listTooLong
   have q:¬(ws.toArray.size+us.toArray.size>CK):=by
    rw[Ay,Ay,←hlen,←hlen₂]
    exact DR.mpr (AL hl Cj)
   rw[decide_eq_false q,FD]
   exact AI
  have hz1:ws.toArray.toList.length≤CK:=by
   show ws.length≤_
   rw[←hlen];exact AL (AL (BN _ _) hl) Cj
  have hz2:ws.toArray.size+us.toArray.size≤CK+1:=by
   rw[Ay,Ay,←hlen,←hlen₂]
   exact AL hl (AL Cj (BN _ _))
  have fin:=fun h' n' F' N'=>done (ys++zs) (ws++us) n' h' (hs₂.append hc) F' N' .none .none rfl P9
  rcases us with _|⟨u,us⟩
  ·exact kxn_extend (its:=ws.toArray) (its2:= #[]) R.F T.N hm₂ rfl (U _) hd hz1 hz2 fun h' F' N'=>fin h' m F' (by simpa using N')
  ·exact kl_extend (its:=ws.toArray) (its2:=(u::us).toArray) R.F T.N hm₂ rfl (by simp) (U _) hd hz1 hz2 fun h' F' N'=>fin h' _ F' (by simpa using N')
 rw[if_neg h2] at P
 by_cases h3:n="list.pop"
 ·subst h3
  have P:Y c.l o (((Ax (DF v)).bind fun k=>req (decide (k=0)&&BE ys.length) ((dyn .val ys.head?).bind fun v=>(GO i (.list ys.tail)).bind fun zz=>.pure v)) st K X):=P
  refine BX P fun j ej P=>Jj P fun hj P=>DX (u:=.val) P fun(z:V) hz P9=>F9 ej fun q=>?_
  have hj:=AJ.mp hj
  subst q
  have hj0:=of_decide_eq_true hj.1
  subst hj0
  refine AB (show ∃t,w= .int 0 t from hw) fun t q=>?_
  subst q
  rcases ys with _|⟨y,ys⟩
  ·exact AP hz
  ·
   refine BF hc fun w ws' h4 h5 e=>?_
   subst e
   refine kl_popAt (its:=(w::ws').toArray) (k:=0) (p:=[]) (q:=ws') R.F T.N (by decide) (by simp[seqIndex?]) rfl (U _) ?_ fun h' F' N'=>done ys ws' _ h' h5 F' N' z w (AH hz▸h4) P9
   show(w::ws').length≤_
   rw[←hlen];exact AL (Bc hj.2) Cj
 ·rw[if_neg h3] at P;exact P.elim
theorem RV {st:St}{s:Shared}(R:Aj c.fm k st s.heap){i:Nat}{xs:List V}{n:Str}{bid:String}{x:Value}(ha:Ag c.tp k (.obj i) x)(ho:st.heap[i]? =some (.list xs))(hn:TX n=some bid)
  {K:Value×List Value→Shared→Prop}{E:Value→Shared→Prop}{pl:Sem Bool}(h:K (.builtin bid,[x]) s):wpAny c.M c.A (getMethod x n pl) K E s:=by
 refine R.list ho rfl ha fun l ws m hv hm hc hL=>?_
 subst hv
 unfold TX at hn
 by_cases e:n=("append":Str)
 ·rw[if_pos e] at hn;cases hn;subst e;exact kl_method R.N hm PySem.F.slot_list_append PySem.F.type_list_append h
 rw[if_neg e] at hn
 by_cases e:n=("extend":Str)
 ·rw[if_pos e] at hn;cases hn;subst e;exact kl_method R.N hm PySem.F.slot_list_extend PySem.F.type_list_extend h
 rw[if_neg e] at hn
 by_cases e:n=("pop":Str)
 ·rw[if_pos e] at hn;cases hn;subst e;exact kl_method R.N hm PySem.F.slot_list_pop PySem.F.type_list_pop h
 ·rw[if_neg e] at hn;exact AP hn
end
structure Mu (θ:Tp):Prop where
 yes:∀j q,θ.S.cls j=some q→isIn θ.K (.ref (θ.ac j)) (θ.ac j)=true
 no:∀j k,j≠k→(θ.S.cls j).isSome=true→(θ.S.cls k).isSome=true→kin_not θ.K (θ.ac j) (θ.ac k)=true
 obj:∀j q,θ.S.cls j=some q→Ci θ.S j=false→plainGet θ.K (θ.ac j) "__class__"=true∧EK θ.K (θ.ac j)=true∧findIn θ.K (.ref (θ.ac j)) "__class__"=some (some (.builtin "object.__class__"))∧mroIn θ.K (θ.ac j) (.type "object")=some true
 get:specialIn θ.K (.builtin "object.__class__") "__get__"=some (some (.builtin "getset_descriptor.__get__"))∧takesIn θ.K (.builtin "object.__class__")=some true
section
variable {c:Cx}{k:Kn}
theorem IU {θ:Tp}{a:V}{vs:List Value}(h:Am θ k [a] vs){P:List Value→Prop}(H:∀v,Ag θ k a v→P [v]):P vs:=BF h fun v us h1 h2 h3=>by rw[h3,show us=[] from h2];exact H v h1
theorem SE {θ:Tp}{a b:V}{vs:List Value}(h:Am θ k [a,b] vs){P:List Value→Prop}(H:∀v w,Ag θ k a v→Ag θ k b w→P [v,w]):P vs:=BF h fun v us h1 h2 h3=>by rw[h3];exact IU (P:=fun us=>P (v::us)) h2 fun w h4=>H v w h1 h4
theorem VS (G:BI c)(IO:Mu c.tp){a b:V}{x y:Value}(ha:Ag c.tp k a x)(hb:Ag c.tp k b y):AV c k (CV c) (call (.builtin "isinstance") [x,y]) (XD c.S a b):=by
 rcases b with _|_|_|_|_|_|_|_|_|_|⟨m⟩|_|_|_|⟨n⟩|_
 case cls=>
  rcases a with _|_|_|_|_|_|_|⟨j,fs⟩|_
  case rcd=>
   rw[show y= .ref (c.ac m) from hb]
   refine .chk fun hk=>fun k₁ st s K X o Q E l R P HQ HE=>?_
   have hk:=AJ.mp hk
   have hk2:=AJ.mp hk.2
   have hx:Ci c.S j=false:=by simpa using hk2.2
   have X:=G.X.keeps R.F.keep
   refine CN (ha.mono l) fun x' dx es n' h1 h2 h3 h4=>?_
   subst h4
   refine AS h1 fun ob g1 g2=>?_
   have I:InstAt s.heap x' ob (c.ac j) (some (dictOf es n')):=Ng g2 (R.bears _ g1) (R.bears _ h2)
   refine AB (DA.mp hk2.1) fun q hq=>?_
   by_cases e:j=m
   ·subst e
    rw[decide_eq_true rfl] at P
    exact isi_call (t:=.ref (c.ac j)) X (fun M=>I.type) (IO.yes _ _ hq) (fun z=>nomatch z) (HQ.now s.toks R (.bool true) P)
   ·rw[decide_eq_false e] at P
    have g:=IO.obj _ _ hq hx
    exact kin_callC X I (IO.no _ _ e hk2.1 hk.1) g.1 g.2.1 g.2.2.1 IO.get.1 IO.get.2 g.2.2.2 (HQ.now _ R (.bool false) P)
  all_goals exact .stuck
 case ty=>
  rcases a with _|_|_|_|⟨t⟩|_
  case str=>
   rw[show y= .type n from hb]
   refine AB (show ∃u,x= .str t u from ha) fun u q=>?_
   subst q
   exact .gp fun e=>by subst e;exact .still fun zz s zz zz zz h=>PySem.IsiPair.str_str (h s.toks _ rfl)
  all_goals exact .stuck
 all_goals rcases a with _|_<;>exact .stuck
theorem Qn {θ:Tp}{xs:List V}:∀{vs:List Value} {l:List Str},Am θ k xs vs→Mz xs=some l→StrsAre vs l:=by
 induction xs with
 |nil=>exact fun h e=>by rw[show _=[] from h,←AH e];exact .nil
 |cons x xs ih=>
  refine fun h e=>BF h fun v us h1 h2 h3=>AS (Ak.mp e) fun t e1 e2=>AS (Ao.mp e2) fun l' e3 e4=>ET e1 fun q=>?_
  subst q e4
  exact AB (show ∃u,v= .str t u from h1) fun u q=>by rw[h3,q];exact .cons _ _ (ih h2 e3)
theorem Sy {t:Str}{u:Tok}{xs:List V}{vs:List Value}(hs:Am c.tp k xs vs):AV c k (CV c) (call (.builtin "str.join") (.str t u::vs)) (Mi t xs):=by
 rcases xs with _|⟨a,xs⟩
 ·exact .stuck
 cases xs with
 |cons=>exact .stuck
 |nil=>
 refine IU (P:=fun vs=>AV c k (CV c) (call (.builtin "str.join") (.str t u::vs)) (Mi t [a])) hs fun v hv=>.look fun i ei=>FU ei fun q=>?_
 subst q
 refine .rd fun k' st s K X o Q E ob ys l R e hp P HQ HE=>DX (u:=.strs) P fun(l':List Str) hl P=>EW P fun hz P=>R.list e hp (hv.mono l) fun a vs n q zz hc hL=>?_
 subst q
 refine join_list hL (by simpa using Qn hc hl) ?_ fun t' tk=>?_
 ·rw[show l'.length * t.length=t.cps.size * l'.length from Nat.mul_comm _ _]
  exact AL hz (by unfold lim;decide)
 ·rw[show Txt.join t l'=B3 t l' from StrLaws.glued_eq_join t l'];exact HQ.now _ R (.str _ _) P
theorem VR (G:BI c)(SO:G4 c.tp){a:V}{x:Value}(ha:Ag c.tp k a x):AV c k (CV c) (call (.builtin "len") [x]) (TY c.S a):=by
 unfold TY
 rcases ea:Dh a with _|t
 ·
  refine AV.obj G SO ha fun k' st s K X o Q E ob l R S P HQ HE=>?_
  rcases ob with _|⟨xs⟩|_
  case list=>
   refine EW P fun hl P=>AS S fun d hd S=>AS S fun vs h1 h2=>?_
   have hq:=h1.length
   subst hd
   refine call_len_list h2 (by rw[Ay,←hq];have hl:_≤1000000:=hl;lia) ?_
   rw[Ay,←hq]
   exact HQ.now _ R (.int _ _) P
  all_goals exact P.elim
 ·
  refine .size fun hl=>ET ea fun q=>?_
  subst q
  refine AB (show ∃u,x= .str t u from ha) fun u q=>?_
  subst q
  refine .still fun zz s zz zz zz h=>PySem.P.len_str (fun hq=>?_) (h _ _ ⟨_,rfl⟩)
  have hl:Str.length _≤1000000:=hl
  have hq:=Int.ofNat_le.mp (show((2 ^ 63:Nat):Int)≤_ from hq)
  lia
theorem WV (G:BI c)(hh:c.A.handled=none)(IO:Mu c.tp)(SO:G4 c.tp){n:String}{xs:List V}{vs:List Value}(hs:Am c.tp k xs vs):AV c k (CV c) (call (.builtin n) vs) (V3 c.S n xs):=by
 rcases xs with _|⟨a,xs⟩
 ·exact .stuck
 rcases xs with _|⟨b,xs⟩
 ·
  exact IU (P:=fun vs=>AV c k (CV c) (call (.builtin n) vs) (V3 c.S n [a])) hs fun v hv=>.gp fun e=>e▸VR G SO hv
 rcases xs with _|_
 ·exact SE (P:=fun vs=>AV c k (CV c) (call (.builtin n) vs) (V3 c.S n [a,b])) hs fun v w hv hw=>.gp fun e=>e▸VS G IO hv hw
 ·exact .stuck
theorem TZ {θ:Tp}{es:List (V×V)}:∀{kvs:List (Int×Value)} {prog:Cg} {w:World} (vs:List Value),Kv V.int θ k es kvs→vs.length=kvs.length→(∀(j:Nat) (v:Value),vs[j]? =some v→∃q x,kvs[j]? =some (q,x)∧(DW prog w).is q v=true)→Am θ k (es.map (·.1)) vs:=by
 induction es with
 |nil=>exact fun vs h hl zz=>B5.mp (hl.trans (congrArg A9 (show _=[] from h)))
 |cons p es ih=>
  intro kvs prog w vs h hl hv
  refine DU h fun j x us h1 h2 h3 h4=>?_
  subst h4
  rcases vs with _|⟨v,vs⟩
  ·cases hl
  ·
   refine Dl (hv 0 v rfl) fun q x' e hk=>?_
   have e:=(Prod.mk.inj (AH e)).1
   subst e
   exact⟨v,vs,AB (Value.isInt_shape hk) fun t z=>by show Ag θ k p.1 v;rw[h1,z];exact⟨_,rfl⟩,ih vs h3 (by simpa using hl) fun j w e=>hv (j+1) w (by simpa using e),rfl⟩
theorem WT (G:BI c)(hh:c.A.handled=none){n:String}{xs:List V}{vs:List Value}(hs:Am c.tp k xs vs):AV c k (CV c) (call (.type n) vs) (UM n xs):=by
 rcases xs with _|⟨a,xs⟩
 ·exact .stuck
 rcases xs with _|⟨b,xs⟩
 ·
  refine IU (P:=fun vs=>AV c k (CV c) (call (.type n) vs) (UM n [a])) hs fun v hv=>.ifp (fun e=>?_) fun zz=>.gp fun e=>?_
  ·subst e
   refine .look fun i ei=>FU ei fun q=>?_
   subst q
   refine .rd fun k' st s K X o Q E ob es l R e hp P HQ HE=>EW P fun hl P=>NV R e hp (hv.mono l) fun a kvs hv hm h1 hD zz=>?_
   subst hv
   exact AB hD.dictAt fun ep hA=>kdl_N (kdl_dict hm) hh R.F R.N hA (by rw[←h1.length];exact AL hl Cj) fun l' cc h' tk vs F' N' hlt hlen hv=>
    HQ ⟨_,k'.I⟩ (.obj st.heap.length) _ ⟨st.loc,st.heap++[O.list (es.map (·.1))]⟩ h' tk (B8.app _) (R.pushList (TZ vs h1 hlen hv) F' N' hlt) (R.newAt _) P
  ·subst e
   refine .int (T:=fun v=>call (.type "range") [v]) hv fun i t=>.req fun h=>fun k₁ st s K X o Q E l R P HQ HE=>call_range_1 ?_
   refine HQ _ (.rng 0 i) _ st _ _ (B8.more [(s.heap.objs.size,_)]) (R.pushI (R.F.push _) (News.push R.F R.N _) (EY ..) fun q hq p hp=>?_) ⟨s.heap.objs.size,_,_,_,.head _,rfl⟩ P
   rw[AY.mp hq]
   exact Ah (Av (R.N p hp).1)
 rcases xs with _|_
 ·
  refine SE (P:=fun vs=>AV c k (CV c) (call (.type n) vs) (UM n [a,b])) hs fun v w hv hw=>.gp fun e=>?_
  ·subst e
   refine .int (T:=fun v=>call (.type "range") [v,w]) hv fun i t=>.int (T:=fun w=>call (.type "range") [.int i t,w]) hw fun j u=>.req fun h=>fun k₁ st s K X o Q E l R P HQ HE=>call_range_2 ?_
   refine HQ _ (.rng i j) _ st _ _ (B8.more [(s.heap.objs.size,_)]) (R.pushI (R.F.push _) (News.push R.F R.N _) (EY ..) fun q hq p hp=>?_) ⟨s.heap.objs.size,_,_,_,.head _,rfl⟩ P
   rw[AY.mp hq]
   exact Ah (Av (R.N p hp).1)
 ·exact .stuck
end
theorem LC {α β:Type}{f:α→β→Sem (ForInStep β)}{g:β→α→β}{b:β}:∀(post pre:List α),(∀pre' a post',pre++post=pre'++a::post'→f a (pre'.foldl g b)=pure (.yield (g (pre'.foldl g b) a)))→
  forIn post (pre.foldl g b) f=pure ((pre++post).foldl g b)
 |[],pre,h=>by rw[List.forIn_nil,AR]
 |a::post,pre,h=>by
  rw[Co,h pre a post rfl]
  show forIn post (g (List.foldl g b pre) a) f=_
  have:=LC post (pre++[a]) (f:=f) (g:=g) (b:=b) fun pre' a' post' e=>h pre' a' post' (by simpa using e)
  rw[List.foldl_append] at this
  simpa using this
theorem MP {α β:Type}{f:α→β→Sem (ForInStep β)}{g:β→α→β}{b:β}(l:List α)(h:∀pre' a post',l=pre'++a::post'→f a (pre'.foldl g b)=pure (.yield (g (pre'.foldl g b) a))):forIn l b f=pure (l.foldl g b):=
 LC l [] (by simpa using h)
theorem I3 {β:Type}{k:Str}:∀{l:List (Str×β)},k∉l.map (·.1)→l.lookup k=none
 |[],_=>rfl
 |(q,v)::l,h=>by
  rw[At,AU,not_or] at h
  rw[CY,beq_eq_false_iff_ne.mpr h.1]
  exact I3 h.2
theorem M1 {vs:List (Str×Value)}:∀(kw acc:List (Str×Value)),kw.foldl (fun(b:List (Str×Value)×List (Str×Value)) (a:Str×Value)=>(b.1++[(a.1,a.2)],b.2)) (acc,[])=(acc++kw,[])
 |[],acc=>by simp
 |a::kw,acc=>by
  rw[List.foldl_cons,M1 (vs:=vs)]
  simp
theorem Mw {α:Type}:∀(ps:List Str) (vs:List α),(ps.zip vs).map (·.1)=ps.take vs.length
 |[],vs=>by simp
 |_::_,[]=>by simp
 |p::ps,v::vs=>by simp[Mw ps vs]
theorem MT {fd:FuncData}{ps:List Str}{vs ds:List Value}{kw:List (Str×Value)}{Q:List (Str×Value)→Shared→Prop}{s:Shared}{M:Model}{A:Around}{E:Value→Shared→Prop}
  (h1:fd.params.posonlyargs=[])(h2:fd.params.args.map (·.arg)=ps)(h3:fd.params.kwonlyargs=[])(h4:fd.params.vararg=none)(h5:fd.params.kwarg=none)
  (hd:∀{Q:Option (Array Value)→Shared→Prop},(∀o,(o.getD #[]).toList=ds→Q o s)→wpAny M A (seqItems? fd.defaults) Q E s)
  (hfit:fits ps vs kw ds=true)(h:Q (boundOf ps vs kw ds) s):wpAny M A (bindArgs fd ⟨vs,kw⟩) Q E s:=by
 unfold fits at hfit
 simp only[BY,decide_eq_true_eq,Az,E8,CZ] at hfit
 obtain⟨⟨⟨⟨hl,hk⟩,hkn⟩,JO⟩,hmiss⟩:=hfit
 obtain⟨nm,qn,⟨po,ar,va,ko,kd,ka,df⟩,bo,sc,gl,cl,dfl,kw2,dc,pm,an,co,ct,bu⟩:=fd
 cases (show po=[] from h1)
 cases (show ko=[] from h3)
 cases (show va=none from h4)
 cases (show ka=none from h5)
 cases (show ar.map (·.arg)=ps from h2)
 have e1:∀{ps:List Str},(∀x∈kw,ps.contains x.1=true∧(ps.take vs.length).contains x.1=false)→∀f:Str×Value→List (Str×Value)×List (Str×Value)→Sem (ForInStep (List (Str×Value)×List (Str×Value))),(∀a b,ps.contains a.1=true→(b.1.lookup a.1).isSome=false→f a b=pure (.yield (b.1++[(a.1,a.2)],b.2)))→
   forIn kw (ps.zip vs,[]) f=pure (ps.zip vs++kw,[]):=fun{ps} hk f hf=>by
  rw[MP (g:=fun b a=>(b.1++[(a.1,a.2)],b.2)) kw fun pre' a post' e=>?_,M1 (vs:=[])]
  rw[M1 (vs:=[])]
  obtain⟨k1,k2⟩:=hk a (by rw[e];simp)
  refine hf _ _ k1 ?_
  rw[I3]
  ·rfl
  ·rw[Ae,BK,not_or,Mw]
   refine⟨fun z=>?_,fun z=>?_⟩
   ·rw[DZ.mpr z] at k2;cases k2
   ·rw[e,Ae,At,C1] at hkn
    exact hkn.2.2 a.1 z a.1 (.head _) rfl
 unfold bindArgs
 refine AF (wpAny_of_eq (e1 hk _ fun a b k1 k2=>?_) ?_)
 ·exact(if_pos (by rw[Bool.or_eq_true];exact .inl k1)).trans (if_neg (by rw[k2];exact AI))
 refine AF (hd fun o ho=>?_)
 subst ho
 refine wpAny_ite_false (decide_eq_false fun z=>?_) ?_
 ·exact DR.mpr hl (of_decide_eq_true (AJ.mp z).1)
 generalize (o.getD #[]).toList=ds at *
 have hdrop:ds.drop (ds.length - (ar.map (·.arg)).length)=ds:=by rw[Nat.sub_eq_zero_of_le JO];rfl
 refine wpAny_ite_false (decide_eq_false fun z=>?_) ?_
 ·have z:(!(List.filter (fun n=>(List.lookup n ((ar.map (·.arg)).zip vs++kw)).isNone) (Ac ((ar.map (·.arg)).length - (ds.drop (ds.length - (ar.map (·.arg)).length)).length) (ar.map (·.arg)))).isEmpty)=true:=z
  rw[hdrop,hmiss] at z;cases z
 refine AF (wpAny_of_eq (MP (g:=fun acc (p:Str×Value)=>if(acc.lookup p.1).isNone then acc++[(p.1,p.2)] else acc) _ fun pre' a post' e=>?_) ?_)
 ·obtain⟨q,w⟩:=a
  by_cases z:(List.lookup q (pre'.foldl (fun acc (p:Str×Value)=>if(acc.lookup p.1).isNone then acc++[(p.1,p.2)] else acc) ((ar.map (·.arg)).zip vs++kw))).isNone=true
  ·exact(if_pos z).trans (congrArg (fun l=>pure (DC l)) (if_pos z).symm)
  ·exact(if_neg z).trans (congrArg (fun l=>pure (DC l)) (if_neg z).symm)
 have hh:Q ((ar.map (fun x:Arg=>x.arg)++[]).filterMap fun n=>((slots (ar.map (fun x:Arg=>x.arg)) vs kw (ds.drop (ds.length - (ar.map (fun x:Arg=>x.arg)).length))).lookup n).map (n,·)) s:=by rw[AR,hdrop];exact h
 exact AF (AN (AN hh))
noncomputable def CC (θ:Tp)(k:Kn):List (Str×V)→List (Str×Value)→Prop
 |[],vs=>vs=[]
 |p::xs,vs=>∃v us,Ag θ k p.2 v∧CC θ k xs us∧vs=(p.1,v)::us
section
variable {θ:Tp}{k:Kn}
theorem CC.mono {k':Kn}(e:B8 k k'){xs:List (Str×V)}:∀{vs:List (Str×Value)},CC θ k xs vs→CC θ k' xs vs:=by
 induction xs with
 |nil=>exact id
 |cons x xs ih=>exact fun h=>BF h fun v us a b c=>⟨v,us,a.mono e,ih b,c⟩
theorem CC.keys {xs:List (Str×V)}:∀{vs:List (Str×Value)},CC θ k xs vs→xs.map (·.1)=vs.map (·.1):=by
 induction xs with
 |nil=>exact fun h=>by rw[show _=[] from h];rfl
 |cons x xs ih=>exact fun h=>BF h fun v us zz h e=>by rw[e,At,At,ih h]
theorem CC.append {xs ys:List (Str×V)}{ws:List (Str×Value)}(hk:CC θ k ys ws):∀{vs:List (Str×Value)},CC θ k xs vs→CC θ k (xs++ys) (vs++ws):=by
 induction xs with
 |nil=>exact fun h=>by rw[show _=[] from h];exact hk
 |cons x xs ih=>exact fun h=>BF h fun v us h1 h2 e=>by rw[e];exact⟨v,us++ws,h1,ih h2,rfl⟩
theorem CC.zip {xs:List V}:∀(ps:List Str) {vs:List Value},Am θ k xs vs→CC θ k (ps.zip xs) (ps.zip vs):=by
 induction xs with
 |nil=>exact fun ps vs h=>by rw[show vs=[] from h,List.zip_nil_right,List.zip_nil_right];rfl
 |cons x xs ih=>
  intro ps vs h
  refine BF h fun v us h1 h2 e=>?_
  subst e
  rcases ps with _|⟨p,ps⟩
  ·exact rfl
  ·exact⟨v,_,h1,ih ps h2,rfl⟩
theorem CC.look (n:Str){xs:List (Str×V)}:∀{vs:List (Str×Value)},CC θ k xs vs→(xs.lookup n=none∧vs.lookup n=none)∨∃x v,xs.lookup n=some x∧vs.lookup n=some v∧Ag θ k x v:=by
 induction xs with
 |nil=>exact fun h=>by rw[show _=[] from h];exact .inl ⟨rfl,rfl⟩
 |cons x xs ih=>
  refine fun h=>BF h fun v us h1 h2 e=>?_
  subst e
  rw[CY,CY]
  rcases n==x.1 with _|_
  ·exact ih h2
  ·exact .inr ⟨x.2,v,rfl,rfl,h1⟩
theorem CC.isNone (n:Str){xs:List (Str×V)}{vs:List (Str×Value)}(h:CC θ k xs vs):(xs.lookup n).isNone=(vs.lookup n).isNone:=
 (h.look n).elim (fun h=>by rw[h.1,h.2];rfl) fun h=>BF h fun x v a b zz=>by rw[a,b];rfl
theorem CC.fold {ps:List (Str×V)}:∀{xs:List (Str×V)} {qs vs:List (Str×Value)},CC θ k ps qs→CC θ k xs vs→
  CC θ k (ps.foldl (fun acc p=>if(acc.lookup p.1).isNone then acc++[(p.1,p.2)] else acc) xs) (qs.foldl (fun acc p=>if(acc.lookup p.1).isNone then acc++[(p.1,p.2)] else acc) vs):=by
 induction ps with
 |nil=>exact fun h hk=>by rw[show _=[] from h];exact hk
 |cons p ps ih=>
  refine fun h hk=>BF h fun v us h1 h2 e=>?_
  subst e
  rw[List.foldl_cons,List.foldl_cons]
  refine ih h2 ?_
  simp only[hk.isNone p.1]
  split
  ·exact CC.append (ys:=[(p.1,p.2)]) (ws:=[(p.1,v)]) ⟨v,[],h1,rfl,rfl⟩ hk
  ·exact hk
theorem CC.slots (ps:List Str){xs:List V}{vs:List Value}{kx:List (Str×V)}{kv:List (Str×Value)}{dx:List V}{dv:List Value}(h:Am θ k xs vs)(hk:CC θ k kx kv)(hd:Am θ k dx dv):
  CC θ k (slots ps xs kx dx) (slots ps vs kv dv):=by
 unfold Internal.slots
 rw[hd.length]
 exact CC.fold (CC.zip _ hd) (CC.append hk (CC.zip ps h))
theorem CC.bound (ps:List Str){xs:List V}{vs:List Value}{kx:List (Str×V)}{kv:List (Str×Value)}{dx:List V}{dv:List Value}(h:Am θ k xs vs)(hk:CC θ k kx kv)(hd:Am θ k dx dv):
  CC θ k (boundOf ps xs kx dx) (boundOf ps vs kv dv):=by
 have h:=CC.slots ps h hk hd
 unfold boundOf
 generalize Internal.slots ps xs kx dx=X at h
 generalize Internal.slots ps vs kv dv=Y at h
 induction ps with
 |nil=>exact rfl
 |cons p ps ih=>
  rw[List.filterMap_cons,List.filterMap_cons]
  exact(h.look p).elim (fun z=>by rw[z.1,z.2];exact ih) fun z=>BF z fun x v a b hc=>by rw[a,b];exact⟨v,_,hc,ih,rfl⟩
theorem CC.fits (ps:List Str){xs:List V}{vs:List Value}{kx:List (Str×V)}{kv:List (Str×Value)}{dx:List V}{dv:List Value}(h:Am θ k xs vs)(hk:CC θ k kx kv)(hd:Am θ k dx dv):
  fits ps xs kx dx=fits ps vs kv dv:=by
 unfold Internal.fits
 have e1:(kx.all fun p=>ps.contains p.1&& !(ps.take xs.length).contains p.1)=kv.all fun p=>ps.contains p.1&& !(ps.take vs.length).contains p.1:=by
  rw[h.length]
  have a:∀{α:Type} (l:List (Str×α)),(l.all fun p=>ps.contains p.1&& !(ps.take vs.length).contains p.1)=(l.map (·.1)).all fun p=>ps.contains p&& !(ps.take vs.length).contains p:=fun l=>by rw[List.all_map];rfl
  rw[a,a,hk.keys]
 have e2:(fun n=>((ps.zip xs++kx).lookup n).isNone)=fun n=>((ps.zip vs++kv).lookup n).isNone:=funext fun n=>(CC.append hk (CC.zip ps h)).isNone n
 rw[e1,e2,h.length,hd.length,hk.keys]
end
theorem H7 {α:Type}(g:Str→Option α):∀ps:List Str,(ps.filterMap fun n=>(g n).map (n,·)).map (·.1)=ps.filter fun n=>(g n).isSome
 |[]=>rfl
 |p::ps=>by
  rw[List.filterMap_cons,List.filter_cons]
  rcases h:g p with _|v
  ·simp only[Option.map_none,Option.isSome_none,Ca,if_false];exact H7 g ps
  ·simp only[Option.map_some,Option.isSome_some,if_true,At,H7 g ps]
theorem J0 {α:Type}{ps:List Str}(h:ps.Nodup)(vs:List α)(kw:List (Str×α))(ds:List α):((boundOf ps vs kw ds).map (·.1)).Nodup:=by
 unfold boundOf
 rw[H7]
 exact h.filter _
theorem KA {α:Type}{ps:List Str}{vs:List α}{kw:List (Str×α)}{ds:List α}{x:Str×α}(h:x∈boundOf ps vs kw ds):x.1∈ps:=by
 have:=B9 (f:=(·.1)) h
 unfold boundOf at this
 rw[H7] at this
 exact(List.mem_filter.mp this).1
noncomputable def CF (θ:Tp)(k:Kn):Fl→Flow→Prop
 | .next,f=>f= .next
 | .brk,f=>f= .brk
 | .cont,f=>f= .cont
 | .ret a,f=>∃v,f= .ret v∧Ag θ k a v
theorem Iz (names:List (Str×Al)):∀(n:Nat) (acc:List (Str×Addr)) (p:Str×Addr),p∈acc→p∈Br n names acc:=by
 induction names with
 |nil=>exact fun zz zz zz h=>h
 |cons q r ih=>
  intro n acc p h
  unfold Br
  split
  ·exact ih _ _ _ (.tail _ h)
  ·exact ih _ _ _ h
theorem Mc {x:Str}(names:List (Str×Al)):∀(n:Nat) (acc:List (Str×Addr)),(x,Ct)∈names→∃q,(x,q)∈Br n names acc:=by
 induction names with
 |nil=>exact fun zz zz h=>(Ap h).elim
 |cons q r ih=>
  intro n acc h
  unfold Br
  refine(AU.mp h).elim (fun h=>?_) fun h=>?_
  ·rw[←h,if_pos (by rfl)]
   exact⟨n,Iz r _ _ _ (.head _)⟩
  ·split<;>exact ih _ _ h
theorem CellsAre.at {cm:Str→Option Value}{x:Str}{q:Addr}{cs:List (Str×Addr)}{cells:List (Addr×Obj)}(h:CellsAre cm cs cells):(x,q)∈cs→∃o,(q,o)∈cells∧o.data= .cell (cm x):=by
 induction h with
 |nil=>exact fun h=>(Ap h).elim
 |cons hd hs ih=>exact fun h=>(AU.mp h).elim (fun h=>by cases h;exact⟨_,.head _,hd⟩) fun h=>Af (fun o z=>⟨.tail _ z.1,z.2⟩) (ih h)
theorem HA {x:Str}(l:List (Str×V)):Cc x l=l.lookup x:=by
 induction l with
 |nil=>rfl
 |cons p l ih=>
  rw[FS,CY,ih]
  by_cases h:x=p.1
  ·rw[if_pos h,beq_iff_eq.mpr h]
  ·rw[if_neg h,beq_eq_false_iff_ne.mpr h]
theorem lookup_nodup {β:Type}{x:Str}{b:β}{l:List (Str×β)}:(l.map (·.1)).Nodup→(x,b)∈l→l.lookup x=some b:=by
 induction l with
 |nil=>exact fun zz h=>(Ap h).elim
 |cons p l ih=>
  intro hn h
  rw[At,Bw] at hn
  rw[CY]
  refine(AU.mp h).elim (fun h=>by rw[←h,beq_self_eq_true]) fun h=>?_
  rw[beq_eq_false_iff_ne.mpr (show x≠p.1 from fun e=>hn.1 (e▸B9 (f:=(·.1)) h))]
  exact ih hn.2 h
theorem O9 {k:Str→Option Al}{x:Str}(hk:k x=some .local){binds:List (Str×Value)}:∀{m:Str→Option Value},(binds.map (·.1)).Nodup→∀v,binds.lookup x=some v→bindL k binds m x=some v:=by
 induction binds with
 |nil=>exact fun zz zz e=>AP e
 |cons p r ih=>
  intro m hn v e
  rw[At,Bw] at hn
  unfold bindL
  rw[CY] at e
  by_cases h:x=p.1
  ·rw[h,beq_self_eq_true] at e
   have hm:∀(r:List (Str×Value)) (m:Str→Option Value),x∉r.map (·.1)→bindL k r m x=m x:=fun r=>by
    induction r with
    |nil=>exact fun zz zz=>rfl
    |cons q r ih2=>
     intro m h
     rw[At,AU,not_or] at h
     unfold bindL
     rw[ih2 _ h.2]
     split<;>simp[h.1]
   rw[hm r _ (h▸hn.1),←h,if_pos hk,if_pos rfl,←AH e]
  ·rw[beq_eq_false_iff_ne.mpr h] at e
   exact ih hn.2 v e
theorem OB {k:Str→Option Al}{x:Str}(hk:k x≠some .local){binds:List (Str×Value)}:∀{m:Str→Option Value},(binds.map (·.1)).Nodup→∀v,binds.lookup x=some v→bindC k binds m x=some v:=by
 induction binds with
 |nil=>exact fun zz zz e=>AP e
 |cons p r ih=>
  intro m hn v e
  rw[At,Bw] at hn
  unfold bindC
  rw[CY] at e
  by_cases h:x=p.1
  ·rw[h,beq_self_eq_true] at e
   have hm:∀(r:List (Str×Value)) (m:Str→Option Value),x∉r.map (·.1)→bindC k r m x=m x:=fun r=>by
    induction r with
    |nil=>exact fun zz zz=>rfl
    |cons q r ih2=>
     intro m h
     rw[At,AU,not_or] at h
     unfold bindC
     rw[ih2 _ h.2]
     split<;>simp[h.1]
   rw[hm r _ (h▸hn.1),←h,if_neg hk,if_pos rfl,←AH e]
  ·rw[beq_eq_false_iff_ne.mpr h] at e
   exact ih hn.2 v e
theorem OA {k:Str→Option Al}{x:Str}{binds:List (Str×Value)}:∀{m:Str→Option Value},binds.lookup x=none→bindC k binds m x=m x:=by
 induction binds with
 |nil=>exact fun zz=>rfl
 |cons p r ih=>
  intro m e
  unfold bindC
  rw[CY] at e
  by_cases h:x=p.1
  ·rw[h,beq_self_eq_true] at e;cases e
  ·rw[beq_eq_false_iff_ne.mpr h] at e
   rw[ih e]
   split<;>simp[h]
theorem MI {names:List (Str×Al)}(h:(names.map (·.1)).Nodup):∀(n:Nat) (acc:List (Str×Addr)),(acc.map (·.1)).Nodup→(∀p∈acc,p.1∉names.map (·.1))→((Br n names acc).map (·.1)).Nodup:=by
 induction names with
 |nil=>exact fun zz zz h zz=>h
 |cons q r ih=>
  intro n acc h1 h2
  rw[At,Bw] at h
  unfold Br
  split
  ·refine ih h.2 _ _ (Bw.mpr ⟨fun z=>AS (C4.mp z) fun p hp e=>h2 p hp (by rw[e];exact .head _),h1⟩) fun p hp=>?_
   exact(AU.mp hp).elim (fun e=>by rw[e];exact h.1) fun hp z=>h2 p hp (.tail _ z)
  ·exact ih h.2 _ _ h1 fun p hp z=>h2 p hp (.tail _ z)
structure ad (θ:Tp)(J:BS)(g:Str→Option V)(bx:List (Str×V))(bv:List (Str×Value))(cells:BS)(names:List (Str×Al))(n:Nat)(acc:List (Str×Addr))(os:List O)(D Dn:List (Option DE))(Mn:BS):Prop where
 a:∀p∈Mn,p∈cells∧n≤p.1
 b:(Mn.map (·.1)).Nodup
 c:∀(i:Nat) (d:DE),(D++Dn)[i]? =some (some d)→i<D.length→D[i]? =some (some d)
 d:∀k M,CC θ k bx bv→CT θ J k os D M→CT θ J k (Dk g bx names os).2 (D++Dn) (M++Mn)
 e:∀x a,Cc x (Dk g bx names os).1=some a→((x,Al.local)∈names∧a=(Cc x bx).getD .undef)∨((x,Du)∈names∧g x=some a)∨((x,Ct)∈names∧∃i q,a= .cref i∧(x,q)∈Br n names acc∧(D++Dn)[i]? =some (some (q,0)))
theorem KV {θ:Tp}{J:BS}{g:Str→Option V}{bx:List (Str×V)}{bv:List (Str×Value)}{cm:Str→Option Value}{cells:BS}(hc:∀x u v,bx.lookup x=some u→bv.lookup x=some v→cm x=some v){names:List (Str×Al)}:
  ∀(n:Nat) (acc:List (Str×Addr)) (os:List O) (D:List (Option DE)),os.length=D.length→(∀x q,(x,Ct)∈names→(x,q)∈Br n names acc→n≤q→∃o,(q,o)∈cells∧o.data= .cell (cm x))→
  ∃Dn Mn,ad θ J g bx bv cells names n acc os D Dn Mn:=by
 induction names with
 |nil=>exact fun n acc os D zz zz=>⟨[],[],(fun zz h=>nomatch h),EG,fun i d h zz=>by rw[AR] at h;exact h,fun k M zz h=>by rw[AR,AR];exact h,fun x a h=>AP h⟩
 |cons p r ih=>
  intro n acc os D hl H
  have look:∀{x:Str} {u a:V} {l:List (Str×V)},Cc x ((p.1,u)::l)=some a→(x=p.1∧u=a)∨Cc x l=some a:=fun{x u a l} h=>by
   rw[FS] at h
   by_cases e:x=p.1
   ·rw[if_pos e] at h;exact .inl ⟨e,AH h⟩
   ·rw[if_neg e] at h;exact .inr h
  by_cases hk:p.2= .cell
  ·have ep:p=(p.1,.cell):=by rw[←hk]
   have e1:Br n (p::r) acc=Br (n+1) r ((p.1,n)::acc):=by rw[ep];rfl
   have e2:Dk g bx (p::r) os=((p.1,.cref os.length)::(Dk g bx r (os++[.cell ((Cc p.1 bx).getD .undef)])).1,(Dk g bx r (os++[.cell ((Cc p.1 bx).getD .undef)])).2):=by rw[ep];rfl
   rw[e1] at H
   have h0:=Iz r (n+1) ((p.1,n)::acc) _ (.head _)
   refine AS (H p.1 n (by rw[←hk];exact .head _) h0 (AT _)) fun ob h1 h2=>?_
   refine AB (ih (n+1) ((p.1,n)::acc) (os++[.cell ((Cc p.1 bx).getD .undef)]) (D++[some (n,0)]) (by rw[AE,AE,hl];rfl) fun x q hx hq hn=>H x q (.tail _ hx) hq (BO hn)) fun Dn h=>AB h fun Mn h=>?_
   refine⟨some (n,0)::Dn,(n,ob)::Mn,fun q hq=>(AU.mp hq).elim (fun e=>e▸⟨h1,AT _⟩) fun hq=>⟨(h.1 q hq).1,BO (h.1 q hq).2⟩,?_,fun i d e hi=>by rw[Bz hi] at e;exact e,fun k M hb hM=>?_,fun x a hx=>?_⟩
   ·rw[At,Bw]
    exact⟨fun z=>AS (C4.mp z) fun q hq e=>absurd (h.1 q hq).2 (by rw[e];exact Nat.not_succ_le_self n),h.2⟩
   ·have z:=h.4 k (M++[(n,ob)]) hb (CT.snoc (o:=.cell ((Cc p.1 bx).getD .undef)) (d:=some (n,0)) (L:=[(n,ob)]) ⟨(n,0),[],n,ob,rfl,rfl,rfl,rfl,_,h2,?_⟩ hM)
    ·rw[e2];simpa using z
    ·rw[HA]
     exact(hb.look p.1).elim (fun z=>by rw[z.1];exact .inl rfl) fun z=>BF z fun u v a b hc'=>by rw[a];exact .inr ⟨v,hc _ _ _ a b,hc'⟩
   ·rw[e2] at hx
    refine(look hx).elim (fun z=>.inr (.inr ⟨?_,os.length,n,z.2.symm,?_,?_⟩)) fun hx=>((h.5 x a hx).imp (fun z=>⟨.tail _ z.1,z.2⟩) fun z=>z.imp (fun z=>⟨.tail _ z.1,z.2⟩) fun z=>⟨.tail _ z.1,?_⟩)
    ·rw[z.1,←hk];exact .head _
    ·rw[z.1,e1];exact h0
    ·rw[hl,Cu (AT _),Eu];rfl
    ·rw[e1];simpa using z.2
  ·have e1:Br n (p::r) acc=Br n r acc:=by
    cases p with|mk a b=>rcases b with _|_<;>first|exact absurd rfl hk|rfl
   have e3:(Dk g bx (p::r) os).2=(Dk g bx r os).2:=by
    cases p with|mk a b=>rcases b with _|_<;>first|exact absurd rfl hk|rfl
   rw[e1] at H
   refine AB (ih n acc os D hl fun x q hx hq hn=>H x q (.tail _ hx) hq hn) fun Dn h=>AB h fun Mn h=>?_
   refine⟨Dn,Mn,h.1,h.2,h.3,fun k M hb hM=>by rw[e3];exact h.4 k M hb hM,fun x a hx=>?_⟩
   rw[e1]
   have rest:=fun hx=>((h.5 x a hx).imp (fun z=>(⟨.tail _ z.1,z.2⟩:(x,Al.local)∈p::r∧_)) fun z=>z.imp (fun z=>(⟨.tail _ z.1,z.2⟩:(x,Du)∈p::r∧_)) fun z=>(⟨.tail _ z.1,z.2⟩:(x,Ct)∈p::r∧_))
   rcases p with⟨y,b⟩
   ·
    cases b with
    |«local»=>exact(look hx).elim (fun z=>.inl ⟨by rw[z.1];exact .head _,by rw[z.1];exact z.2.symm⟩) rest
    |globalImplicit=>
     have hx:Cc x (match g y with|some v=>(y,v)::(Dk g bx r os).1|none=>(Dk g bx r os).1)=some a:=hx
     rcases hg:g y with _|v
     ·rw[hg] at hx;exact rest hx
     ·
      rw[hg] at hx
      exact(look hx).elim (fun z=>.inr (.inl ⟨by rw[z.1];exact .head _,by rw[z.1,hg,z.2]⟩)) rest
    |cell=>exact absurd rfl hk
    |_=>exact rest hx
noncomputable def G3 (B h:Heap)(e:Addr):Prop:=∃oe vs T oT ts fl,h.get? e=some oe∧oe.data= .fields vs∧vs[1]? =some (.ref T)∧B.get? T=none∧T≠e∧h.get? T=some oT∧oT.data= .fields ts∧ts[3]? =some fl
section
variable {M:Model}{A:Around}{E:Value→Shared→Prop}{s:Shared}{B:Heap}{env:Env}{outer:List Env}{L e dx:Addr}{cls:Value}{Q:Unit→Shared→Prop}
theorem Nz {o:Obj}{vs:Array Value}(hd:o.data= .fields vs)(f:Array Value→Array Value):o.mapFields f={o with data:=.fields (f vs)}:=by
 obtain⟨a,b,c,d⟩:=o
 cases hd;rfl
theorem UL {h h':Heap}{p:Addr}(hp:∃o vs,h.get? p=some o∧o.data= .fields vs)(hk:∀b,b≠p→h'.get? b=h.get? b):h.UpToSlots h':=fun b o eb hn=>by
 refine⟨o.slots,(hk b fun z=>?_).trans eb⟩
 obtain⟨o',vs,h1,h2⟩:=hp
 rw[z,h1] at eb
 exact hn vs (AH eb▸h2)
theorem MN {h h':Heap}{l:List Env}(hl:h.FunFrames B l)(u:h.UpToSlots h'):h'.FunFrames B l:=hl.of_keeps fun b o eb hn=>let⟨sl,q⟩:=u b o eb hn;⟨_,q,rfl⟩
theorem N9 (hfr:A.frames=some (env::outer))(hf:env.frame=some L)(fl:El B (env::outer) e cls dx s.heap){oe:Obj}{vs:Array Value}{head:Value}{hadNext:Bool}(he:s.heap.get? e=some oe)(hc:oe.cls=cls)(hdx:oe.dict=some dx)(hd:oe.data= .fields vs)(hz:1<vs.size)
  (h:∀h',El B (env::outer) e cls dx h'→G3 B h' e→s.heap.UpToSlots h'→Q () {s with heap:=h'}):
  wpAny M A (do let a ←frameOf env;let pl ←entryPlaceOf L hadNext;let b ←EntryCells.newEntry head a .none (rawInt L) .none pl;setField (.ref e) 1 b) Q E s:=by
 have hne:e∉(env::outer).filterMap (·.frame):=fun hm=>by
  obtain⟨_,o,ho,hn⟩:=fl.frames.mem hm
  exact hn vs (AH (he.symm.trans ho)▸hd)
 refine AF (wpAny_frameOf_fun hfr fl.frames hf fun h₁ hs=>AF (wpAny_entryPlaceOf fun pl hpl=>?_))
 unfold EntryCells.newEntry newFields
 refine AF (wpAny_newObj_type ?_ (hpl.sizeOk5 _ _ _ _ _))
 have g1:h₁.get? e=some oe:=(hs.2.1 e hne).trans he
 have u1:s.heap.UpToSlots h₁:=fun b o eb zz=>hs.2.2 b o eb
 have st1:B.StaysIn h₁:=fun b o eb=>(hs.2.1 b fun hm=>by rw[(fl.frames.mem hm).1] at eb;cases eb).trans (fl.stays b o eb)
 generalize hT:({cls:=.type "traceback",dict:=none,data:=.fields ([head,.ref L,.none,rawInt L,.none]++(if pl.isEmpty then List.replicate 6 Value.none else pl)).toArray}:Obj)=oT
 have dT:∃ts fl,oT.data= .fields ts∧ts[3]? =some fl:=⟨_,rawInt L,by rw[←hT],by first|(simp;done)|(rcases hpl with rfl|⟨_,_,_,_,_,_,_,rfl⟩<;>simp)⟩
 have fT:oT.isFreed=false:=by rw[←hT];rfl
 have g2:=BH (h:=h₁) oT g1
 refine wpAny_setField g2 hd hz ?_
 have ne:h₁.objs.size≠e:=Bh (Av g1)
 have ho:∀b,b≠e→((h₁.push oT).update e (Ec (·.setIfInBounds 1 (.ref h₁.objs.size)))).get? b=(h₁.push oT).get? b:=fun b hb=>DT _ _ (Cq hb)
 have hT2:((h₁.push oT).update e (Ec (·.setIfInBounds 1 (.ref h₁.objs.size)))).get? h₁.objs.size=some oT:=(ho _ ne).trans (Heap.get?_push_at rfl fT)
 have he2:=D3 (Ec (·.setIfInBounds 1 (.ref h₁.objs.size))) g2 (Obj.isFreed_of_fields (Et hd _))
 have u2:h₁.UpToSlots ((h₁.push oT).update e (Ec (·.setIfInBounds 1 (.ref h₁.objs.size)))):=
  (Heap.UpToSlots.of_keeps fun b o eb=>BH oT eb).trans (UL ⟨oe,vs,g2,hd⟩ ho)
 have bT:B.get? h₁.objs.size=none:=st1.fresh
 refine AB dT fun ts dT=>AS dT fun flv d1 d2=>?_
 have hv:(vs.setIfInBounds 1 (.ref h₁.objs.size))[1]? =some (.ref h₁.objs.size):=by simp[hz]
 have hd2:=Et hd (·.setIfInBounds 1 (.ref h₁.objs.size))
 refine h _ ⟨fun b o eb=>?_,fl.new,MN fl.frames (u1.trans u2),_,_,he2,?_,?_,hd2,.inr ⟨_,oT,ts,flv,hv,bT,ne,hT2,d1,d2⟩⟩ ⟨_,_,_,oT,ts,flv,he2,hd2,hv,bT,ne,hT2,d1,d2⟩ (u1.trans u2)
 ·exact(ho b fun z=>by rw[z,fl.new] at eb;cases eb).trans (BH oT (st1 b o eb))
 ·rw[Nz hd];exact hc
 ·rw[Nz hd];exact hdx
theorem Of (fl:El B outer e cls dx s.heap){oe oT:Obj}{vs ts:Array Value}{T:Addr}{f x:Value}(he:s.heap.get? e=some oe)(hc:oe.cls=cls)(hdx:oe.dict=some dx)(hd:oe.data= .fields vs)(h1:vs[1]? =some (.ref T))(hB:B.get? T=none)(hne:T≠e)(hT:s.heap.get? T=some oT)(hdT:oT.data= .fields ts)(h3:ts[3]? =some f)
  (h:∀h',El B outer e cls dx h'→G3 B h' e→h'.get? e=some oe→s.heap.UpToSlots h'→Q () {s with heap:=h'}):wpAny M A (setField (.ref T) 3 x) Q E s:=by
 have hz:3<ts.size:=(Db.mp h3).1
 refine wpAny_setField hT hdT hz ?_
 have ho:∀b,b≠T→(s.heap.update T (Ec (·.setIfInBounds 3 x))).get? b=s.heap.get? b:=fun b hb=>DT _ _ (Cq hb)
 have hT2:=D3 (Ec (·.setIfInBounds 3 x)) hT (Obj.isFreed_of_fields (Et hdT _))
 have hd2:=Et hdT (·.setIfInBounds 3 x)
 have he2:=(ho e (Cq hne)).trans he
 have hv:(ts.setIfInBounds 3 x)[3]? =some x:=by simp[hz]
 have u:=UL ⟨oT,ts,hT,hdT⟩ ho
 exact h _ ⟨fun b o eb=>(ho b fun z=>by rw[z,hB] at eb;cases eb).trans (fl.stays b o eb),fl.new,MN fl.frames u,oe,vs,he2,hc,hdx,hd,.inr ⟨T,_,_,x,h1,hB,hne,hT2,hd2,hv⟩⟩ ⟨oe,vs,T,_,_,x,he2,hd,h1,hB,hne,hT2,hd2,hv⟩ he2 u
theorem Nn (hfr:A.frames=some (env::outer))(hf:env.frame=some L)(fl:El B (env::outer) e cls dx s.heap)
  (h:∀h',El B (env::outer) e cls dx h'→G3 B h' e→s.heap.UpToSlots h'→Q () {s with heap:=h'}):wpAny M A (noteFrame (.ref e) env) Q E s:=by
 refine FP fl.obj fun oe vs he hc hdx hd ht=>?_
 unfold noteFrame
 simp only[hf]
 rcases ht with ht|⟨T,oT,ts,f,h1,hB,hne,hT,hdT,h3⟩
 ·refine AF (FM he hd ht ?_)
  rw[if_neg (by decide)]
  exact N9 hfr hf fl he hc hdx hd (Db.mp ht).1 h
 ·refine AF (FM he hd h1 ?_)
  rw[if_pos (show(Value.ref T != Value.none)=true from by simp)]
  refine AF (FM hT hdT h3 ?_)
  by_cases q:(f==rawInt L)=true
  ·rw[if_pos q]
   exact AN (h s.heap fl ⟨oe,vs,T,oT,ts,f,he,hd,h1,hB,hne,hT,hdT,h3⟩ (.refl _))
  ·rw[if_neg q]
   refine AF (Of fl he hc hdx hd h1 hB hne hT hdT h3 fun h' fl' t' he' u=>?_)
   exact N9 (s:={s with heap:=h'}) hfr hf fl' he' hc hdx hd (Db.mp h1).1 fun h'' a b c=>h h'' a b (u.trans c)
theorem IP {fr:Option Addr}(fl:El B outer e cls dx s.heap)(h:∀h',El B outer e cls dx h'→(G3 B s.heap e→G3 B h' e)→s.heap.UpToSlots h'→Q () {s with heap:=h'}):wpAny M A (setFlight (.ref e) fr) Q E s:=by
 refine FP fl.obj fun oe vs he hc hdx hd ht=>?_
 unfold setFlight
 rcases ht with ht|⟨T,oT,ts,f,h1,hB,hne,hT,hdT,h3⟩
 ·refine AF (FM he hd ht ?_)
  rw[if_neg (by decide)]
  exact AN (h s.heap fl id (.refl _))
 ·refine AF (FM he hd h1 ?_)
  rw[if_pos (show(Value.ref T != Value.none)=true from by simp)]
  exact Of fl he hc hdx hd h1 hB hne hT hdT h3 fun h' a b zz u=>h h' a (fun zz=>b) u
theorem El.up (fl:El B (env::outer) e cls dx s.heap):El B outer e cls dx s.heap:=⟨fl.stays,fl.new,fl.frames.2.2,fl.obj⟩
theorem S0 (hfr:A.frames=some (env::outer))(hf:env.frame=some L)(fl:El B (env::outer) e cls dx s.heap)
  (h:∀h',El B outer e cls dx h'→G3 B h' e→s.heap.UpToSlots h'→Q () {s with heap:=h'}):wpAny M A (leaving env (.ref e)) Q E s:=
 AF (Nn hfr hf fl fun h' a b c=>IP (s:={s with heap:=h'}) a fun h'' a' b' c'=>h h'' (El.up (s:={s with heap:=h''}) a') (b' b) (c.trans c'))
theorem Tq (fl:El B outer e cls dx s.heap)(t:G3 B s.heap e){E':Value→Shared→Prop}(h:∀h',El B outer e cls dx h'→s.heap.UpToSlots h'→E' (.ref e) {s with heap:=h'}):cameBackBy M A env E' (.ref e) s:=by
 refine XZ t fun oe vs T oT ts f he hd h1 hB hne hT hdT h3=>?_
 unfold cameBackBy
 refine AF (FM he hd h1 ?_)
 rw[if_neg (by simp)]
 exact IP fl fun h' a zz u=>h h' a u
end
section
variable {φ:Fm}{l:List Env}{k:Kn}{st:St}{h h':Heap}{a:V}{e:Addr}
noncomputable def D0.on (R:D0 φ l k st h a e)(fl:El R.B l e (.ref (φ.tp.ac R.j)) R.dx h')(u:h.UpToSlots h'):D0 φ l k st h' a e:=
 ⟨R.B,R.m,R.MO,R.j,R.fs,R.dx,R.es,R.n,R.base,fl,R.rows,R.nd,R.up.trans u,u.ns R.ns,R.above,R.loc,R.heap,R.isx,R.val,R.row,R.flds⟩
noncomputable def D0.dropJ {c:Cx}{L:BS}(hd:∀p∈L,∀kvs,¬p.2.IsDictOf (DW c.prog c.w) kvs)(R:D0 ⟨c.tp,c.env,c.h₀,L++c.J⟩ l k st h a e):D0 c.fm l k st h a e:=by
 have pm:C9 (R.MO++((L++c.J)++k.I)) (L++(R.MO++(c.J++k.I))):=by rw[AC];exact B4 R.MO L (c.J++k.I)
 refine⟨R.B,R.m,R.MO,R.j,R.fs,R.dx,R.es,R.n,R.base,R.fly,fun p hp=>R.rows p (pm.mem_iff.mpr (Ad _ hp)),?_,R.up,R.ns,R.above,R.loc,R.heap.imp (.refl _) fun p kvs hp z=>(BK.mp hp).elim (fun hp=>(hd p hp kvs z).elim) id,R.isx,R.val,R.row,R.flds⟩
 have nd:((L++(R.MO++(c.J++k.I))).map (·.1)).Nodup:=Eh pm.symm R.nd
 exact(C1.mp (Ae▸nd:(L.map (·.1)++(R.MO++(c.J++k.I)).map (·.1)).Nodup)).2.1
end
noncomputable def FL (c:Cx)(k:Kn)(s:Shared)(X:V→St→Au)(o:Except V V×List O)(E:Value→Shared→Prop):Prop:=
 ∀k' a st' e h' tk,B8 k k'→(R:D0 c.fm c.outer k' st' h' a e)→G3 R.B h' e→Y c.l o (X a st')→E (.ref e) {s with heap:=h',toks:=tk}
noncomputable def Gp (c:Cx):Prop:=(∃rest,c.outer=c.env::rest)∧c.env.frame=some c.env.locals
section
variable {c:Cx}{k k':Kn}{s:Shared}{X:V→St→Au}{o:Except V V×List O}{E:Value→Shared→Prop}
theorem MQ {M:Model}{A:Around}{s:Shared}{B:Heap}{env:Env}{l outer:List Env}{L e dx:Addr}{cls:Value}{Q:Unit→Shared→Prop}(hl:l=env::outer)(hfr:A.frames=some l)(hf:env.frame=some L)(fl:El B l e cls dx s.heap)
  (h:∀h',El B l e cls dx h'→G3 B h' e→s.heap.UpToSlots h'→Q () {s with heap:=h'}):wpAny M A (noteFrame (.ref e) env) Q E s:=by
 subst hl
 exact Nn hfr hf fl h
theorem FL.noted (hfr:c.A.frames=some c.outer)(ho:Gp c)(H:FL c k s X o E):FF c k s X o (notedBy c.M c.A c.env E):=by
 intro k' a st' e h' tk l R P
 exact ho.1.elim fun rest hr=>MQ (s:={s with heap:=h',toks:=tk}) hr hfr ho.2 R.fly fun h'' f t u=>H k' a st' e h'' tk l (R.on f u) t P
theorem FF.back (H:FF c k s X o E):FL c k s X o (fun e s'=>cameBackBy c.M c.A c.env E e s'):=fun k' a st' e h' tk l R t P=>Tq (s:={s with heap:=h',toks:=tk}) R.fly t fun h'' f u=>H k' a st' e h'' tk l (R.on f u) P
theorem FL.ext {h':Heap}{tk:Nat}(H:FL c k s X o E)(e:B8 k k'):FL c k' {s with heap:=h',toks:=tk} X o E:=fun k'' a st' x h'' tk' l R t P=>H k'' a st' x h'' tk' (e.trans l) R t P
theorem Dy.errT {c':Cx}{k:Kn}{s:Shared}{E:Value→Shared→Prop}(H:Dy c X o)(e:c'.l=c.l:=by rfl):FL c' k s X o E:=fun zz a st' zz zz zz zz zz zz P=>(H a st' (e▸P)).elim
end
structure VB where
 oc:Value
 od:Option Addr
 osl:Array (Option Value)
 name:Str
 qual:Str
 params:Arguments
 dV:Value
 kV:Value
 doc:Value
 pm:Value
 an:Option Addr
 cdv:Value
 ct:Value
noncomputable def VB.fd (q:VB)(fn:Fn):FuncData:=fnX q.name q.qual q.params fn.body fn.scope [] q.dV q.kV q.doc q.pm q.an q.cdv q.ct
structure UG (θ:Tp)(f:Nat)(fn:Fn):Prop where
 look:∃q:VB,θ.K.lookup (θ.af f)=some ⟨q.oc,q.od,.func (q.fd fn),q.osl⟩∧codeIn θ.K q.cdv q.qual=true∧
  q.params.posonlyargs=[]∧q.params.args.map (·.arg)=fn.params∧q.params.kwonlyargs=[]∧q.params.vararg=none∧q.params.kwarg=none∧
  ((q.dV= .none∧fn.dflts=[])∨∃(T:Addr) (ob:Obj) (n:Nat) (vs:List Value),q.dV= .ref T∧θ.K.lookup T=some ob∧ob.data= .seq (AG vs) n∧Am θ ⟨[],[]⟩ fn.dflts vs)
 keep:keepIn θ.K (.ref (θ.af f))=true
 nodup:fn.params.Nodup
 names:(fn.scope.names.map (·.1)).Nodup
 kinds:∀p∈fn.params,(p,Al.local)∈fn.scope.names∨(p,Ct)∈fn.scope.names
 dbg:("__debug__":Str)∉fn.scope.names.map (·.1)
 co:fn.scope.isCoroutine=false
 gen:fn.scope.isGenerator=false
 kind:fn.scope.kind= .function
theorem Nj {A:Around}{base h₀:Heap}{fl:List Env}{L:Addr}{m:Str→Option Value}{news:BS}{R:Result→Shared→Prop}{s:Shared}(hs:base.StaysIn h₀)(F:Fr h₀ L s.heap m)(N:News h₀ L s.heap news)(hA:A.frames=some fl)(ff:(hideAll s.heap (news.map (·.1))).FunFrames base fl):
  Fr h₀ L (hideAll s.heap (news.map (·.1))) m∧Below A base fl (hideAll s.heap (news.map (·.1)))∧h₀.StaysIn (hideAll s.heap (news.map (·.1)))∧
   ∀v s',LeaveK h₀ L m (hideAll s.heap (news.map (·.1))) R v s'→R (.ok (.ret v)) s':=by
 let env:Env:={scope:=⟨.function,[],false,false,[]⟩,locals:=L,globals:=Cb,cells:=[],qual:="",func:=none,code:=.none,frame:=some L,builtins:=builtinsNs}
 have B:Below {A with frames:=some []} h₀ [] h₀:=⟨rfl,fun zz zz e=>e,trivial⟩
 obtain⟨g1,g2,g3,g4⟩:=groundX (A:={A with frames:=some [env]}) (env:=env) (R:=R) B F N rfl rfl rfl
 exact⟨g1,⟨hA,fun b o e=>g3 b o (hs b o e),ff⟩,g3,g4⟩
theorem Z9 {prog:Cg}{w:World}{A:Around}{s:Shared}{base h₀:Heap}{fl:List Env}{L:Addr}{m:Str→Option Value}{news:BS}{R:Result→Shared→Prop}{name qual:Str}{params:Arguments}{body:List Stmt}{scope:Scope}{dV kV doc pm cdv ct:Value}{an:Option Addr}{fo:Obj}{f:Addr}{args:Args}{binds:List (Str×Value)}
  (hs:base.StaysIn h₀)(F:Fr h₀ L s.heap m)(N:News h₀ L s.heap news)(hlim:h₀.NoLimit)(hA:A.frames=some fl)(ff:(hideAll s.heap (news.map (·.1))).FunFrames base fl)
  (ho:s.heap.get? f=some fo)(hd:fo.data= .func (fnX name qual params body scope [] dV kV doc pm an cdv ct))(hcd:s.heap.CodeRec cdv qual)(hroom:A.depth<F0)
  (hbind:BindsTo s (fnX name qual params body scope [] dV kV doc pm an cdv ct) args binds)
  (hkind:∀n,∀x∈binds,scope.names.lookup x.1=some .local∨(scope.names.lookup x.1=some .cell∧((Br n scope.names []).lookup x.1).isSome=true))
  (hnd:((Br 0 scope.names []).map (·.1)).Nodup)
  (h:∀g L' h₁ tk cells,Fr h₀ L g m→Fr g L' h₁ (bindL (envOfC qual scope L' f cdv).kindOf binds fun zz=>none)→News g L' h₁ (cells++news)→
   CellsAre (bindC (envOfC qual scope L' f cdv).kindOf binds fun zz=>none) (Br (L'+1) scope.names []) cells→Below A base fl g→h₀.StaysIn g→(∀p∈news,p.1<L')→
   wpAny (model prog w) (A.deeper (envOfC qual scope L' f cdv)) (execs body (envOfC qual scope L' f cdv))
    (fun fl s'=>LeaveK h₀ L m g R (match fl with| .ret v=>v|_=>.none) s')
    (fun e s'=>wpAny (model prog w) (A.deeper (envOfC qual scope L' f cdv)) (leaving (envOfC qual scope L' f cdv) e) (fun zz s''=>R (.error e) s'') (fun e' s''=>R (.error e') s'') s') {s with heap:=h₁,toks:=tk})
  (hco:scope.isCoroutine=false)(hgen:scope.isGenerator=false)(hk:scope.kind= .function):Bb (model prog w) A (.call (.ref f) args) R s:=by
 obtain⟨FG,BG,st,lv⟩:=Nj (R:=R) hs F N hA ff
 refine codeAny_call_function hroom ho hd hco hgen rfl hcd (hbind _ _ _ _ ?_)
 refine wpAny_newFunctionEnv_cells hk (hkind _) fun env' he s' x=>?_
 subst he
 refine⟨(hlim.keeps F.keep).keeps x.toInCall.keep,codeAny_func ?_⟩
 obtain⟨h₁,tk,rfl,_⟩:=x.done
 have hk₁:=x.toInCall.keep
 refine AS (Cl.news (h₀:=s.heap) (AT _) fun n c hm=>⟨x.cell n c (lookup_of_mem_nodup (cellsFrom_names scope.names 0 (s.heap.objs.size+1) [] [] rfl▸hnd) hm),x.above n c hm⟩) fun cells NC Y=>?_
 refine Bi (h _ s.heap.objs.size h₁ tk cells FG ⟨x.toInCall.ns,fun b o e=>hk₁ b o (of_hideAll _ e),CI (hideAll_size _ _)⟩ (fun p hp=>?_) Y BG st (fun p hp=>Av (N p hp).1)) (fun fl s' hl=>lv _ _ hl) fun zz zz y=>y
 rcases BK.mp hp with hp|hp
 ·refine⟨(NC p hp).1,(NC p hp).2.1,?_⟩
  cases q:(hideAll s.heap (news.map (·.1))).get? p.1 with
  |none=>rfl
  |some o=>have:=of_hideAll _ q;rw[(NC p hp).2.2] at this;cases this
 ·exact⟨hk₁ _ _ (N p hp).1,Ah (Av (N p hp).1),hideAll_none _ (B9 hp)⟩
noncomputable abbrev CP (c:Cx)(env:Env)(g:Heap):Cx:=⟨⟨c.tp,env,g,c.J⟩,c.A.deeper env,env::c.outer,c.lv⟩
noncomputable def UI (c:Cx)(k:Kn)(loc:List (Str×V))(s:Shared)(K X:V→List O→Au)(o:Except V V×List O)(R:Result→Shared→Prop):Prop:=
 (∀k' v b hp h' tk,Y c.l o (K v hp)→B8 k k'→Aj c.fm k' ⟨loc,hp⟩ h'→Ag c.tp k' v b→R (.ok (.ret b)) {s with heap:=h',toks:=tk})∧
  ∀k' a e hp h' tk,Y c.l o (X a hp)→B8 k k'→D0 c.fm c.outer k' ⟨loc,hp⟩ h' a e→R (.error (.ref e)) {s with heap:=h',toks:=tk}
noncomputable def EE (c:Cx)(k₀:Kn)(code:Code)(f:HM):Prop:=
 ∀k st s K X o R,B8 k₀ k→Aj c.fm k st s.heap→Y c.l o (f st.heap K X)→UI c k st.loc s K X o R→Bb c.M c.A code R s
theorem ST {c:Cx}{k:Kn}{s:Shared}{loc:List (Str×V)}{K:V→St→Au}{X:V→St→Au}{o:Except V V×List O}{Q:Value→Shared→Prop}{E:Value→Shared→Prop}{R:Result→Shared→Prop}
  (HQ:En c (CV c) k s K o Q)(HE:FF c k s X o E)(hR:∀v s',Q v s'→R (.ok (.ret v)) s')(hE:∀e s',E e s'→R (.error e) s'):UI c k loc s (fun v h=>K v ⟨loc,h⟩) (fun x h=>X x ⟨loc,h⟩) o R:=
 ⟨fun k' v b hp h' tk P l R' hc=>hR _ _ (HQ k' v b ⟨loc,hp⟩ h' tk l R' hc P),fun k' a e hp h' tk P l R'=>hE _ _ (HE k' a ⟨loc,hp⟩ e h' tk l R' P)⟩
theorem EE.call {c:Cx}{k:Kn}{f:Value}{vs:List Value}{kv:List (Str×Value)}{m:HM}(h:EE c k (.call f ⟨vs,kv⟩) m):AV c k (CV c) (call f vs kv) (L6 m):=
 fun k₁ st s K X o Q E l R P HQ HE=>wpAny_call (h k₁ st s _ _ o _ l R P (ST HQ HE (fun zz zz z=>z) fun zz zz z=>z))
noncomputable def D0.out {c:Cx}{env:Env}{g:Heap}{k:Kn}{st:St}{h h':Heap}{a:V}{e:Addr}{m:Str→Option Value}{loc:List (Str×V)}(R:D0 ⟨c.tp,env,g,c.J⟩ (env::c.outer) k st h a e)(fl:El R.B c.outer e (.ref (c.ac R.j)) R.dx h')(u:h.UpToSlots h')
  (hg:c.h₀.StaysIn g)(F:Fr c.h₀ c.env.locals g m)(hl:Iv c.fm k m loc):D0 c.fm c.outer k ⟨loc,st.heap⟩ h' a e:=
 ⟨R.B,m,R.MO,R.j,R.fs,R.dx,R.es,R.n,R.base,fl,fun p hp=>⟨(R.rows p hp).1,fresh_of_stays hg (R.rows p hp).2⟩,R.nd,(Heap.UpToSlots.of_keeps hg).trans (R.up.trans u),(R.up.trans u).ns F.ns,F.above,hl,R.heap,R.isx,R.val,R.row,R.flds⟩
theorem OY {c:Cx}(G:BI c)(hroom:c.A.depth<F0){f:Nat}{fn:Fn}(F:UG c.tp f fn)(hfn:c.S.fns f=some fn){r:Fh}{d:Nat}
  (IH:∀env g k,BI (CP c env g)→Gp (CP c env g)→AV (CP c env g) k (CF c.tp) (execs fn.body env) (Ip r d fn))
  {k:Kn}{xs:List V}{vs:List Value}{kx:List (Str×V)}{kv:List (Str×Value)}(hv:Am c.tp k xs vs)(hk:CC c.tp k kx kv):EE c k (.call (.ref (c.af f)) ⟨vs,kv⟩) (Gc c.S r d f xs kx):=by
 intro k₁ st s KK XX o Q l R P HQ
 have hv:=hv.mono l
 have hk:=hk.mono l
 refine AB F.look fun q h=>?_
 have X:c.K.In s.heap:=G.X.keeps R.F.keep
 have P:Y c.l o (oB (c.S.fns f) fun fn=>oB (Jv fn xs kx) fun b=>Ip r d fn (entry c.S fn.scope b st.heap) (HV KK) (He XX)):=P
 rw[hfn] at P
 have P:Y c.l o (oB (Jv fn xs kx) fun b=>Ip r d fn (entry c.S fn.scope b st.heap) (HV KK) (He XX)):=P
 refine BX P fun bx hb P=>I5 hb fun hfit hb=>Dc hb fun hb=>?_
 refine AB (show ∃dv,Am c.tp k₁ fn.dflts dv∧∀(M:Model) (A:Around) (E:Value→Shared→Prop) (Q:Option (Array Value)→Shared→Prop),(∀o:Option (Array Value),(o.getD #[]).toList=dv→Q o s)→wpAny M A (seqItems? q.dV) Q E s from ?_) fun dv hd=>?_
 ·exact h.2.2.2.2.2.2.2.elim (fun z=>⟨[],by rw[z.2];rfl,fun M A E Q h=>by rw[z.1];exact AN (h none rfl)⟩) fun z=>CN z fun T ob n us z1 z2 z3 z4=>⟨us,z4.mono (B8.nil _),fun M A E Q h=>by rw[z1];exact wpAny_seqItems (X _ _ z2) z3 (h _ rfl)⟩
 have hbind:BindsTo s (q.fd fn) ⟨vs,kv⟩ (boundOf fn.params vs kv dv):=fun M A E Q hQ=>
  MT (fd:=q.fd fn) h.2.2.1 h.2.2.2.1 h.2.2.2.2.1 h.2.2.2.2.2.1 h.2.2.2.2.2.2.1 (fun h=>hd.2 _ _ _ _ h) (by rw[←CC.fits fn.params hv hk hd.1];exact hfit) hQ
 have hkws:=hb▸CC.bound fn.params hv hk hd.1
 have hbn:((boundOf fn.params vs kv dv).map (·.1)).Nodup:=J0 F.nodup _ _ _
 have hkinds:∀p∈boundOf fn.params vs kv dv,(p.1,Al.local)∈fn.scope.names∨(p.1,Ct)∈fn.scope.names:=fun p hp=>F.kinds _ (KA hp)
 generalize boundOf fn.params vs kv dv=bv at hbind hkws hbn hkinds
 have sub:=fun n=>MI F.names n [] EG (fun zz h=>nomatch h)
 refine Z9 (name:=q.name) (qual:=q.qual) (params:=q.params) (body:=fn.body) (scope:=fn.scope) (cdv:=q.cdv) (binds:=bv) G.stays R.F R.N G.nolim G.frames (G.ff _ _ _ R.F R.N) (X _ _ h.1) rfl (codeRec_of X h.2.1) hroom hbind
  (fun n x hx=>(hkinds x hx).imp (lookup_nodup F.names) fun h=>⟨lookup_nodup F.names h,AB (Mc fn.scope.names n [] h) fun zz hq=>by rw[lookup_nodup (sub n) hq];rfl⟩) (sub 0) (fun g L' h₁ tk cells Fg F₁ N₁ hcells B₁ st₁ hlt=>?_) F.co F.gen F.kind
 generalize henv:envOfC q.qual fn.scope L' (c.af f) q.cdv=env at F₁ hcells
 have ek:∀x,env.kindOf x=fn.scope.names.lookup x:=fun zz=>henv▸rfl
 have ec:env.cells=Br (L'+1) fn.scope.names []:=henv▸rfl
 have el:L'=env.locals:=henv▸rfl
 have F₁:Fr g env.locals h₁ _:=el▸F₁
 have N₁:News g env.locals h₁ _:=el▸N₁
 have ef:env.frame=some env.locals:=henv▸rfl
 have G':BI (CP c env g):=⟨G.top,henv▸F.kind,henv▸rfl,henv▸rfl,Df G.frames,B₁.stays,fun h m news F₂ N=>(groundX (R:=fun zz zz=>True) (s:={s with heap:=h}) (env:=env) B₁ F₂ N (Df G.frames) (henv▸rfl) (henv▸F.kind)).2.1.frames⟩
 have kind:=fun{x:Str} {z:Al} (hm:(x,z)∈fn.scope.names)=>(by rw[ek];exact lookup_nodup F.names hm:env.kindOf x=some z)
 refine AB (KV (θ:=c.tp) (J:=c.J) (g:=c.S.glob) (bx:=bx) (bv:=bv) (cm:=fun x=>bv.lookup x) (cells:=cells) (fun x u v zz h=>h) (names:=fn.scope.names) (L'+1) [] st.heap k₁.D R.heap.length fun x a hx hq zz=>?_) fun Dn e=>AB e fun Mn e=>?_
 ·refine AS (CellsAre.at hcells hq) fun ob h1 h2=>⟨ob,h1,h2.trans (congrArg Data.cell ?_)⟩
  show _=bv.lookup x
  rcases eb:bv.lookup x with _|v
  ·exact OA eb
  ·exact OB (by rw[kind hx];exact fun z=>nomatch z) hbn v eb
 have l2:B8 k₁ ⟨k₁.D++Dn,k₁.I⟩:=⟨fun i d h=>(Bz (AM.mp h).1).trans h,fun zz h=>h⟩
 have hR:Aj (CP c env g).fm ⟨k₁.D++Dn,k₁.I⟩ (entry c.S fn.scope bx st.heap) h₁:=by
  refine⟨_,R.MO++Mn,F₁,fun p hp=>?_,?_,fun x a hx=>?_,e.4 _ _ (hkws.mono l2) (R.heap.mono l2)⟩
  ·exact(BK.mp hp).elim (fun hp=>(BK.mp hp).elim (fun hp=>N₁ p (Ad _ (B7 _ hp))) fun hp=>N₁ p (B7 _ (e.1 p hp).1)) fun hp=>N₁ p (Ad _ (Ad _ hp))
  ·exact Eh (Ln ..) (HW e.2 R.nd fun q hq p hp=>Ah (Do (hlt p hp) (e.1 q hq).2))
  ·have db:∀z,(x,z)∈fn.scope.names→(x==("__debug__":Str))=false:=fun z hm=>beq_eq_false_iff_ne.mpr fun e=>F.dbg (e▸B9 (f:=(·.1)) hm)
   refine(e.5 x a hx).elim (fun z=>⟨db _ z.1,.inl ⟨kind z.1,?_⟩⟩) fun z=>z.elim (fun z=>⟨db _ z.1,.inr (.inl ⟨kind z.1,z.2,G.top.globSt x a z.2⟩)⟩) fun z=>⟨db _ z.1,.inr (.inr ⟨kind z.1,z.2.elim fun i y=>y.elim fun q y=>⟨i,q,0,y.1,?_,y.2.2⟩⟩)⟩
   ·rw[z.2,HA]
    exact(hkws.look x).elim (fun y=>by rw[y.1];exact⟨rfl,.inl rfl⟩) fun y=>BF y fun u v h1 h2 h3=>by rw[h1];exact⟨Hi h3,.inr ⟨v,O9 (kind z.1) hbn v h2,h3.mono l2⟩⟩
   ·show env.cells.lookup x=some q
    rw[ec];exact lookup_nodup (sub (L'+1)) y.2.1
 refine IH env g _ G' ⟨⟨c.outer,rfl⟩,ef⟩ _ _ _ (HV KK) (He XX) o _ _ (.refl _) hR P (fun k' fl flow st'' h' tk' l' R'' hcf P'=>?_) fun k' a st'' e h' tk' l' R'' P'=>S0 (s:={s with heap:=h',toks:=tk'}) (Df G.frames) ef R''.fly fun h3 f zz u=>HQ.2 k' a e st''.heap h3 tk' P' (l2.trans l') (R''.out f u st₁ Fg (R.loc.mono (l2.trans l')))
 refine leaveK_ R''.F R''.N fun F' N'=>?_
 have R4:Aj c.fm k' ⟨st.loc,st''.heap⟩ h':=⟨R.m,R''.MO,F',N',R''.nd,R.loc.mono (l2.trans l'),R''.heap⟩
 rcases fl with _|_
 case next=>rw[show flow= .next from hcf];exact HQ.1 k' .none _ _ h' tk' P' (l2.trans l') R4 rfl
 case ret v=>exact AS hcf fun w e hc=>by rw[e];exact HQ.1 k' v w _ h' tk' P' (l2.trans l') R4 hc
 all_goals exact P'.elim
section
open Builtin Builtin.ObjectAttr
set_option backward.match.sparseCases false in
noncomputable def GU (K:Frag)(C:Addr):Bool:=match K.lookup C with
 |some ⟨_,_,.cls cd,sl⟩=> !cd.hasDel&&(sl.toList[4]?).join==some (.builtin "Exception.__new__")&&IQ cd.mro&&cd.mro.contains (.ref C)&&cd.mro.contains (.type "Exception")&& !cd.mro.contains (.type "AttributeError")&& !cd.mro.contains (.type "NameError")&&
   specialIn K (.ref C) "__call__"==some (some (.builtin "type.__call__"))&&instIn K (.ref C) (.type "type")==some true&&typeIn K (.ref C)==some (.type "type")&&instIn K (.ref C) (.type "tuple")==some false&&cd.mro.contains (.type "BaseException")
 |_=>false
structure IZ (M:Model)(h:Heap)(C:Addr):Prop where
 obj:∃oc od cd sl,h.get? C=some ⟨oc,od,.cls cd,sl⟩∧cd.hasDel=false∧cd.mro.isEmpty=false
 made:Looks M h (Bind.madeBy (.ref C)) (some "Exception.__new__")
 base:Looks M h (Bind.staticBase (.ref C)) (.ref C)
 self:Looks M h (Eo (.ref C) (.ref C)) true
 exc:Looks M h (Eo (.ref C) (.type "Exception")) true
 noAttr:Looks M h (Eo (.ref C) (.type "AttributeError")) false
 noName:Looks M h (Eo (.ref C) (.type "NameError")) false
 call:Looks M h (specialOf (.ref C) "__call__") (some (.builtin "type.__call__"))
 typ:Looks M h (isInstance (.ref C) (.type "type")) true
 ty:Looks M h (isType (.ref C)) true
 metaT:Looks M h (typeOf (.ref C)) (.type "type")
 noTup:Looks M h (isInstance (.ref C) (.type "tuple")) false
 root:Looks M h (Eo (.ref C) (.type "BaseException")) true
theorem MJ {K:Frag}{M:Model}{h:Heap}(X:K.In h){C:Addr}(e:GU K C=true):IZ M h C:=by
 unfold GU at e
 rcases ho:K.lookup C with _|⟨oc,od,dt,sl⟩<;>rw[ho] at e
 ·exact(AI e).elim
 rcases dt with _|_|_|_|_|_|_|_|⟨cd⟩|_
 case cls=>
  simp only[BY,E8,beq_iff_eq] at e
  obtain⟨⟨⟨⟨⟨⟨⟨⟨⟨⟨⟨e1,e2⟩,e3⟩,e4⟩,e5⟩,e6⟩,e7⟩,e8⟩,e9⟩,e12⟩,e10⟩,e11⟩:=e
  have ne:=(Hs e3).2.2.2
  have hc:clsIn K C=some cd:=by unfold clsIn;rw[ho]
  have hm:Looks M h (mroOf (.ref C)) cd.mro:=(looks_clsIn X hc).andThen .now
  obtain⟨c,l,hl⟩:∃c l,cd.mro=c::l:=by cases q:cd.mro with|nil=>rw[q] at ne;cases ne|cons c l=>exact⟨c,l,rfl⟩
  have made:Looks M h (Bind.madeBy (.ref C)) (some "Exception.__new__"):=by
   intro A Q E s k q
   unfold Bind.madeBy
   refine AF (hm A _ E s k ?_)
   rw[hl,Co]
   refine AF (AF (AF (AF (wpAny_loadPart (k _ _ (X _ _ ho)) (AN ?_)))))
   dsimp only
   rw[←Array.getElem?_toList,e2]
   exact AN (AN (AN q))
  have sub:∀b r,cd.mro.contains b=r→Looks M h (Eo (.ref C) b) r:=fun b r hr=>looks_mroIn X (by unfold mroIn;rw[hc,Option.bind_some,if_neg (by rw[ne];decide),hr])
  refine⟨⟨oc,od,cd,sl,X _ _ ho,e1,ne⟩,made,?_,sub _ _ e4,sub _ _ e5,sub _ _ e6,sub _ _ e7,looks_specialIn X e8,looks_instIn X e9,?_,looks_typeIn X e12,looks_instIn X e10,sub _ _ e11⟩
  ·intro A Q E s k q
   unfold Bind.staticBase
   refine AF (hm A _ E s k ?_)
   rw[hl,Co]
   exact AF (AF (AF (made A _ E s k (AN (AN (AN q))))))
  ·intro A Q E s k q
   unfold isType
   exact AF (wpAny_load (k _ _ (X _ _ ho)) (AN q))
 all_goals exact(AI e).elim
section
variable {prog:Cg}{w:World}{A:Around}{C:Addr}{R:Result→Shared→Prop}{h:Heap}{g:Array GenState}{d:Drawn}{t:Nat}{os:OsState}
noncomputable def Ea (C t:Addr):Obj:={cls:=.ref C,data:=Js t}
theorem al {α β γ:Type}{P:α→β→γ→Prop}{a':α}{b':β}{c':γ}(H:P a' b' c'):∀a,a=a'→∀b,b=b'→∀c,c=c'→P a b c:=by intro a h1 b h2 c h3;subst h1 h2 h3;exact H
theorem JN {α:Type}{M:Model}{c:Prop}[Decidable c]{a b:Sem α}{s:Shared}{Q:α→Shared→Prop}{E:Value→Shared→Prop}(h:¬c)(H:wpAny M A b Q E s):wpAny M A (if c then a else b) Q E s:=by rw[if_neg h];exact H
theorem SJ {M:Model}{i B:String}{bm:List Value}(F:ExcBaseFacts B i "Exception.__init__" bm){rest:List Value}{s:Shared}{Q:Unit→Shared→Prop}{E:Value→Shared→Prop}
  (ty:Looks M s.heap (isType (.ref C)) true)(sub:Looks M s.heap (Eo (.ref C) (.type B)) true)(base:Looks M s.heap (Bind.staticBase (.ref C)) (.ref C))(made:Looks M s.heap (Bind.madeBy (.ref C)) (some i))(q:Q () s):
  wpAny M A (checkBuiltinCall i ⟨.ref C::rest,[]⟩) Q E s:=by
 have a1:=F.newKind
 have a2:=F.newSplit
 have a3:=F.newRow
 delta checkBuiltinCall
 generalize builtinKind i=a at a1 ⊢
 generalize splitId i=b at a2 ⊢
 generalize Manifest.signature? i=d at a3 ⊢
 revert a b d
 refine al ?_
 refine AF (ty.here ?_)
 refine AF (sub.here ?_)
 refine AF (base.here ?_)
 refine AF (made.here ?_)
 refine JN (by rw[bne_self_eq_false];exact AI) ?_
 refine AF (m:=Bind.printed B true _ _) (printed_name F.noStar ?_)
 refine AF (m:=Bind.printed B false _ _) (printed_name F.noStar ?_)
 exact wpAny_onRaise (AN q)
theorem Ts {rest:List Value}(Y:IZ (model prog w) h C)(hz:rest.length≤CK)
  (hq:R (.ok (.ret (.ref (h.objs.size+1)))) ⟨(h.push (HP rest 0)).push (Ea C h.objs.size),g,d,t,os⟩):
  Bb (model prog w) A (.call (.builtin "Exception.__new__") ⟨.ref C::rest,[]⟩) R ⟨h,g,d,t,os⟩:=by
 obtain⟨⟨oc,od,cd,sl,hC,e1,e4⟩,made,base,self,exc,na,nn,call,typ,ty,metaT,noTup,root⟩:=Y
 have F:=PySem.F.excBase_Exception
 refine codeAny_call_builtin_code (Code.quiet_builtin _ F.quiet) ?_
 refine SJ F ty exc base made ?_
 have hends:=F.ends
 have here:Looks (model prog w) h (Bind.madeHere "BaseException.__new__" (.ref C)) ():=by
  unfold Bind.madeHere
  refine base.andThen (made.andThen (Looks.of_pure ?_))
  rw[Option.map_some,F.canon,bne_self_eq_false];rfl
 refine codeAny_builtinAt F.entry ?_
 unfold EI.«BaseException.__new__»
 refine _root_.PySem.wpAt_bind (wpAt_owner rfl F.ends (wpAt_of_any ?_))
 rw[F.owner]
 refine AF (ty.here ?_)
 refine AF (exc.here ?_)
 refine AF (here.here ?_)
 refine AF (AF (na.here ?_))
 refine AF (nn.here ?_)
 refine AN ?_
 unfold newTuple
 refine AF (wpAny_newObj_type ?_ (by show rest.toArray.size≤CK;rw[Ay];exact hz))
 refine AF ?_
 refine AF ?_
 have hC':=BH (Ea C h.objs.size) (BH (HP rest 0) hC)
 unfold classHasDel
 refine wpAny_alloc (AF (AF (wpAny_load hC' (AN ?_))))
 rw[e1]
 refine AN (AN ?_)
 show R _ _
 rw[Heap.size_push]
 exact hq
theorem S4 {rest:List Value}{init:Value}(Y:IZ (model prog w) h C)(hz:rest.length≤CK)(hi:Looks (model prog w) h (typeLookup (.ref C) "__init__") (some init))
  (hb:∀self,Looks (model prog w) h (bindSpecial init self) (init,[self]))
  (hq:Bb (model prog w) (A.under (.builtin "type.__call__" ⟨.ref C::rest,[]⟩)) (.call init ⟨.ref (h.objs.size+1)::rest,[]⟩) (InitBack (h.objs.size+1) R) ⟨(h.push (HP rest 0)).push (Ea C h.objs.size),g,d,t,os⟩):
  Bb (model prog w) A (.call (.ref C) ⟨rest,[]⟩) R ⟨h,g,d,t,os⟩:=by
 have Y':=Y
 obtain⟨⟨oc,od,cd,sl,hC,e1,e4⟩,made,base,self,exc,na,nn,call,typ,ty,metaT,noTup,root⟩:=Y
 refine codeAny_of_tree ?_
 show wpAny _ _ (callAny (.ref C) _) _ _ _
 refine nd_load hC ?_
 show wpAny _ _ (callAny.viaDunder (.ref C) _) _ _ _
 unfold callAny.viaDunder
 refine AF (call.at ?_)
 dsimp only
 rw[tc_bind]
 refine AF (AN (AF (AN ?_)))
 refine AN (a:=Fin.again (.call (.builtin "type.__call__") ⟨.ref C::rest,[]⟩)) (And.intro rfl ?_)
 refine codeAny_call_builtin_at (Code.quiet_builtin _ (by decide+kernel)) entry_typeCall (check_slot tc_kind tc_split typ (tc_args _ _ _) ?_)
 have hm:Looks (model prog w) h (mroOf (.ref C)) cd.mro:=((Looks.ld (part:=none) hC).andThen .now).andThen .now
 have k:∀b o,h.get? b=some o→((h.push (HP rest 0)).push (Ea C h.objs.size)).get? b=some o:=fun b o e=>BH _ (BH _ e)
 have hx:((h.push (HP rest 0)).push (Ea C h.objs.size)).get? (h.objs.size+1)=some (Ea C h.objs.size):=by heap_get
 have t1:Looks (model prog w) ((h.push (HP rest 0)).push (Ea C h.objs.size)) (typeOf (.ref (h.objs.size+1))) (.ref C):=(Looks.ld hx).andThen .now
 refine AF (hm.here ?_)
 refine JN (by rw[e4];exact AI) ?_
 refine AF (made.here ?_)
 refine AF (AN ?_)
 refine AF (BB (wpAny_call ?_))
 refine Ts Y' hz ?_
 refine AF (Looks.here (t1.andThen (self.keeps k)) ?_)
 refine AF (BB ?_)
 refine AF (Looks.here (t1.andThen (hi.keeps k)) ?_)
 refine BB ?_
 refine AF (((hb _).keeps k).here ?_)
 refine AF (wpAny_call ?_)
 refine codeAny_mono hq fun r s' z=>?_
 rcases r with e|(v|_|_|_)<;>first|exact z|exact z.elim|skip
 obtain⟨rfl,z⟩:=z
 exact AN (AN z)
theorem Q8 {s:Shared}{h₀:Heap}{L:Addr}{m:Str→Option Value}{news:List (Addr×Obj)}{K:Frag}{rest:List Value}{fI:Addr}(F:Fr h₀ L s.heap m)(N:News h₀ L s.heap news)(X:K.In s.heap)(hm:GU K C=true)(hz:rest.length≤CK)
  (hi:findIn K (.ref C) "__init__"=some (some (.ref fI)))(hf:typeIn K (.ref fI)=some (.type "function"))
  (h:∀x dx h',Fr h₀ L h' m→News h₀ L h' ((x,Ea C dx)::(dx,HP rest 0)::news)→(∀p∈news,p.1<dx)→dx<x→
   Bb (model prog w) (A.under (.builtin "type.__call__" ⟨.ref C::rest,[]⟩)) (.call (.ref fI) ⟨.ref x::rest,[]⟩) (InitBack x R) {s with heap:=h'}):
  Bb (model prog w) A (.call (.ref C) ⟨rest,[]⟩) R s:=by
 obtain⟨hh,g,d,t,os⟩:=s
 refine S4 (MJ X hm) hz (looks_findIn X hi) (fun self=>bind_fn X self hf) (h _ hh.objs.size _ ((F.push _).push _) ?_ (fun p hp=>Av (N p hp).1) (Nat.lt_succ_self _))
 have:=(N.push F (HP rest 0)).push (F.push _) (Ea C hh.objs.size)
 rwa [Heap.size_push] at this
end
end
structure LY (θ:Tp)(k:Nat)(q:FH):Prop where
 makes:Ci θ.S k=false→makesIn θ.K (θ.ac k)=true
 exc:Ci θ.S k=true→GU θ.K (θ.ac k)=true
 init:findIn θ.K (.ref (θ.ac k)) "__init__"=some (some (.ref (θ.af q.init)))
 fn:typeIn θ.K (.ref (θ.af q.init))=some (.type "function")
 keep:keepIn θ.K (.ref (θ.ac k))=true
noncomputable abbrev ID (c:Cx):Cx:=⟨c.fm,{c.A with depth:=c.A.depth+1,units:=c.A.units+1},c.outer,c.lv⟩
theorem Kh (A:Around)(C:Addr)(vs:List Value)(kv:List (Str×Value)):A.under (.builtin "type.__call__" ⟨.ref C::vs,kv⟩)={A with depth:=A.depth+1,units:=A.units+1}:=by
 obtain⟨hd,dp,fr,gd,un⟩:=A
 rcases gd with _|_<;>rcases fr with _|_<;>rfl
theorem BI.under {c:Cx}(G:BI c):BI (ID c):=⟨G.top,G.kind,G.gl,G.bi,G.frames,G.stays,G.ff⟩
theorem RQ (p1 L p2 J I:BS):C9 ((p1++([]++p2))++(J++(L++I))) ((p1++(L++p2))++(J++I)):=by
 simp only[AC,C7]
 exact D2 p1 ((D2 p2 (B4 J L I)).trans (B4 p2 L (J++I)))
theorem Q6 {φ:Fm}{k:Kn}{st:St}{h:Heap}(R:Aj φ k st h){i j:Nat}{fs:List (Str×V)}(e:st.heap[i]? =some (.inst j fs)){d:DE}(hd:k.D[i]? =some (some d)){G:Prop}
  (K:∀L o1 dx es n,Aj φ ⟨k.D,L++k.I⟩ ⟨st.loc,st.heap.set i .dead⟩ h→(d.1,o1)∈L→(dx,dictOf es n)∈L→QP φ.tp j o1 dx→EV φ.tp ⟨k.D,L++k.I⟩ fs es→G):G:=by
 refine CN (R.heap.split e) fun d' p1 L p2 e1 e2 e3 H=>?_
 refine Fu (e3.body rfl) fun d₁ hh a ob e4 e5 e6=>?_
 subst e4
 cases AH (AH (hd.symm.trans e1))
 refine AS e6.1 fun o1 g1 g2=>Dl e6.2 fun es n h1 h2=>?_
 have pm:=RQ p1 L p2 φ.J k.I
 rw[←e2] at pm
 have z:=H .dead (some d) [] rfl
 rw[La hd] at z
 refine K L o1 a es n ⟨R.m,_,R.F,fun p hp=>R.N p (pm.mem_iff.mp hp),Eh pm R.nd,R.loc.mono (B8.more L),z.mono (B8.more L)⟩ ?_ ?_ g2 (h2.mono (B8.more L))
 ·rw[e5,g1];exact .head _
 ·rw[e5,g1,h1];exact .tail _ (.head _)
theorem Rt {φ:Fm}{k:Kn}{st:St}{h:Heap}(R:Aj φ k st h){i j:Nat}{fs:List (Str×V)}(e:st.heap[i]? =some (.inst j fs)){d:DE}(hd:k.D[i]? =some (some d)){G:Prop}
  (K:∀L,Aj φ ⟨k.D,L++k.I⟩ ⟨st.loc,st.heap.set i .dead⟩ h→Ag φ.tp ⟨k.D,L++k.I⟩ (.rcd j fs) (.ref d.1)→G):G:=
 Q6 R e hd fun L o1 dx es n R' m1 m2 I F=>K L R' ⟨d.1,dx,es,n,⟨o1,B7 _ m1,I.1⟩,B7 _ m2,F,rfl⟩
theorem SH {c:Cx}(G:BI c){j:Nat}{q:FH}(M:LY c.tp j q)(hq:c.S.cls j=some q){d:Nat}
  {k:Kn}{xs:List V}{vs:List Value}{kx:List (Str×V)}{kv:List (Str×Value)}
  (IH:∀k' i v,B8 k k'→Ag c.tp k' (.obj i) v→EE (ID c) k' (.call (.ref (c.af q.init)) ⟨v::vs,kv⟩) (ER d q.init (.obj i::xs) kx)):
  EE c k (.call (.ref (c.ac j)) ⟨vs,kv⟩) (ZS c.S d j xs kx):=by
 intro k₁ st s KK XX o Q l R P HQ
 have X:c.K.In s.heap:=G.X.keeps R.F.keep
 have P:Y c.l o (oB (c.S.cls j) _):=P
 rw[hq] at P
 have hE:∀k' a e hp h' tk,Y c.l o (XX a hp)→B8 k₁ k'→D0 c.fm c.outer k' ⟨st.loc,hp⟩ h' a e→Q (.error (.ref e)) {s with heap:=h',toks:=tk}:=HQ.2
 have P:Y c.l o (match q.kind with
  | .self=>MV st.heap 0 fun o=>oB (Rg o) fun zz=>ER d q.init (.obj 0::xs) kx (st.heap.set 0 (.inst j [])) (fun u h=>bif IM u then KK (.obj 0) h else .none) XX
  | .rcd=>ER d q.init (.obj st.heap.length::xs) kx (st.heap++[.inst j []]) (fun u h'=>bif IM u then Za st.heap.length h' KK else .none) XX
  | .exc=>.none):=P
 have hx:Ci c.S j=false:=by
  unfold Ci;rw[hq]
  show(match q.kind with
   | .exc=>true
   |_=>false)=false
  revert P
  rcases q.kind with _|_<;>first|exact fun zz=>rfl|exact fun P=>P.elim
 refine make_K R.F R.N X (M.makes hx) M.init M.fn fun x dx h' F' N' hlt hxd=>?_
 rw[Kh]
 have hn:(([(x,instObj (c.ac j) dx),(dx,dictOf [] 0)]:BS).map (·.1)).Nodup:=by
  simp only[At,List.map_nil,Bw,AY,Ap,not_false_eq_true,EG,and_true]
  exact Bh hxd
 have hf:∀q∈([(x,instObj (c.ac j) dx),(dx,dictOf [] 0)]:BS),∀p∈R.MO++(c.J++k₁.I),p.1≠q.1:=fun q hq p hp=>(AU.mp hq).elim (fun e=>by rw[e];exact Ah (Do (hlt p hp) hxd)) fun hq=>by rw[AY.mp hq];exact Ah (hlt p hp)
 have hb:∀k',J2 c.tp c.J k' (.inst j []) (some (x,dx)) [(x,instObj (c.ac j) dx),(dx,dictOf [] 0)]:=fun k'=>⟨(x,dx),[(x,instObj (c.ac j) dx)],dx,_,rfl,rfl,⟨_,rfl,⟨rfl,rfl,rfl⟩,fun z=>by rw[hx] at z;cases z⟩,[],0,rfl,rfl⟩
 revert P
 cases q.kind with
 |exc=>exact fun P=>P.elim
 |rcd=>
  refine fun P=>?_
  refine IH ⟨k₁.D++[some (x,dx)],k₁.I⟩ st.heap.length (.ref x) (l.trans (B8.app _)) (R.newAt (x,dx)) _ ⟨st.loc,st.heap++[.inst j []]⟩ {s with heap:=h'} _ _ o _ (.refl _) (R.push F' N' (hb _) hn hf) P ⟨fun k' v b hp h'' tk P l' R' hc=>?_,fun k' a e hp h'' tk P l' R'=>hE k' a e hp h'' tk P ((B8.app _).trans l') R'⟩
  refine JU P fun hv P=>L8 hv fun z=>?_
  subst z
  refine⟨hc,Fz P fun ob e1 P=>BX P fun p e2 P=>TR e2 fun z=>?_⟩
  subst z
  exact Rt (d:=(x,dx)) R' e1 (l'.1 _ _ (by rw[R.heap.length];simp)) fun L R2 hc2=>HQ.1 _ (.rcd p.1 p.2) _ _ h'' tk P (((B8.app _).trans l').trans (B8.more L)) R2 hc2
 |self=>
  refine fun P=>Fz P fun ob e1 P=>BX P fun zz e2 P=>?_
  have e1:st.heap[0]? =some .void:=by rw[e1];rcases ob with _|_<;>first|rfl|exact AP e2
  refine CN (R.heap.split e1) fun d' p1 L p2 g1 g2 g3 H=>?_
  have g3:d'=none∧L=[]:=g3
  rw[g3.1] at g1
  rw[g3.2] at g2
  have l2:B8 k₁ ⟨k₁.D.set 0 (some (x,dx)),k₁.I⟩:=by
   refine⟨fun i d e=>?_,fun zz h=>h⟩
   rw[CJ]
   by_cases z:0=i
   ·subst z;rw[g1] at e;cases e
   ·rw[if_neg z];exact e
  have pm:C9 ((p1++([(x,instObj (c.ac j) dx),(dx,dictOf [] 0)]++p2))++(c.J++k₁.I)) ([(x,instObj (c.ac j) dx),(dx,dictOf [] 0)]++(R.MO++(c.J++k₁.I))):=by
   rw[g2]
   exact(C9.append_right _ (B4 p1 _ p2)).trans (by simp)
  refine IH ⟨k₁.D.set 0 (some (x,dx)),k₁.I⟩ 0 (.ref x) (l.trans l2) ⟨(x,dx),?_,rfl⟩ _ ⟨st.loc,st.heap.set 0 (.inst j [])⟩ {s with heap:=h'} _ _ o _ (.refl _) ⟨R.m,_,F',fun p hp=>N' p (pm.mem_iff.mp hp),Eh pm (HW hn R.nd hf),R.loc.mono l2,(H (.inst j []) (some (x,dx)) _ (hb _)).mono l2⟩ P ⟨fun k' v b hp h'' tk P l' R' hc=>?_,fun k' a e hp h'' tk P l' R'=>hE k' a e hp h'' tk P (l2.trans l') R'⟩
  ·show(k₁.D.set 0 (some (x,dx)))[0]? =_
   rw[CJ,if_pos rfl,if_pos (AM.mp g1).1]
  refine JU P fun hv P=>L8 hv fun z=>?_
  subst z
  refine⟨hc,HQ.1 _ (.obj 0) _ _ h'' tk P (l2.trans l') R' ⟨(x,dx),l'.1 _ _ ?_,rfl⟩⟩
  show(k₁.D.set 0 (some (x,dx)))[0]? =_
  rw[CJ,if_pos rfl,if_pos (AM.mp g1).1]
theorem Wn (p1 p2 J I:BS)(x y:Addr×Obj):C9 ((p1++(([x]++[y])++p2))++(J++I)) (x::((p1++([]++p2))++(J++([y]++I)))):=by
 refine(RQ p1 ([x]++[y]) p2 J I).symm.trans ?_
 have z:=List.perm_middle (a:=x) (l₁:=(p1++([]++p2))++J) (l₂:=y::I)
 rw[AC (p1++([]++p2)),AC (p1++([]++p2))] at z
 exact z
theorem Q7 {c:Cx}(G:BI c){k:Kn}{st:St}{h:Heap}(R:Aj c.fm k st h){i j:Nat}{fs:List (Str×V)}(e:st.heap[i]? =some (.inst j fs)){d:DE}(hd:k.D[i]? =some (some d))(hx:Ci c.S j=true){Z:Prop}
  (K:∀I',D0 c.fm c.outer ⟨k.D,I'++k.I⟩ ⟨st.loc,st.heap.set i .dead⟩ h (.rcd j fs) d.1→Z):Z:=by
 refine CN (R.heap.split e) fun d' p1 L p2 e1 e2 e3 H=>?_
 refine Fu (e3.body rfl) fun d₁ hh a ob e4 e5 e6=>?_
 subst e4
 cases AH (AH (hd.symm.trans e1))
 refine AS e6.1 fun o1 g1 g2=>Dl e6.2 fun es n h1 h2=>?_
 subst g1 h1
 have z:=H .dead (some d) [] rfl
 rw[La hd] at z
 have pm:=Wn p1 p2 c.J k.I (d.1,o1) (a,dictOf es n)
 rw[←e5,←e2] at pm
 have nd:=Eh pm.symm R.nd
 have nd':=(Bw.mp nd)
 have me:=R.N (d.1,o1) (pm.mem_iff.mpr (.head _))
 have ff:=G.ff _ _ _ R.F R.N
 have frs:∀b∈c.outer.filterMap (·.frame),c.base.get? b=none∧b∉(R.MO++(c.J++k.I)).map (·.1):=fun b hb=>⟨(ff.mem hb).1,fun hm=>by
  obtain⟨_,o,ho,_⟩:=ff.mem hb
  rw[hideAll_none _ hm] at ho;cases ho⟩
 have ff':h.FunFrames c.base c.outer:=ff.of_keeps fun b o hb zz=>⟨o,of_hideAll _ hb,rfl⟩
 have fresh:∀p∈R.MO++(c.J++k.I),c.base.get? p.1=none:=fun p hp=>fresh_of_stays G.stays (R.N p hp).2.2
 obtain⟨t,ht⟩:=g2.2 hx
 refine K [(a,dictOf es n)] ⟨hideAll h (d.1::c.outer.filterMap (·.frame)),R.m,_,j,fs,a,es,n,fun b o hb=>?_,⟨fun b o hb=>of_hideAll _ hb,hideAll_none _ (.head _),funFrames_hide ff' fun env he b hb=>.tail _ (List.mem_filterMap.mpr ⟨env,he,hb⟩),o1,_,me.1,g2.1.1,g2.1.2.1,ht,.inl rfl⟩,fun p hp=>⟨?_,?_⟩,nd'.2,.of_keeps R.F.keep,R.F.ns,R.F.above,R.loc.mono (B8.more _),z.mono (B8.more _),hx,rfl,.head _,h2.mono (B8.more _)⟩
 ·refine hideAll_get _ (R.F.keep _ _ (G.stays _ _ hb)) fun hm=>?_
  rcases AU.mp hm with rfl|hm
  ·rw[fresh _ (pm.mem_iff.mpr (.head _))] at hb;cases hb
  ·rw[(frs _ hm).1] at hb;cases hb
 ·have hp':=pm.mem_iff.mpr (.tail _ hp)
  refine hideAll_get _ (R.N p hp').1 fun hm=>?_
  rcases AU.mp hm with e|hm
  ·exact nd'.1 (e▸B9 (f:=(·.1)) hp)
  ·exact(frs _ hm).2 (B9 (f:=(·.1)) hp')
 ·exact(R.N p (pm.mem_iff.mpr (.tail _ hp))).2.2
theorem Tw {c:Cx}(G:BI c){j:Nat}{q:FH}(M:LY c.tp j q)(hq:c.S.cls j=some q){d:Nat}
  {k:Kn}{xs:List V}{vs:List Value}(hz:vs.length≤CK)
  (IH:∀k' i v,B8 k k'→Ag c.tp k' (.obj i) v→EE (ID c) k' (.call (.ref (c.af q.init)) ⟨v::vs,[]⟩) (ER d q.init (.obj i::xs) []))
  {k₁:Kn}{st:St}{s:Shared}{KK XX:V→List O→Au}{o:Except V V×List O}{R:Result→Shared→Prop}(l:B8 k k₁)(Q:Aj c.fm k₁ st s.heap)(P:Y c.l o (Q9 c.S d j xs st.heap KK XX))
  (H:∀k' a e hp h' tk,B8 k₁ k'→D0 c.fm c.outer k' ⟨st.loc,hp⟩ h' a e→Y c.l o (XX a hp)→R (.ok (.ret (.ref e))) {s with heap:=h',toks:=tk}):
  Bb c.M c.A (.call (.ref (c.ac j)) ⟨vs,[]⟩) R s:=by
 have X:c.K.In s.heap:=G.X.keeps Q.F.keep
 have P:Y c.l o (oB (c.S.cls j) _):=P
 rw[hq] at P
 have P:Y c.l o (match q.kind with
  | .exc=>ER d q.init (.obj st.heap.length::xs) [] (st.heap++[.exc j]) (fun u h'=>bif IM u then Tn j st.heap.length h' XX else .none) (fun zz zz=>.none)
  |_=>.none):=P
 have hx:Ci c.S j=true:=by
  unfold Ci;rw[hq]
  show(match q.kind with
   | .exc=>true
   |_=>false)=true
  revert P
  rcases q.kind with _|_<;>first|exact fun zz=>rfl|exact fun P=>P.elim
 have P:Y c.l o (ER d q.init (.obj st.heap.length::xs) [] (st.heap++[.exc j]) (fun u h'=>bif IM u then Tn j st.heap.length h' XX else .none) (fun zz zz=>.none)):=by
  revert P
  rcases q.kind with _|_<;>first|exact id|exact fun P=>P.elim
 refine Q8 Q.F Q.N X (M.exc hx) hz M.init M.fn fun x dx h' F' N' hlt hxd=>?_
 rw[Kh]
 have N2:News c.h₀ c.env.locals h' ((x,Ea (c.ac j) dx)::(Q.MO++(c.J++k₁.I))):=fun p hp=>(AU.mp hp).elim (fun e=>e▸N' _ (.head _)) fun hp=>N' _ (.tail _ (.tail _ hp))
 have sep:∀q∈[(x,Ea (c.ac j) dx)],∀p∈Q.MO++(c.J++k₁.I),p.1≠q.1:=fun q hq p hp=>by rw[AY.mp hq];exact Ah (Do (hlt p hp) hxd)
 refine IH ⟨k₁.D++[some (x,0)],k₁.I⟩ st.heap.length (.ref x) (l.trans (B8.app _)) (Q.newAt (x,0)) _ ⟨st.loc,st.heap++[.exc j]⟩ {s with heap:=h'} _ _ o _ (.refl _) (Q.push (L:=[(x,Ea (c.ac j) dx)]) (o:=.exc j) (d:=some (x,0)) F' N2 ⟨(x,0),[],x,_,rfl,rfl,rfl,rfl,⟨rfl,hx⟩,rfl,dx,rfl⟩ (EY ..) sep) P ⟨fun k' v b hp h'' tk P l' R' hc=>?_,fun k' a e hp h'' tk P l' R'=>?_⟩
 rotate_left
 ·exact False.elim P
 refine JU P fun hv P=>L8 hv fun z=>?_
 subst z
 refine⟨hc,Fz P fun ob e1 P=>BX P fun p e2 P=>TR e2 fun z=>JU P fun hj P2=>?_⟩
 subst z
 exact Q7 G (st:=⟨st.loc,hp⟩) R' e1 (d:=(x,0)) (l'.1 _ _ (by rw[Q.heap.length];simp)) (by rw[DY hj];exact hx) fun I' R2=>H _ _ _ _ _ _ (((B8.app _).trans l').trans (B8.more I')) R2 P2
structure BL (c:Cx)(d:Nat):Prop where
 g:BI c
 u:c.A.units+8 * d+20≤cLine
 p:c.A.depth+2 * d≤900
 n:nz d=true→c.A.handled=none
 t:d<GI∨(d=GI∧c.h₀=c.base)
structure Dq (c:Cx)(d:Nat):Prop where
 g:BI c
 u:c.A.units+8 * d+19≤cLine
 p:c.A.depth+2 * d≤901
 n:nz d=true→c.A.handled=none
 t:d≤GI
theorem BL.one {c:Cx}{d:Nat}(h:BL c d):Dq c d:=⟨h.1,by have:=h.2;lia,by have:=h.3;lia,h.4,h.5.elim Bu fun z=>CI z.1⟩
theorem BL.hu {c:Cx}{d:Nat}(h:BL c d):c.A.units+4<cLine:=by have:=h.2;lia
theorem BL.under {c:Cx}{d:Nat}(h:BL c d):Dq (ID c) d:=⟨h.1.under,by have:=h.2;show c.A.units+1+8 * d+19≤_;lia,by have:=h.3;show c.A.depth+1+2 * d≤_;lia,h.4,h.5.elim Bu fun z=>CI z.1⟩
structure E0 (θ:Tp):Prop where
 sta:G4 θ
 cls:Jz θ
 isi:Mu θ
 fn:∀f fn,θ.S.fns f=some fn→fn.sup=none→UG θ f fn
 keep:∀f,keepIn θ.K (.ref (θ.af f))=true
 keepc:∀k,keepIn θ.K (.ref (θ.ac k))=true
 make:∀k q,θ.S.cls k=some q→LY θ k q
noncomputable def Jb (c:Cx)(d:Nat):Prop:=∀f k xs vs kx kv,Am c.tp k xs vs→CC c.tp k kx kv→EE c k (.call (.ref (c.af f)) ⟨vs,kv⟩) (ER d f xs kx)
noncomputable def Jc (c:Cx)(k:Kn):Je→Value→List Value→Prop
 | .fn f pre,v,ws=>v= .ref (c.af f)∧Am c.tp k pre ws
 | .cls j,v,ws=>v= .ref (c.ac j)∧ws=[]
 | .bi n,v,ws=>v= .builtin n∧ws=[]
 | .ty n,v,ws=>v= .type n∧ws=[]
 | .lm n i,v,ws=>v= .builtin n∧Am c.tp k [.obj i] ws
 | .join s,v,ws=>v= .builtin "str.join"∧Am c.tp k [.str s] ws
theorem Jc.mono {c:Cx}{k k':Kn}(e:B8 k k'){q:Je}{v:Value}{ws:List Value}(h:Jc c k q v ws):Jc c k' q v ws:=by
 rcases q with⟨f,pre⟩|_|_|_|⟨n,i⟩|⟨s⟩
 case fn=>exact⟨h.1,h.2.mono e⟩
 case lm=>exact⟨h.1,h.2.mono e⟩
 case join=>exact⟨h.1,h.2.mono e⟩
 all_goals exact h
theorem CC.nil {θ:Tp}{k:Kn}{kx:List (Str×V)}{kv:List (Str×Value)}(h:CC θ k kx kv)(e:kx.isEmpty=true):kv=[]:=by
 rcases kx with _|_
 ·exact h
 ·cases e
section
variable {c:Cx}{k:Kn}
theorem RB (T:E0 c.tp){d:Nat}(G:BL c d)(IH:∀c' d',c'.tp=c.tp→c'.lv=c.lv→Dq c' d'→Jb c' d'){q:Je}{f:Value}{ws:List Value}(hq:Jc c k q f ws)
  {xs:List V}{vs:List Value}{kx:List (Str×V)}{kv:List (Str×Value)}(hv:Am c.tp k xs vs)(hk:CC c.tp k kx kv):AV c k (CV c) (call f (ws++vs) kv) (LS c.S d q xs kx):=by
 cases q with
 |fn f pre=>exact hq.1▸(IH c d rfl rfl G.one f k _ _ _ _ (hv.append hq.2) hk).call
 |cls j=>
  rw[hq.1,hq.2]
  refine fun k₁ st s K X o Q E l R P HQ HE=>?_
  refine AB (show ∃q,c.S.cls j=some q from BX P fun q e zz=>⟨q,e⟩) fun q e=>?_
  exact(SH (k:=k) G.1 (T.make j q e) e fun k' i v l hi=>IH (ID c) d rfl rfl G.under q.init k' _ _ _ _ ⟨v,_,hi,hv.mono l,rfl⟩ (hk.mono l)).call k₁ st s K X o Q E l R P HQ HE
 |bi n=>exact .chk fun e=>have e:=AJ.mp e;by rw[hq.1,hq.2,hk.nil e.2];exact WV G.1 (G.4 e.1) T.isi T.sta hv
 |ty n=>exact .chk fun e=>have e:=AJ.mp e;by rw[hq.1,hq.2,hk.nil e.2];exact WT G.1 (G.4 e.1) hv
 |lm n i=>exact .chk fun e=>by rw[hq.1,hk.nil e];exact IU (P:=fun ws=>AV c k (CV c) (call (.builtin n) (ws++vs) []) (Ui n i xs)) hq.2 fun x hx=>Qy hx hv
 |join s=>exact .chk fun e=>by rw[hq.1,hk.nil e];exact IU (P:=fun ws=>AV c k (CV c) (call (.builtin "str.join") (ws++vs) []) (Mi s xs)) hq.2 fun x hx=>AB (show ∃t,x= .str s t from hx) fun t e=>by rw[e];exact Sy hv
theorem Fp {e:Expr}(h:noStar e=true)(rest:List Expr)(env:Env):D6 (e::rest) env=(false,eval e env)::D6 rest env:=by
 rcases e with _|_<;>first|rfl|cases h
theorem MC {pos:Pos}{env:Env}(as:List Expr):as.all noStar=true→(backTo pos (D6 as env)).any (·.1)=false:=by
 induction as with
 |nil=>exact fun zz=>rfl
 |cons e es ih=>
  intro h
  rw[Dv,BY] at h
  rw[Fp h.1]
  exact ih h.2
theorem ML {pos:Pos}{env:Env}(ks:List Keyword):ks.all Ug=true→(D8 pos (C5 ks env)).all (·.1.isSome)=true∧(D8 pos (C5 ks env)).any (·.1.isNone)=false:=by
 induction ks with
 |nil=>exact fun zz=>⟨rfl,rfl⟩
 |cons q ks ih=>
  intro h
  rw[Dv,BY] at h
  rcases q with⟨a,e,p⟩
  ·
   rcases a with _|n
   ·exact(AI h.1).elim
   ·exact ih h.2
section
variable {r:Fh}{d:Nat}(ev:∀k e,AV c k (CV c) (eval e c.env) (r.ev d e))
include ev
noncomputable abbrev bQ (c:Cx)(k:Kn)(a:List V)(v:List Value):Prop:=Am c.tp k a v
theorem Ll {pos:Pos}(es:List Expr):∀{k:Kn},AV c k (bQ c) (spliced (backTo pos (D6 es c.env))) (IR r d es):=by
 induction es with
 |nil=>exact .pure fun zz zz=>rfl
 |cons e es ih=>
  refine .chk fun h=>?_
  rw[Fp h]
  exact .bind (ev _ e) fun k' a v l hv=>.via [v] (fun Q E s h=>AN h) (.bind (.hold ih) fun k'' as vs l' hvs=>.pure fun k3 l3=>⟨v,vs,(hv.mono l').mono l3,hvs.mono l3,rfl⟩)
theorem T7 {pos:Pos}(ks:List Keyword):∀{k:Kn},AV c k (fun k (a:List (Str×V)) (vs:List Value)=>CC c.tp k a (((D8 pos (C5 ks c.env)).filterMap (·.1)).zip vs)) (evalAll ((D8 pos (C5 ks c.env)).map (·.2))) (Il r d ks):=by
 induction ks with
 |nil=>exact .pure fun zz zz=>rfl
 |cons q ks ih=>
  rcases q with⟨a,e,p⟩
  ·
   rcases a with _|n
   ·exact .look fun zz e=>AP e
   ·
    intro k
    show AV c k (fun k (a:List (Str×V)) (vs:List Value)=>CC c.tp k a ((n::(D8 pos (C5 ks c.env)).filterMap (·.1)).zip vs)) (evalAll ((do let v ←eval e c.env;Cp pos;Be v)::(D8 pos (C5 ks c.env)).map (·.2))) ((r.ev d e).bind fun v=>(Il r d ks).bind fun vs=>.pure ((n,v)::vs))
    rw[evalAll]
    exact .bind (m:=r.ev d e) (C:=CV c) (.bind (m:=r.ev d e) (ev _ e) (g:=.pure) fun k' a v l hv=>.stand (.pure fun k3 l3=>hv.mono l3)) fun k' a v l hv=>.bind (.hold ih) fun k'' as vs l' hvs=>.pure fun k3 l3=>⟨v,_,(hv.mono l').mono l3,hvs.mono l3,rfl⟩
theorem K9 {γ:Type}{pos:Pos}{f:Value}{first:List Value}{as:List Expr}{ks:List Keyword}(hp:Hn as ks=true){m:List V→List (Str×V)→M γ}
  (hkeep:∀h,c.K.In h→∃q,(q=Keeper.frame∨q=Keeper.machine∨q=FK)∧Looks c.M h (keeperOf f) q)(G:BI c){k₁:Kn}{st:St}{s:Shared}{K:γ→St→Au}{X:V→St→Au}{o:Except V V×List O}{Q:Value→Shared→Prop}{E:Value→Shared→Prop}
  (R:Aj c.fm k₁ st s.heap)(P:Y c.l o (((IR r d as).bind fun vs=>(Il r d ks).bind fun kvs=>m vs kvs) st K X))(HE:FF c k₁ s X o E)
  (h:∀k' xs vs kx kv st' h' tk,B8 k₁ k'→Aj c.fm k' st' h'→Am c.tp k' xs vs→CC c.tp k' kx kv→Y c.l o (m xs kx st' K X)→wpAny c.M c.A (call f (first++vs) kv) Q E {s with heap:=h',toks:=tk}):
  wpAny c.M c.A (callWith pos f first (backTo pos (D6 as c.env)) (D8 pos (C5 ks c.env))) Q E s:=by
 have hp:=AJ.mp hp
 have h3:=ML (pos:=pos) (env:=c.env) ks hp.2
 refine callWith_of (P:=fun h=>c.K.In h) (by rw[MC as hp.1,h3.2];rfl) (fun h X=>hkeep h X) ?_
 have step2:∀{k' xs vs st' h' tk},B8 k₁ k'→Aj c.fm k' st' h'→Am c.tp k' xs vs→Y c.l o (((Il r d ks).bind fun kvs=>m xs kvs) st' K X)→
   wpAny c.M c.A (evalAll ((D8 pos (C5 ks c.env)).map (·.2))) (fun ws s₂=>c.K.In s₂.heap∧wpAny c.M c.A (call f (first++vs) (((D8 pos (C5 ks c.env)).filterMap (·.1)).zip ws)) Q E s₂) E {s with heap:=h',toks:=tk}:=fun{k' xs vs st' h' tk} l1 R' hc P'=>
  T7 ev ks (pos:=pos) k' st' {s with heap:=h',toks:=tk} _ X o _ E (.refl _) R' P' (fun k'' kx ws st'' h'' tk'' l2 R'' hk P''=>⟨G.X.keeps R''.F.keep,h k'' xs vs kx _ st'' h'' tk'' (l1.trans l2) R'' (hc.mono l2) hk P''⟩) (HE.ext l1)
 rcases as with _|⟨e,es⟩
 ·exact evalArgs_kw_nil h3.1 (step2 (xs:=[]) (.refl _) R rfl P)
 ·
  have h1:=AJ.mp ((Dv (f:=noStar)).symm.trans hp.1)
  have e1:backTo pos (D6 (e::es) c.env)=(false,eval e c.env)::backTo pos (D6 es c.env):=by rw[Fp h1.1];rfl
  rw[e1]
  refine evalArgs_kw h3.1 ?_
  rw[←e1]
  exact Ll ev (e::es) (pos:=pos) k₁ st s _ X o _ E (.refl _) R P (fun k' xs vs st' h' tk l1 R' hc P'=>step2 l1 R' hc P') HE
theorem NM {pos:Pos}{f:Value}{first:List Value}{as:List Expr}{ks:List Keyword}(hp:Hn as ks=true){m:List V→List (Str×V)→M V}
  (hkeep:∀h,c.K.In h→∃q,(q=Keeper.frame∨q=Keeper.machine∨q=FK)∧Looks c.M h (keeperOf f) q)(G:BI c)
  (h:∀k' xs vs kx kv,B8 k k'→Am c.tp k' xs vs→CC c.tp k' kx kv→AV c k' (CV c) (call f (first++vs) kv) (m xs kx)):
  AV c k (CV c) (callWith pos f first (backTo pos (D6 as c.env)) (D8 pos (C5 ks c.env))) ((IR r d as).bind fun vs=>(Il r d ks).bind fun kvs=>m vs kvs):=
 fun k₁ st s K X o Q E l R P HQ HE=>K9 ev hp hkeep G R P HE fun k'' xs vs kx kv st'' h'' tk'' l1 R'' hc hk P''=>h k'' xs vs kx kv (l.trans l1) hc hk k'' st'' _ K X o Q E (.refl _) R'' P'' (HQ.ext l1) (HE.ext l1)
end
theorem AV.operating {α:Type}{C:Kn→α→Value→Prop}{vs:List Value}{t:Sem Value}{m:M α}(h:AV c k C t m):AV c k C (operate vs t) m:=fun k₁ st s K X o Q E l R P HQ HE=>wpAny_operating (h k₁ st s K X o Q E l R P HQ HE)
theorem AV.release {α β:Type}{C:Kn→α→β→Prop}{vs ks:List Value}{f:Unit→Sem β}{m:M α}(h:AV c k C (f ()) m):AV c k C (release vs ks >>= f) m:=.via () (fun zz zz zz h=>wpAny_release h) h
theorem AV.letgo {α β:Type}{C:Kn→α→β→Prop}{b:Expr}{o r:Value}{f:Unit→Sem β}{m:M α}(h:AV c k C (f ()) m):AV c k C (letTemporaryGo b o r >>= f) m:=.via () (fun zz zz zz h=>wpAny_letTemporaryGo h) h
theorem K6 {op:CmpOp}{e:Expr}{t:Sem Value}(h:Jm e=true):markedBehindIn op e t=t:=by
 refine markedBehindIn_of_false ?_
 rcases e with _|_<;>first|(rcases op with _|_<;>rfl)|cases h
section
variable {r:Fh}{d:Nat}(G:BL c d)(T:E0 c.tp)(ev:∀k e,AV c k (CV c) (eval e c.env) (r.ev d e))(tr:∀k e,AV c k CB (isTrue e c.env (eval e c.env)) (r.tr d e))
include G T ev in
theorem TB {pos:Pos}{op:BoolOp}(es:List Expr):∀{k:Kn},AV c k (CV c) (boolOp pos op (evalEach es c.env)) (Ju c.S r d op es):=by
 induction es with
 |nil=>exact .stuck
 |cons e es ih=>
  intro k
  rcases es with _|⟨e2,es⟩
  ·exact fun k₁ st s K X o Q E l R P HQ HE=>ev k e k₁ st s K X o Q E l R P HQ HE
  ·
   have H:AV c k (CV c) (eval e c.env >>= fun v=>Cp pos >>= fun zz=>Bm [v] (truthy v) >>= fun t=>match (generalizing:=false) op,t with
    | .And,false| .Or,true=>Be v
    |_,_=>boolOp pos op (evalEach (e2::es) c.env)) ((r.ev d e).bind fun v=>(IE c.S v).bind fun t=>match (generalizing:=false) op with
    | .Or=>Ep t (.pure v) (Ju c.S r d op (e2::es))
    | .And=>Ep t (Ju c.S r d op (e2::es)) (.pure v)):=by
    refine .bind (ev k e) fun k' a v l hv=>.stand (.bind (.hold (JB G.1 T.sta hv)) fun k'' t t' l' ht=>?_)
    cases (show t=t' from ht)
    rcases op with _|_<;>cases t
    ·exact .pure fun k3 l3=>(hv.mono l').mono l3
    ·exact ih
    ·exact ih
    ·exact .pure fun k3 l3=>(hv.mono l').mono l3
   rcases op with _|_<;>exact H
include tr in
theorem RC {op:BoolOp}(es:List Expr):∀{k:Kn},AV c k CB (allTrue op es c.env) (HG r d op es):=by
 induction es with
 |nil=>rcases op with _|_<;>exact .pure fun zz zz=>rfl
 |cons e es ih=>
  intro k
  have H:AV c k CB (isTrue e c.env (eval e c.env) >>= fun t=>match (generalizing:=false) op,t with
   | .And,false=>Be false
   | .Or,true=>Be true
   |_,_=>allTrue op es c.env) ((r.tr d e).bind fun t=>match (generalizing:=false) op with
   | .Or=>Ep t (.pure true) (HG r d op es)
   | .And=>Ep t (HG r d op es) (.pure false)):=by
   refine .bind (tr k e) fun k' t t' l ht=>?_
   cases (show t=t' from ht)
   rcases op with _|_<;>cases t
   ·exact .pure fun zz zz=>rfl
   ·exact ih
   ·exact ih
   ·exact .pure fun zz zz=>rfl
  rcases op with _|_<;>exact H
include G T ev in
theorem R8 {pos:Pos}(ops:List CmpOp):∀(es:List Expr) {a:V} {x:Value} {k:Kn},Ag c.tp k a x→AV c k Jf (compareChain pos x ops (markedEach ops es (evalEach es c.env))) (Fw c.S r d a ops es):=by
 induction ops with
 |nil=>exact fun zz {zz zz zz} zz=>.stuck
 |cons op ops ih=>
  intro es a x k h
  rcases es with _|⟨e,es⟩
  ·exact .stuck
  ·
   rw[PH]
   refine .chk fun hs=>?_
   rcases ops with _|⟨op2,ops⟩
   ·
    rcases es with _|_
    ·
     show AV c k Jf (compareChain pos x [op] [markedBehindIn op e (eval e c.env)]) _
     rw[K6 (AJ.mp hs).1]
     show AV c k Jf (Bm [x] (eval e c.env) >>= fun rv=>Cp pos >>= fun zz=>operate [x,rv] (C8 op x rv)) ((r.ev d e).bind fun b=>(KZ c.S op a b).bind .pure)
     exact .bind (.hold (ev k e)) fun k' b y l hb=>.stand (.operating (Ji G.1 G.hu T.sta (h.mono l) hb))
    ·exact(AI ((FD _).symm.trans hs)).elim
   ·
    show AV c k Jf (Bm [x] (eval e c.env) >>= fun rv=>Cp pos >>= fun zz=>Bm [x,rv] (C8 op x rv) >>= fun q=>release [x,rv] [q] >>= fun zz=>Bm [q,rv] (truthy q) >>= fun t=>if t=true then compareChain pos rv (op2::ops) (markedEach (op2::ops) es (evalEach es c.env)) else Be q) ((r.ev d e).bind fun b=>(KZ c.S op a b).bind fun t=>Ep t (Fw c.S r d b (op2::ops) es) (.pure false))
    refine .bind (.hold (ev k e)) fun k' b y l hb=>.stand (.bind (.hold (Ji G.1 G.hu T.sta (h.mono l) hb)) fun k'' t q l' hq=>.release ?_)
    rw[show q= .bool t from hq]
    refine .via t (fun Q E s h=>BB (FI h)) ?_
    cases t
    ·exact .pure fun zz zz=>rfl
    ·exact ih es (hb.mono l')
end
end
section
variable {prog:Cg}{w:World}{K:Type}[DecidableEq K]{knd:KeyKind prog w K}{A:Around}{E:Value→Shared→Prop}{s:Shared}
theorem J4 {d:Addr}{kvs:List (K×Value)}{k:K}{key v:Value}{Q:Unit→Shared→Prop}(hkey:knd.is k key=true)(hm:s.heap.DictOf knd d kvs)
  (hQ:∀h',h'.DictOf knd d (stored kvs k v)→BW d s.heap h'→Q () {s with heap:=h'})
  (hsz:kvs.length≤CK):wpAny (model prog w) A (dictPut d (knd.hash k) key v) Q E s:=by
 obtain⟨o,es,ep,ho,hc,hd,hk,hp,hn⟩:=hm
 have hes:es.size≤CK:=by
  have e1:=hp.length
  have e2:es.toList.length=es.size:=Array.length_toList
  lia
 unfold dictPut
 refine AF (wpAny_dictFind_of hkey ho hd hk ?_)
 have hidx:(es.findIdx? fun e=>knd.is k e.key)=kvs.findIdx? fun kv=>decide (kv.1=k):=by
  rw[←hp.findIdx k];obtain⟨l⟩:=es;simp
 cases hi:es.findIdx? fun e=>knd.is k e.key with
 |some i=>
  refine wpAny_updateDict ho hd (hQ _ ⟨_,_,ep,D3 _ ho (Obj.isFreed_of_dict (Obj.data_mapDict hd _)),hc.mapDict _,Obj.data_mapDict hd _,hk.modify _ _,?_,?_⟩ (BW.update ..))
  ·rw[stored,if_pos (any_of_findIdx_some (hidx▸hi))]
   have hl:(es.toList.findIdx? fun e=>knd.is k e.key)=some i:=by rw[←hi];obtain⟨l⟩:=es;simp
   have:=hp.modify hn hl v
   obtain⟨l⟩:=es
   simpa using this
  ·rw[stored,if_pos (any_of_findIdx_some (hidx▸hi)),keys_map_store];exact hn
 |none=>
  have hnot:k∉kvs.map (·.1):=not_mem_of_findIdx_none (hidx▸hi)
  have hany:¬(kvs.any fun kv=>decide (kv.1=k))=true:=by
   rw[List.any_eq_true];rintro⟨kv,hkv,he⟩
   exact hnot (C4.mpr ⟨kv,hkv,of_decide_eq_true he⟩)
  refine wpAny_updateDictKeys (hz:=hes) ho hd (hQ _ ⟨_,_,ep+1,D3 _ ho (Obj.isFreed_of_dict (Obj.data_mapDictKeys hd _)),hc.mapDictKeys _,Obj.data_mapDictKeys hd _,hk.push hkey _,?_,?_⟩ (BW.update ..))
  ·rw[stored,if_neg hany]
   have:=hp.append hkey (knd.hash k) v
   obtain⟨l⟩:=es
   simpa using this
  ·rw[stored,if_neg hany,Ae,C1]
   refine⟨hn,by simp,?_⟩
   intro a ha b hb
   simp only[At,List.map_nil,AY] at hb
   subst hb
   exact fun e=>hnot (e▸ha)
theorem Pu {d o:Addr}{kvs more:List (K×Value)}{Q:Unit→Shared→Prop}(hdo:d≠o)(hoS:(o==Ce)=false)(hne:kvs≠[])
  (hd:s.heap.DictOf knd d kvs)(ho:s.heap.DictOf knd o more)
  (hQ:∀h',h'.DictOf knd d (merged kvs more)→BW d s.heap h'→Q () {s with heap:=h'})
  (hsz:kvs.length+more.length≤CK):wpAny (model prog w) A (mergeMapping d (.ref o) false) Q E s:=by
 refine S7 (id hd) fun od esd epd hod hcd hdd hkd hpd hnd=>?_
 refine S7 (id ho) fun oo eso epo hoo hco hdo' hko hpo hno=>?_
 have hlen:more.length=eso.size:=by rw[←hpo.length];simp
 have hne':esd.isEmpty=false:=by
  have e1:=hpd.length
  rcases h:esd.isEmpty with _|_
  ·rfl
  ·
   rw[Array.isEmpty_iff.mp h] at e1
   exact(hne (B5.mp e1.symm)).elim
 refine AF (AF (wpAny_typeOf ho.typeIs (wpAny_of_eq (a:=true) (by kernel_rfl) ?_)))
 refine AF (wpAny_specialOf ho.typeIs F.slot_dict_iter.lookup ?_)
 refine AF (AN ?_)
 refine JN (by rw[hoS];exact AI) ?_
 refine AF (wpAny_dictEntries hod hdd ?_)
 refine JN (by rw[hne'];exact AI) ?_
 refine AF (wpAny_dictEntries hoo hdo' ?_)
 refine AF (wpAny_dictEpoch hoo hdo' ?_)
 rw[List.range_eq_range']
 refine AF (wpAny_forIn_list _
  (fun rest zz s'=>∃h' i,s'={s with heap:=h'}∧rest=List.range' i (eso.size - i)∧i≤eso.size∧h'.DictOf knd d (merged kvs (more.take i))∧h'.get? o=some oo∧BW d s.heap h')
  _ ?_ ?_ _ _ ⟨s.heap,0,rfl,by simp,Bx _,by simpa [merged] using hd,hoo,BW.refl _ _⟩)
 ·intro x rest b s' H
  refine S9 H fun h' i es hr hi hd' hoo' hs'=>?_
  subst es
  have hlt:i<eso.size:=by
   rcases Nat.lt_or_ge i eso.size with h|h
   ·exact h
   ·rw[Nat.sub_eq_zero_of_le h] at hr;simp at hr
  have hx:x=i∧rest=List.range' (i+1) (eso.size - (i+1)):=by
   have e:eso.size - i=(eso.size - (i+1))+1:=(Nat.succ_pred_eq_of_pos (Nat.sub_pos_of_lt hlt)).symm
   rw[e,List.range'_succ] at hr
   exact⟨List.head_eq_of_cons_eq hr,List.tail_eq_of_cons_eq hr⟩
  have hrest:=hx.2
  have hx:=hx.1
  subst hx
  refine AF (wpAny_dictEntries hoo' hdo' ?_)
  rw[Array.getElem?_eq_getElem hlt]
  refine AB (⟨more[x]'(by rw[hlen];exact hlt),Ew _⟩:∃kv,more[x]? =some kv) fun kv hkv=>?_
  rcases kv with⟨k,v⟩
  have hkv2:=hpo.get? (e:=eso[x]) (by simp[hlt]) hkv
  refine AS (hko eso[x] (Array.getElem_mem hlt)) fun k' hkey' hhash=>?_
  have hk:=knd.inj _ _ _ hkey' hkv2.1
  subst hk
  show wpAny _ _ (Bm [eso[x].key,eso[x].val] (dictPut d eso[x].hash eso[x].key eso[x].val) >>= _) _ _ _
  rw[hhash,hkv2.2]
  have hmx:(merged kvs (more.take x)).length≤CK:=AL (merged_length_le kvs (more.take x)) (AL (CL (List.length_take_le' ..) _) hsz)
  refine AF (BB (J4 (hsz:=hmx) hkey' hd' fun h'' hd'' hs''=>?_))
  have hoo'':h''.get? o=some oo:=(hs''.2 o (Cq hdo)).trans hoo'
  refine AF (wpAny_dictEpoch hoo'' hdo' ?_)
  refine JN (by rw[bne_self_eq_false];exact AI) ?_
  exact AN ⟨h'',x+1,rfl,hrest,hlt,by rw[merged_take_succ kvs more x (k',v) hkv];exact hd'',hoo'',hs'.trans hs''⟩
 ·intro b s' H
  refine S9 H fun h' i es hr hi hd' hoo' hs'=>?_
  subst es
  have hin:i=eso.size:=by
   rcases Nat.lt_or_ge i eso.size with h|h
   ·have e:eso.size - i=(eso.size - (i+1))+1:=(Nat.succ_pred_eq_of_pos (Nat.sub_pos_of_lt h)).symm
    rw[e,List.range'_succ] at hr;exact nomatch hr
   ·exact G9 hi h
  refine AN (hQ h' ?_ hs')
  rw[hin,←hlen,List.take_length] at hd';exact hd'
end
theorem HD {prog:Cg}{w:World}{A:Around}{env:Env}{q:Const}{n:Nat}{pos:Pos}{x:V}{s:Shared}{Q:Value→Shared→Prop}{E:Value→Shared→Prop}(e:Hh q=some x)
  (h:∀v tk,(∀θ k,Ag θ k x v)→Q v {s with toks:=tk}):wpAny (model prog w) A (eval (.Constant q n pos) env) Q E s:=by
 rcases q with _|_|⟨b⟩|⟨i⟩|⟨t⟩|_
 case none=>exact wpAny_Constant_none (h _ s.toks fun zz zz=>AH e▸rfl)
 case bool=>exact wpAny_Constant_bool (h _ s.toks fun zz zz=>AH e▸rfl)
 case int=>exact wpAny_Constant_int (h _ _ fun zz zz=>AH e▸⟨_,rfl⟩)
 case str=>exact wpAny_Constant_str (h _ _ fun zz zz=>AH e▸⟨_,rfl⟩)
 all_goals exact AP e
theorem O0 {e:Expr}{x:V}(h:JQ e=some x){P:Expr→Prop}(H:∀q n p,Hh q=some x→P (.Constant q n p)):P e:=by
 rcases e with _|_|_|_|_|_|_|_|_|_|_|_|_|_|_|_|_|_|_|⟨q,n,p⟩|_
 case Constant=>exact H q n p h
 all_goals exact AP h
theorem M3 {o:Option Expr}{ks:List (Option Expr)}{e:Expr}{vs:List Expr}{l:List (Str×V)}(h:F7 (o::ks) (e::vs)=some l){P:Option Expr→Expr→List (Str×V)→Prop}
  (H:∀q n p q' n' p' i b l',Hh q=some (.str i)→Hh q'=some b→F7 ks vs=some l'→P (some (.Constant q n p)) (.Constant q' n' p') ((i,b)::l')):P o e l:=by
 refine AS (Ak.mp h) fun a e1 h=>AS (Ak.mp h) fun i e2 h=>AS (Ak.mp h) fun b e3 h=>AS (Ao.mp h) fun l' e4 e5=>ET e2 fun z=>?_
 subst z e5
 rcases o with _|e0
 ·exact AP e1
 ·exact O0 (P:=fun e0=>P (some e0) e ((i,b)::l')) e1 fun q n p e1=>O0 (P:=fun e=>P (some (.Constant q n p)) e ((i,b)::l')) e3 fun q' n' p' e3=>H q n p q' n' p' i b l' e1 e3 e4
theorem Ht {ks:List (Option Expr)}:∀{vs:List Expr} {l:List (Str×V)},F7 ks vs=some l→ks.all (·.isSome)=true∧ks.length=vs.length∧l.length=ks.length:=by
 induction ks with
 |nil=>
  intro vs l e
  rcases vs with _|_
  ·exact AH e▸⟨rfl,rfl,rfl⟩
  ·exact AP e
 |cons o ks ih=>
  intro vs l e
  rcases vs with _|⟨v,vs⟩
  ·exact AP e
  ·exact M3 (P:=fun o v l=>(o::ks).all (·.isSome)=true∧(o::ks).length=(v::vs).length∧l.length=(o::ks).length) e fun q n p q' n' p' i b l' zz zz e=>⟨(ih e).1,congrArg (·+1) (ih e).2.1,congrArg (·+1) (ih e).2.2⟩
theorem Iy (f:(Option (Sem Value)×Sem Value)→(Option Addr×List (Sem Value×Sem Value))→Sem (ForInStep (Option Addr×List (Sem Value×Sem Value))))(tail:List (Option (Sem Value)×Sem Value))
  (hf:∀(m:Option Addr) (p:Sem Value×Sem Value) (run:List (Sem Value×Sem Value)),run.length+1<17→f (some p.1,p.2) (m,run)=pure (.yield (m,run++[p])))(m:Option Addr)(items:List (Sem Value×Sem Value)):
  ∀(run:List (Sem Value×Sem Value)),run.length+items.length<17→forIn ((items.map fun p=>(some p.1,p.2))++tail) (m,run) f=forIn tail (m,run++items) f:=by
 induction items with
 |nil=>exact fun run zz=>by rw[AR];rfl
 |cons p rest ih=>
  intro run h
  rw[AX] at h
  rw[At,By,Co,hf m p run (by lia),pure_bind]
  have:=ih (run++[p]) (by rw[AE,D1];lia)
  rwa [AC] at this
theorem M4 (pairs more:List (Sem Value×Sem Value))(hlen:pairs.length=17)(hm:more.length<17):dictDisplay ((pairs++more).map fun p=>(some p.1,p.2))=
  (do
    let d ←subDict pairs
    if more=[] then pure (.ref d) else do
    let sub ←Bm [.ref d] (subDict more)
    (Bm [.ref d,.ref sub] (mergeMapping d (.ref sub) false)).onRaise fun x=>do let _ ←Bm [.ref d,x] (runValue (.builtin "proto.let_go" {}))
    pure (.ref d)):=by
 have hne:pairs≠[]:=fun z=>by subst z;cases hlen
 have hi:pairs.dropLast.length=16:=by rw[List.length_dropLast,hlen]
 rw[←List.dropLast_concat_getLast hne]
 generalize pairs.dropLast=init at hi
 generalize pairs.getLast hne=x
 have hf:∀(run:List (Sem Value×Sem Value)) (p:Sem Value×Sem Value),run.length+1<17→((run++[(p.1,p.2)]).length==17)=false:=fun run p h=>by simp;lia
 unfold dictDisplay
 dsimp only
 rw[AC,Ae,Iy _ _ (fun m p run h=>by
  simp only[hf run p h,Ca,if_false]) none init [] (by rw[Bk];lia)]
 rw[C7,Ae,At,List.map_nil,List.singleton_append,Co]
 have e17:((init++[(x.1,x.2)]).length==17)=true:=by simp[hi]
 have en:(init++[(x.1,x.2)]).isEmpty=false:=by simp
 simp only[e17,en,if_true,Ca,if_false,bind_assoc,pure_bind]
 refine bind_congr fun d=>?_
 rw[←AR (more.map _),Iy _ [] (fun m p run h=>by
  simp only[hf run p h,Ca,if_false]) (some d) more [] (by rw[Bk];lia)]
 rw[List.forIn_nil,pure_bind,C7]
 by_cases hm:more=[]
 ·subst hm;rfl
 ·have hm':more.isEmpty=false:=by cases more with
   |nil=>exact(hm rfl).elim
   |cons=>rfl
  simp only[hm',hm,Ca,if_false,bind_assoc,pure_bind]
section
variable {c:Cx}{k:Kn}
theorem OT (θ₀:Tp){env:Env}{pos:Pos}{E:Value→Shared→Prop}(ks:List (Option Expr)):∀(vs:List Expr) (l:List (Str×V)) (s:Shared) (Q:List (Value×Value)→Shared→Prop),F7 ks vs=some l→
  (∀us kvs tk,Carries (DJ c.prog c.w) us kvs→(∀θ k,Kv V.str θ k (Go l) kvs)→Q us {s with toks:=tk})→wpAny c.M c.A (evalPairs (Dg ks vs env pos)) Q E s:=by
 induction ks with
 |nil=>
  intro vs l s Q e h
  rcases vs with _|_
  ·exact pairTrees_nil_walk (h [] [] s.toks trivial fun zz zz=>AH e▸rfl)
  ·exact AP e
 |cons o ks ih=>
  intro vs l s Q e h
  rcases vs with _|⟨v,vs⟩
  ·exact AP e
  ·
   revert h
   refine M3 (P:=fun o v l=>(∀us kvs tk,Carries (DJ c.prog c.w) us kvs→(∀θ k,Kv V.str θ k (Go l) kvs)→Q us {s with toks:=tk})→wpAny c.M c.A (evalPairs (Dg (o::ks) (v::vs) env pos)) Q E s) e fun q n p q' n' p' i b l' e1 e2 e3 h=>?_
   refine pairTrees_cons_walk (HD e1 fun kv tk hk=>HD e2 fun vv tk' hv=>ih vs l' _ _ e3 fun us kvs tk2 hc hkv=>?_)
   exact AB (show ∃t,kv= .str i t from hk θ₀ ⟨[],[]⟩) fun t z=>by rw[z];exact h ((.str i t,vv)::us) ((i,vv)::kvs) tk2 ⟨strKind_is ..,rfl,hc⟩ fun θ k=>⟨i,vv,kvs,rfl,hv θ k,hkv θ k,rfl⟩
theorem Pm (θ₀:Tp){env:Env}{pos:Pos}{E:Value→Shared→Prop}{d:Addr}(ks:List (Option Expr)):∀(vs:List Expr) (l:List (Str×V)) (acc:List (Str×Value)) (s:Shared) (Q:PUnit→Shared→Prop),F7 ks vs=some l→
  s.heap.DictOf (DJ c.prog c.w) d acc→acc.length+l.length≤CK→(∀h' kvs tk,(∀θ k,Kv V.str θ k (Go l) kvs)→h'.DictOf (DJ c.prog c.w) d (merged acc kvs)→BW d s.heap h'→Q FA {s with heap:=h',toks:=tk})→
  wpAny c.M c.A (forIn (Dg ks vs env pos) FA fun(x:Sem Value×Sem Value) (zz:PUnit)=>(do let kv ←x.1;let vv ←Bm [kv] x.2;Bm [kv,vv] (dictSet d kv vv);pure (DC FA):Sem (ForInStep PUnit))) Q E s:=by
 induction ks with
 |nil=>
  intro vs l acc s Q e hd _ h
  rcases vs with _|_
  ·exact AN (h s.heap [] s.toks (fun zz zz=>AH e▸rfl) hd (.refl _ _))
  ·exact AP e
 |cons o ks ih=>
  intro vs l acc s Q e hd hsz h
  rcases vs with _|⟨v,vs⟩
  ·exact AP e
  ·
   revert h hsz
   refine M3 (P:=fun o v l=>acc.length+l.length≤CK→(∀h' kvs tk,(∀θ k,Kv V.str θ k (Go l) kvs)→h'.DictOf (DJ c.prog c.w) d (merged acc kvs)→BW d s.heap h'→Q FA {s with heap:=h',toks:=tk})→wpAny c.M c.A (forIn (Dg (o::ks) (v::vs) env pos) FA fun(x:Sem Value×Sem Value) (zz:PUnit)=>(do let kv ←x.1;let vv ←Bm [kv] x.2;Bm [kv,vv] (dictSet d kv vv);pure (DC FA):Sem (ForInStep PUnit))) Q E s) e fun q n p q' n' p' i b l' e1 e2 e3 hsz h=>?_
   show wpAny c.M c.A (forIn (_::Dg ks vs env pos) FA _) Q E s
   rw[Co]
   rw[AX] at hsz
   refine AF (AF (HD (n:=n) (pos:=p) e1 fun kv tk hk=>AF (BB (AF (HD (n:=n') (pos:=p') e2 fun vv tk' hv=>AF (Bp (AN ?_)))))))
   refine AB (show ∃t,kv= .str i t from hk θ₀ ⟨[],[]⟩) fun t z=>?_
   subst z
   refine AF (BB (wpAny_dictSet_pairs (hsz:=by lia) (strKind_is ..) hd fun h₁ hm₁ hs₁=>AN ?_))
   refine ih vs l' (stored acc i vv) _ Q e3 hm₁ (by have e:=stored_length_le acc i vv;lia) fun h' kvs tk2 hkv hm' hs'=>?_
   exact h h' ((i,vv)::kvs) tk2 (fun θ k=>⟨i,vv,kvs,rfl,hv θ k,hkv θ k,rfl⟩) hm' (hs₁.trans hs')
theorem Kd {l:List (Str×V)}:∀{kvs:List (Str×Value)},Kv V.str c.tp k (Go l) kvs→kvs.map (·.1)=l.map (·.1):=by
 induction l with
 |nil=>exact fun h=>by rw[show _=[] from h];rfl
 |cons p l ih=>
  intro kvs h
  refine DU h fun j v us h1 h2 h3 h4=>?_
  subst h4
  rw[At,At,ih h3,show p.1=j from AH (congrArg Dh h1)]
theorem XA {l l':List (Str×V)}:∀{kvs kvs':List (Str×Value)},Kv V.str c.tp k (Go l) kvs→Kv V.str c.tp k (Go l') kvs'→Kv V.str c.tp k (Go (l++l')) (kvs++kvs'):=by
 induction l with
 |nil=>exact fun h h'=>by rw[show _=[] from h];exact h'
 |cons p l ih=>
  intro kvs kvs' h h'
  refine DU h fun j v us h1 h2 h3 h4=>?_
  subst h4
  exact⟨j,v,us++kvs',h1,h2,ih h3 h',rfl⟩
theorem OW {k1 k2:List (Option Expr)}:∀{vs:List Expr} {l:List (Str×V)},F7 (k1++k2) vs=some l→∃v1 v2 l1 l2,vs=v1++v2∧l=l1++l2∧F7 k1 v1=some l1∧F7 k2 v2=some l2:=by
 induction k1 with
 |nil=>exact fun{vs l} h=>⟨[],vs,[],l,rfl,rfl,rfl,h⟩
 |cons o k1 ih=>
  intro vs l h
  rcases vs with _|⟨v,vs⟩
  ·exact AP h
  ·
   refine AS (Ak.mp h) fun a e1 h=>AS (Ak.mp h) fun i e2 h=>AS (Ak.mp h) fun b e3 h=>AS (Ao.mp h) fun l' e4 e5=>?_
   refine AB (ih e4) fun v1 z=>DU z fun v2 l1 l2 g1 g2 g3 g4=>⟨v::v1,v2,(i,b)::l1,l2,by rw[g1];rfl,by rw[←e5,g2];rfl,?_,g4⟩
   show(o.bind JQ).bind _=_
   rw[e1]
   show(Dh a).bind _=_
   rw[e2]
   show(JQ v).bind _=_
   rw[e3]
   show(F7 k1 v1).map _=_
   rw[g3];rfl
theorem Mb {env:Env}{pos:Pos}{k1 k2:List (Option Expr)}:∀{v1 v2:List Expr},k1.all (·.isSome)=true→k1.length=v1.length→Dg (k1++k2) (v1++v2) env pos=Dg k1 v1 env pos++Dg k2 v2 env pos:=by
 induction k1 with
 |nil=>
  intro v1 v2 _ h
  rcases v1 with _|_
  ·rfl
  ·cases h
 |cons o k1 ih=>
  intro v1 v2 h1 h2
  rcases v1 with _|⟨v,v1⟩
  ·cases h2
  ·
   rcases o with _|e
   ·cases h1
   ·exact congrArg (_::·) (ih h1 (Nat.succ.inj h2))
noncomputable def Kt (G:BI c){st:St}{s:Shared}{h':Heap}(R:Aj c.fm k st s.heap)(hk:∀b o,s.heap.get? b=some o→h'.get? b=some o){kvs:List (Str×Value)}{o:O}{ob:Obj}(hlo:live o=true)
  (ho:h'.get? s.heap.objs.size=some ob)(hb:(s.heap.objs.size==Ce)=false→Ff c.tp k o (s.heap.objs.size,0) [] s.heap.objs.size ob):Aj c.fm ⟨k.D++[some (s.heap.objs.size,0)],k.I⟩ ⟨st.loc,st.heap++[o]⟩ h':=by
 have LT:c.env.locals<s.heap.objs.size:=R.F.ns.lt
 have hm:(s.heap.objs.size==Ce)=false:=beq_eq_false_iff_ne.mpr fun z=>absurd (Ab (modules_low G.nolim) R.F.above) (by rw[←z];exact DR.mpr (Bu LT))
 refine R.push (o:=o) (d:=some (s.heap.objs.size,0)) (L:=[(s.heap.objs.size,ob)]) (R.F.keeps hk) (fun p hp=>?_) (hb hm).row (EY ..) fun q hq p hp=>?_
 ·exact(AU.mp hp).elim (fun e=>by rw[e];exact⟨ho,Bh LT,none_at_size R.F⟩) fun hp=>⟨hk _ _ (R.N p hp).1,(R.N p hp).2⟩
 ·rw[AY.mp hq]
  exact Ah (Av (R.N p hp).1)
theorem KL (θ₀:Tp){ks:List (Option Expr)}{vs:List Expr}{l:List (Str×V)}{env:Env}{pos:Pos}{s:Shared}{E:Value→Shared→Prop}{Q:Addr→Shared→Prop}(e:F7 ks vs=some l)(hn:ks.length≤17)
  (h:∀h' kvs tk,(∀θ k,Kv V.str θ k (Go l) kvs)→h'.DictOf (DJ c.prog c.w) s.heap.objs.size (merged [] kvs)→BW s.heap.objs.size (s.heap.push {cls:=.type "dict",data:=.dict #[]}) h'→Q s.heap.objs.size {s with heap:=h',toks:=tk}):
  wpAny c.M c.A (subDict (Dg ks vs env pos)) Q E s:=by
 have hl:=Ht e
 have hp:=pairTrees_length ks vs env pos hl.1 hl.2.1
 have big:1000≤CK:=by rw[sizeLine_eq];lia
 have hl2:l.length≤17:=by rw[hl.2.2];exact hn
 unfold subDict
 refine AF (wpAny_alloc (AF (BB ?_)))
 by_cases hn:(Dg ks vs env pos).length≤15
 ·rw[if_pos hn]
  refine AF (OT (c:=c) θ₀ ks vs l _ _ e fun us kvs tk hc hkv=>BB (AF (wpAny_storeAll us kvs [] _ _ hc (Heap.DictOf.new s.heap) ?_ fun h' hm' hs=>AN (AN (h h' kvs _ hkv hm' hs)))))
  have:=(hkv θ₀ ⟨[],[]⟩).length
  rw[show(Go l).length=l.length from AQ _] at this
  rw[Bk];lia
 ·rw[if_neg hn]
  exact AF (wpAny_rule (AF (Pm (c:=c) θ₀ ks vs l [] _ _ e (Heap.DictOf.new s.heap) (by rw[Bk];lia) fun h' kvs tk hkv hm' hs=>AN (AN (h h' kvs tk hkv hm' hs)))))
theorem T8 (G:BI c){ks:List (Option Expr)}{vs:List Expr}{pos:Pos}:AV c k (CV c) (eval (.Dict ks vs pos) c.env) (dictM ks vs):=by
 rcases ks with _|⟨k0,ks'⟩
 ·
  refine .chk fun hv=>fun k₁ st s K X o Q E l₁ R P HQ HE=>?_
  rcases vs with _|_
  ·
   rw[eval_Dict_empty]
   refine AF (Bp ?_)
   unfold newDict
   refine AF (wpAny_alloc (AN ?_))
   refine AS (Da.mp (Heap.DictOf.new (knd:=DW c.prog c.w) s.heap)) fun ob g1 g2=>?_
   exact HQ _ (.obj st.heap.length) _ ⟨st.loc,st.heap++[O.dict []]⟩ _ s.toks (B8.app _) (Kt G R (kvs:=[]) (fun b o e=>BH _ e) rfl g1 fun hm=>⟨rfl,rfl,hm,[],g2,rfl⟩) (R.newAt (s.heap.objs.size,0)) P
  ·cases hv
 generalize hks:k0::ks'=ks
 have hks0:ks≠[]:=by rw[←hks];exact fun h=>nomatch h
 rw[show(dictM ks vs:M V)=(Ax (F7 ks vs)).bind fun l=>chk (RT l&&EF l.length 33) (Fa (.sdict (Go l))) by rw[←hks];rfl]
 refine .look fun l e=>.chk fun hchk=>fun k₁ st s K X o Q E l₁ R P HQ HE=>?_
 have hchk:=AJ.mp hchk
 have hnd:(l.map (·.1)).Nodup:=of_decide_eq_true hchk.1
 have hlen:l.length≤33:=Bc hchk.2
 have h:=Ht e
 have hl0:(Go l).isEmpty=false:=by
  rcases l with _|_
  ·exact(hks0 (B5.mp h.2.2.symm)).elim
  ·rfl
 have big:1000≤CK:=by rw[sizeLine_eq];lia
 have fin:∀h' tk kvs,(∀b o,s.heap.get? b=some o→h'.get? b=some o)→h'.DictOf (DJ c.prog c.w) s.heap.objs.size kvs→Kv V.str c.tp k₁ (Go l) kvs→Q (.ref s.heap.objs.size) {s with heap:=h',toks:=tk}:=fun h' tk kvs hk hd hkv=>
  AS (Da.mp hd) fun ob g1 g2=>HQ _ (.obj st.heap.length) _ ⟨st.loc,st.heap++[O.sdict (Go l)]⟩ h' tk (B8.app _) (Kt G R (kvs:=kvs) hk rfl g1 fun hm=>⟨rfl,rfl,⟨hm,hl0⟩,kvs,g2,hkv⟩) (R.newAt (s.heap.objs.size,0)) P
 have old:∀{h':Heap},BW s.heap.objs.size (s.heap.push {cls:=.type "dict",data:=.dict #[]}) h'→∀b o,s.heap.get? b=some o→h'.get? b=some o:=fun hs b o e=>
  (hs.2 b (Ah (Av e))).trans (BH _ e)
 have hp:=pairTrees_length ks vs c.env pos h.1 h.2.1
 rw[arm_eval_Dict,zip_pairTrees ks vs c.env pos h.1 h.2.1]
 refine AF (Bp ?_)
 by_cases h17:ks.length<17
 ·rw[dictDisplay_pairs _ (fun z=>by rw[z] at hp;exact hks0 (B5.mp hp.symm)) (by lia)]
  refine AF (KL c.tp e (by lia) fun h' kvs tk hkv hd hs=>?_)
  rw[merged_nil_of_nodup kvs (by rw[Kd (hkv c.tp k)];exact hnd)] at hd
  exact AN (fin h' tk kvs (old hs) hd (hkv _ _))
 ·rw[show ks=ks.take 17++ks.drop 17 from(Fi 17 ks).symm] at e ⊢
  have c17:(ks.take 17).length=17:=by rw[List.length_take];lia
  have cm:(ks.drop 17).length≤16:=by rw[Dp,←h.2.2];lia
  generalize ks.take 17=k1 at e c17 ⊢
  generalize ks.drop 17=k2 at e cm ⊢
  refine AB (OW e) fun v1 z=>DU z fun v2 l1 l2 z1 z2 e1 e2=>?_
  subst z1 z2
  have H1:=Ht e1
  have H2:=Ht e2
  have p1:=pairTrees_length k1 v1 c.env pos H1.1 H1.2.1
  have p2:=pairTrees_length k2 v2 c.env pos H2.1 H2.2.1
  rw[Mb H1.1 H1.2.1,M4 _ _ (by lia) (by lia)]
  refine AF (KL c.tp e1 (by lia) fun h' kvs tk hkv hd hs=>?_)
  have k1d:=Kd (hkv c.tp k)
  have nd1:(kvs.map (·.1)).Nodup:=by rw[k1d];exact(C1.mp (Ae▸hnd:(l1.map (·.1)++l2.map (·.1)).Nodup)).1
  rw[merged_nil_of_nodup kvs nd1] at hd
  by_cases hm0:Dg k2 v2 c.env pos=[]
  ·rw[if_pos hm0]
   rw[hm0] at p2
   have l20:l2=[]:=B5.mp (by rw[H2.2.2,←p2];rfl)
   subst l20
   exact AN (fin h' tk kvs (old hs) hd (by rw[AR];exact hkv _ _))
  ·rw[if_neg hm0]
   refine AF (BB (KL c.tp e2 (by lia) fun h2 kvs2 tk2 hkv2 hd2 hs2=>?_))
   have k2d:=Kd (hkv2 c.tp k)
   have nd2:((kvs++kvs2).map (·.1)).Nodup:=by rw[Ae,k1d,k2d,←Ae];exact hnd
   rw[merged_nil_of_nodup kvs2 (by rw[Ae] at nd2;exact(C1.mp nd2).2.1)] at hd2
   have lt:s.heap.objs.size<h'.objs.size:=AB hd fun o z=>Dl z fun zz zz z zz=>Av z
   have Oz:h2.DictOf (DJ c.prog c.w) s.heap.objs.size kvs:=(hd.push _).sameBut hs2 (Ah lt)
   refine AF (wpAny_onRaise (BB (Pu (Ah lt) ?_ ?_ Oz hd2 (fun h3 hd4 hs3=>AN (fin h3 _ (kvs++kvs2) (fun b o e=>?_) ?_ (XA (hkv _ _) (hkv2 _ _)))) ?_)))
   ·exact beq_eq_false_iff_ne.mpr fun z=>absurd (Ab (modules_low G.nolim) R.F.above) (by rw[←z];exact DR.mpr (AL (Bu R.F.ns.lt) (Bu lt)))
   ·exact fun z=>by rw[z] at k1d;rw[←H1.2.2] at c17;rw[←AQ (f:=(·.1)),←k1d] at c17;cases c17
   ·exact(hs3.2 b (Ah (Av e))).trans ((hs2.2 b (Ah (Do (Av e) lt))).trans (BH _ (old hs b o e)))
   ·rw[merged_append_of_fresh kvs kvs2 nd2] at hd4;exact hd4
   ·have a1:=(hkv c.tp k).length
    have a2:=(hkv2 c.tp k).length
    rw[show(Go l1).length=l1.length from AQ _] at a1
    rw[show(Go l2).length=l2.length from AQ _] at a2
    rw[AE] at hlen
    lia
end
theorem LO {o:Expr}(h:Pq o=true)(attr:Str)(env:Env)(whole:Sem Value):attributeBase o attr env whole=whole:=by
 rcases o with _|_|_|_|_|_|_|_|_|_|_|_|_|_|_|_|⟨f,as,ks,p⟩|_
 case Call=>
  rcases f with _|_|_|_|_|_|_|_|_|_|_|_|_|_|_|_|_|_|_|_|_|_|_|⟨x,q⟩|_
  case Name=>
   rcases as with _|_
   ·rcases ks with _|_
    ·exact(AI h).elim
    ·rfl
   ·rfl
  all_goals rfl
 all_goals rfl
section
variable {c:Cx}{k:Kn}
noncomputable abbrev CQ (c:Cx)(k:Kn)(q:Je)(p:Value×List Value):Prop:=Jc c k q p.1 p.2
theorem Sx (G:BI c)(T:E0 c.tp){a:V}{x:Value}{n:Str}{pl:Sem Bool}(ha:Ag c.tp k a x):AV c k (CQ c) (getMethod x n pl) (TV c.S a n):=by
 unfold TV
 rcases ea:Dh a with _|t
 ·
  refine .look fun i ei=>FU ei fun q=>?_
  subst q
  refine fun k₁ st s K X o Q E l R P HQ HE=>Fz P fun ob e1 P1=>BX P1 fun z e2 P2=>?_
  rcases ob with⟨j,fs⟩|⟨xs⟩|_
  case inst=>
   rcases ca:EQ c.S j n with _|q
   ·rw[show Ps c.S n i (.inst j fs)=Pt n fs i (EQ c.S j n) from rfl,ca] at e2;exact AP e2
   ·
    rw[show Ps c.S n i (.inst j fs)=Pt n fs i (EQ c.S j n) from rfl,ca] at e2
    rcases q with _|_|_|_|_|_|_|_|_|⟨f⟩|_
    case fn=>exact I5 e2 fun h1 h2=>Dc h2 fun h2=>Pc G T.cls R (ha.mono l) e1 ca (Option.isNone_iff_eq_none.mp h1) (HQ.now (b:=(_,[x])) s.toks R (h2▸⟨rfl,x,[],ha.mono l,rfl,rfl⟩) P2)
    all_goals exact AP e2
  case list=>exact AS (Ao.mp e2) fun bid h1 h2=>RV R (ha.mono l) e1 h1 (HQ.now (b:=(_,[x])) s.toks R (h2▸⟨rfl,x,[],ha.mono l,rfl,rfl⟩) P2)
  all_goals exact AP e2
 ·
  refine ET ea fun q=>.gp fun h=>?_
  subst q h
  exact AB (show ∃u,x= .str t u from ha) fun u q=>by rw[q];exact .still fun zz s zz zz zz h=>PySem.GM.join (h s.toks (.builtin "str.join",[.str t u]) ⟨rfl,_,[],⟨_,rfl⟩,rfl,rfl⟩)
theorem SL (T:E0 c.tp){q:Je}{f:Value}{ws:List Value}(hq:Jc c k q f ws):∀h,c.K.In h→∃q,(q=Keeper.frame∨q=Keeper.machine∨q=FK)∧Looks c.M h (keeperOf f) q:=by
 have hm:∀{n:String} (h:Heap),∃q,(q=Keeper.frame∨q=Keeper.machine∨q=FK)∧Looks c.M h (keeperOf (.builtin n)) q:=fun h=>⟨.machine,.inr (.inl rfl),Looks.of_pure rfl⟩
 rcases q with _|_|_|_|_|_|_|_|_|⟨f⟩|_
 case fn=>exact fun h X=>hq.1▸keeps_K (T.keep _) h X
 case cls=>exact fun h X=>hq.1▸keeps_K (T.keepc _) h X
 case ty=>exact fun h X=>hq.1▸⟨.machine,.inr (.inl rfl),Looks.of_pure rfl⟩
 all_goals exact fun h X=>hq.1▸hm h
theorem VW {a:V}{x:Value}(ha:Ag c.tp k a x):AV c k (fun k q (p:Value)=>Jc c k q p []) (Be x) (Y3 a):=by
 rcases a with _|_|_|_|_|_|_|_|_|⟨f⟩|⟨f⟩|_|_|⟨f⟩|⟨f⟩|_
 case fn=>exact .pure fun zz zz=>⟨ha,rfl⟩
 case cls=>exact .pure fun zz zz=>⟨ha,rfl⟩
 case bi=>exact .pure fun zz zz=>⟨ha,rfl⟩
 case ty=>exact .pure fun zz zz=>⟨ha,rfl⟩
 all_goals exact .stuck
theorem K5 {xs:List V}{vs:List Value}(hs:Am c.tp k xs vs)(hl:xs.length≤lim):AV c k (CV c) (newList vs) (Fa (.list xs)):=
 fun k₁ st s K X o Q E l R P HQ HE=>newList_K R.F R.N (fun a h' F' N' hlt=>HQ _ (.obj st.heap.length) _ ⟨st.loc,st.heap++[O.list xs]⟩ h' s.toks (B8.app _) (R.pushList (hs.mono l) F' N' hlt) (R.newAt _) P) (by rw[←hs.length];exact AL hl Cj)
theorem NL {xs:List V}{vs:List Value}(hs:Am c.tp k xs vs)(hl:xs.length≤lim):AV c k (CV c) (newTuple vs) (.pure (.tup xs)):=
 fun k₁ st s K X o Q E l R P HQ HE=>newTuple_N R.F R.N (fun h' F' N'=>HQ _ (.tup xs) _ st h' s.toks (B8.more [(s.heap.objs.size,HP vs 0)]) (R.pushI F' N' (EY ..) fun q hq p hp=>by
  rw[AY.mp hq]
  exact Ah (Av (R.N p hp).1)) ⟨_,0,vs,.head _,(hs.mono l).mono (B8.more _),rfl⟩ P) (by rw[←hs.length];exact AL hl Cj)
section
variable {r:Fh}{d:Nat}(G:BL c d)(T:E0 c.tp)(ev:∀k e,AV c k (CV c) (eval e c.env) (r.ev d e))(tr:∀k e,AV c k CB (isTrue e c.env (eval e c.env)) (r.tr d e))
 (ca:∀c' d',c'.tp=c.tp→c'.lv=c.lv→Dq c' d'→Jb c' d')
include G T ev ca
theorem RA {f:Expr}{as:List Expr}{ks:List Keyword}{pos:Pos}:AV c k (CV c) (eval (.Call f as ks pos) c.env) (Uy c.S r d f as ks pos):=by
 refine .chk fun h=>?_
 have h:=AJ.mp h
 have fin:∀{k:Kn} {q:Je} {f:Value} {ws:List Value},Jc c k q f ws→AV c k (CV c) (callWith pos f ws (backTo pos (D6 as c.env)) (D8 pos (C5 ks c.env))) ((IR r d as).bind fun vs=>(Il r d ks).bind fun kvs=>LS c.S d q vs kvs):=fun hq=>
  NM ev h.2 (SL T hq) G.1 fun k' xs vs kx kv l hv hk=>RB T G ca (hq.mono l) hv hk
 rcases f with _|_|_|_|_|_|_|_|_|_|_|_|_|_|_|_|_|_|_|_|⟨o,n,ap⟩|_|_|⟨x,xp⟩|_
 case Name=>
  show AV c k (CV c) (eval (.Name x xp) c.env >>= fun x=>callWith pos x [] (backTo pos (D6 as c.env)) (D8 pos (C5 ks c.env))) _
  refine .bind (ev k _) fun k' a x l hx=>?_
  show AV c k' (CV c) ((Be x:Sem Value) >>= fun x=>callWith pos x [] (backTo pos (D6 as c.env)) (D8 pos (C5 ks c.env))) _
  exact .bind (VW hx) fun k'' q y l' hq=>fin hq
 case Attribute=>
  refine .chk fun h'=>?_
  have h':=AJ.mp h'
  rw[arm_eval_Call,LO h'.2]
  refine .bind (ev k o) fun k' a x l hx=>.stand ?_
  have hp:=AJ.mp h.2
  have h1:methodCallForm (as.length+ks.length) (backTo pos (D6 as c.env)) (D8 pos (C5 ks c.env))=true:=by
   unfold methodCallForm
   have a3:(backTo pos (D6 as c.env)).all (!·.1)=true:=by
    have a1:=List.any_eq_false.mp (MC (pos:=pos) (env:=c.env) as hp.1)
    exact Az.mpr fun y hy=>by rw[E8];exact Bool.eq_false_iff.mpr (a1 y hy)
   have hl:=of_decide_eq_true h.1
   rw[a3,(ML (pos:=pos) (env:=c.env) ks hp.2).1,Bool.true_and,Bool.true_and,decide_eq_true_eq]
   split<;>lia
  have h2:methodCallPos true o c.env ap pos=Be pos:=by unfold methodCallPos;simp[of_decide_eq_true h'.1]
  unfold methodCall
  rw[h1,h2]
  exact .bind (.hold (Sx G.1 T hx)) fun k'' q p l' hq=>.via pos (fun Q E s h=>AN h) (fin hq)
 all_goals exact .stuck
theorem Sw {v i:Expr}{pos:Pos}:AV c k (CV c) (eval (.Subscript v i pos) c.env) (Sm c.S r d v i):=by
 have e:eval (.Subscript v i pos) c.env=(eval v c.env >>= fun o=>Bm [o] (eval i c.env) >>= fun j=>Cp pos >>= fun zz=>DD v i o j):=by rw[arm_eval_Subscript];rfl
 have part:∀(x:Option Expr) {k:Kn},AV c k (CV c) (evalPart x c.env) (Us r d x):=fun x {k}=>by
  rcases x with _|e
  ·exact .pure fun zz zz=>rfl
  ·exact ev k e
 rw[e]
 unfold Sm
 rcases hs:Qu i with _|q
 ·exact .bind (ev k v) fun k' a x l hx=>.bind (.hold (ev k' i)) fun k'' b y l' hy=>.stand (VQ G.1 T.sta (hx.mono l') hy)
 ·
  refine .bind (ev k v) fun k' a x l hx=>fun k₁ st s K X o Q E l₁ R P HQ HE=>?_
  rcases i with _|_|_|_|_|_|_|_|_|_|_|_|_|_|_|_|_|_|_|_|_|_|_|_|_|_|⟨lo,hi,stp,p⟩
  case Slice=>
   rcases stp with _|z
   ·
    have hs:=AH hs
    subst hs
    refine AF (BB (wpAny_Slice ?_))
    exact part lo k₁ st s _ X o _ _ (.refl _) R P (fun k1 la lv st1 h1 t1 l2 R1 hl P1=>part hi k1 st1 _ _ X o _ _ (.refl _) R1 P1 (fun k2 ua uv st2 h2 t2 l3 R2 hu P2=>
     wpAny_of_eq (a:=.none) rfl (AF (Bp (Qw (s:={s with heap:=h2,toks:=t2}) G.1 T.sta (hx.mono (l₁.trans (l2.trans l3))) (hl.mono l3) hu R2 P2 (HQ.ext (l2.trans l3)))))) (HE.ext l2)) HE
   ·exact AP hs
  all_goals exact AP hs
include tr in
theorem VV (cm:∀k elt t iter ifs sc pos,AV c k (CV c) (eval (.ListComp elt [⟨t,iter,ifs,0⟩] sc pos) c.env) (Mm c.S r d elt t iter ifs sc))(e:Expr):AV c k (CV c) (eval e c.env) (Zd c.S r d e):=by
 cases e with
 |Constant q n p=>exact .const
 |Name x p=>exact .name G.1
 |BoolOp op vs p=>exact TB G T ev _
 |BinOp a op b p=>
  rw[arm_eval_BinOp]
  show AV c k (CV c) _ ((r.ev d a).bind fun x=>(r.ev d b).bind fun y=>U8 op x y)
  exact .bind (ev k _) fun k' a x l hx=>.bind (.hold (ev k' _)) fun k'' b y l' hy=>.stand (.operating (VX (hx.mono l') hy))
 |UnaryOp op a p=>
  rw[arm_eval_UnaryOp]
  show AV c k (CV c) _ ((r.ev d a).bind fun a=>WJ c.S op a)
  exact .bind (ev k _) fun k' a x l hx=>.stand (.hold (WS G.1 T.sta hx))
 |IfExp t a b p=>
  rw[arm_eval_IfExp]
  show AV c k (CV c) _ ((r.tr d t).bind fun q=>Ep q (r.ev d a) (r.ev d b))
  refine .bind (tr k _) fun k' t t' l ht=>?_
  cases (show t=t' from ht)
  exact .ite (fun h=>by subst h;exact ev k' _) fun h=>by subst h;exact ev k' _
 |Dict ks vs p=>exact T8 G.1
 |List es p=>
  rw[arm_eval_List]
  show AV c k (CV c) _ ((IR r d es).bind fun vs=>chk (BE vs.length) (Fa (.list vs)))
  exact .stand (.bind (Ll ev _) fun k' xs vs l hs=>.sizeS fun hl=>K5 hs hl)
 |Tuple es p=>
  rw[arm_eval_Tuple]
  show AV c k (CV c) _ ((IR r d es).bind fun vs=>chk (BE vs.length) (.pure (.tup vs)))
  exact .stand (.bind (Ll ev _) fun k' xs vs l hs=>.sizeS fun hl=>NL hs hl)
 |Compare a ops es p=>
  rw[arm_eval_Compare]
  show AV c k (CV c) _ ((r.ev d a).bind fun a=>(Fw c.S r d a ops es).bind fun b=>.pure (.bool b))
  exact .bind (ev k _) fun k' a x l hx=>fun k₁ st s K X o Q E l₁ R P HQ HE=>R8 G T ev _ _ hx k₁ st s _ X o _ E l₁ R P (fun k'' t q st' h' tk l' R' hq P'=>HQ k'' (.bool t) q st' h' tk l' R' hq P') HE
 |Call f as ks p=>exact RA G T ev ca
 |Attribute o n p=>
  refine .chk (m:=(r.ev d o).bind fun ov=>Jw c.S ov n) fun hs=>?_
  rw[arm_eval_Attribute,LO hs]
  exact .bind (ev k o) fun k' a x l hx=>.stand (.bind (m:=Jw c.S a n) (g:=.pure) (.hold (NN G.1 T.cls hx)) fun k'' b y l' hy=>.letgo (.pure fun k3 l3=>hy.mono l3))
 |Subscript v i p=>exact Sw G T ev ca
 |ListComp elt gs sc p=>
  refine .look fun g hg=>?_
  rcases gs with _|⟨g1,gs⟩
  ·exact AP hg
  ·
   rcases g1 with⟨t,iter,ifs,n⟩
   ·
    rcases gs with _|_
    ·
     refine I5 hg fun h0 hg'=>Dc hg' fun hg'=>?_
     subst h0 hg'
     exact cm k elt t iter ifs sc p
    ·exact AP hg
 |_=>exact .stuck
end
end
theorem Qa {prog:Cg}{w:World}{A:Around}{test:Expr}{body orelse:List Stmt}{env:Env}{R:Result→Shared→Prop}{s:Shared}
  {E:Value→Shared→Prop}(hE:E=notedBy (model prog w) A env fun e s'=>R (.error e) s')(h:wpAny (model prog w) A (isTrue test env (eval test env)) (fun b s₂=>
    if b then wpAny (model prog w) A (execs body env) (fun f s₃=>match f with
      | .next| .cont=>Bb (model prog w) A (.whileLoop test body orelse env) R s₃
      | .brk=>R (.ok .next) s₃
      | .ret v=>R (.ok (.ret v)) s₃) E s₂
    else wpAny (model prog w) A (execs orelse env) (fun f s₃=>R (.ok f) s₃) E s₂) E s):Bb (model prog w) A (.whileLoop test body orelse env) R s:=by
 subst hE
 refine codeAny_of_tree ?_
 show wpAny _ A ((whileTurn test body orelse env).onRaise (fun x=>do noteFrame x env;theTreesLotGoes x)) _ _ s
 refine wpAny_noted ?_
 simp only[whileTurn]
 refine AF (Bi h (fun b s₂ h₂=>?_) fun zz zz h'=>h')
 rcases b with _|_
 ·
  simp only[Ca,if_false] at h₂ ⊢
  exact AF (Bi h₂ (fun f s₃ h₃=>AN h₃) fun zz zz h'=>h')
 ·
  simp only[if_true] at h₂ ⊢
  refine AF (Bi h₂ (fun f s₃ h₃=>?_) fun zz zz h'=>h')
  cases f with
  |next=>exact AN ⟨rfl,h₃⟩
  |cont=>exact AN ⟨rfl,h₃⟩
  |brk=>exact AN h₃
  |ret v=>exact AN h₃
theorem Vt {prog:Cg}{w:World}{A:Around}{target:Expr}{it:Value}{body orelse:List Stmt}{env:Env}{R:Result→Shared→Prop}{s:Shared}
  {E:Value→Shared→Prop}(hE:E=notedBy (model prog w) A env fun e s'=>R (.error e) s')(h:wpAny (model prog w) A (pyNext it) (fun r s₁=>match r with
   |none=>wpAny (model prog w) A (execs orelse env) (fun f s₃=>R (.ok f) s₃) (notedBy (model prog w) A env fun e s'=>R (.error e) s') s₁
   |some v=>wpAny (model prog w) A (letOwnedTupleGo target it v) (fun zz s₁'=>
     wpAny (model prog w) A (assign target env v) (fun zz s₂=>wpAny (model prog w) A (execs body env) (fun f s₃=>match f with
      | .next| .cont=>Bb (model prog w) A (.forLoop target it body orelse env) R s₃
      | .brk=>R (.ok .next) s₃
      | .ret v=>R (.ok (.ret v)) s₃) E s₂) E s₁') E s₁) E s):Bb (model prog w) A (.forLoop target it body orelse env) R s:=by
 subst hE
 refine codeAny_of_tree ?_
 show wpAny _ A ((forTurn target it body orelse env).onRaise (fun x=>do noteFrame x env;theTreesLotGoes x)) _ _ s
 refine wpAny_noted ?_
 simp only[forTurn]
 refine AF (Bp (AF (wpAny_onRaise (Bi h (fun r s₁ h₁=>?_) fun zz zz h'=>Bp h'))))
 rcases r with _|v
 ·exact AN ⟨rfl,codeAny_block h₁⟩
 ·
  refine AF (Bi h₁ (fun zz s₁' h₁'=>?_) fun zz zz h'=>h')
  refine AF (Bi h₁' (fun zz s₂ h₂=>AF (Bi h₂ (fun f s₃ h₃=>?_) fun zz zz h'=>h')) fun zz zz h'=>h')
  cases f with
  |next=>exact AN ⟨rfl,h₃⟩
  |cont=>exact AN ⟨rfl,h₃⟩
  |brk=>exact AN h₃
  |ret v=>exact AN h₃
noncomputable def LX (c:Cx)(k₀:Kn)(code:Code)(m:M Fl):Prop:=
 ∀k st s K X o R,B8 k₀ k→Aj c.fm k st s.heap→Y c.l o (m st K X)→En c (CF c.tp) k s K o (fun f s'=>R (.ok f) s')→FL c k s X o (fun e s'=>R (.error e) s')→Bb c.M c.A code R s
section
variable {c:Cx}{k:Kn}
theorem Ed {r:Fh}{d:Nat}(ex:∀k s,AV c k (CF c.tp) (exec s c.env) (r.ex d s))(ss:List Stmt):∀{k:Kn},AV c k (CF c.tp) (execs ss c.env) (DP r d ss):=by
 induction ss with
 |nil=>exact .pure fun zz zz=>rfl
 |cons s ss ih=>
  intro k
  rw[execs_cons]
  refine .bind (ex k s) fun k' f fl l hf=>?_
  cases f with
  |next=>rw[show fl= .next from hf];exact ih
  |brk=>rw[show fl= .brk from hf];exact .pure fun zz zz=>rfl
  |cont=>rw[show fl= .cont from hf];exact .pure fun zz zz=>rfl
  |ret v=>exact AS hf fun w e hc=>by rw[e];exact .pure fun zz l'=>⟨w,rfl,hc.mono l'⟩
theorem VJ {m:M Fl}{fl:Fl}{flow:Flow}{st:St}{s:Shared}{K:Fl→St→Au}{X:V→St→Au}{o:Except V V×List O}{R:Result→Shared→Prop}{code:Code}(hf:CF c.tp k fl flow)(Rl:Aj c.fm k st s.heap)(P:Y c.l o (Ib m fl st K X))
  (HQ:En c (CF c.tp) k s K o (fun f s'=>R (.ok f) s'))(HE:FL c k s X o (fun e s'=>R (.error e) s'))(hm:LX c k code m):match (generalizing:=false) flow with
   | .next| .cont=>Bb c.M c.A code R s
   | .brk=>R (.ok .next) s
   | .ret v=>R (.ok (.ret v)) s:=by
 cases fl with
 |next=>rw[show flow= .next from hf];exact hm k st s K X o R (.refl _) Rl P HQ HE
 |cont=>rw[show flow= .cont from hf];exact hm k st s K X o R (.refl _) Rl P HQ HE
 |brk=>rw[show flow= .brk from hf];exact HQ.now s.toks Rl (show CF c.tp k .next .next from rfl) P
 |ret v=>exact AS hf fun w e hc=>by rw[e];exact HQ.now s.toks Rl (show CF c.tp k (.ret v) (.ret w) from⟨w,rfl,hc⟩) P
theorem VO (G:BI c)(ow:Gp c){r:Fh}{d:Nat}(tr:∀k e,AV c k CB (isTrue e c.env (eval e c.env)) (r.tr d e))(ex:∀k s,AV c k (CF c.tp) (exec s c.env) (r.ex d s)){t:Expr}{b:List Stmt}
  (wl:∀k,LX c k (.whileLoop t b [] c.env) (Ia d t b)):LX c k (.whileLoop t b [] c.env) (SY r d t b):=by
 intro k₁ st s K X o R l Rl P HQ HE
 have HN:=HE.noted G.frames ow
 refine Qa rfl (tr k₁ t k₁ st s _ X o _ _ (.refl _) Rl P (fun k1 q q' st1 h1 t1 l1 R1 hq P1=>?_) HN)
 cases (show q=q' from hq)
 rcases q with _|_
 ·exact wpAny_execs_nil (HQ k1 .next .next st1 h1 t1 l1 R1 rfl P1)
 ·exact Ed ex b k1 st1 _ _ X o _ _ (.refl _) R1 P1 (fun k2 fl flow st2 h2 t2 l2 R2 hf P2=>VJ (s:={s with heap:=h2,toks:=t2}) hf R2 P2 (HQ.ext (l1.trans l2)) (HE.ext (l1.trans l2)) (wl k2)) (HN.ext l1)
theorem Qx (G:BI c)(ts:List Expr):∀{xs:List V} {vs:List Value} {k:Kn},(ts.all fun t=>(Kz t).isSome)=true→Am c.tp k xs vs→AV c k CU (assignInOrder ((assignEach ts c.env).map (·.2)) vs) (Ge ts xs):=by
 induction ts with
 |nil=>
  intro xs vs k _ hs
  rcases xs with _|_
  ·rw[show vs=[] from hs];exact .pure fun zz zz=>trivial
  ·exact .stuck
 |cons t ts ih=>
  intro xs vs k h hs
  have h:=AJ.mp (Dv.symm.trans h)
  rcases xs with _|⟨a,xs⟩
  ·exact .stuck
  ·
   refine BF hs fun v us h1 h2 e=>?_
   subst e
   cases t with
   |Name x p=>
    refine .look fun x' e=>Dc e fun e=>?_
    subst e
    show AV c k CU (Bm us (Cp p >>= fun zz=>bindName c.env x v) >>= fun zz=>assignInOrder ((assignEach ts c.env).map (·.2)) us) _
    exact .bind (.hold (.stand (.bindName G h1))) fun k' zz zz l zz=>ih h.2 (h2.mono l)
   |_=>exact(AI h.1).elim
theorem Pb (G:BI c)(hh:c.A.handled=none){xs:List V}{v:Value}{n:Nat}(h:Ag c.tp k (.tup xs) v)(hn:n=xs.length):AV c k (fun k (a:Unit) (vs:List Value)=>Am c.tp k xs vs) (unpackItems v n none) (.pure ()):=by
 refine fun k₁ st s K X o Q E l R P HQ HE=>Hf (h.mono l) fun a m vs h1 h2 h3=>?_
 subst h3
 have ht:IsTup s.heap a vs.toArray:=⟨_,R.bears _ h1,rfl,_,rfl⟩
 exact unpackItemsN_ R.F R.N ht hh (by rw[Ay,←h2.length];exact hn) fun h' F' N'=>HQ k₁ () _ st h' s.toks (.refl _) (R.same F' N') (by simpa using h2) P
theorem PZ (ts:List Expr)(env:Env):(ts.all fun t=>(Kz t).isSome)=true→(assignEach ts env).findIdx? (·.1)=none∧(assignEach ts env).length=ts.length:=by
 induction ts with
 |nil=>exact fun zz=>⟨rfl,rfl⟩
 |cons t ts ih=>
  intro h
  have h:=AJ.mp (Dv.symm.trans h)
  cases t with
  |Name x p=>
   show((false,assign (.Name x p) env)::assignEach ts env).findIdx? (·.1)=none∧_
   rw[List.findIdx?_cons,(ih h.2).1]
   exact⟨rfl,congrArg (·+1) (ih h.2).2⟩
  |_=>exact(AI h.1).elim
section
variable {r:Fh}{d:Nat}(G:BL c d)(T:E0 c.tp)(ev:∀k e,AV c k (CV c) (eval e c.env) (r.ev d e))
include G T ev
theorem Ic (t:Expr){a:V}{v:Value}{k:Kn}(hv:Ag c.tp k a v):AV c k CU (assign t c.env v) (HL c.S r d t a):=by
 rcases t with _|_|_|_|_|_|_|_|_|_|_|_|_|_|_|_|_|_|_|_|⟨o,n,p⟩|⟨o,i,p⟩|_|⟨x,p⟩|_|⟨ts,kk,p⟩|_
 case Name=>exact .stand (.bindName G.1 hv)
 case Attribute=>
  show AV c k CU (Bm [v] (eval o c.env) >>= fun ov=>Cp p.atName >>= fun zz=>Bm [v,ov] (setAttr ov n v) >>= fun zz=>release [v,ov] []) ((r.ev d o).bind fun ov=>HT c.S ov n a)
  exact .bind (.hold (ev k o)) fun k' b x l hx=>.stand fun k₁ st s K X o Q E l₁ R P HQ HE=>AF (BB (K4 G.1 T.cls hx (hv.mono l) k₁ st s K X o _ E l₁ R P (fun k2 zz zz st2 h2 t2 l2 R2 zz P2=>wpAny_release (HQ k2 () () st2 h2 t2 l2 R2 trivial P2)) HE))
 case Subscript=>
  show AV c k CU (Bm [v] (eval o c.env) >>= fun ov=>Bm [v,ov] (eval i c.env) >>= fun iv=>Cp p >>= fun zz=>Bm [v,ov,iv] (setItem ov iv v) >>= fun zz=>release (match i with| .Slice _ _ none _=>[iv,v,ov]|_=>[v,ov,iv]) []) ((r.ev d o).bind fun ov=>(r.ev d i).bind fun iv=>KO ov iv a)
  exact .bind (.hold (ev k o)) fun k' b x l hx=>.bind (.hold (ev k' i)) fun k'' e y l' hy=>.stand fun k₁ st s K X o Q E l₁ R P HQ HE=>AF (BB (OQ (hx.mono l') hy ((hv.mono l).mono l') k₁ st s K X o _ E l₁ R P (fun k2 zz zz st2 h2 t2 l2 R2 zz P2=>wpAny_release (HQ k2 () () st2 h2 t2 l2 R2 trivial P2)) HE))
 case Tuple=>
  refine .look fun xs ex=>Jy ex fun q=>.chk fun h=>?_
  subst q
  have h:=AJ.mp h
  have hz:=h.1
  have h:=AJ.mp h.2
  have h2:=PZ ts c.env h.2
  show AV c k CU (Cp p >>= fun zz=>unpack v (assignEach ts c.env)) _
  refine .stand ?_
  unfold unpack
  rw[h2.1,h2.2]
  exact .bind (m:=.pure ()) (g:=fun zz=>Ge ts xs) (.hold (Pb G.1 (G.4 hz) hv (of_decide_eq_true h.1))) fun k' zz vs l hs=>Qx G.1 ts h.2 hs
 all_goals exact .stuck
theorem Ma {pos:Pos}(ops:List CmpOp):∀(es:List Expr) {a:V} {x:Value} {k:Kn},Ag c.tp k a x→AV c k CB (testChain pos x ops (markedEach ops es (evalEach es c.env))) (Fw c.S r d a ops es):=by
 induction ops with
 |nil=>exact fun zz {zz zz zz} zz=>.stuck
 |cons op ops ih=>
  intro es a x k h
  rcases es with _|⟨e,es⟩
  ·exact .stuck
  ·
   rw[PH]
   refine .chk fun hs=>?_
   rcases ops with _|⟨op2,ops⟩
   ·
    rcases es with _|_
    ·
     show AV c k CB (testChain pos x [op] [markedBehindIn op e (eval e c.env)]) _
     rw[K6 (AJ.mp hs).1]
     show AV c k CB (Bm [x] (eval e c.env) >>= fun rv=>Cp pos >>= fun zz=>operate [x,rv] (C8 op x rv) >>= fun q=>Bm [q] (truthy q)) ((r.ev d e).bind fun b=>(KZ c.S op a b).bind fun t=>.pure t)
     refine .bind (.hold (ev k e)) fun k' b y l hb=>.stand (.bind (.operating (Ji G.1 G.hu T.sta (h.mono l) hb)) fun k'' t q l' hq=>?_)
     rw[show q= .bool t from hq]
     exact .hold (.still fun zz s zz zz zz h=>FI (h s.toks _ rfl))
    ·exact(AI ((FD _).symm.trans hs)).elim
   ·
    show AV c k CB (Bm [x] (eval e c.env) >>= fun rv=>Cp pos >>= fun zz=>Bm [x,rv] (C8 op x rv) >>= fun q=>release [x,rv] [q] >>= fun zz=>Bm [q,rv] (truthy q) >>= fun t=>if t=true then testChain pos rv (op2::ops) (markedEach (op2::ops) es (evalEach es c.env)) else Be false) ((r.ev d e).bind fun b=>(KZ c.S op a b).bind fun t=>Ep t (Fw c.S r d b (op2::ops) es) (.pure false))
    refine .bind (.hold (ev k e)) fun k' b y l hb=>.stand (.bind (.hold (Ji G.1 G.hu T.sta (h.mono l) hb)) fun k'' t q l' hq=>.release ?_)
    rw[show q= .bool t from hq]
    refine .via t (fun Q E s h=>BB (FI h)) ?_
    cases t
    ·exact .pure fun zz zz=>rfl
    ·exact ih es (hb.mono l')
theorem VP {k:Kn}(tr:∀k e,AV c k CB (isTrue e c.env (eval e c.env)) (r.tr d e))(e:Expr):AV c k CB (isTrue e c.env (eval e c.env)) (ZI c.S r d e):=by
 have plain:Ul e=false→(isTrue e c.env (eval e c.env)=(eval e c.env >>= fun v=>Cp e.pos >>= fun zz=>Bm [v] (truthy v)))→AV c k CB (isTrue e c.env (eval e c.env)) ((r.ev d e).bind (IE c.S)):=fun zz h=>by
  rw[h]
  exact .bind (ev k e) fun k' a x l hx=>.stand (.hold (JB G.1 T.sta hx))
 rcases e with⟨op,vs,p⟩|_|_|⟨op,x,p⟩|_|⟨t,a,b,p⟩|_|_|_|_|_|_|_|_|_|⟨a,ops,es,p⟩|_
 case UnaryOp=>
  rcases op with _|_
  case Not=>
   show AV c k CB (isTrue x c.env (eval x c.env) >>= fun t=>Be (!t)) ((r.tr d x).bind fun b=>.pure (!b))
   exact .bind (tr k x) fun k' t t' l ht=>.pure fun zz zz=>congrArg (!·) ht
  all_goals exact .stuck
 case BoolOp=>exact RC tr _
 case IfExp=>exact .stuck
 case Compare=>
  show AV c k CB (eval a c.env >>= fun x=>testChain p x ops (markedEach ops es (evalEach es c.env))) ((r.ev d a).bind fun a=>Fw c.S r d a ops es)
  exact .bind (ev k a) fun k' a x l hx=>Ma G T ev ops es hx
 all_goals exact plain rfl rfl
end
end
theorem Tc {t:Expr}(h:Na t=true){G:Prop}(k:∀es n p,t= .Tuple es n p→G):G:=by
 rcases t with _|_<;>first|exact(AI h).elim|exact k _ _ _ rfl
noncomputable def N4:List String:=["enumerate","zip","dict_itemiterator","dict_reverseitemiterator","odict_iterator","itertools.zip_longest","itertools.pairwise"]
theorem OV {prog:Cg}{w:World}{A:Around}{t:Expr}{a:Addr}{v:Value}{o:Obj}{n:String}{Q:Unit→Shared→Prop}{E:Value→Shared→Prop}{s:Shared}(ho:s.heap.get? a=some o)(hc:o.cls= .type n)(hn:N4.contains n=false)(h:Q () s):
  wpAny (model prog w) A (letOwnedTupleGo t (.ref a) v) Q E s:=by
 have key:wpAny (model prog w) A (do
   let(.ref r,.ref a):=(Value.ref a,v)|return
   let o ←load r
   match o.cls,o.data with
   | .type n,.fields vs=>
    if["enumerate","zip","dict_itemiterator","dict_reverseitemiterator","odict_iterator","itertools.zip_longest","itertools.pairwise"].contains n&&vs[0]? ==some (rawInt a) then
     rule "for.unpacks-the-owned-tuple"
     updateField r 0 .none
   |_,_=>pure ()) Q E s:=by
  rcases v with _|_|_|_|_|_|_|_|_|_|⟨b⟩
  case ref=>
   refine AF (wpAny_load ho ?_)
   obtain⟨c,dd,dt,sl⟩:=o
   simp only at hc
   subst hc
   rcases dt with _|_<;>first
    |exact AN h
    |(simp only
      rw[show(["enumerate","zip","dict_itemiterator","dict_reverseitemiterator","odict_iterator","itertools.zip_longest","itertools.pairwise"].contains n)=false from hn]
      exact AN h)
  all_goals exact AN h
 rcases t with _|_<;>first|exact key|exact AN h
noncomputable abbrev wJ (c:Cx)(L:BS):Cx:=⟨⟨c.tp,c.env,c.h₀,L++c.J⟩,c.A,c.outer,c.lv⟩
theorem BI.wJ {c:Cx}(G:BI c)(L:BS):BI (wJ c L):=⟨G.top,G.kind,G.gl,G.bi,G.frames,G.stays,G.ff⟩
theorem BL.wJ {c:Cx}{d:Nat}(G:BL c d)(L:BS):BL (wJ c L) d:=⟨G.1.wJ L,G.2,G.3,G.4,G.5⟩
noncomputable def GC (c:Cx)(k:Kn):It→Nat→Addr→Obj→Prop
 | .list i _,j,_,o=>∃d:DE,k.D[i]? =some (some d)∧o.cls= .type "list_iterator"∧o.data= .fields #[.ref d.1,.int j 0]
 | .str s _,j,_,o=>∃n t,(n="str_ascii_iterator"∨n="str_iterator")∧o.cls= .type n∧o.data= .fields #[.str s t,.int j 0]∧j≤s.cps.size
 | .rng x y,j,_,o=>o={cls:=.type "range_iterator",dict:=none,data:=.fields #[rawInt (x+j * 1),rawInt (((y - x).toNat:Int) - j),rawInt 1],slots:= #[]}∧j≤(y - x).toNat
 | .dict i,j,a,o=>∃(d:DE) (ob:Obj) (es:Array C0) (ep:Nat),k.D[i]? =some (some d)∧(d.1,ob)∈c.J∧ob.data= .dict es ep∧o.cls= .type "dict_keyiterator"∧o.data= .fields #[.ref d.1,.int j 0,.int es.size 0,.int ep 0]∧j≤es.size
noncomputable def GV (a:Addr)(j:Nat)(old:Value):Obj:={cls:=.type "enumerate",dict:=none,data:=.fields #[.none,.bool false,.ref a,rawInt j,.none,old],slots:= #[]}
noncomputable def Ex (c:Cx)(k:Kn)(it:It)(j:Nat)(p:Addr)(L:BS):Prop:=∃a o,GC c k it j a o∧((EA it=false∧p=a∧L=[(a,o)])∨(EA it=true∧p≠a∧∃old,L=[(p,GV a j old),(a,o)]))
section
variable {c:Cx}{k k':Kn}{it:It}{j:Nat}{p a:Addr}{o:Obj}{L:BS}
theorem GC.mono (e:B8 k k')(h:GC c k it j a o):GC c k' it j a o:=by
 rcases it with⟨i,en⟩|_|_|⟨i⟩
 case list=>exact Af (fun d h=>⟨e.1 _ _ h.1,h.2⟩) h
 case dict=>exact Af (fun d=>Af fun ob=>Af fun es=>Af fun ep h=>⟨e.1 _ _ h.1,h.2⟩) h
 all_goals exact h
theorem Ex.mono (e:B8 k k')(h:Ex c k it j p L):Ex c k' it j p L:=Af (fun a=>Af fun o h=>⟨h.1.mono e,h.2⟩) h
theorem GC.cls (h:GC c k it j a o):∃n,o.cls= .type n∧n≠"dict"∧N4.contains n=false:=by
 cases it with
 |list i en=>exact AB h fun d h=>⟨_,h.2.1,by decide,by decide⟩
 |str s en=>exact AB h fun n h=>AB h fun t h=>⟨n,h.2.1,h.1.elim (fun e=>e▸by decide) fun e=>e▸by decide,h.1.elim (fun e=>e▸by decide) fun e=>e▸by decide⟩
 |rng x y=>exact⟨"range_iterator",h.1▸rfl,by decide,by decide⟩
 |dict i=>exact AB h fun d h=>AB h fun ob h=>AB h fun es h=>AB h fun ep h=>⟨_,h.2.2.2.1,by decide,by decide⟩
noncomputable def QW (c:Cx)(L:BS):Prop:=∀p∈L,∀kvs,¬p.2.IsDictOf (DW c.prog c.w) kvs
theorem Kc {n:String}(h:o.cls= .type n)(hn:n≠"dict"):∀kvs,¬o.IsDictOf (DW c.prog c.w) kvs:=fun kvs z=>AB z fun es z=>AB z fun ep z=>hn (Value.type.inj (h.symm.trans z.1.1))
theorem Ex.bare (h:Ex c k it j p L):QW c L:=by
 refine AB h fun a h=>AB h fun o h=>AB h.1.cls fun n hn=>h.2.elim (fun z=>?_) fun z=>z.2.2.elim fun old e=>?_
 ·rw[z.2.2]
  exact fun q hq=>by rw[AY.mp hq];exact Kc hn.1 hn.2.1
 ·rw[e]
  exact fun q hq=>(AU.mp hq).elim (fun e=>by rw[e];exact Kc (n:="enumerate") rfl (by decide)) fun hq=>by rw[AY.mp hq];exact Kc hn.1 hn.2.1
end
structure Iw (c:Cx)(k:Kn)(s:Shared)(it:It)(j:Nat)(a:Addr)(q:Option V)(n:Nat)(P:Nat→Value→Prop)(St:Nat→Heap→Prop)(fp:List Addr):Prop where
 W:EA it=false→Walks c.prog c.w c.A a fp [a] n P St
 D:EA it=true→Draws c.prog c.w c.A.in1 a fp n P St
 fp:∀b∈fp,b=a∨∃o n,s.heap.get? b=some o∧o.cls= .type n∧n≠"enumerate"
 st:St j s.heap
 no:q=none→j=n
 yes:∀x,q=some x→j<n∧∀v,P j v→Ag c.tp k x v
 live:∀h',j<n→St (j+1) h'→∃o',h'.get? a=some o'∧GC c k it (j+1) a o'
theorem Lr (q:Option V)(j:Nat):q.map (IC false j)=q:=by rcases q with _|_<;>rfl
section
variable {c:Cx}{k:Kn}{j:Nat}{a:Addr}{o:Obj}{s:Shared}
theorem Ri (hh:c.A.handled=none){x:Str}{en:Bool}(H:GC c k (.str x en) j a o)(ho:s.heap.get? a=some o):∃n P St fp,Iw c k s (.str x en) j a (x.cps[j]?.map Aw) n P St fp:=by
 refine AB H fun n H=>AB H fun t H=>?_
 have key:∀ty,n=ty→Walks c.prog c.w c.A a [a] [a] x.cps.size (SignAt x) (fun i h=>h.IsStrIter a ty x t i)→Draws c.prog c.w c.A.in1 a [a] x.cps.size (fun i v=>∃q u,x.cps[i]? =some q∧v= .str ⟨#[q]⟩ u) (fun i h=>h.IsStrIter a ty x t i)→(ty="str_ascii_iterator"∨ty="str_iterator")→∃n P St fp,Iw c k s (.str x en) j a (x.cps[j]?.map Aw) n P St fp:=fun ty e W D hty=>by
  subst e
  refine⟨x.cps.size,SignAt x,fun i h=>h.IsStrIter a n x t i,[a],fun zz=>W,fun zz=>D,fun b hb=>.inl (AY.mp hb),⟨o,ho,H.2.1,H.2.2.1⟩,fun e=>?_,fun z e=>?_,fun h' hl st=>Dx st fun o' h1 h2 h3=>⟨o',h1,n,t,hty,h2,h3,hl⟩⟩
  ·exact G9 H.2.2.2 (Array.getElem?_eq_none_iff.mp (Option.map_eq_none_iff.mp e))
  ·exact AS (Ao.mp e) fun q e1 e2=>⟨(Db.mp e1).1,fun v hv=>AB hv fun q' hv=>AS hv fun u h1 h2=>by
    rw[h1] at e1
    rw[←e2,h2,AH e1]
    exact⟨u,rfl⟩⟩
 exact H.1.elim (fun e=>key _ e (Walks.strAscii hh a x t) (Draws.strAscii (A:=c.A.in1) hh a x t) (.inl rfl)) fun e=>key _ e (Walks.strWide hh a x t) (Draws.strWide (A:=c.A.in1) hh a x t) (.inr rfl)
theorem Q2 (hh:c.A.handled=none){L:BS}{st:St}(R:Aj (wJ c L).fm k st s.heap){i:Nat}{en:Bool}{ob:O}{xs:List V}(H:GC c k (.list i en) j a o)(ho:s.heap.get? a=some o)(e:st.heap[i]? =some ob)(hp:oL ob=some xs)(hj:j≤xs.length):∃n P St fp,Iw c k s (.list i en) j a xs[j]? n P St fp:=by
 refine AB H fun d H=>R.list (c:=wJ c L) e hp (v:=.ref d.1) ⟨d,H.1,rfl⟩ fun l vs n hv zz hs hL=>?_
 rw[←FV hv] at hL
 have hne:d.1≠a:=fun z=>AS hL fun o' h1 h2=>by rw[z,ho] at h1;rw[←AH h1,H.2.1] at h2;exact absurd (Value.type.inj h2.1) (by decide)
 have hlen:=hs.length
 refine⟨vs.toArray.size,_,_,[a,d.1],fun zz=>Walks.list hh a d.1 hne vs.toArray,fun zz=>Draws.list (A:=c.A.in1) hh a d.1 hne vs.toArray,fun b hb=>(AU.mp hb).imp id fun hb=>AS hL fun o' h1 h2=>⟨o',"list",by rw[AY.mp hb];exact h1,h2.1,by decide⟩,⟨⟨o,ho,H.2.1,H.2.2⟩,hL⟩,fun e=>?_,fun z e=>?_,fun h' zz st=>Dx st.1 fun o' h1 h2 h3=>⟨o',h1,d,H.1,h2,h3⟩⟩
 ·rw[Ay,←hlen]
  exact G9 hj (List.getElem?_eq_none_iff.mp e)
 ·refine AS (hs.get e) fun v h1 h2=>⟨by rw[Ay,←hlen];exact(AM.mp e).1,fun w hw=>?_⟩
  have hw:vs.toArray[j]? =some w:=hw
  rw[List.getElem?_toArray,h1] at hw
  exact AH hw▸h2
theorem Rj (hh:c.A.handled=none){x y:Int}(H:GC c k (.rng x y) j a o)(ho:s.heap.get? a=some o):∃n P St fp,Iw c k s (.rng x y) j a (if x+j<y then some (.int (x+j)) else none) n P St fp:=by
 refine⟨(y - x).toNat,_,_,[a],fun zz=>Walks.range hh a x 1 _,fun e=>(AI e).elim,fun b hb=>.inl (AY.mp hb),ho.trans (congrArg some H.1),fun e=>?_,fun z e=>I5 e fun h e=>⟨by lia,fun v hv=>AB hv fun t hv=>?_⟩,fun h' hl st=>⟨_,st,rfl,hl⟩⟩
 ·have hj:=H.2
  by_cases h:x+j<y
  ·rw[if_pos h] at e;cases e
  ·lia
 ·rw[←AH e,hv,Int.mul_one];exact⟨t,rfl⟩
theorem Q3 (hh:c.A.handled=none){L:BS}{st:St}(R:Aj (wJ c L).fm k st s.heap){i:Nat}{ob:O}{es:List (V×V)}(H:GC c k (.dict i) j a o)(ho:s.heap.get? a=some o)(e:st.heap[i]? =some ob)(hp:oF ob=some es):∃n P St fp,Iw c k s (.dict i) j a (es[j]?.map (·.1)) n P St fp:=by
 refine Wt hp fun q=>?_
 subst q
 refine AB H fun d H=>AB H fun obj H=>AB H fun ds H=>AB H fun ep H=>CN (R.heap.split e) fun d' p1 L' p2 e1 zz e3 zz=>BF e3.2 fun d₁ ob' e4 e5 e6=>?_
 cases AH ((AH (H.1.symm.trans e1)).trans e4)
 have get:∀{p},p∈(wJ c L).J→s.heap.get? p.1=some p.2:=fun hp=>(R.N _ (Ad _ (B7 _ hp))).1
 have g1:=get (Ad L H.2.1)
 have g2:=get e5
 cases AH (g1.symm.trans g2)
 refine AS e6.2.2.2 fun kvs h1 h2=>AB h1 fun ds' h1=>AB h1 fun ep' h1=>?_
 have z:=H.2.2.1.symm.trans h1.2.1
 injection z with z1 z2
 subst z1 z2
 have hne:d.1≠a:=fun z=>by rw[z,ho] at g1;rw[AH g1] at H;exact absurd (Value.type.inj (H.2.2.2.1.symm.trans h1.1.1)) (by decide)
 have hn:ds.size=kvs.length:=by rw[←Array.length_toList];exact h1.2.2.2.1.length
 have hlen:=h2.length
 rw[hn] at H
 refine⟨kvs.length,_,_,[a,d.1],fun zz=>Walks.dictKeys (knd:=DW c.prog c.w) hh a d.1 hne kvs ep,fun e=>(AI e).elim,fun b hb=>(AU.mp hb).imp id fun hb=>⟨_,"dict",by rw[AY.mp hb];exact g1,h1.1.1,by decide⟩,⟨⟨o,ho,H.2.2.2.1,H.2.2.2.2.1⟩,_,ds,g1,h1.1,h1.2.1,h1.2.2⟩,fun e=>?_,fun z e=>?_,fun h' hl st=>Dx st.1 fun o' g3 g4 g5=>⟨o',g3,d,_,ds,ep,H.1,H.2.1,h1.2.1,g4,by rw[g5,hn],by rw[hn];exact hl⟩⟩
 ·have:=List.getElem?_eq_none_iff.mp (Option.map_eq_none_iff.mp e)
  have:=H.2.2.2.2.2
  lia
 ·refine AS (Ao.mp e) fun p e1 e2=>⟨by rw[←hlen];exact(AM.mp e1).1,fun v hv=>AB hv fun q hv=>AS hv fun x h3 h4=>?_⟩
  subst e2
  exact AB (Value.isInt_shape h4) fun t ht=>by rw[X8 h2 e1 h3,ht];exact⟨t,rfl⟩
theorem Tf (hh:c.A.handled=none){L:BS}{st:St}(R:Aj (wJ c L).fm k st s.heap){it:It}(H:GC c k it j a o)(ho:s.heap.get? a=some o){α:Type}{g:Option V→M α}{K:α→St→Au}{X:V→St→Au}{out:Except V V×List O}(P:Y c.l out (((Kw it j).bind g) st K X)){Gl:Prop}
  (fin:∀q n P St fp,Y c.l out (g (q.map (IC (EA it) j)) st K X)→Iw c k s it j a q n P St fp→Gl):Gl:=by
 have fin':∀q,Y c.l out (g (q.map (IC (EA it) j)) st K X)→(∃n P St fp,Iw c k s it j a q n P St fp)→Gl:=fun q P h=>AB h fun n h=>AB h fun Pr h=>AB h fun St h=>AB h fun fp h=>fin q n Pr St fp P h
 cases it with
 |list i en=>exact JE P fun ob xs e1 e2 P=>Jj P fun hj P=>fin' xs[j]? P (Q2 hh R H ho e1 e2 (Bc hj))
 |str x en=>exact fin' (x.cps[j]?.map Aw) P (Ri hh H ho)
 |rng x y=>exact fin' (if x+j<y then some (.int (x+j)) else none) (by rw[show EA (.rng x y)=false from rfl,Lr];exact P) (Rj hh H ho)
 |dict i=>exact JE P fun ob es e1 e2 P=>fin' (es[j]?.map (·.1)) (by rw[show EA (.dict i)=false from rfl,Lr];exact P) (Q3 hh R H ho e1 e2)
noncomputable def ae (c:Cx)(s:Shared)(a:Addr)(L:BS):Prop:=
 ∀Q E,(∀h' tk,(∀b o,b∉L.map (·.1)→s.heap.get? b=some o→h'.get? b=some o)→Q none {s with heap:=h',toks:=tk})→wpAny c.M c.A (pyNext (.ref a)) Q E s
noncomputable def ZG (c:Cx)(k:Kn)(s:Shared)(it:It)(j:Nat)(a:Addr)(L:BS)(x:V):Prop:=
 ∀(t:Expr) (Q:Value→Shared→Prop) E,F4 it t=true→(∀h' tk v L' I',L'.map (·.1)=L.map (·.1)→Ex c k it (j+1) a L'→(∀p∈L',h'.get? p.1=some p.2)→(∀b o,b∉L.map (·.1)→s.heap.get? b=some o→h'.get? b=some o)→
   (I'=[]∨∃T ob,I'=[(T,ob)]∧s.heap.objs.size≤T∧h'.get? T=some ob)→Ag c.tp ⟨k.D,I'++k.I⟩ x v→Q v {s with heap:=h',toks:=tk})→
  wpAny c.M c.A (pyNext (.ref a)) (fun r s₁=>match r with|none=>False|some v=>wpAny c.M c.A (letOwnedTupleGo t (.ref a) v) (fun zz s₂=>Q v s₂) E s₁) E s
theorem Ox (hh:c.A.handled=none){p:Addr}{L:BS}{st:St}{it:It}(H:Ex c k it j p L)(R:Aj (wJ c L).fm k st s.heap){α:Type}{g:Option V→M α}{K:α→St→Au}{X:V→St→Au}{out:Except V V×List O}(P:Y c.l out (((Kw it j).bind g) st K X)){Gl:Prop}
  (fin:∀q,Y c.l out (g q st K X)→(match (generalizing:=false) q with|none=>ae c s p L|some v=>ZG c k s it j p L v)→Gl):Gl:=by
 refine AB H fun a H=>AB H fun o H=>?_
 have B:∀q∈L,s.heap.get? q.1=some q.2:=fun q hq=>(R.N q (Ad _ (B7 _ (B7 _ hq)))).1
 have ho:s.heap.get? a=some o:=H.2.elim (fun z=>B (a,o) (by rw[z.2.2];exact .head _)) fun z=>z.2.2.elim fun old e=>B (a,o) (by rw[e];exact .tail _ (.head _))
 refine Tf (c:=c) hh R H.1 ho P fun q n Pr St fp P N=>fin _ P ?_
 refine H.2.elim (fun z=>?_) fun z=>z.2.2.elim fun old e=>?_
 ·have W:=N.W z.1
  rw[z.1,Lr,z.2.1,z.2.2]
  have out:∀{h':Heap},(∀b o,b∉[a]→s.heap.get? b=some o→h'.get? b=some o)→∀b ob,b∉([(a,o)]:BS).map (·.1)→s.heap.get? b=some ob→h'.get? b=some ob:=fun hk b ob hb eb=>hk b ob hb eb
  rcases q with _|x
  ·exact fun Q E h=>W.done s Q E (N.no rfl▸N.st) fun h' tk hk=>h h' tk (out hk)
  ·
   intro t Q E ht h
   refine W.item j s _ _ (N.yes x rfl).1 N.st fun v h' tk hP st' hk=>AS (N.live h' (N.yes x rfl).1 st') fun o' h1 h2=>AB h2.cls fun m hm=>OV h1 hm.1 hm.2.2 ?_
   exact h h' tk v [(a,o')] [] rfl ⟨a,o',h2,.inl ⟨z.1,rfl,rfl⟩⟩ (fun p hp=>by rw[AY.mp hp];exact h1) (out hk) (.inl rfl) ((N.yes x rfl).2 v hP)
 ·have D:=N.D z.1
  have hen:IsEnum s.heap p a j old:=B _ (by rw[e];exact .head _)
  have hfp:p∉fp:=fun hp=>(N.fp p hp).elim z.2.1 fun w=>AB w fun o w=>AB w fun n w=>w.2.2 (Value.type.inj (w.2.1.symm.trans (congrArg Obj.cls (AH (w.1.symm.trans hen)))))
  rw[z.1,e]
  have keep:∀{h':Heap},(∀b o,b≠p→b≠a→s.heap.get? b=some o→h'.get? b=some o)→∀b ob,b∉([(p,GV a j old),(a,o)]:BS).map (·.1)→s.heap.get? b=some ob→h'.get? b=some ob:=fun hk b ob hb eb=>hk b ob (fun z=>hb (z▸ .head _)) (fun z=>hb (z▸ .tail _ (.head _))) eb
  rcases q with _|x
  ·exact fun Q E h=>wpAny_pyNext_enum_endD D hen (N.no rfl▸N.st) fun h' hk=>h h' s.toks (keep fun b o h1 h2 h3=>hk b o h2 h3)
  ·
   intro t Q E ht h
   refine wpAny_pyNext_enum_itemD D hen N.st (N.yes x rfl).1 z.2.1 hfp fun v h' tk hP hout st' hT hsz hk=>?_
   have ht2:Na t=true:=by unfold F4 at ht;rw[z.1] at ht;exact ht
   refine Tc ht2 fun elts kk pos et=>?_
   subst et
   ·refine wpAny_letOwnedTupleGo_enum hout fun h2 hen2 hsb=>AS (N.live h' (N.yes x rfl).1 st') fun o' g1 g2=>?_
    have hp:=Av hen
    refine h h2 _ (.ref s.heap.objs.size) [(p,GV a (j+1) v),(a,o')] [(s.heap.objs.size,HP [.int j tk,v] 0)] rfl ⟨a,o',g2,.inr ⟨z.1,z.2.1,v,rfl⟩⟩ (fun q hq=>?_) (keep fun b ob h1 h2 h3=>(hsb.2 b h1).trans (hk b ob h1 h2 h3)) (.inr ⟨_,_,rfl,AT _,(hsb.2 _ (Bh hp)).trans hT⟩)
     ⟨s.heap.objs.size,0,[.int j tk,v],.head _,⟨_,_,⟨tk,rfl⟩,⟨v,[],((N.yes x rfl).2 v hP).mono (B8.more _),rfl,rfl⟩,rfl⟩,rfl⟩
    refine(AU.mp hq).elim (fun e=>?_) fun hq=>?_
    ·rw[e,show GV a (j+1) v={cls:=.type "enumerate",dict:=none,data:=.fields #[.none,.bool false,.ref a,rawInt ((j:Int)+1),.none,v],slots:= #[]} from by unfold GV;push_cast;rfl];exact hen2
    ·rw[AY.mp hq];exact(hsb.2 _ (Cq z.2.1)).trans g1
end
theorem I2 (M L J I:BS):C9 (M++((L++J)++I)) (L++(M++(J++I))):=by
 rw[AC];exact B4 M L (J++I)
section
variable {c:Cx}{k:Kn}{st:St}{h h':Heap}{L:BS}
noncomputable def Aj.addJ (R:Aj c.fm k st h)(F':Fr c.h₀ c.env.locals h' R.m)(N':News c.h₀ c.env.locals h' (L++(R.MO++(c.J++k.I))))(hn:(L.map (·.1)).Nodup)(hf:∀q∈L,∀p∈R.MO++(c.J++k.I),p.1≠q.1):Aj (wJ c L).fm k st h':=
 ⟨R.m,R.MO,F',fun p hp=>N' p ((I2 ..).mem_iff.mp hp),Eh (I2 ..) (HW hn R.nd hf),R.loc,R.heap.imp (.refl _) fun p zz hp zz=>Ad _ hp⟩
noncomputable def Aj.addIt (R:Aj c.fm k st h)(o:Obj)(hf:o.isFreed=false):Aj (wJ c [(h.objs.size,o)]).fm k st (h.push o):=
 R.addJ (L:=[(h.objs.size,o)]) (R.F.push o) (News.push R.F R.N o hf) (EY ..) fun q hq p hp=>by
  rw[AY.mp hq]
  exact Ah (Av (R.N p hp).1)
theorem Aj.ndJ (R:Aj (wJ c L).fm k st h):((L++(R.MO++(c.J++k.I))).map (·.1)).Nodup:=Eh (I2 ..).symm R.nd
theorem Aj.inJ (R:Aj (wJ c L).fm k st h){p:Addr×Obj}(hp:p∈L):h.get? p.1=some p.2∧p.1≠c.env.locals∧c.h₀.get? p.1=none:=R.N p ((I2 ..).mem_iff.mpr (B7 _ hp))
theorem Aj.apart (R:Aj (wJ c L).fm k st h){p:Addr×Obj}(hp:p∈R.MO++(c.J++k.I)):p.1∉L.map (·.1):=fun z=>by
 have nd:=R.ndJ
 rw[Ae,C1] at nd
 exact AS (C4.mp z) fun q hq e=>nd.2.2 q.1 (B9 hq) p.1 (B9 hp) e
theorem Aj.frJ (R:Aj (wJ c L).fm k st h)(hk:∀b o,b∉L.map (·.1)→h.get? b=some o→h'.get? b=some o):Fr c.h₀ c.env.locals h' R.m:=by
 have nA:∀b∈L.map (·.1),b≠c.env.locals∧c.h₀.get? b=none:=fun b hb=>AS (C4.mp hb) fun p hp e=>e▸(R.inJ hp).2
 refine⟨R.F.ns.at fun o e=>hk _ o (fun z=>(nA _ z).1 rfl) e,fun b o e=>hk b o (fun z=>by rw[(nA _ z).2] at e;cases e) (R.F.keep b o e),R.F.above⟩
noncomputable def Aj.extJ (R:Aj (wJ c L).fm k st h){L' I':BS}(hl:L'.map (·.1)=L.map (·.1))(hd:QW c L)(hk:∀b o,b∉L.map (·.1)→h.get? b=some o→h'.get? b=some o)(hL:∀p∈L',h'.get? p.1=some p.2)
  (hI:I'=[]∨∃T ob,I'=[(T,ob)]∧h.objs.size≤T∧h'.get? T=some ob):Aj (wJ c L').fm ⟨k.D,I'++k.I⟩ st h':=by
 have hN:News c.h₀ c.env.locals h' (L'++(R.MO++(c.J++k.I))):=fun p hp=>(BK.mp hp).elim (fun hp=>⟨hL p hp,AS (C4.mp (hl▸B9 hp:p.1∈L.map (·.1))) fun q hq e=>e▸(R.inJ hq).2⟩) fun hp=>
  have g:=R.N p ((I2 ..).mem_iff.mpr (Ad _ hp));⟨hk _ _ (R.apart hp) g.1,g.2⟩
 have nd:((L'++(R.MO++(c.J++k.I))).map (·.1)).Nodup:=by rw[Ae,hl,←Ae];exact R.ndJ
 have hlt:∀p∈L'++(R.MO++(c.J++k.I)),p.1<h.objs.size:=fun p hp=>(BK.mp hp).elim (fun hp=>AS (C4.mp (hl▸B9 hp:p.1∈L.map (·.1))) fun q hq e=>e▸Av (R.inJ hq).1) fun hp=>Av (R.N p ((I2 ..).mem_iff.mpr (Ad _ hp))).1
 let base:Aj (wJ c L').fm k st h':=⟨R.m,R.MO,R.frJ hk,fun p hp=>hN p ((I2 ..).mem_iff.mp hp),Eh (I2 ..) nd,R.loc,R.heap.imp (.refl _) fun p kvs hp z=>(BK.mp hp).elim (fun hp=>(hd p hp kvs z).elim) fun hp=>Ad _ hp⟩
 have up:∀{T ob},h.objs.size≤T→h'.get? T=some ob→T≠c.env.locals∧c.h₀.get? T=none:=fun{T ob} hT zz=>by
  refine⟨fun z=>absurd (Ab R.F.ns.lt hT) (by rw[z];exact CG _),?_⟩
  rcases e:c.h₀.get? T with _|o
  ·rfl
  ·exact absurd (Ab (Av (R.F.keep _ o e)) hT) (CG _)
 refine base.pushI (L:=I') base.F (fun p hp=>(BK.mp hp).elim (fun hp=>?_) fun hp=>base.N p hp) ?_ fun q hq p hp=>?_
 ·exact hI.elim (fun e=>by rw[e] at hp;cases hp) fun e=>BF e fun T ob e hT ho=>by rw[e] at hp;rw[AY.mp hp];exact⟨ho,up hT ho⟩
 ·exact hI.elim (fun e=>by rw[e];exact EG) fun e=>BF e fun T ob e hT ho=>by rw[e];exact EY ..
 ·exact hI.elim (fun e=>by rw[e] at hq;cases hq) fun e=>BF e fun T ob e hT ho=>by
   rw[e] at hq
   rw[AY.mp hq]
   exact Ah (Ab (hlt p ((I2 ..).mem_iff.mp hp)) hT)
noncomputable def Aj.endJ (R:Aj (wJ c L).fm k st h)(hd:QW c L)(hk:∀b o,b∉L.map (·.1)→h.get? b=some o→h'.get? b=some o):Aj c.fm k st h':=
 ⟨R.m,R.MO,R.frJ hk,fun p hp=>have g:=R.N p ((I2 ..).mem_iff.mpr (Ad _ hp));⟨hk _ _ (R.apart hp) g.1,g.2⟩,(C1.mp (Ae▸R.ndJ:(L.map (·.1)++(R.MO++(c.J++k.I)).map (·.1)).Nodup)).2.1,R.loc,
  R.heap.imp (.refl _) fun p kvs hp z=>(BK.mp hp).elim (fun hp=>(hd p hp kvs z).elim) id⟩
end
noncomputable def Mv (c:Cx)(d:Nat):Prop:=
 nz d=true→∀t b it j p L k st s K X o R,Ex c k it j p L→F4 it t=true→Aj (wJ c L).fm k st s.heap→Y c.l o (M0 d t it j b st K X)→En c (CF c.tp) k s K o (fun f s'=>R (.ok f) s')→FL c k s X o (fun e s'=>R (.error e) s')→Bb c.M c.A (.forLoop t (.ref p) b [] c.env) R s
section
variable {c:Cx}{k:Kn}
theorem FF.dropJ {L:BS}{s:Shared}{X:V→St→Au}{o:Except V V×List O}{E:Value→Shared→Prop}(hd:QW c L)(H:FF c k s X o E):FF (wJ c L) k s X o E:=fun k' a st' e h' tk l R P=>H k' a st' e h' tk l (D0.dropJ hd R) P
theorem VT {r:Fh}{d:Nat}(G:BL c d)(ow:Gp c)(hz:nz d=true)(T:E0 c.tp)(ev:∀c',c'.tp=c.tp→c'.lv=c.lv→BL c' d→∀k e,AV c' k (CV c') (eval e c'.env) (r.ev d e))(ex:∀c',c'.tp=c.tp→c'.lv=c.lv→BL c' d→Gp c'→∀k s,AV c' k (CF c'.tp) (exec s c'.env) (r.ex d s))
  (fr:Mv c d){t:Expr}{b:List Stmt}{it:It}{j:Nat}{p:Addr}{L:BS}{st:St}{s:Shared}{K:Fl→St→Au}{X:V→St→Au}{o:Except V V×List O}{R:Result→Shared→Prop}(H:Ex c k it j p L)(hok:F4 it t=true)(Rl:Aj (wJ c L).fm k st s.heap)
  (P:Y c.l o (To c.S r d t it j b st K X))(HQ:En c (CF c.tp) k s K o (fun f s'=>R (.ok f) s'))(HE:FL c k s X o (fun e s'=>R (.error e) s')):Bb c.M c.A (.forLoop t (.ref p) b [] c.env) R s:=by
 have HN:=HE.noted G.1.frames ow
 refine Vt rfl (Ox (G.4 hz) H Rl P fun q P=>?_)
 rcases q with _|v
 ·exact fun ho=>ho _ _ fun h' tk hk=>wpAny_execs_nil (HQ k .next .next st h' tk (.refl _) (Rl.endJ H.bare hk) rfl P)
 ·
  refine fun ho=>Bi (ho t (fun v s₂=>wpAny c.M c.A (assign t c.env v) (fun zz s₂=>wpAny c.M c.A (execs b c.env) (fun f s₃=>match f with
    | .next| .cont=>Bb c.M c.A (.forLoop t (.ref p) b [] c.env) R s₃
    | .brk=>R (.ok .next) s₃
    | .ret v=>R (.ok (.ret v)) s₃) (notedBy c.M c.A c.env fun e s'=>R (.error e) s') s₂) (notedBy c.M c.A c.env fun e s'=>R (.error e) s') s₂) _ hok fun h' tk u L' I' hl hat hg hk hI hc=>?_) (fun o s₁ h=>?_) fun zz zz h=>h
  ·have c1:=G.wJ L'
   have R2:=Rl.extJ hl H.bare hk hg hI
   refine Ic c1 T (ev (wJ c L') rfl rfl c1) t hc _ st _ _ X o _ _ (.refl _) R2 P (fun k2 zz zz st2 h2 t2 l2 R3 zz P2=>?_) ((HN.dropJ hat.bare).ext (B8.more I'))
   refine Ed (ex (wJ c L') rfl rfl c1 ow) b k2 st2 _ _ X o _ _ (.refl _) R3 P2 (fun k3 fl flow st3 h3 t3 l3 R4 hf P3=>?_) ((HN.dropJ hat.bare).ext ((B8.more I').trans l2))
   have lk:B8 k k3:=(B8.more I').trans (l2.trans l3)
   have hat3:=hat.mono lk
   have done:∀fl flow,CF c.tp k3 fl flow→Y c.l o (K fl st3)→R (.ok flow) {s with heap:=h3,toks:=t3}:=fun fl flow hf P=>HQ k3 fl flow st3 h3 t3 lk (R4.endJ hat3.bare fun zz zz zz e=>e) hf P
   cases fl with
   |next=>rw[show flow= .next from hf];exact fr hz t b it (j+1) p L' k3 st3 _ K X o R hat3 hok R4 P3 (HQ.ext lk) (HE.ext lk)
   |cont=>rw[show flow= .cont from hf];exact fr hz t b it (j+1) p L' k3 st3 _ K X o R hat3 hok R4 P3 (HQ.ext lk) (HE.ext lk)
   |brk=>rw[show flow= .brk from hf];exact done .next .next rfl P3
   |ret v=>exact AS hf fun w e hc=>by rw[e];exact done (.ret v) (.ret w) ⟨w,rfl,hc⟩ P3
  ·rcases o with _|v
   ·exact h.elim
   ·exact Bi h (fun zz zz h=>h) fun zz zz h=>h
end
theorem JM (s:Str):strIterType s="str_ascii_iterator"∨strIterType s="str_iterator":=by
 unfold strIterType
 split<;>simp
noncomputable def K1 (c:Cx)(k:Kn)(it:It)(st:St)(h:Heap)(v:Value):Prop:=
 ∃Jd p L,v= .ref p∧Ex (wJ c Jd) k it 0 p L∧Nonempty (Aj (wJ (wJ c Jd) L).fm k st h)∧((Im it= .pure ()∧Jd=[])∨∃(i:Nat) (d:DE) (ob:Obj),it= .dict i∧Jd=[(d.1,ob)]∧k.D[i]? =some (some d))
theorem W4 {e:Expr}{q:Expr×List Expr×Bool}(h:Mp e=some q){G:Prop}(k:∀f as ks p,e= .Call f as ks p→q=(f,as,ks.isEmpty)→G):G:=Dl (PI h) fun ks p e hk=>k q.1 q.2.1 ks p e (by rw[hk])
theorem W0 {iter x:Expr}(h:LF iter=some x){P:Expr→Prop}(H:∀np pos,P (.Call (.Name ("enumerate":Str) np) [x] [] pos)):P iter:=by
 refine AS (Ak.mp h) fun q hq h=>W4 hq fun f as ks p e e2=>?_
 subst e e2
 refine AS (Ak.mp h) fun n hn h=>I5 h fun hc h=>I5 h fun hl h'=>AS (Ao.mp hn) fun w hw e2=>?_
 rw[show f= .Name w.1 w.2 from Lq hw,show ks=[] from CZ.mp hc.2,show w.1=("enumerate":Str) from e2.trans hc.1]
 rcases as with _|⟨z,as⟩
 ·exact nomatch hl
 ·rcases as with _|_
  ·exact AH h'▸H _ _
  ·exact nomatch hl
theorem Rv {iter:Expr}(h:Jm iter=true)(env:Env)(x:Value):foldedSetIterable iter env x=Be x:=by
 rcases iter with _|_<;>first|rfl|exact(AI h).elim
theorem CT.noFro {θ:Tp}{J J':BS}{k:Kn}{os:List O}:∀{D:List (Option DE)} {M:BS},os.all DH=true→CT θ J k os D M→CT θ J' k os D M:=by
 induction os with
 |nil=>exact fun zz h=>h
 |cons o os ih=>
  intro D M ha h
  have ha:=AJ.mp (Dv.symm.trans ha)
  refine CN h fun d ds L M' h1 h2 h3 h4=>⟨d,ds,L,M',h1,h2,?_,ih ha.2 h4⟩
  rcases o with _|_
  case fro es=>exact(AI ha.1).elim
  all_goals exact h3
section
variable {c:Cx}{k:Kn}
theorem I7 {it:It}{st:St}{h:Heap}{p:Addr}{o:Obj}(he:Im it= .pure ())(hn:EA it=false)(H:GC c k it 0 p o)(R:Aj (wJ c [(p,o)]).fm k st h):K1 c k it st h (.ref p):=
 ⟨[],p,[(p,o)],rfl,⟨p,o,H,.inl ⟨hn,rfl,rfl⟩⟩,⟨R⟩,.inl ⟨he,rfl⟩⟩
theorem Sz (G:BI c){st:St}{s:Shared}(R:Aj c.fm k st s.heap){a:V}{x:Value}(ha:Ag c.tp k a x){α:Type}{g:It→M α}{K:α→St→Au}{X:V→St→Au}{o:Except V V×List O}(P:Y c.l o (((Q1 a).bind g) st K X)){Q:Value→Shared→Prop}{E:Value→Shared→Prop}
  (fin:∀it st' v h',Y c.l o (g it st' K X)→K1 c k it st' h' v→Q v {s with heap:=h'}):wpAny c.M c.A (pyIter x) Q E s:=by
 rcases a with _|_|_|_|⟨t⟩|_|_|_|⟨i⟩|_|_|_|⟨y,z⟩|_
 case obj=>
  refine Fz P fun ob e1 P1=>BX P1 fun ob' e2 P2=>?_
  cases AH e2
  rcases ob with _|⟨xs⟩|⟨es⟩|_
  case list=>
   exact R.list e1 rfl ha fun l vs n hv zz hs hL=>by
    subst hv
    exact AS ha fun d hd hv=>wpAny_pyIter_list hL (fin (.list i false) st _ _ P2 (I7 rfl rfl ⟨d,hd,rfl,by rw[FV hv];rfl⟩ (R.addIt {cls:=.type "list_iterator",data:=.fields #[.ref l,.int 0 0]} rfl)))
  case dict=>
   refine Jj P2 fun zz P=>AS ha fun d hd hv=>?_
   subst hv
   refine CN (R.heap.split e1) fun d' p1 L p2 g1 g2 g3 zz=>Fu g3 fun d₁ hh a ob g4 g5 g6=>?_
   cases AH ((AH (hd.symm.trans g1)).trans g4)
   have b1:=g6.1
   have b2:=g6.2.1
   subst b1 b2
   have g5:L=[(d.1,ob)]:=g5
   have hJ:∀p∈c.J,p∈[(d.1,ob)]++c.J:=fun p hp=>Ad _ hp
   refine CN ((R.heap.imp (J':=[(d.1,ob)]++c.J) (.refl _) fun p zz hp zz=>hJ p hp).split e1) fun d' p1 L' p2 k1 k2 k3 H=>Fu k3 fun d₁ hh' a' ob' k4 k5 k6=>?_
   cases AH ((AH (hd.symm.trans k1)).trans k4)
   have b1:=k6.1
   have b2:=k6.2.1
   subst b1 b2
   have row:=fun{ob} (hm:(d.1,ob)∈R.MO)=>(R.N (d.1,ob) (B7 _ hm)).1
   have hob:ob'=ob:=AH ((row (by rw[k2,k5];exact Ad _ (.head _))).symm.trans (row (by rw[g2,g5];exact Ad _ (.head _))))
   subst hob
   have pm:C9 ((p1++([]++p2))++(([(d.1,ob')]++c.J)++k.I)) (R.MO++(c.J++k.I)):=by
    rw[k2,k5,AC [(d.1,ob')]]
    simp only[AC,C7]
    exact D2 p1 (B4 p2 [(d.1,ob')] (c.J++k.I))
   have z:=H (.fro es) (some d) [] ⟨rfl,d,ob',rfl,B7 _ (.head _),k6⟩
   rw[La hd] at z
   refine AS k6.2.2.2 fun kvs h1 h2=>AB h1 fun ds h1=>AB h1 fun ep h1=>?_
   have hat:s.heap.DictAt (DW c.prog c.w) d.1 kvs ep:=⟨ob',ds,row (by rw[k2,k5];exact Ad _ (.head _)),h1.1,h1.2.1,h1.2.2⟩
   refine wpAny_pyIter_dict k6.2.2.1 hat (fin (.dict i) ⟨st.loc,st.heap.set i (.fro es)⟩ _ _ P ?_)
   have hn:ds.size=kvs.length:=by rw[←Array.length_toList];exact h1.2.2.2.1.length
   have R1:Aj (wJ c [(d.1,ob')]).fm k ⟨st.loc,st.heap.set i (.fro es)⟩ s.heap:=⟨R.m,_,R.F,fun p hp=>R.N p (pm.mem_iff.mp hp),Eh pm R.nd,R.loc,z⟩
   exact⟨[(d.1,ob')],s.heap.objs.size,_,rfl,⟨_,_,⟨d,ob',ds,ep,hd,B7 _ (.head _),h1.2.1,rfl,by rw[hn];rfl,Bx _⟩,.inl ⟨rfl,rfl,rfl⟩⟩,⟨R1.addIt {cls:=.type "dict_keyiterator",data:=.fields #[.ref d.1,.int 0 0,.int kvs.length 0,.int ep 0]} rfl⟩,.inr ⟨i,d,ob',rfl,rfl,hd⟩⟩
  all_goals exact P2.elim
 case str=>
  exact AB (show ∃u,x= .str t u from ha) fun u e=>by
   rw[e]
   exact wpAny_pyIter_strU (fin (.str t false) st _ _ P (I7 rfl rfl ⟨_,u,JM t,rfl,rfl,Bx _⟩ (R.addIt {cls:=.type (strIterType t),data:=.fields #[.str t u,.int 0 0]} rfl)))
 case rng=>
  refine Jj P fun h P=>S6 ha fun l t u w hI e=>?_
  subst e
  have h:=AJ.mp h
  have ha:y.natAbs≤1000000:=Bc h.1
  have hb:z.natAbs≤1000000:=Bc h.2
  refine wpAny_pyIter_range (R.bears _ hI:IsRange s.heap l y z 1 t u w) (small_one (by lia) (by lia) (by lia) (by lia)) (fin (.rng y z) st _ _ P (I7 rfl rfl ⟨?_,Bx _⟩ (R.addIt {cls:=.type "range_iterator",data:=.fields #[rawInt y,rawInt (EI.Range.rangeSize y z 1),rawInt 1]} rfl)))
  have e1:y+((0:Nat):Int) * 1=y:=by lia
  have e2:EI.Range.rangeSize y z 1=((z - y).toNat:Int) - ((0:Nat):Int):=by
   rw[rangeSize_one]
   by_cases q:y<z
   ·rw[if_pos q,Ef (Int.sub_nonneg.mpr (Int.le_of_lt q))];exact(Int.sub_zero _).symm
   ·rw[if_neg q,Int.toNat_of_nonpos (Int.sub_nonpos_of_le (FC.mp q))];rfl
  rw[e1,e2]
 all_goals exact P.elim
theorem Pd (G:BI c){st:St}{s:Shared}(R:Aj c.fm k st s.heap){a:V}{x:Value}(ha:Ag c.tp k a x){α:Type}{g:It→M α}{K:α→St→Au}{X:V→St→Au}{o:Except V V×List O}(P:Y c.l o (((IS a).bind g) st K X)){Q:Value→Shared→Prop}{E:Value→Shared→Prop}
  (fin:∀it v h',Y c.l o (g it st K X)→K1 c k it st h' v→(∀(A:Around) (K:Value→Shared→Prop) E',K v {s with heap:=h'}→wpAny c.M A (pyIter v) K E' {s with heap:=h'})→Q v {s with heap:=h'}):wpAny c.M c.A (call (.type "enumerate") [x]) Q E s:=by
 have add:∀{it:It} {o1 o2:Obj} {h':Heap},EA it=true→Im it= .pure ()→GC c k it 0 s.heap.objs.size o2→h'.get? (s.heap.objs.size+1)=some o1→o1=GV s.heap.objs.size 0 .none→h'.get? s.heap.objs.size=some o2→(∀b o,s.heap.get? b=some o→h'.get? b=some o)→K1 c k it st h' (.ref (s.heap.objs.size+1)):=fun{it o1 o2 h'} he hd H h1 e1 h2 hk=>by
  subst e1
  have LT:=R.F.ns.lt
  have no:∀a,s.heap.objs.size≤a→c.h₀.get? a=none:=fun a ha=>by
   rcases e:c.h₀.get? a with _|o
   ·rfl
   ·exact absurd (Ab (Av (R.F.keep a o e)) ha) (CG _)
  refine⟨[],s.heap.objs.size+1,[(s.heap.objs.size+1,GV s.heap.objs.size 0 .none),(s.heap.objs.size,o2)],rfl,⟨s.heap.objs.size,o2,H,.inr ⟨he,Nat.succ_ne_self _,.none,rfl⟩⟩,⟨R.addJ (R.F.keeps hk) (fun p hp=>?_) (by simp) fun q hq p hp=>?_⟩,.inl ⟨hd,rfl⟩⟩
  ·exact(AU.mp hp).elim (fun e=>by rw[e];exact⟨h1,Bh (Nat.lt_succ_of_lt LT),no _ (Nat.le_succ _)⟩) fun hp=>(AU.mp hp).elim (fun e=>by rw[e];exact⟨h2,Bh LT,no _ (AT _)⟩) fun hp=>⟨hk _ _ (R.N p hp).1,(R.N p hp).2⟩
  ·have lt:=Av (R.N p hp).1
   exact(AU.mp hq).elim (fun e=>by rw[e];exact Ah (Nat.lt_succ_of_lt lt)) fun hq=>by rw[AY.mp hq];exact Ah lt
 rcases a with _|_|_|_|⟨t⟩|_|_|_|⟨i⟩|_
 case obj=>
  refine JE P fun ob xs e1 e2 P=>R.list e1 e2 ha fun l vs n hv zz hs hL=>?_
  subst hv
  exact AS ha fun d hd hv=>call_enumerate_list hL fun h' hen hit hsz hk=>Dx hit fun o2 ho2 hc2 hd2=>fin (.list i true) _ h' P (add rfl rfl ⟨d,hd,hc2,by rw[hd2,FV hv]⟩ hen rfl ho2 hk) fun A K E' hK=>wpAny_pyIter_enum hen hK
 case str=>
  exact AB (show ∃u,x= .str t u from ha) fun u e=>by
   rw[e]
   exact call_enumerate_str fun h' hen hit hsz hk=>Dx hit fun o2 ho2 hc2 hd2=>fin (.str t true) _ h' P (add rfl rfl ⟨_,u,JM t,hc2,hd2,Bx _⟩ hen rfl ho2 hk) fun A K E' hK=>wpAny_pyIter_enum hen hK
 all_goals exact P.elim
theorem Tt {i:Nat}{d:DE}{ob:Obj}{es:List (V×V)}{st:St}{h:Heap}(R:Aj (wJ c [(d.1,ob)]).fm k st h)(hd:k.D[i]? =some (some d))(e:st.heap[i]? =some (.fro es))(hall:(st.heap.set i (.dict es)).all DH=true):Nonempty (Aj c.fm k ⟨st.loc,st.heap.set i (.dict es)⟩ h):=by
 refine CN (R.heap.split e) fun d' p1 L p2 e1 e2 e3 H=>BF e3.2 fun d₁ ob' e4 e5 e6=>?_
 cases AH ((AH (hd.symm.trans e1)).trans e4)
 have row:=fun{p} (hp:p∈(wJ c [(d.1,ob)]).J)=>(R.N p (Ad _ (B7 _ hp))).1
 have hob:ob'=ob:=AH ((row e5).symm.trans (row (B7 _ (.head _))))
 subst hob
 have z:=H (.dict es) (some d) [(d.1,ob')] ⟨d,[],d.1,ob',rfl,rfl,e6⟩
 rw[La hd] at z
 have e2:R.MO=p1++([]++p2):=by rw[e2,e3.1]
 have pm:C9 ((p1++([(d.1,ob')]++p2))++(c.J++k.I)) (R.MO++(([(d.1,ob')]++c.J)++k.I)):=by
  rw[e2,AC [(d.1,ob')]]
  simp only[AC,C7]
  exact D2 p1 (B4 p2 [(d.1,ob')] (c.J++k.I)).symm
 exact⟨⟨R.m,_,R.F,fun p hp=>R.N p (pm.mem_iff.mp hp),Eh pm R.nd,R.loc,z.noFro hall⟩⟩
section
variable {r:Fh}{d:Nat}(G:BL c d)(ev:∀k e,AV c k (CV c) (eval e c.env) (r.ev d e))(ow:Gp c)(fr:∀c',c'.tp=c.tp→c'.lv=c.lv→BL c' d→Gp c'→Mv c' d)
noncomputable def ZQ (it:It)(X:V→St→Au):V→St→Au:=match it with
 | .dict _=>fun zz zz=>.none
 |_=>X
theorem RU (it:It)(m:M Fl)(st:St)(K:Fl→St→Au)(X:V→St→Au):JJ it m st K X=m st K (ZQ it X):=by rcases it with _|_<;>rfl
include G ow fr in
theorem Ru (hz:nz d=true){t:Expr}{b:List Stmt}{it:It}{st:St}{s:Shared}{v:Value}{K:Fl→St→Au}{X:V→St→Au}{o:Except V V×List O}{R:Result→Shared→Prop}(hb:K1 c k it st s.heap v)
  (P:Y c.l o ((chk (F4 it t) ((JJ it (M0 d t it 0 b)).bind fun f=>(Im it).bind fun zz=>.pure f)) st K X))(HQ:En c (CF c.tp) k s K o (fun f s'=>R (.ok f) s'))(HE:FL c k s X o (fun e s'=>R (.error e) s')):Bb c.M c.A (.forLoop t v b [] c.env) R s:=by
 refine FT P fun hok P=>AB hb fun Jd hb=>AB hb fun p hb=>AB hb fun L hb=>hb.2.2.1.elim fun Rl=>?_
 rw[hb.1]
 have P:Y c.l o (JJ it (M0 d t it 0 b) st (fun f s=>((Im it).bind fun zz=>.pure f) s K X) X):=P
 rw[RU] at P
 have HE':FL (wJ c Jd) k s (ZQ it X) o (fun e s'=>R (.error e) s'):=by
  rcases it with _|_
  case dict i=>exact Dy.errT (c:=wJ c Jd) Dy.no
  all_goals exact hb.2.2.2.elim (fun z=>by rw[z.2];exact HE) fun z=>AB z fun i z=>AB z fun dd z=>AB z fun ob z=>(AI (congrArg HJ z.1).symm).elim
 refine fr (wJ c Jd) rfl rfl (G.wJ Jd) ow hz t b it 0 p L k st s _ _ o R hb.2.1 hok Rl P (fun k' fl flow st' h' tk l R' hf P'=>?_) HE'
 refine hb.2.2.2.elim (fun z=>?_) fun z=>AB z fun i z=>AB z fun dd z=>AB z fun ob z=>?_
 ·have Jd0:=z.2
  subst Jd0
  rw[z.1] at P'
  exact HQ k' fl flow st' h' tk l R' hf P'
 ·have z1:=z.1
  have z2:=z.2.1
  subst z1 z2
  have P':Y c.l o (((rd oF i).bind fun es=>fun s k (zz:V→St→Au)=>.ite ((s.heap.set i (.dict es)).all DH) (k () ⟨s.loc,s.heap.set i (.dict es)⟩) .none) st' (fun zz s=>K fl s) X):=P'
  exact JE (K:=fun zz s=>K fl s) P' fun ob' es e1 e2 P'=>Yv P' fun hall P'=>Wt e2 fun q=>(Tt R' (l.1 _ _ z.2.2) (q▸e1) hall).elim fun R2=>HQ k' fl flow _ h' tk l R2 hf P'
include G ev in
theorem MD {iter:Expr}{st:St}{s:Shared}{α:Type}{g:It→M α}{K:α→St→Au}{X:V→St→Au}{o:Except V V×List O}{Q:Value→Shared→Prop}{E:Value→Shared→Prop}(R:Aj c.fm k st s.heap)(P:Y c.l o (((Jq r d iter).bind g) st K X))(HE:FF c k s X o E)
  (fin:∀k' it st' v h' tk,B8 k k'→Y c.l o (g it st' K X)→K1 c k' it st' h' v→Q v {s with heap:=h',toks:=tk}):
  (∀x,foldedSetIterable iter c.env x=Be x)∧wpAny c.M c.A (eval iter c.env) (fun x s₁=>wpAny c.M c.A (pyIter x) Q E s₁) E s:=by
 have P:Y c.l o (((chk (Jm iter) (match LF iter with
  |some x=>chk (noStar x) ((De "enumerate").bind fun f=>chk (Mj f) ((r.ev d x).bind IS))
  |none=>(r.ev d iter).bind Q1)).bind g) st K X):=P
 refine FT (m:=(match LF iter with
  |some x=>chk (noStar x) ((De "enumerate").bind fun f=>chk (Mj f) ((r.ev d x).bind IS))
  |none=>(r.ev d iter).bind Q1)) P fun hns P=>?_
 refine⟨Rv hns c.env,?_⟩
 revert P
 rcases he:LF iter with _|x
 ·
  exact fun P=>ev k iter k st s _ X o _ _ (.refl _) R P (fun k1 a x st1 h1 t1 l1 R1 hx P1=>Sz (s:={s with heap:=h1,toks:=t1}) G.1 R1 hx P1 fun it st' v h' P2 hb=>fin _ _ _ _ _ _ l1 P2 hb) HE
 ·
  refine W0 (P:=fun iter=>_→wpAny c.M c.A (eval iter c.env) _ E s) he fun np pos' P=>?_
  refine FT (m:=(De "enumerate").bind fun f=>chk (Mj f) ((r.ev d x).bind IS)) P fun hs P=>?_
  refine AF (AV.name G.1 k st s _ X o _ _ (.refl _) R P (fun k1 a f st1 h1 t1 l1 R1 hf P1=>?_) HE)
  rcases a with _|_|_|_|_|_|_|_|_|_|_|_|_|_|⟨m⟩|_
  case ty=>
   refine FT (m:=(r.ev d x).bind IS) P1 fun hm P1=>?_
   have hm:m="enumerate":=beq_iff_eq.mp hm
   subst hm
   rw[show f= .type "enumerate" from hf]
   show wpAny c.M c.A (callWith pos' (.type "enumerate") [] (backTo pos' (D6 [x] c.env)) []) _ E _
   refine callWith_type1 (env:=c.env) (e:=x) (rest:=[]) ?_ (Fp hs [] c.env)
   rw[Fp hs]
   refine spliced_cons (ev k1 x k1 st1 _ _ X o _ _ (.refl _) R1 P1 (fun k2 a v st2 h2 t2 l2 R2 hv P2=>spliced_nil (Pd (s:={s with heap:=h2,toks:=t2}) G.1 R2 hv P2 fun it u h' P3 hb hit=>hit _ _ _ (fin _ _ _ _ _ _ (l1.trans l2) P3 hb))) (HE.ext l1))
  all_goals exact P1.elim
include G ev ow fr in
theorem VY (hz:nz d=true){t iter:Expr}{b:List Stmt}{pos:Pos}:AV c k (CF c.tp) (exec (.For t iter b [] pos) c.env) ((Jq r d iter).bind fun it=>chk (F4 it t) ((JJ it (M0 d t it 0 b)).bind fun f=>(Im it).bind fun zz=>.pure f)):=by
 intro k₁ st s K X o Q E l R P HQ HE
 refine(fun z=>wpAny_For z.2 z.1) (MD (Q:=fun v s'=>Bb c.M c.A (.forLoop t v b [] c.env) (fun r s''=>match r with| .ok f=>Q f s''| .error e=>cameBackBy c.M c.A c.env E e s'') s') G ev R P HE ?_)
 exact fun k' it st' v h' tk l' P' hb=>Ru G ow fr hz hb P' (HQ.ext l') (HE.back.ext l')
end
end
theorem OX {ob:Obj}{vs:Array Value}(h:ob.data= .fields vs):notCls ob=true:=by unfold notCls;rw[h]
section
variable {prog:Cg}{w:World}{A:Around}{E:Value→Shared→Prop}{s:Shared}{env:Env}{C e dx:Addr}{B:Heap}{outer:List Env}{h₀:Heap}
theorem Pg {x:Sem Value}{Q:Flow→Shared→Prop}(hh:A.handled=none)
  (h:wpAny (model prog w) A x (fun v s₁=>∃e C B l dx,v= .ref e∧IZ (model prog w) s₁.heap C∧El B l e (.ref C) dx s₁.heap∧∀h',El B l e (.ref C) dx h'→s₁.heap.UpToSlots h'→E (.ref e) {s₁ with heap:=h'}) E s):
  wpAny (model prog w) A (raiseStmt env (some x) none) Q E s:=by
 unfold raiseStmt
 refine AF (Bi h (fun v s₁ h₁=>?_) fun zz zz x=>x)
 obtain⟨e,C,B,l,dx,rfl,Y,fl,hE⟩:=h₁
 refine FP fl.obj fun oe vs he hc hdx hd ht=>?_
 have to:Looks (model prog w) s₁.heap (typeOf (.ref e)) (.ref C):=hc▸(Looks.ld he).andThen .now
 have ty:Looks (model prog w) s₁.heap (isType (.ref e)) false:=by
  unfold isType
  refine(Looks.ld he).andThen ?_
  rw[hd]
  exact .now
 refine AF (AN ?_)
 refine AF (BB ?_)
 refine AF (AF (ty.here ?_))
 refine AN ?_
 refine AF (Looks.here (to.andThen Y.root) ?_)
 refine AN ?_
 refine AF (ty.here ?_)
 refine AF (AF (to.here ?_))
 refine AF (Y.metaT.here ?_)
 refine AN ?_
 exact AF (IP fl fun h' f zz u=>wpAny_raiseNew_none hh (hE h' f u))
theorem Vy (Y:IZ (model prog w) s.heap C)(fl:El B outer e (.ref C) dx s.heap){Q:Bool→Shared→Prop}(h:Q true s):wpAny (model prog w) A (excMatches (.ref e) (.ref C)) Q E s:=by
 refine FP fl.obj fun oe vs he hc hdx hd ht=>?_
 have to:Looks (model prog w) s.heap (typeOf (.ref e)) (.ref C):=hc▸(Looks.ld he).andThen .now
 refine AF (Y.noTup.here ?_)
 refine AF (AN ?_)
 refine AF (AF (AF (AF (Y.ty.here ?_))))
 refine Y.root.here ?_
 refine AN (AN ?_)
 refine AF (to.here ?_)
 refine AF (AF (AF (Y.self.here ?_)))
 refine AN (AN (AN ?_))
 exact h
end
section
variable {c:Cx}{k:Kn}{st:St}{h:Heap}{a:V}{e:Addr}
theorem D0.land (ow:Gp c)(hb:c.h₀=c.base)(R:D0 c.fm c.outer k st h a e){Z:Prop}(K:∀oe,Aj c.fm ⟨k.D,(e,oe)::k.I⟩ st h→Ag c.tp ⟨k.D,(e,oe)::k.I⟩ a (.ref e)→Z):Z:=by
 refine FP R.fly.obj fun oe vs he hc hdx hd ht=>?_
 obtain⟨⟨rest,hr⟩,hf⟩:=ow
 have hm:c.env.locals∈c.outer.filterMap (·.frame):=List.mem_filterMap.mpr ⟨c.env,by rw[hr];exact .head _,hf⟩
 obtain⟨hB,o,ho,hn⟩:=R.fly.frames.mem hm
 have pm:=Pj R.MO c.J [(e,oe)] k.I
 have hne:e≠c.env.locals:=fun z=>hn vs (AH (ho.symm.trans (z▸he))▸hd)
 have h0:c.h₀.get? e=none:=by
  rcases q:c.h₀.get? e with _|o'
  ·rfl
  ·rw[hb] at q;have:=R.base _ _ q;rw[R.fly.new] at this;cases this
 have F:Fr c.h₀ c.env.locals h R.m:=⟨R.ns,fun b o q=>R.fly.stays b o (R.base b o (show c.base.get? b=some o from hb▸q)),R.above⟩
 refine K oe ⟨R.m,R.MO,F,fun p hp=>?_,Eh pm ?_,R.loc.mono (B8.more [(e,oe)]),R.heap.mono (B8.more [(e,oe)])⟩ ?_
 ·refine(AU.mp (pm.mem_iff.mp hp)).elim (fun q=>by rw[q];exact⟨he,hne,h0⟩) fun q=>⟨R.fly.stays _ _ (R.rows p q).1,fun z=>?_,(R.rows p q).2⟩
  have:=(R.rows p q).1
  rw[z,hB] at this;cases this
 ·refine HW (EY ..) R.nd fun q hq p hp z=>?_
  rw[AY.mp hq] at z
  have:=(R.rows p hp).1
  rw[z,R.fly.new] at this;cases this
 ·rw[R.val]
  exact⟨e,R.dx,R.es,R.n,⟨oe,.head _,hc,hdx,OX hd⟩,.tail _ R.row,R.flds.mono (B8.more [(e,oe)]),rfl⟩
theorem Vq {S:BD}{j:Nat}(h:Ci S j=true):∃q,S.cls j=some q:=by
 unfold Ci at h
 rcases e:S.cls j with _|q
 ·rw[e] at h;cases h
 ·exact⟨q,rfl⟩
theorem D0.mk_makes {M:Model}(G:BI c)(T:E0 c.tp)(R:D0 c.fm c.outer k st h a e):IZ M h (c.ac R.j):=
 AB (Vq R.isx) fun q hq=>MJ ((G.top.X.keeps R.base).keeps R.fly.stays) ((T.make _ q hq).exc R.isx)
noncomputable abbrev Ig (c:Cx)(e:Value):Cx:=⟨c.fm,c.A.mark (some e),c.outer,c.lv⟩
theorem BI.mark {e:Value}(G:BI c):BI (Ig c e):=⟨G.top,G.kind,G.gl,G.bi,G.frames,G.stays,G.ff⟩
theorem BL.mark {d:Nat}{e:Value}(G:BL c d):BL (Ig c e) 0:=⟨G.1.mark,by have:=G.2;show c.A.units+8 * 0+20≤cLine;lia,by have:=G.3;show c.A.depth+2 * 0≤900;lia,fun z=>(nomatch z),.inl (by decide)⟩
theorem NX {φ:Fm}{m:Str→Option Value}{loc:List (Str×V)}(L:Iv φ k m loc){n:Str}{u v:V}(e:Cc n loc=some u)(hp:Fs u v=true):φ.env.kindOf n=some .local:=by
 refine(L n u e).2.elim (fun z=>z.1) fun z=>z.elim (fun z=>?_) fun z=>z.2.elim fun i z=>z.elim fun q z=>z.elim fun zz z=>?_
 ·have h:=z.2.2
  rcases u with _|_<;>first|exact(AI h).elim|exact(AI hp).elim
 ·rw[z.1] at hp;cases hp
theorem WC {v:V}{cc:Nat}(h:LQ v=some cc){G:Prop}(k:v= .cls cc→G):G:=by
 rcases v with _|_<;>first|exact AP h|exact k (congrArg V.cls (AH h))
theorem R9 (G:BL c GI)(ow:Gp c)(T:E0 c.tp){r:Fh}(exB:∀k s,AV c k (CF c.tp) (exec s c.env) (r.ex GI s))(exH:∀c',c'.tp=c.tp→c'.lv=c.lv→BL c' 0→Gp c'→∀k s,AV c' k (CF c'.tp) (exec s c'.env) (r.ex 0 s))
  {b bs:List Stmt}{bb:Stmt}{x n:Str}{xp hpos:Pos}:AV c k (CF c.tp) (tryStmt false (execs b c.env) [.ExceptHandler (some (.Name x xp)) (some n) (bb::bs) hpos] (execs [] c.env) [] c.env) (fun s k e=>DP r GI b s k fun x' s'=>Ho (XT r GI (x,xp,n,bb::bs) x') s' k e):=by
 have hb:c.h₀=c.base:=G.5.elim (fun z=>absurd z (CG _)) (·.2)
 intro k₁ st s K X o Q E l R P HQ HE
 refine wpAny_tryStmt_except (Ed exB b k₁ st s _ _ o _ _ (.refl _) R P (fun k1 fl flow st1 h1 t1 l1 R1 hf P1=>?_) (fun k1 a st1 e h1 t1 l1 R1 P1=>?_))
 ·have q:=HQ k1 fl flow st1 h1 t1 l1 R1 hf P1
  rcases flow with _|_
  case next=>exact wpAny_execs_nil q
  all_goals exact q
 refine ow.1.elim fun rest hr=>MQ (s:={s with heap:=h1,toks:=t1}) hr G.1.frames ow.2 R1.fly fun h2 f2 tr2 u2=>?_
 refine IP (s:={s with heap:=h2,toks:=t1}) f2 fun h3 f3 tr3 u3=>?_
 have R3:=(R1.on f2 u2).on f3 u3
 have MX:=R3.mk_makes (M:=model c.prog c.w) G.1 T
 refine R3.land ow hb fun oe RL hc=>?_
 have P1:Y c.l o (((De x).bind fun cv=>(Ax (LQ cv)).bind fun cc=>(Ax (Wk a)).bind fun j=>chk (decide (j=cc)) ((EX n a).bind fun zz=>(DP r 0 (bb::bs)).bind fun f=>(Ob n).bind fun zz=>.pure f)) st1 K fun zz zz=>.none):=P1
 have GM:=G.1.mark (e:=.ref e)
 have hdbg:(x==("__debug__":Str))=false:=(KS (c:=Ig c (.ref e)) (s:={s with heap:=h3,toks:=t1}) (Q:=fun zz zz=>True) (E:=fun zz zz=>True) GM RL P1 fun zz zz zz zz=>trivial).1
 refine wpAny_handleBy_cons (codeAny_handlers_test (wpAny_Name (KS (c:=Ig c (.ref e)) (s:={s with heap:=h3,toks:=t1}) GM RL P1 fun a' b' hcc P2=>?_).2 hdbg)) (by intro q;cases q)
 refine BX P2 fun cc e1 P2=>BX P2 fun j e2 P2=>FT P2 fun hj P2=>?_
 have hj:=of_decide_eq_true hj
 have hb':b'= .ref (c.ac R3.j):=by
  have z:=R3.val
  rw[z] at e2
  have e2:=AH e2
  rw[←e2] at hj
  exact WC e1 fun ea=>by
   subst ea
   rw[show b'= .ref (c.ac cc) from hcc,←hj]
 subst hb'
 refine Vy (s:={s with heap:=h3,toks:=t1}) MX R3.fly ?_
 refine codeAny_handlers_suite_as (IP (s:={s with heap:=h3,toks:=t1}) R3.fly fun h4 f4 tr4 u4=>?_)
 refine(R3.on f4 u4).land ow hb fun oe4 RL4 hc4=>?_
 refine AV.store (c:=Ig c (.ref e)) GM hc4 _ st1 {s with heap:=h4,toks:=t1} _ _ o _ _ (.refl _) RL4 P2 (fun k5 zz zz st5 h5 t5 l5 R5 zz P5=>?_) FF.no
 refine Ed (c:=Ig c (.ref e)) (exH (Ig c (.ref e)) rfl rfl G.mark ow) (bb::bs) k5 st5 _ _ _ o _ _ (.refl _) R5 P5 (fun k6 fl flow st6 h6 t6 l6 R6 hf P6=>?_) FF.no
 refine BX P6 fun u e6 P6=>JU P6 fun hp P6=>?_
 have hl:=NX R6.loc e6 hp
 refine wpAny_nameGoes (s:={s with heap:=h6,toks:=t6}) hl R6.F.ns (by rw[G.1.kind];rfl) fun h7 m' hn hsb=>?_
 exact HQ k6 fl flow ⟨[],st6.heap⟩ h7 _ (l1.trans ((B8.more [(e,oe4)]).trans (l5.trans l6))) ⟨m',R6.MO,R6.F.set hn hsb,R6.N.set hsb,R6.nd,fun x a q=>AP q,R6.heap⟩ hf P6
theorem Ph {env:Env}{as:List Expr}{x:Str}{xp cp pos:Pos}:exec (.Raise (some (.Call (.Name x xp) as [] cp)) none pos) env=(Cp pos >>= fun zz=>raiseStmt env (some (eval (.Call (.Name x xp) as [] cp) env >>= fun v=>Cp pos >>= fun zz=>Be v)) none):=rfl
theorem RD {d:Nat}(G:BL c d)(T:E0 c.tp)(IH:∀c' d',c'.tp=c.tp→c'.lv=c.lv→Dq c' d'→Jb c' d'){r:Fh}(ev:∀k e,AV c k (CV c) (eval e c.env) (r.ev d e)){as:List Expr}{x:Str}{xp cp pos:Pos}:
  AV c k (CF c.tp) (exec (.Raise (some (.Call (.Name x xp) as [] cp)) none pos) c.env) (RN c.S r d (x,xp,as)):=by
 refine .chk fun h=>?_
 have h:=AJ.mp h
 rw[Ph]
 refine .stand fun k₁ st s K X o Q E l R P HQ HE=>Pg (G.4 h.1) (AF (wpAny_Call_ofName ?_))
 have P:Y c.l o (((De x).bind fun fv=>(Ax (LQ fv)).bind fun j=>(IR r d as).bind fun vs=>chk (BE vs.length) (N6 (Q9 c.S d j vs))) st K X):=P
 refine AV.name G.1 k₁ st s _ X o _ _ (.refl _) R P (fun k1 fv f st1 h1 t1 l1 R1 hf P1=>?_) HE
 refine BX P1 fun j e1 P1=>?_
 have hf:f= .ref (c.ac j):=by
  rcases fv with _|_|_|_|_|_|_|_|_|_|⟨q⟩|_
  case cls=>rw[show f= .ref (c.ac q) from hf,show q=j from AH e1]
  all_goals exact AP e1
 subst hf
 refine K9 (s:={s with heap:=h1,toks:=t1}) (ks:=[]) (m:=fun vs kvs=>chk kvs.isEmpty (chk (BE vs.length) (N6 (Q9 c.S d j vs)))) ev h.2 (fun h X=>keeps_K (T.keepc _) h X) G.1 R1 P1 (HE.ext l1) fun k2 xs vs kx kv st2 h2 t2 l2 R2 hs hk P2=>?_
 refine FT P2 fun he P2=>FT P2 fun hl P2=>?_
 rw[hk.nil he]
 refine wpAny_call ?_
 refine AB (show ∃q,c.S.cls j=some q from BX (show Y c.l o (oB (c.S.cls j) _) from P2) fun q e zz=>⟨q,e⟩) fun q hq=>?_
 refine Tw (s:={s with heap:=h2,toks:=t2}) G.1 (T.make j q hq) hq (AL (by rw[←hs.length];exact Bc hl) Cj) (fun k' i v l hi=>IH (ID c) d rfl rfl G.under q.init k' _ _ _ _ ⟨v,_,hi,hs.mono l,rfl⟩ rfl) (.refl _) R2 P2 fun k3 a e hp h3 t3 l3 R3 P3=>?_
 exact AF (Bp (AN ⟨e,_,R3.B,c.outer,R3.dx,rfl,R3.mk_makes G.1 T,R3.fly,fun h' f u=>HE k3 a ⟨st2.loc,hp⟩ e h' t3 (l1.trans (l2.trans l3)) (R3.on f u) P3⟩))
end
theorem NA {e:Expr}(h:Dj e=false)(t:Option Expr)(n:Nat)(env:Env):swapsWith e t n env=Be false:=by
 rcases e with _|_<;>first|rfl|exact(AI h.symm).elim
theorem PV {t e:Expr}(h:Jk t e=true)(hc:Dj e=false)(env:Env):swappedStores [t] e env=Be none:=by
 rcases t with _|_|_|_|_|_|_|_|_|_|_|_|_|_|_|_|_|_|_|_|⟨o,n,p⟩|⟨o,i,p⟩|_|⟨x,p⟩|_|⟨ts,n,p⟩|_
 case Name=>rfl
 case Attribute=>rfl
 case Subscript=>rfl
 case Tuple=>
  rcases e with _|_|_|_|_|_|_|_|_|_|_|_|_|_|_|_|⟨f,as,ks,q⟩|_|_|_|_|⟨v,i,q⟩|_
  case Subscript=>rfl
  case Call=>rfl
  all_goals exact(AI h).elim
 all_goals exact(AI h).elim
theorem Qk {env:Env}{x:Str}{xp q:Pos}{elt:Expr}{gs:List Comprehension}{sc:Scope}(hk:env.scope.kind= .function)(hl:env.kindOf x=some .local)(h:J8 x xp (.ListComp elt gs sc q)=true)(n:Nat):
  swapsWith (.ListComp elt gs sc q) (some (.Name x xp)) n env=Be true:=by
 have h:=AJ.mp h
 show(Be (env.blockKind== .function&&env.kindOf x==some .local&&xp.line==q.line&& !(sc.names.any fun p=>p.1==x&&(p.2== .local||p.2== .cell))):Sem Bool)=_
 have hb:env.blockKind= .function:=by unfold Env.blockKind;rw[hk];rfl
 rw[hb,hl,h.1,h.2]
 rfl
theorem Oq {t e:Expr}(h:Jk t e=true){G:Prop}(k1:∀x p,t= .Name x p→G)(k2:∀o a p,t= .Attribute o a p→G)(k3:∀o i p,t= .Subscript o i p→G)(k4:∀ts n p,t= .Tuple ts n p→G):G:=by
 rcases t with _|_<;>first|exact(AI h).elim|exact k1 _ _ rfl|exact k2 _ _ _ rfl|exact k3 _ _ _ rfl|exact k4 _ _ _ rfl
theorem Sh {x:Str}{xp:Pos}{e:Expr}(h:J8 x xp e=true){G:Prop}(k:∀elt gs sc q,e= .ListComp elt gs sc q→G):G:=by
 rcases e with _|_<;>first|exact(AI h).elim|exact k _ _ _ _ rfl
theorem Tr {t e:Expr}{pos:Pos}{env:Env}(h:Jk t e=true)(hc:Dj e=false):exec (.Assign [t] e pos) env=(Cp pos >>= fun zz=>eval e env >>= fun v=>assignAll v [assign t env] >>= fun zz=>Be .next):=by
 rw[arm_exec_Assign]
 show(Cp pos >>= fun zz=>swapsWith e (some t) pos.line env >>= _)=_
 rw[NA hc,PV h hc]
 refine Oq h (fun zz zz z=>?_) (fun zz zz zz z=>?_) (fun zz zz zz z=>?_) fun zz zz zz z=>?_<;>(subst z;rfl)
theorem Si {t e:Expr}(hc:Dj e=false):PW t e=M.pure ():=by
 rcases t with _|_<;>first|rfl|(show(bif Dj e then _ else _)=_;rw[hc];rfl)
theorem UB {t e:Expr}(h:Jk t e=true)(hc:Dj e=true):∃x xp elt gs sc q,t= .Name x xp∧e= .ListComp elt gs sc q∧J8 x xp (.ListComp elt gs sc q)=true:=by
 have no:(!Dj e)=true→False:=fun h=>by rw[hc] at h;exact AI h
 refine Oq h (fun x p z=>?_) (fun zz zz zz z=>?_) (fun zz zz zz z=>?_) fun zz zz zz z=>?_<;>subst z
 ·have h:(!Dj e||J8 x p e)=true:=h
  rw[hc] at h
  exact Sh h fun elt gs sc q z=>⟨x,p,elt,gs,sc,q,rfl,z,z▸h⟩
 ·exact(no h).elim
 ·exact(no h).elim
 ·have h:(Bq e.ctorIdx 21||Bq e.ctorIdx 16)=true:=h
  have hc:(Bq e.ctorIdx 8||Bq e.ctorIdx 9||Bq e.ctorIdx 10)=true:=hc
  refine((Bool.or_eq_true_iff.mp h).elim (fun h=>?_) fun h=>?_:False).elim<;>(rw[DY h] at hc;exact AI hc)
section
variable {c:Cx}{k:Kn}{r:Fh}{d:Nat}(G:BL c d)(T:E0 c.tp)(ev:∀k e,AV c k (CV c) (eval e c.env) (r.ev d e))(evu:∀k elt gs sc p x xp,c.env.kindOf x=some .local→AV c k CU (evalThenUse (.ListComp elt gs sc p) c.env (assign (.Name x xp) c.env)) ((r.ev d (.ListComp elt gs sc p)).bind fun v=>EX x v))(tr:∀k e,AV c k CB (isTrue e c.env (eval e c.env)) (r.tr d e))
 (ow:Gp c)(ca:∀c' d',c'.tp=c.tp→c'.lv=c.lv→Dq c' d'→Jb c' d')(ex:∀k s,AV c k (CF c.tp) (exec s c.env) (r.ex d s))(exH:∀c',c'.tp=c.tp→c'.lv=c.lv→BL c' 0→Gp c'→∀k s,AV c' k (CF c'.tp) (exec s c'.env) (r.ex 0 s))(wl:∀k t b,LX c k (.whileLoop t b [] c.env) (Ia d t b))(fr:∀c',c'.tp=c.tp→c'.lv=c.lv→BL c' d→Gp c'→Mv c' d)
theorem Xg {e:Expr}{q:Expr×Expr×Pos}(h:Xh e=some q):∃p,e= .Subscript q.1 q.2.1 p:=by
 rcases e with _|_<;>first|exact AP h|exact AH h▸⟨_,rfl⟩
theorem TM {x cc:Option Expr}{q:Str×Pos×List Expr}(h:RO x cc=some q):∃p,x=some (.Call (.Name q.1 q.2.1) q.2.2 [] p)∧cc=none:=by
 rcases x with _|x
 ·exact AP h
 ·
  rcases cc with _|c
  ·
   refine AS (Ak.mp h) fun w hw h=>?_
   refine Dl (PI hw) fun ks p e hk=>?_
   obtain⟨f,as,b⟩:=w
   rcases b with _|_
   ·exact AP h
   ·
    refine AS (Ao.mp h) fun n hn e2=>?_
    have hn:=Lq hn
    have hn:f=_:=hn
    subst hn e e2
    exact⟨p,by rw[CZ.mp hk],rfl⟩
  ·exact AP h
theorem XN {hs:List ExceptHandler}{q:Str×Pos×Str×List Stmt}(h:Tj hs=some q){G:Prop}(kk:∀x xp n b bs p,hs=[.ExceptHandler (some (.Name x xp)) (some n) (b::bs) p]→q=(x,xp,n,b::bs)→G):G:=by
 rcases hs with _|⟨h1,hs⟩
 ·exact AP h
 ·
  obtain⟨t,n,b,p⟩:=h1
  rcases t with _|t
  ·exact AP h
  ·
   rcases n with _|n
   ·exact AP h
   ·
    rcases b with _|⟨b,bs⟩
    ·exact AP h
    ·
     rcases hs with _|_
     ·
      refine AS (Ao.mp h) fun w hw e=>?_
      subst e
      have hw:=Lq hw
      exact kk w.1 w.2 n b bs p (by rw[hw]) rfl
     ·exact AP h
theorem Ua {α:Type}{l:List α}{a:α}(h:Po l=some a):l=[a]:=by
 rcases l with _|⟨b,l⟩
 ·exact AP h
 ·
  rcases l with _|_
  ·exact congrArg (fun x=>[x]) (AH h)
  ·exact AP h
include G T ev evu in
theorem Pe {ts:List Expr}{e:Expr}{pos:Pos}:AV c k (CF c.tp) (exec (.Assign ts e pos) c.env) ((Ax (Po ts)).bind fun t=>chk (Jk t e) ((PW t e).bind fun zz=>(r.ev d e).bind fun v=>(HL c.S r d t v).bind fun zz=>.pure .next)):=by
 refine .look fun t ht=>.chk fun h=>?_
 rw[Ua ht]
 rcases hc:Dj e with _|_
 ·rw[Tr h hc,Si hc]
  show AV c k (CF c.tp) _ ((r.ev d e).bind fun v=>(HL c.S r d t v).bind fun zz=>.pure .next)
  exact .stand (.bind (ev k e) fun k' a v l hv=>.bind (Ic G T ev t hv) fun zz zz zz zz zz=>.pure fun zz zz=>rfl)
 ·refine AB (UB h hc) fun x e=>AB e fun xp e=>AB e fun elt e=>AB e fun gs e=>AB e fun sc e=>AB e fun q e=>?_
  obtain⟨e1,e2,h⟩:=e
  subst e1 e2
  intro k₁ st s K X o Q E l R P HQ HE
  refine BX P fun u eu P=>JU P fun hu P=>?_
  have hl:c.env.kindOf x=some .local:=NX R.loc eu (v:=.none) (AJ.mpr ⟨hu,rfl⟩)
  rw[exec_Assign_Name_used _ _ _ _ (Qk G.1.kind hl h _)]
  refine AF (Bp (AF ?_))
  exact evu k₁ elt gs sc q x xp hl k₁ st s (fun zz s=>K .next s) X o _ E (.refl _) R P (fun k' zz zz st' h' tk l' R' zz P'=>AN (HQ k' .next .next st' h' tk l' R' rfl P')) HE
include G T ev in
theorem TC {t:Expr}{op:Operator}{e:Expr}{pos:Pos}:AV c k (CF c.tp) (exec (.AugAssign t op e pos) c.env) (Y8 c.S r d t op e):=by
 rcases t with _|_|_|_|_|_|_|_|_|_|_|_|_|_|_|_|_|_|_|_|⟨o,n,p⟩|_|_|⟨x,p⟩|_
 case Name=>
  rw[arm_exec_AugAssign]
  show AV c k (CF c.tp) _ ((De x).bind fun old=>(r.ev d e).bind fun v=>(OE op old v).bind fun n=>(EX x n).bind fun zz=>.pure .next)
  exact .stand (.bind (.load G.1) fun k1 a v l1 hv=>.bind (.hold (ev k1 e)) fun k2 b w l2 hw=>.stand (.bind (.operating (Ok (hv.mono l2) hw)) fun k3 n u l3 hu=>.stand (.bind (.bindName G.1 hu) fun zz zz zz zz zz=>.pure fun zz zz=>rfl)))
 case Attribute=>
  rw[arm_exec_AugAssign_2]
  show AV c k (CF c.tp) _ ((r.ev d o).bind fun ov=>(Jw c.S ov n).bind fun old=>(r.ev d e).bind fun v=>(OE op old v).bind fun m=>(HT c.S ov n m).bind fun zz=>.pure .next)
  refine .stand (.bind (ev k o) fun k0 a x l0 hx=>fun k₁ st s K X o Q E l R P HQ HE=>AF (BB (AF (Bp (AF ?_)))))
  refine NN G.1 T.cls (hx.mono l) k₁ st s _ X o _ _ (.refl _) R P (fun k1 old ov st1 h1 t1 l1 R1 ho P1=>AF (BB ?_)) HE
  refine ev k1 e k1 st1 _ _ X o _ _ (.refl _) R1 P1 (fun k2 b y st2 h2 t2 l2 R2 hy P2=>AF (Bp (wpAny_operating ?_))) (HE.ext l1)
  refine Ok (ho.mono l2) hy k2 st2 _ _ X o _ _ (.refl _) R2 P2 (fun k3 n nv st3 h3 t3 l3 R3 hn P3=>AF (Bp (AF (BB ?_)))) (HE.ext (l1.trans l2))
  exact K4 G.1 T.cls (hx.mono (l.trans (l1.trans (l2.trans l3)))) hn k3 st3 _ _ X o _ _ (.refl _) R3 P3 (fun k4 zz zz st4 h4 t4 l4 R4 zz P4=>AF (wpAny_release (AN (HQ k4 .next .next st4 h4 t4 (l1.trans (l2.trans (l3.trans l4))) R4 rfl P4)))) (HE.ext (l1.trans (l2.trans l3)))
 all_goals exact .stuck
include G T ev evu tr ow ca ex exH wl fr in
theorem VU (st:Stmt):AV c k (CF c.tp) (exec st c.env) (Zc c.S r d st):=by
 rcases st with _|_|_|⟨v,pos⟩|⟨ts,pos⟩|⟨ts,e,pos⟩|_|⟨t,op,e,pos⟩|_|⟨t,iter,b,o,pos⟩|_|⟨t,b,o,pos⟩|⟨t,b,o,pos⟩|_|_|_|⟨x,cc,pos⟩|⟨b,hs,o,f,pos⟩|_|_|_|_|_|_|⟨e,pos⟩|_
 case Expr=>
  exact .chk fun h=>fun k₁ st s K X o Q E l R P HQ HE=>wpAny_Expr_any (ev k₁ e k₁ st s _ X o _ _ (.refl _) R P (fun k1 v x st1 h1 t1 l1 R1 hx P1=>HQ k1 .next .next st1 h1 t1 l1 R1 rfl P1) HE) (by unfold interactive;rw[G.1.kind];rfl) (NA (by revert h;cases Dj e<;>simp) _ _ _)
 case Return=>
  rcases v with _|e
  ·exact .stand (.pure fun zz zz=>⟨.none,rfl,rfl⟩)
  ·
   show AV c k (CF c.tp) (Cp pos >>= fun zz=>eval e c.env >>= fun v=>Be (.ret v)) ((r.ev d e).bind fun v=>.pure (.ret v))
   exact .stand (.bind (ev k e) fun k' a v l hv=>.pure fun zz l'=>⟨v,rfl,hv.mono l'⟩)
 case Assign=>exact Pe G T ev evu
 case AugAssign=>exact TC G T ev
 case Delete=>
  refine .look fun t ht=>.look fun q hq=>?_
  rw[Ua ht,arm_exec_Delete]
  refine AB (Xg hq) fun sp hsp=>?_
  obtain⟨o,i,sq⟩:=q
  subst hsp
  show AV c k (CF c.tp) (Cp pos >>= fun zz=>(delete (.Subscript o i sp) c.env >>= fun zz=>Be ()) >>= fun zz=>Be .next) _
  refine .stand fun k₁ st s K X o' Q E l R P HQ HE=>AF (AF (delete_Subscript ?_))
  refine ev k₁ o k₁ st s _ X o' _ _ (.refl _) R P (fun k1 a x st1 h1 t1 l1 R1 hx P1=>?_) HE
  refine ev k1 i k1 st1 _ _ X o' _ _ (.refl _) R1 P1 (fun k2 b y st2 h2 t2 l2 R2 hy P2=>?_) (HE.ext l1)
  exact OR (hx.mono l2) hy k2 st2 _ _ X o' _ _ (.refl _) R2 P2 (fun k3 zz zz st3 h3 t3 l3 R3 zz P3=>AN (AN (HQ k3 .next .next st3 h3 t3 (l1.trans (l2.trans l3)) R3 rfl P3))) (HE.ext (l1.trans l2))
 case If=>
  rw[arm_exec_If]
  show AV c k (CF c.tp) _ ((r.tr d t).bind fun q=>Ep q (DP r d b) (DP r d o))
  refine .stand (.bind (tr k t) fun k' q q' l hq=>?_)
  cases (show q=q' from hq)
  exact .ite (fun h=>by subst h;exact Ed ex b) fun h=>by subst h;exact Ed ex o
 case While=>
  refine .chk fun h=>?_
  rw[CZ.mp (AJ.mp h).2]
  exact fun k₁ st s K X o Q E l R P HQ HE=>wpAny_While (wl k₁ t b k₁ st s K X o _ (.refl _) R P HQ HE.back)
 case For=>
  refine .chk fun h=>?_
  have h:=AJ.mp h
  rw[CZ.mp h.2]
  exact VY G ev ow fr h.1
 case Try=>
  refine .chk fun h=>?_
  have h:=AJ.mp h
  rw[CZ.mp h.1,CZ.mp h.2,arm_exec_Try]
  refine .stand ?_
  have plain:AV c k (CF c.tp) (tryStmt false (execs b c.env) hs (execs [] c.env) [] c.env) (Ho (DP r d b)):=fun k₁ st s K X o Q E l R P HQ HE=>by
   unfold tryStmt
   refine AF (wpAny_attempt (Ed ex b k₁ st s _ _ o _ _ (.refl _) R P (fun k1 fl flow st1 h1 t1 l1 R1 hf P1=>?_) FF.no))
   have q:=HQ k1 fl flow st1 h1 t1 l1 R1 hf P1
   rcases flow with _|_
   case next=>exact wpAny_execs_nil q
   all_goals exact AN q
  show AV c k (CF c.tp) _ (Sd r d b hs)
  unfold Sd
  rcases hh:Tj hs with _|q
  ·exact plain
  ·
   rcases hz:Bq d GI with _|_
   ·exact plain
   ·
    have hz:=DY hz
    subst hz
    refine XN hh fun x xp n bb bs p e1 e2=>?_
    subst e1 e2
    exact R9 G ow T ex exH
 case Raise=>
  refine .look fun q hq=>?_
  refine AB (TM hq) fun p e=>?_
  obtain⟨y,yp,as⟩:=q
  obtain⟨e1,e2⟩:=e
  subst e1 e2
  exact RD G T ca ev
 all_goals exact .stuck
end
noncomputable abbrev GJ (ifs:List Expr)(env:Env)(b:Bool):Sem Bool:=forIn ifs b fun c r=>if r=true then do let ok ←isTrue c env (eval c env);pure (DC ok) else pure (DC r)
theorem Tu {prog:Cg}{w:World}{A:Around}{R:Result→Shared→Prop}{s:Shared}{elt target iter:Expr}{ifs:List Expr}{scope:Scope}{pos:Pos}{it acc:Value}{env:Env}
  (h:∀E,wpAny (model prog w) A (pyNext it) (fun r s₁=>match r with
   |none=>R (.ok .next) s₁
   |some v=>wpAny (model prog w) A (letOwnedTupleGo target it v) (fun zz s₁'=>wpAny (model prog w) A (assign target env v) (fun zz s₂=>
     wpAny (model prog w) A (GJ ifs env true) (fun ok s₃=>
      if ok=true then wpAny (model prog w) A (eval elt env) (fun x s₄=>
       wpAny (model prog w) A (call (.builtin "list.append") [acc,x]) (fun zz s₅=>Bb (model prog w) A (.compLoop (.ListComp elt [⟨target,iter,ifs,0⟩] scope pos) 0 it acc env) R s₅) E s₄) E s₃
      else Bb (model prog w) A (.compLoop (.ListComp elt [⟨target,iter,ifs,0⟩] scope pos) 0 it acc env) R s₃) E s₂) E s₁') E s₁) E s):
  Bb (model prog w) A (.compLoop (.ListComp elt [⟨target,iter,ifs,0⟩] scope pos) 0 it acc env) R s:=by
 refine codeAny_of_tree ?_
 show wpAny _ A ((compTurn (.ListComp elt [⟨target,iter,ifs,0⟩] scope pos) 0 it acc env).onRaise (fun x=>do noteFrame x env;theTreesLotGoes x)) _ _ s
 refine wpAny_noted ?_
 rw[compTurn_list]
 refine AF (Bp (AF (Bi (h _) (fun r s₁ h₁=>?_) fun zz zz h'=>h')))
 rcases r with _|v
 ·exact AN h₁
 ·
  refine AF (Bi h₁ (fun zz s₁' h₁'=>?_) fun zz zz h'=>h')
  refine AF (Bi h₁' (fun zz s₂ h₂=>AF (Bi h₂ (fun ok s₃ h₃=>?_) fun zz zz h'=>h')) fun zz zz h'=>h')
  rcases ok with _|_
  ·exact AN ⟨rfl,h₃⟩
  ·exact AF (AF (Bi h₃ (fun x s₄ h₄=>AF (Bi h₄ (fun zz s₅ h₅=>AN (AN ⟨rfl,h₅⟩)) fun zz zz h'=>h')) fun zz zz h'=>h'))
theorem OP (env:Env)(ifs:List Expr):GJ ifs env false=pure false:=by
 induction ifs with
 |nil=>rfl
 |cons e es ih=>
  unfold GJ at ih ⊢
  rw[Co]
  simp only[Ca,if_false]
  exact ih
theorem Qv {c:Cx}{r:Fh}{d:Nat}(tr:∀k e,AV c k CB (isTrue e c.env (eval e c.env)) (r.tr d e))(ifs:List Expr):∀{k:Kn},AV c k CB (GJ ifs c.env true) (HG r d .And ifs):=by
 induction ifs with
 |nil=>exact .pure fun zz zz=>rfl
 |cons e es ih=>
  intro k
  unfold GJ
  rw[Co]
  simp only[if_true]
  show AV c k CB _ ((r.tr d e).bind fun t=>Ep t (HG r d .And es) (.pure false))
  intro k₁ st s K X o Q E l R P HQ HE
  refine AF (AF (tr k₁ e k₁ st s _ X o _ _ (.refl _) R P (fun k1 q q' st1 h1 t1 l1 R1 hq P1=>AN ?_) HE))
  cases (show q=q' from hq)
  rcases q with _|_
  ·
   show wpAny c.M c.A (GJ es c.env false) Q E _
   rw[OP]
   exact AN (HQ k1 false false st1 h1 t1 l1 R1 rfl P1)
  ·exact ih k1 st1 _ K X o Q E (.refl _) R1 P1 (HQ.ext l1) (HE.ext l1)
noncomputable def QV (c:Cx)(d:Nat):Prop:=
 ∀elt t iter ifs sc pos it j p i x L k st s K X o Q,Ex c k it j p L→F4 it t=true→Ag c.tp k (.obj i) x→Aj (wJ c L).fm k st s.heap→Y c.l o (KY d elt t ifs it j i st K X)→
  En c CU k s K o (fun zz s'=>Q (.ok .next) s')→Dy c X o→nz d=true→Bb c.M c.A (.compLoop (.ListComp elt [⟨t,iter,ifs,0⟩] sc pos) 0 (.ref p) x c.env) Q s
theorem TA {c:Cx}{r:Fh}{d:Nat}(G:BL c d)(T:E0 c.tp)(ev:∀c',c'.tp=c.tp→c'.lv=c.lv→BL c' d→∀k e,AV c' k (CV c') (eval e c'.env) (r.ev d e))(tr:∀c',c'.tp=c.tp→c'.lv=c.lv→BL c' d→∀k e,AV c' k CB (isTrue e c'.env (eval e c'.env)) (r.tr d e))
  (cm:QV c d){elt t iter:Expr}{ifs:List Expr}{sc:Scope}{pos:Pos}{it:It}{j i:Nat}{p:Addr}{xv:Value}{L:BS}{k:Kn}{st:St}{s:Shared}{K:Unit→St→Au}{X:V→St→Au}{o:Except V V×List O}{Q:Result→Shared→Prop}(H:Ex c k it j p L)(hok:F4 it t=true)(hx:Ag c.tp k (.obj i) xv)(Rl:Aj (wJ c L).fm k st s.heap)
  (P:Y c.l o (Ty c.S r d elt t ifs it j i st K X))(HQ:En c CU k s K o (fun zz s'=>Q (.ok .next) s'))(HE:Dy c X o)(hz:nz d=true):Bb c.M c.A (.compLoop (.ListComp elt [⟨t,iter,ifs,0⟩] sc pos) 0 (.ref p) xv c.env) Q s:=by
 refine Tu fun E=>Ox (G.4 hz) H Rl P fun q P=>?_
 rcases q with _|v
 ·exact fun ho=>ho _ _ fun h' tk hk=>HQ k () () st h' tk (.refl _) (Rl.endJ H.bare hk) trivial P
 ·
  refine fun ho=>Bi (ho t (fun v s₂=>wpAny c.M c.A (assign t c.env v) (fun zz s₂=>
    wpAny c.M c.A (GJ ifs c.env true) (fun ok s₃=>
     if ok=true then wpAny c.M c.A (eval elt c.env) (fun y s₄=>
      wpAny c.M c.A (call (.builtin "list.append") [xv,y]) (fun zz s₅=>Bb c.M c.A (.compLoop (.ListComp elt [⟨t,iter,ifs,0⟩] sc pos) 0 (.ref p) xv c.env) Q s₅) E s₄) E s₃
     else Bb c.M c.A (.compLoop (.ListComp elt [⟨t,iter,ifs,0⟩] sc pos) 0 (.ref p) xv c.env) Q s₃) E s₂) E s₂) E hok fun h' tk u L' I' hl hat hg hk hI hc=>?_) (fun o s₁ h=>?_) fun zz zz h=>h
  ·have c1:=G.wJ L'
   have R2:=Rl.extJ hl H.bare hk hg hI
   refine Ic c1 T (ev (wJ c L') rfl rfl c1) t hc _ st _ _ X o _ E (.refl _) R2 P (fun k2 zz zz st2 h2 t2 l2 R3 zz P2=>?_) HE.err
   refine Qv (c:=wJ c L') (tr (wJ c L') rfl rfl c1) ifs k2 st2 _ _ X o _ E (.refl _) R3 P2 (fun k3 ok ok' st3 h3 t3 l3 R4 hok' P3=>?_) HE.err
   cases (show ok=ok' from hok')
   have lk:B8 k k3:=(B8.more I').trans (l2.trans l3)
   have hat3:=hat.mono lk
   rcases ok with _|_
   ·exact cm elt t iter ifs sc pos it (j+1) p i xv L' k3 st3 _ K X o Q hat3 hok (hx.mono lk) R4 P3 (HQ.ext lk) HE hz
   ·
    refine ev (wJ c L') rfl rfl c1 k3 elt k3 st3 _ _ X o _ E (.refl _) R4 P3 (fun k4 y yv st4 h4 t4 l4 R5 hy P4=>?_) HE.err
    refine Qy (c:=wJ c L') (hx.mono (lk.trans l4)) (Am.one hy) k4 st4 _ _ X o _ E (.refl _) R5 P4 (fun k5 zz zz st5 h5 t5 l5 R6 zz P5=>?_) HE.err
    have lk5:=lk.trans (l4.trans l5)
    exact cm elt t iter ifs sc pos it (j+1) p i xv L' k5 st5 _ K X o Q (hat3.mono (l4.trans l5)) hok (hx.mono lk5) R6 P5 (HQ.ext lk5) HE hz
  ·rcases o with _|v
   ·exact h.elim
   ·exact Bi h (fun zz zz h=>h) fun zz zz h=>h
noncomputable def DL (cells:List (Str×Addr)):List (Str×Al)→List (Str×Addr)→List (Str×Addr)
 |[],acc=>acc
 |p::r,acc=>DL cells r (if(p.2==Bj)=true then(p.1,(cells.lookup p.1).getD 0)::acc else acc)
theorem O6 {scope:Scope}{env:Env}(h:∀n,(n,Bj)∈scope.names→∃q,env.cells.lookup n=some q):closureFor scope env=pure (DL env.cells scope.names []):=by
 have key:∀(names:List (Str×Al)) (acc:List (Str×Addr)),(∀n,(n,Bj)∈names→∃q,env.cells.lookup n=some q)→
   (forIn (m:=Sem) names acc fun x r=>if(x.2==Bj)=true then do let a ←cellOf env x.1;pure (DC ((x.1,a)::r)) else pure (DC r))=pure (DL env.cells names acc):=fun names=>by
  induction names with
  |nil=>exact fun acc zz=>rfl
  |cons p r ih=>
   intro acc h
   rw[Co]
   show _=pure (DL env.cells r (if(p.2==Bj)=true then(p.1,(env.cells.lookup p.1).getD 0)::acc else acc))
   have ih:=fun acc=>ih acc fun n hn=>h n (.tail _ hn)
   by_cases hk:(p.2==Bj)=true
   ·rw[if_pos hk,if_pos hk]
    refine AB (h p.1 (by rw[←eq_of_beq hk];exact .head _)) fun q hq=>?_
    have e1:cellOf env p.1=pure q:=by unfold cellOf;rw[hq]
    rw[e1,hq,←ih]
    rfl
   ·rw[if_neg hk,if_neg hk,←ih]
    rfl
 have k:=key scope.names [] h
 unfold closureFor
 exact(congrArg (fun m:Sem (List (Str×Addr))=>m >>= fun cs=>pure cs) k).trans rfl
theorem U2 {cells:List (Str×Addr)}{p:Str×Addr}(names:List (Str×Al)):∀{acc:List (Str×Addr)},p∈DL cells names acc→p∈acc∨((p.1,Bj)∈names∧p.2=(cells.lookup p.1).getD 0):=by
 induction names with
 |nil=>exact fun h=>.inl h
 |cons q r ih=>
  intro acc h
  refine(ih h).elim (fun h=>?_) fun h=>.inr ⟨.tail _ h.1,h.2⟩
  by_cases hk:(q.2==Bj)=true
  ·rw[if_pos hk] at h
   exact(AU.mp h).elim (fun e=>.inr ⟨by rw[e,←eq_of_beq hk];exact .head _,by rw[e]⟩) .inl
  ·rw[if_neg hk] at h
   exact .inl h
theorem U4 {cells:List (Str×Addr)}{p:Str×Addr}(names:List (Str×Al)):∀{acc:List (Str×Addr)},p∈acc→p∈DL cells names acc:=by
 induction names with
 |nil=>exact fun h=>h
 |cons q r ih=>exact fun h=>ih (by split<;>first|exact .tail _ h|exact h)
theorem U3 {cells:List (Str×Addr)}{x:Str}(names:List (Str×Al)):∀{acc:List (Str×Addr)},(x,Bj)∈names→(x,(cells.lookup x).getD 0)∈DL cells names acc:=by
 induction names with
 |nil=>exact fun h=>(Ap h).elim
 |cons q r ih=>
  intro acc h
  exact(AU.mp h).elim (fun e=>by rw[←e];exact U4 r (.head _)) fun h=>ih h
theorem OU {β:Type}{x:Str}{q:β}{l:List (Str×β)}:(x,q)∈l→(∀q',(x,q')∈l→q'=q)→l.lookup x=some q:=by
 induction l with
 |nil=>exact fun h=>nomatch h
 |cons p l ih=>
  intro h u
  rw[CY]
  by_cases e:x=p.1
  ·rw[beq_iff_eq.mpr e,u p.2 (by rw[e];exact .head _)]
  ·rw[beq_eq_false_iff_ne.mpr e]
   exact(AU.mp h).elim (fun h=>absurd (congrArg (·.1) h) e) fun h=>ih h fun q' hq=>u q' (.tail _ hq)
theorem SI {cells:List (Str×Addr)}{names:List (Str×Al)}{x:Str}{q:Addr}(hm:(x,Bj)∈names)(hq:cells.lookup x=some q):(DL cells names []).lookup x=some q:=by
 refine OU (by have:=U3 (cells:=cells) names (acc:=[]) hm;rw[hq] at this;exact this) fun q' h=>(U2 names h).elim (fun h=>nomatch h) fun h=>?_
 exact h.2.trans (by rw[hq];rfl)
structure Lb (c:Cx)(sc:Scope):Prop where
 kind:sc.kind= .function
 names:(sc.names.map (·.1)).Nodup
 dbg:("__debug__":Str)∉sc.names.map (·.1)
 cell:∀x∈sc.names,x.2≠ .cell
 free:∀n,(n,Bj)∈sc.names→c.env.kindOf n=some .cell∧∃q,c.env.cells.lookup n=some q
noncomputable abbrev Hu (c:Cx)(sc:Scope)(C:Addr)(g:Heap):Cx:=⟨⟨c.tp,compEnvC sc (DL c.env.cells sc.names []) C c.env,g,c.J⟩,c.A,c.outer,c.lv⟩
section
variable {c:Cx}{k:Kn}{sc:Scope}
theorem Tv {st:St}{h:Heap}(R:Aj c.fm k st h)(e:O2 sc st.loc=true):Lb c sc:=by
 have e1:=AJ.mp e
 have e2:=AJ.mp e1.1
 have e3:=AJ.mp e2.1
 have ek:=Az.mp e1.2
 refine⟨?_,of_decide_eq_true e3.2,fun h=>?_,fun x hx hk=>?_,fun n hn=>?_⟩
 ·have z:=e3.1
  revert z
  rcases sc.kind with _|_<;>first|exact fun zz=>rfl|exact fun z=>(AI z).elim
 ·have z:=e2.2
  rw[DZ.mpr h] at z
  exact AI z
 ·have z:=ek x hx
  unfold ZT at z
  rw[hk] at z
  exact AI z
 ·have z:((Cc n st.loc).bind LR).isSome=true:=ek _ hn
  refine AB (DA.mp z) fun i z=>AS (Ak.mp z) fun a hl ha=>?_
  refine(R.loc n a hl).2.elim (fun y=>absurd (y.2.1.symm.trans ha) (fun y=>nomatch y)) fun y=>y.elim (fun y=>?_) fun y=>⟨y.1,y.2.elim fun j y=>y.elim fun q y=>y.elim fun zz y=>⟨q,y.2.1⟩⟩
  rcases a with _|_<;>first|exact AP ha|exact(AI y.2.2).elim
theorem Ie (G:BI c)(S:Lb c sc){C:Addr}{x:Str}{q:Al}(hm:(x,q)∈sc.names):(compEnvC sc (DL c.env.cells sc.names []) C c.env).kindOf x=some (if q= .free then .cell else q):=by
 show(relabel sc c.env).names.lookup x=_
 unfold relabel
 refine lookup_nodup ?_ ?_
 ·have:(sc.names.map fun(n,k)=>if(k==Bj&&c.env.scope.kind==ScopeKind.function&&c.env.kindOf n==some Ct) then(n,Ct) else(n,k)).map (·.1)=sc.names.map (·.1):=by
   rw[DV]
   refine Ds fun p hp=>?_
   show(if _ then(p.1,Ct) else(p.1,p.2)).1=p.1
   split<;>rfl
  rw[this];exact S.names
 ·refine C4.mpr ⟨(x,q),hm,?_⟩
  by_cases hk:q= .free
  ·subst hk
   simp only[(S.free x hm).1,G.kind,if_true]
   rfl
  ·have e1:(q==Bj)=false:=beq_eq_false_iff_ne.mpr hk
   simp only[e1,Bool.false_and,Ca,if_false,if_neg hk]
theorem O3 {g:Str→Option V}{loc:List (Str×V)}{x:Str}{a:V}{names:List (Str×Al)}:Cc x (CW g loc names)=some a→
  ((x,Al.local)∈names∧a= .undef)∨((x,Bj)∈names∧Cc x loc=some a)∨((x,Du)∈names∧g x=some a):=by
 induction names with
 |nil=>exact fun h=>AP h
 |cons p r ih=>
  intro h
  have look:∀{u:V},Cc x ((p.1,u)::CW g loc r)=some a→(x=p.1∧u=a)∨Cc x (CW g loc r)=some a:=fun{u} h=>by
   rw[FS] at h
   by_cases e:x=p.1
   ·rw[if_pos e] at h;exact .inl ⟨e,AH h⟩
   ·rw[if_neg e] at h;exact .inr h
  have go:=fun h=>(ih h).imp (fun z=>(⟨.tail _ z.1,z.2⟩:(x,Al.local)∈p::r∧_)) fun z=>z.imp (fun z=>(⟨.tail _ z.1,z.2⟩:(x,Bj)∈p::r∧_)) fun z=>(⟨.tail _ z.1,z.2⟩:(x,Du)∈p::r∧_)
  rcases p with⟨y,q⟩
  ·
   cases q with
   |«local»=>exact(look h).elim (fun z=>.inl ⟨by rw[z.1];exact .head _,z.2.symm⟩) go
   |free=>
    have h:Cc x (match Cc y loc with|some v=>(y,v)::CW g loc r|none=>CW g loc r)=some a:=h
    rcases e:Cc y loc with _|v
    ·rw[e] at h;exact go h
    ·rw[e] at h;exact(look h).elim (fun z=>.inr (.inl ⟨by rw[z.1];exact .head _,by rw[z.1,e,z.2]⟩)) go
   |globalImplicit=>
    have h:Cc x (match g y with|some v=>(y,v)::CW g loc r|none=>CW g loc r)=some a:=h
    rcases e:g y with _|v
    ·rw[e] at h;exact go h
    ·rw[e] at h;exact(look h).elim (fun z=>.inr (.inr ⟨by rw[z.1];exact .head _,by rw[z.1,e,z.2]⟩)) go
   |_=>exact go h
theorem Aj.compLoc (G:BI c)(S:Lb c sc){st:St}{h:Heap}(R:Aj c.fm k st h){C:Addr}{g:Heap}{m':Str→Option Value}:Iv (Hu c sc C g).fm k m' (CW c.S.glob st.loc sc.names):=fun x a hx=>by
 have dbg:∀{q},(x,q)∈sc.names→(x==("__debug__":Str))=false:=fun hm=>beq_eq_false_iff_ne.mpr fun e=>S.dbg (e▸B9 (f:=(·.1)) hm)
 refine(O3 hx).elim (fun z=>⟨dbg z.1,.inl ⟨Ie G S z.1,by rw[z.2];exact⟨rfl,.inl rfl⟩⟩⟩) fun z=>z.elim (fun z=>⟨dbg z.1,?_⟩) fun z=>⟨dbg z.1,.inr (.inl ⟨Ie G S z.1,z.2,G.top.globSt _ _ z.2⟩)⟩
 have hc:=(S.free x z.1).1
 refine(R.loc x a z.2).2.elim (fun y=>absurd (AH (hc.symm.trans y.1)) (fun y=>nomatch y)) fun y=>y.elim (fun y=>absurd (AH (hc.symm.trans y.1)) (fun y=>nomatch y)) fun y=>.inr (.inr ⟨Ie G S z.1,y.2.elim fun i y=>y.elim fun q y=>y.elim fun w y=>⟨i,q,w,y.1,SI z.1 y.2.1,y.2.2⟩⟩)
theorem Rr (G:BI c)(S:Lb c sc){C:Addr}{g:Heap}(B:Below c.A c.base c.outer g):BI (Hu c sc C g):=by
 refine⟨G.top,S.kind,G.gl,G.bi,G.frames,B.stays,fun h m nw F N=>?_⟩
 refine funFrames_hideAll (B.frames.of_keeps fun b o e zz=>⟨o,F.keep b o e,rfl⟩) fun env he a ha hf=>?_
 refine Dl (funFrames_in B.frames env he) fun L₁ o₁ hf₁ ho₁=>AS (C4.mp ha) fun p hp e=>?_
 have h1:g.get? p.1=none:=(N p hp).2.2
 have h2:L₁=p.1:=(AH (hf₁.symm.trans hf)).trans e.symm
 rw[h2] at ho₁
 exact AP (h1.symm.trans ho₁)
end
section
variable {c:Cx}{k:Kn}
theorem Vp (hh:c.A.handled=none){it:It}{j:Nat}{p:Addr}{L:BS}{s:Shared}(H:Ex c k it j p L)(hnd:HJ it=true)(B:∀q∈L,s.heap.get? q.1=some q.2){Q:Value→Shared→Prop}{E:Value→Shared→Prop}(h:Q (.ref p) s):
  wpAny c.M c.A (pyIter (.ref p)) Q E s:=by
 refine AB H fun a H=>AB H fun o H=>H.2.elim (fun z=>?_) fun z=>z.2.2.elim fun old e=>?_
 ·have ho:s.heap.get? a=some o:=B (a,o) (by rw[z.2.2];exact .head _)
  rw[z.2.1]
  rw[z.2.1] at h
  have H:=H.1
  cases it with
  |list i en=>exact AB H fun d H=>wpAny_pyIter_listiter ⟨o,ho,H.2.1,H.2.2⟩ h
  |str x en=>
   refine AB H fun n H=>AB H fun t H=>?_
   have st:s.heap.IsStrIter a n x t j:=⟨o,ho,H.2.1,H.2.2.1⟩
   exact H.1.elim (fun e=>by subst e;exact(Walks.strAscii (prog:=c.prog) (w:=c.w) hh a x t).self j s Q E st h) fun e=>by subst e;exact(Walks.strWide (prog:=c.prog) (w:=c.w) hh a x t).self j s Q E st h
  |rng x y=>exact(Walks.range (prog:=c.prog) (w:=c.w) hh a x 1 _).self j s Q E (ho.trans (congrArg some H.1)) h
  |dict i=>exact(AI hnd).elim
 ·have hen:IsEnum s.heap p a j old:=B _ (by rw[e];exact .head _)
  exact wpAny_pyIter_enum hen h
theorem Xw (d:Nat):Hv d≤d:=by
 unfold Hv
 rcases h:Bq d GI with _|_
 ·exact AT _
 ·rw[DY h];decide
theorem Xv {d:Nat}(h:nz d=true):nz (Hv d)=true:=by
 unfold Hv
 rcases Bq d GI with _|_
 ·exact h
 ·rfl
theorem BL.comp {d:Nat}(G:BL c d){sc:Scope}{C:Addr}{g:Heap}(hz:nz d=true)(H:BI (Hu c sc C g)):BL (Hu c sc C g) (Hv d):=by
 have h1:=G.2
 have h2:=G.3
 have h3:=Xw d
 refine⟨H,by show c.A.units+8 * Hv d+20≤cLine;lia,by show c.A.depth+2 * Hv d≤900;lia,fun zz=>G.4 hz,.inl ?_⟩
 unfold Hv
 refine G.5.elim (fun z=>?_) fun z=>by rw[z.1];decide
 rw[show Bq d GI=false from Bool.eq_false_iff.mpr fun e=>absurd (DY e) (Ah z)]
 exact z
noncomputable def Aj.outC {st:St}{h h':Heap}{C:Addr}(R:Aj c.fm k st h)(LT:c.env.locals<C)(ne:∀q∈R.MO++(c.J++k.I),q.1≠C)(hs:BW C h h'):Aj c.fm k st h':=
 ⟨R.m,R.MO,⟨R.F.ns.sameBut hs (Ah LT),fun b o e=>(hs.2 b (Ah (Ab (Av e) (AL R.F.above (Bu LT))))).trans (R.F.keep b o e),R.F.above⟩,
  fun q hq=>⟨(hs.2 q.1 (ne q hq)).trans (R.N q hq).1,(R.N q hq).2⟩,R.nd,R.loc,R.heap⟩
noncomputable def Aj.stored {st:St}{h h':Heap}{x:Str}{u a:V}{v:Value}(R:Aj c.fm k st h)(hl:c.env.kindOf x=some .local)(e:Cc x st.loc=some u)(hv:Ag c.tp k a v)(hn:h'.Ns c.env.locals fun y=>if y=x then some v else R.m y)(hsb:BW c.env.locals h h'):Aj c.fm k ⟨Kg x a st.loc,st.heap⟩ h':=by
 refine⟨_,R.MO,R.F.set hn hsb,R.N.set hsb,R.nd,fun y b hb=>?_,R.heap⟩
 have hb:Cc y (Kg x a st.loc)=some b:=hb
 rw[Ov] at hb
 by_cases q:y=x
 ·rw[if_pos q,e] at hb
  exact⟨q▸(R.loc x u e).1,.inl ⟨q▸hl,Dc hb fun z=>z▸Hi hv,.inr ⟨v,if_pos q,Dc hb fun z=>z▸hv⟩⟩⟩
 ·rw[if_neg q] at hb
  exact⟨(R.loc y b hb).1,(R.loc y b hb).2.imp (fun z=>⟨z.1,z.2.1,z.2.2.imp id (Af fun w z=>⟨(if_neg q).trans z.1,z.2⟩)⟩) id⟩
noncomputable def PS (c:Cx)(k:Kn)(st:St)(s:Shared)(o:Except V V×List O)(K:V→St→Au)(i:Nat)(post:Shared→Prop):Prop:=
 ∀k4 hp h4 tk,B8 k k4→(R:Aj c.fm k4 ⟨st.loc,hp⟩ h4)→(∃m,h4.Ns s.heap.objs.size m)→(∀q∈R.MO++(c.J++k4.I),q.1≠s.heap.objs.size)→Y c.l o (K (.obj i) ⟨st.loc,hp⟩)→post {s with heap:=h4,toks:=tk}
section
variable {r:Fh}{d:Nat}(hz:nz d=true)(G:BL c d)(ev:∀k e,AV c k (CV c) (eval e c.env) (r.ev d e))(cm:∀c' d',c'.tp=c.tp→c'.lv=c.lv→BL c' d'→QV c' d')
include hz G cm in
theorem W3 {elt t iter:Expr}{ifs:List Expr}{sc:Scope}{pos:Pos}{it:It}{i:Nat}{p:Addr}{L:BS}{st:St}{s:Shared}{xv:Value}{K:V→St→Au}{X:V→St→Au}{o:Except V V×List O}{Q:Value→Shared→Prop}{E:Value→Shared→Prop}(S:Lb c sc)(H:Ex c k it 0 p L)(hnd:HJ it=true)(hok:F4 it t=true)(hx:Ag c.tp k (.obj i) xv)
  (R:Aj (wJ c L).fm k st s.heap)(P:Y c.l o (((LM c.S sc (KY (Hv d) elt t ifs it 0 i)).bind fun zz=>.pure (.obj i)) st K X)){use:Option (Value→Sem Unit)}(fin:PS c k st s o K i (compPost c.M c.A E use Q xv s.heap.objs.size (.ok .next))):
  wpAny c.M c.A (newFunctionEnv sc c.env.globals (DL c.env.cells sc.names []) [] c.env.qual none .none (some c.env)) (fun cenv s₄=>
   Bb c.M c.A (.compStart (.ListComp elt [⟨t,iter,ifs,0⟩] sc pos) 0 (.ref p) xv {cenv with scope:=relabel sc c.env}) (compPost c.M c.A E use Q xv cenv.locals) s₄) E s:=by
 refine wpAny_newFunctionEnv S.cell (fun zz h=>(Ap h).elim) (fun h₃ hns hsb=>?_) S.kind
 have LT:=R.F.ns.lt
 have gr:=fun Gl:Prop=>Nj (A:=c.A) (s:=s) (R:=fun zz zz=>Gl) G.1.stays R.F R.N G.1.frames (G.1.ff _ _ _ R.F R.N)
 have BG:=(gr True).2.1
 generalize hg:hideAll s.heap ((R.MO++((wJ c L).J++k.I)).map (·.1))=g at gr BG
 have old:∀b o,s.heap.get? b=some o→h₃.get? b=some o:=fun b o e=>hsb.extBut b o (Ah (Av e)) (BH _ e)
 have G₂:BL (Hu c sc s.heap.objs.size g) (Hv d):=G.comp hz (Rr G.1 S BG)
 have R5:Aj (wJ (Hu c sc s.heap.objs.size g) L).fm k ⟨CW c.S.glob st.loc sc.names,st.heap⟩ h₃:=by
  refine⟨_,R.MO,⟨hns,fun b o e=>old b o (of_hideAll _ (hg▸e)),CI (by rw[←hg];exact hideAll_size _ _)⟩,fun p hp=>?_,R.nd,Aj.compLoc (c:=wJ c L) (G.1.wJ L) ⟨S.kind,S.names,S.dbg,S.cell,S.free⟩ R,R.heap⟩
  exact⟨old _ _ (R.N p hp).1,Ah (Av (R.N p hp).1),by rw[←hg];exact hideAll_none _ (B9 hp)⟩
 refine JU P fun hco P=>?_
 have loop:Bb c.M c.A (.compLoop (.ListComp elt [⟨t,iter,ifs,0⟩] sc pos) 0 (.ref p) xv (compEnvC sc (DL c.env.cells sc.names []) s.heap.objs.size c.env)) (compPost c.M c.A E use Q xv s.heap.objs.size) {s with heap:=h₃,toks:=s.toks+0}:=by
  refine cm (Hu c sc s.heap.objs.size g) (Hv d) rfl rfl G₂ elt t iter ifs sc pos it 0 p i xv L k ⟨CW c.S.glob st.loc sc.names,st.heap⟩ _ _ _ o _ H hok hx R5 P (fun k4 zz zz st4 h4 t4 l4 R4 zz P4=>?_) Dy.no (Xv hz)
  refine(gr _).2.2.2 .none {s with heap:=h4} (leaveK_ R4.F R4.N fun F' N'=>?_)
  exact fin k4 st4.heap h4 t4 l4 ⟨R.m,R4.MO,F',N',R4.nd,R.loc.mono l4,R4.heap⟩ ⟨R4.m,R4.F.ns⟩ (fun q hq=>(R4.N q hq).2.1) P4
 exact codeAny_compStart_list loop (Vp (c:=Hu c sc s.heap.objs.size g) (G.4 hz) H hnd (fun q hq=>(R5.inJ hq).1) loop)
omit hz in
include G ev cm in
theorem PD (hz:nz d=true){elt t iter:Expr}{ifs:List Expr}{sc:Scope}{pos pos':Pos}{use:Option (Value→Sem Unit)}{k₁:Kn}{st:St}{s:Shared}{K:V→St→Au}{X:V→St→Au}{o:Except V V×List O}{Q:Value→Shared→Prop}{E:Value→Shared→Prop}(R:Aj c.fm k₁ st s.heap)
  (P:Y c.l o (((TI sc).bind fun zz=>(Jq r d iter).bind fun it=>chk (HJ it&&F4 it t) ((Fa (.list [])).bind fun v=>(Ax (G0 v)).bind fun i=>(LM c.S sc (KY (Hv d) elt t ifs it 0 i)).bind fun zz=>.pure v)) st K X))(HE:FF c k₁ s X o E)
  (fin:∀k2 st2 h2 t2 i acc,B8 k₁ k2→Ag c.tp k2 (.obj i) acc→c.env.locals<h2.objs.size→PS c k2 st2 {s with heap:=h2,toks:=t2} o K i (compPost c.M c.A E use Q acc h2.objs.size (.ok .next))):
  wpAny c.M c.A (comprehension (.ListComp elt [⟨t,iter,ifs,0⟩] sc pos) sc c.env pos' (newList []) false (eval iter c.env) use) Q E s:=by
 refine JU P fun hco P=>?_
 have S:=Tv R hco
 have z:=MD (E:=E) (Q:=fun it s₂=>wpAny c.M c.A (newList []) (fun acc s₃=>
   wpAny c.M c.A (newFunctionEnv sc c.env.globals (DL c.env.cells sc.names []) [] c.env.qual none .none (some c.env)) (fun cenv s₄=>
    Bb c.M c.A (.compStart (.ListComp elt [⟨t,iter,ifs,0⟩] sc pos) 0 it acc {cenv with scope:=relabel sc c.env}) (compPost c.M c.A E use Q acc cenv.locals) s₄) E s₃) E s₂) G ev R P HE ?_
 ·exact wpAny_comprehension_free (use:=use) rfl z.1 (O6 fun n hn=>(S.free n hn).2) S.kind (fun x hx hl=>lookup_nodup S.names (by rw[←hl];exact hx)) z.2
 intro k1 it st1 v h1 t1 l1 P1 hb
 refine FT P1 fun hc P1=>?_
 have hc:=AJ.mp hc
 refine AB hb fun Jd hb=>AB hb fun p hb=>AB hb fun L hb=>?_
 have hJ:Jd=[]:=hb.2.2.2.elim (fun z=>z.2) fun z=>AB z fun i z=>AB z fun dd z=>AB z fun ob z=>by
  rw[z.1] at hc
  exact(AI hc.1).elim
 subst hJ
 rw[hb.1]
 refine hb.2.2.1.elim fun R1=>?_
 refine K5 (c:=wJ c L) (k:=k1) (xs:=[]) (vs:=[]) rfl (Bx _) k1 st1 {s with heap:=h1,toks:=t1} _ X o _ E (.refl _) R1 P1 (fun k2 a acc st2 h2 t2 l2 R2 hacc P2=>?_) ((HE.dropJ (hb.2.1:Ex c k1 it 0 p L).bare).ext l1)
 refine BX P2 fun i hi P2=>?_
 rcases a with _|_
 case obj j=>
  cases AH hi
  exact W3 hz G cm (s:={s with heap:=h2,toks:=t2}) S (Ex.mono l2 (hb.2.1:Ex c k1 it 0 p L)) hc.1 hc.2 hacc R2 P2 (fin k2 st2 h2 t2 _ acc (l1.trans l2) hacc R2.F.ns.lt)
 all_goals exact AP hi
omit hz in
include G ev cm in
theorem T9 {elt t iter:Expr}{ifs:List Expr}{sc:Scope}{pos:Pos}:AV c k (CV c) (eval (.ListComp elt [⟨t,iter,ifs,0⟩] sc pos) c.env) (Mm c.S r d elt t iter ifs sc):=by
 refine .chk fun hz=>?_
 intro k₁ st s K X o Q E l R P HQ HE
 rw[eval_ListComp]
 exact PD G ev cm hz R P HE fun k2 st2 h2 t2 i acc l2 hacc LT k4 hp h4 tk l4 R4 hm ne P4=>hm.elim fun m hm=>⟨m,hm,fun h'' hs=>HQ k4 (.obj i) acc ⟨st2.loc,hp⟩ h'' tk (l2.trans l4) (R4.outC LT ne hs) (hacc.mono l4) P4⟩
omit hz in
include G ev cm in
theorem R7 {elt t iter:Expr}{ifs:List Expr}{sc:Scope}{pos xp:Pos}{x:Str}(hl:c.env.kindOf x=some .local):AV c k CU (evalThenUse (.ListComp elt [⟨t,iter,ifs,0⟩] sc pos) c.env (assign (.Name x xp) c.env)) ((Mm c.S r d elt t iter ifs sc).bind fun v=>EX x v):=by
 intro k₁ st s K X o Q E l R P HQ HE
 refine FT (m:=(TI sc).bind fun zz=>(Jq r d iter).bind fun it=>chk (HJ it&&F4 it t) ((Fa (.list [])).bind fun v=>(Ax (G0 v)).bind fun i=>(LM c.S sc (KY (Hv d) elt t ifs it 0 i)).bind fun zz=>.pure v)) (K:=fun v s=>EX x v s K X) P fun hz P=>?_
 rw[arm_evalThenUse_ListComp]
 refine AF (PD G ev cm hz R P HE fun k2 st2 h2 t2 i acc l2 hacc LT k4 hp h4 tk l4 R4 hm ne P4=>hm.elim fun m hm=>?_)
 refine AF (Bp (wpAny_bindName ?_))
 refine BX P4 fun u eu P4=>?_
 rcases hs:Fs u (.obj i) with _|_
 ·
  rw[hs] at P4
  refine BX P4 fun q hq zz=>?_
  refine(R4.loc x u eu).2.elim (fun z=>AP (z.2.1.symm.trans hq)) fun z=>z.elim (fun z=>absurd (AH (hl.symm.trans z.1)) fun y=>nomatch y) fun z=>absurd (AH (hl.symm.trans z.1)) fun y=>nomatch y
 ·
  rw[hs] at P4
  refine wpAny_storeName_local hl R4.F.ns (fun h5 hn hsb=>?_) (by show(c.env.scope.kind== .class||(c.env.scope.kind== .module&&c.env.locals != c.env.globals))=false;rw[G.1.kind];rfl)
  refine⟨m,hm.sameBut hsb (Bh LT),fun h' hs'=>AN ?_⟩
  exact HQ k4 () () ⟨Kg x (.obj i) st2.loc,hp⟩ h' _ (l2.trans l4) ((R4.stored hl eu (hacc.mono l4) hn hsb).outC LT ne hs') trivial P4
end
end
structure OG extends VB where
 cda:Addr
 cc:Addr
 ps:Str
 px:Str
 ar:Arg
 rest:List Stmt
 p0:Pos
 p1:Pos
 p2:Pos
 p3:Pos
 p4:Pos
 p5:Pos
 ccl:Value
 cdd:Option Addr
 vs:Array Value
 ccs:Array (Option Value)
 file:Str
 tf:Tok
 cl:Value
 cld:Option Addr
 csl:Array (Option Value)
 D:Addr
 cdD:ClassData
noncomputable def OG.fd (q:OG)(fn:Fn):FuncData:=ksFn q.name q.qual q.params fn.body fn.scope q.dV q.kV q.doc q.pm q.an (.ref q.cda) q.ct q.cc
structure QN (θ:Tp)(f:Nat)(fn:Fn)(g k:Nat)(q:OG):Prop where
 look:θ.K.lookup (θ.af f)=some ⟨q.oc,q.od,.func (q.fd fn),q.osl⟩
 code:codeIn θ.K (.ref q.cda) q.qual=true
 po:q.params.posonlyargs=[]
 as:q.params.args.map (·.arg)=fn.params
 ko:q.params.kwonlyargs=[]
 va:q.params.vararg=none
 ka:q.params.kwarg=none
 dV:q.dV= .none
 ps:fn.params=[q.ps,q.px]
 ar:q.params.args.head? =some q.ar
 arg:q.ar.arg=q.ps
 body:fn.body= .Expr (.Call (.Attribute (.Call (.Name "super" q.p0) [] [] q.p1) "__init__" q.p2) [.Name q.px q.p3] [] q.p4) q.p5::q.rest
 pos:q.p2.endLine=q.p4.line
 cda:θ.K.lookup q.cda=some ⟨q.ccl,q.cdd,.fields q.vs,q.ccs⟩
 vs:q.vs[2]? =some (.str q.file q.tf)
 file:((θ.prog.main.file:Str)==q.file)=true
 cc:θ.K.lookup q.cc=some ⟨q.cl,q.cld,.cell (some (.ref q.D)),q.csl⟩
 D:clsIn θ.K q.D=some q.cdD
 mro:mroIn θ.K (θ.ac k) (.ref q.D)=some true
 sup:ks_superIn θ.K (θ.ac k) q.D "__init__"=some (some (.ref (θ.af g)))
 kps:fn.scope.names.lookup q.ps=some .local
 dflts:fn.dflts=[]
 nodup:fn.params.Nodup
 names:(fn.scope.names.map (·.1)).Nodup
 kinds:∀p∈fn.params,(p,Al.local)∈fn.scope.names
 nocell:∀x∈fn.scope.names,x.2≠ .cell
 dbg:("__debug__":Str)∉fn.scope.names.map (·.1)
 ksup:fn.scope.names.lookup ("super":Str)=some .globalImplicit
 kcls:fn.scope.names.lookup ("__class__":Str)=some .free
 co:fn.scope.isCoroutine=false
 gen:fn.scope.isGenerator=false
 kind:fn.scope.kind= .function
 top:(θ.prog.main.scope.names.lookup ("super":Str)).isSome=false
 boot:bootBuiltins "super"=some (.type "super")
 nosup:nsIn θ.K Cb "super"=some none
 third:nsIn θ.K cStatics "thirdparty.any"=some none
 ty:typeIn θ.K (.ref (θ.af g))=some (.type "function")
 fng:fnIn θ.K (θ.af g)=true
theorem Z8 {prog:Cg}{w:World}{A:Around}{s:Shared}{base h₀:Heap}{fl:List Env}{L:Addr}{m:Str→Option Value}{news:BS}{R:Result→Shared→Prop}{name qual:Str}{params:Arguments}{body:List Stmt}{scope:Scope}{dV kV doc pm cdv ct:Value}{an:Option Addr}{fo:Obj}{f cc:Addr}{args:Args}{binds:List (Str×Value)}
  (hs:base.StaysIn h₀)(F:Fr h₀ L s.heap m)(N:News h₀ L s.heap news)(hlim:h₀.NoLimit)(hA:A.frames=some fl)(ff:(hideAll s.heap (news.map (·.1))).FunFrames base fl)
  (ho:s.heap.get? f=some fo)(hd:fo.data= .func (ksFn name qual params body scope dV kV doc pm an cdv ct cc))(hcd:s.heap.CodeRec cdv qual)(hroom:A.depth<F0)
  (hbind:BindsTo s (ksFn name qual params body scope dV kV doc pm an cdv ct cc) args binds)(hcell:∀x∈scope.names,x.2≠ .cell)(hloc:∀x∈binds,scope.names.lookup x.1=some .local)
  (h:∀g L' h₁ tk,Fr h₀ L g m→Fr g L' h₁ (fun y=>binds.reverse.lookup y)→News g L' h₁ news→Below A base fl g→h₀.StaysIn g→(∀p∈news,p.1<L')→
   ∀E,_root_.PySem.wpAt (model prog w) (A.deeper (ksEnv qual scope L' f cdv cc)) (.func body (ksEnv qual scope L' f cdv cc)) (execs body (ksEnv qual scope L' f cdv cc))
    (fun fl s'=>LeaveK h₀ L m g R (match fl with| .ret v=>v|_=>.none) s') E {s with heap:=h₁,toks:=tk})
  (hco:scope.isCoroutine=false)(hgen:scope.isGenerator=false)(hk:scope.kind= .function):Bb (model prog w) A (.call (.ref f) args) R s:=by
 obtain⟨FG,BG,st,lv⟩:=Nj (R:=R) hs F N hA ff
 refine ks_codeAny_call_defAt (fd:=ksFn name qual params body scope dV kV doc pm an cdv ct cc) (body:=body) (binds:=binds) hroom ho hd (hlim.keeps F.keep) hcd rfl hbind hcell hloc (fun h₁ hns hk₁=>?_) hco hgen hk
 exact ks_wpAt_mono (h _ s.heap.objs.size h₁ _ FG ⟨hns,fun b o e=>hk₁ b o (of_hideAll _ e),CI (hideAll_size _ _)⟩
  (fun p hp=>⟨hk₁ _ _ (N p hp).1,Ah (Av (N p hp).1),hideAll_none _ (B9 hp)⟩) BG st (fun p hp=>Av (N p hp).1) _) (fun fl s' hl=>lv _ _ hl) fun zz zz y=>y
theorem Px {β:Type}{x:Str}{l:List (Str×β)}(h:(l.map (·.1)).Nodup):l.reverse.lookup x=l.lookup x:=by
 have h2:(l.reverse.map (·.1)).Nodup:=by rw[List.map_reverse];exact(List.reverse_perm _).nodup_iff.mpr h
 rcases e:l.lookup x with _|v
 ·exact I3 fun z=>AS (C4.mp z) fun p hp e'=>AP (e.symm.trans (lookup_nodup (b:=p.2) h (by rw[←e'];exact List.mem_reverse.mp hp)))
 ·exact lookup_nodup h2 (List.mem_reverse.mpr (mem_of_lookup e))
theorem S5 {θ:Tp}(T:Top θ){env:Env}{h₀:Heap}{J:BS}{k:Kn}{bx:List (Str×V)}{bv:List (Str×Value)}(hb:CC θ k bx bv)(hbn:(bv.map (·.1)).Nodup)
  (hn:(env.scope.names.map (·.1)).Nodup)(hd:("__debug__":Str)∉env.scope.names.map (·.1))(hc:∀x∈env.scope.names,x.2≠ .cell){os:List O}{M:BS}(H:CT θ J k os k.D M):Iv ⟨θ,env,h₀,J⟩ k (fun y=>bv.reverse.lookup y) (entry θ.S env.scope bx os).loc∧CT θ J k (entry θ.S env.scope bx os).heap k.D M:=by
 have nc:∀{x},(x,Ct)∈env.scope.names→False:=fun h=>hc _ h rfl
 have stay:∀(names:List (Str×Al)) (os:List O),(∀x∈names,x.2≠ .cell)→(Dk θ.S.glob bx names os).2=os:=fun names=>by
  induction names with
  |nil=>exact fun zz zz=>rfl
  |cons p r ih=>
   intro os hc
   have ih:=ih os fun x hx=>hc x (.tail _ hx)
   rcases p with⟨y,q⟩
   ·
    rcases q with _|_
    case cell=>exact absurd rfl (hc _ (.head _))
    all_goals exact ih
 refine⟨?_,by rw[show(entry θ.S env.scope bx os).heap=os from stay _ _ hc];exact H⟩
 refine AB (KV (θ:=θ) (J:=J) (g:=θ.S.glob) (bx:=bx) (bv:=bv) (cm:=fun x=>bv.lookup x) (cells:=[]) (fun x u v zz h=>h) (names:=env.scope.names) 0 [] os k.D H.length fun x a hx=>(nc hx).elim) fun Dn e=>AB e fun Mn e=>fun x a hx=>?_
 have kind:=fun{z:Al} (hm:(x,z)∈env.scope.names)=>(lookup_nodup hn hm:env.kindOf x=some z)
 have db:∀z,(x,z)∈env.scope.names→(x==("__debug__":Str))=false:=fun z hm=>beq_eq_false_iff_ne.mpr fun e=>hd (e▸B9 (f:=(·.1)) hm)
 refine(e.5 x a hx).elim (fun z=>⟨db _ z.1,.inl ⟨kind z.1,?_⟩⟩) fun z=>z.elim (fun z=>⟨db _ z.1,.inr (.inl ⟨kind z.1,z.2,T.globSt x a z.2⟩)⟩) fun z=>(nc z.1).elim
 rw[z.2,HA]
 exact(hb.look x).elim (fun y=>by rw[y.1];exact⟨rfl,.inl rfl⟩) fun y=>BF y fun u v h1 h2 h3=>by rw[h1];exact⟨Hi h3,.inr ⟨v,(Px hbn).trans h2,h3⟩⟩
section
variable {c:Cx}{k:Kn}{r:Fh}{d:Nat}
theorem Ql {f g j:Nat}{fn:Fn}{q:OG}(K:QN c.tp f fn g j q)(G:BI c){L:Addr}(henv:c.env=ksEnv q.qual fn.scope L (c.af f) (.ref q.cda) q.cc)(IHc:∀k xs vs,Am c.tp k xs vs→EE c k (.call (.ref (c.af g)) ⟨vs,[]⟩) (ER d g xs []))
  (IHx:∀k,AV c k (CF c.tp) (execs (fn.body.drop 1) c.env) (DP r d (fn.body.drop 1)))
  {st:St}{s:Shared}{K':Fl→St→Au}{X:V→St→Au}{o:Except V V×List O}{Q:Flow→Shared→Prop}{E:Value→Shared→Prop}(R:Aj c.fm k st s.heap)(P:Y c.l o (Sk r d g j fn st K' X))(HQ:En c (CF c.tp) k s K' o Q)(HE:Dy c X o):
  _root_.PySem.wpAt c.M c.A (.func fn.body (ksEnv q.qual fn.scope L (c.af f) (.ref q.cda) q.cc)) (execs fn.body (ksEnv q.qual fn.scope L (c.af f) (.ref q.cda) q.cc)) Q E s:=by
 have hL:c.env.locals=L:=by rw[henv]
 subst hL
 rw[←henv]
 refine G.top.TT.elim fun mean TT=>?_
 have TT:=TT.keeps G.stays
 have P:Y c.l o ((match fn.params with
  |[ps,px]=>(De ps).bind fun a=>(Ax (G0 a)).bind fun i=>(rd oI i).bind fun p=>chk (decide (p.1=j)) ((De px).bind fun b=>(L6 (ER d g [.obj i,b] [])).bind fun zz=>DP r d (fn.body.drop 1))
  |_=>stuck) st K' X):=P
 rw[K.ps] at P
 have hkps:c.env.kindOf q.ps=some .local:=by rw[henv];exact K.kps
 refine BX P fun a ea P=>?_
 refine(R.loc q.ps a ea).2.elim (fun h=>?_) fun h=>h.elim (fun h=>absurd (AH (hkps.symm.trans h.1)) fun z=>nomatch z) fun h=>absurd (AH (hkps.symm.trans h.1)) fun z=>nomatch z
 rw[h.2.1] at P
 refine BX P fun b eb P=>LK eb fun hu e=>?_
 subst e
 refine h.2.2.elim (fun z=>(hu z).elim) fun h=>AS h fun v hv hc=>?_
 refine BX P fun i ei P=>FU ei fun e=>?_
 subst e
 refine JE P fun ob p e1 e2 P=>?_
 refine FT P fun hj P5=>?_
 have hj:p.1=j:=of_decide_eq_true hj
 subst hj
 refine JH R e1 e2 hc fun dd oo1 dxx es n p1 p2 T hvd hfl hIO hI=>?_
 subst hvd
 rw[K.body]
 refine ks_wpAt_execs_cons (ks_wpAt_Expr_any (ks_wpAt_MethodCall (pl:=(do return (←importBound (.Call (.Name "super" q.p0) [] [] q.p1) c.env).getD true)) ?_ ?_) ?_ rfl)
 ·rw[henv]
  refine ks_node R.F G.X R.N TT K.look (by rw[show(q.fd fn).params=q.params from rfl,K.po];exact K.ar) (by rw[K.arg];exact hv) hI K.cda K.vs K.file K.cc K.D K.mro K.nosup (by decide) K.ksup K.kcls (by rw[K.arg];exact K.kps) K.kind K.top K.boot fun so h1 F1 N1 lt1=>?_
  rw[←henv]
  have R1:=R.pushI (L:=[(so,ks_superObj q.D dd.1 (c.ac p.1))]) F1 N1 (EY ..) fun z hz y hy=>by rw[AY.mp hz];exact Ah (lt1 y hy)
  have l1:B8 k ⟨k.D,[(so,ks_superObj q.D dd.1 (c.ac p.1))]++k.I⟩:=B8.more _
  refine JH R1 e1 e2 (hc.mono l1) fun dd' oo1' dxx' es' n' p1' p2' T' hvd' hfl' hIO' hI1=>?_
  have ed:dd=dd':=AH (AH (T.hD.symm.trans T'.hD))
  subst ed
  refine ks_method R1.F G.X R1.N (R1.inI (.head _)) hI1 K.third K.sup K.ty (by decide) fun y h2 F2 N2 lt2=>?_
  have R2:=R1.pushI (L:=[(y,methodObj (.ref (c.af g)) (.ref dd.1))]) F2 N2 (EY ..) fun z hz y hy=>by rw[AY.mp hz];exact Ah (lt2 _ hy)
  have l2:=l1.trans (B8.more (k:=⟨k.D,[(so,ks_superObj q.D dd.1 (c.ac p.1))]++k.I⟩) [(y,methodObj (.ref (c.af g)) (.ref dd.1))])
  refine callWith_M (K:=c.K) G.X R2.N (R2.inI (.head _)) K.fng (spliced_cons ?_) rfl rfl
  refine AV.name G _ st {s with heap:=h2,toks:=s.toks+1} _ X o _ _ (.refl _) R2 P5 (fun k3 b bv st3 h3 t3 l3 R3 hb P3=>spliced_nil ?_) HE.err
  have hq3:=R3.inI (l3.2 _ (.head _))
  refine⟨⟨(R3.N _ hq3).1,G.X.keeps R3.F.keep⟩,call_meth R3.N hq3 ?_⟩
  have hx3:=hc.mono (l2.trans l3)
  refine IHc k3 [.obj i,b] [.ref dd.1,bv] ⟨_,_,hx3,.one hb,rfl⟩ k3 st3 {s with heap:=h3,toks:=t3} _ _ o _ (.refl _) R3 P3 (ST (E:=E) (K:=fun zz s=>DP r d (fn.body.drop 1) s K' X) (fun k4 zz zz st4 h4 t4 l4 R4 zz P4=>?_) HE.err (fun zz zz z=>z) fun zz zz z=>z)
  refine wpAt_of_wpAny ?_
  have e15:q.rest=fn.body.drop 1:=by rw[K.body];rfl
  rw[e15]
  exact IHx k4 k4 st4 _ K' X o _ E (.refl _) R4 P4 (HQ.ext (l2.trans (l3.trans l4))) HE.err
 ·rw[arm_eval_Call]
  have h1:methodCallForm ([Expr.Name q.px q.p3].length+([]:List Keyword).length) (backTo q.p4 (D6 [Expr.Name q.px q.p3] c.env)) (D8 q.p4 (C5 [] c.env))=true:=rfl
  have h2:methodCallPos true (.Call (.Name "super" q.p0) [] [] q.p1) c.env q.p2 q.p4=Be q.p4:=by unfold methodCallPos;simp[K.pos]
  unfold methodCall
  rw[h1,h2]
  rfl
 ·unfold interactive
  rw[henv]
  show(fn.scope.kind==_&&_)=false
  rw[K.kind];rfl
theorem O4 (G:BI c)(hroom:c.A.depth<F0){f g j:Nat}{fn:Fn}(hK:∃q,QN c.tp f fn g j q)(hfn:c.S.fns f=some fn)(hsup:fn.sup=some (g,j))
  (IHc:∀env g',BI (CP c env g')→∀k xs vs,Am c.tp k xs vs→EE (CP c env g') k (.call (.ref (c.af g)) ⟨vs,[]⟩) (ER d g xs []))
  (IHx:∀env g',BI (CP c env g')→Gp (CP c env g')→∀k,AV (CP c env g') k (CF c.tp) (execs (fn.body.drop 1) env) (DP r d (fn.body.drop 1)))
  {xs:List V}{vs:List Value}{kx:List (Str×V)}{kv:List (Str×Value)}(hv:Am c.tp k xs vs)(hk:CC c.tp k kx kv):EE c k (.call (.ref (c.af f)) ⟨vs,kv⟩) (Gc c.S r d f xs kx):=by
 intro k₁ st s KK XX o Q l R P HQ
 refine hK.elim fun q K=>?_
 have hv:=hv.mono l
 have hk:=hk.mono l
 have X:c.K.In s.heap:=G.X.keeps R.F.keep
 have P:Y c.l o (oB (c.S.fns f) fun fn=>oB (Jv fn xs kx) fun b=>Ip r d fn (entry c.S fn.scope b st.heap) (HV KK) (He XX)):=P
 rw[hfn] at P
 have P:Y c.l o (oB (Jv fn xs kx) fun b=>(match fn.sup with|none=>DP r d fn.body|some gk=>Ho (Sk r d gk.1 gk.2 fn)) (entry c.S fn.scope b st.heap) (HV KK) (He XX)):=P
 rw[hsup] at P
 refine BX P fun bx hb P=>I5 hb fun hfit hb=>Dc hb fun hb=>?_
 subst hb
 have hdv:Am c.tp k₁ fn.dflts []:=by rw[K.dflts];rfl
 have hbind:BindsTo s (q.fd fn) ⟨vs,kv⟩ (boundOf fn.params vs kv []):=fun M A E Q hQ=>
  MT (fd:=q.fd fn) K.po K.as K.ko K.va K.ka (fun h=>by rw[show(q.fd fn).defaults= .none from K.dV];exact AN (h none rfl)) (by rw[←CC.fits fn.params hv hk hdv];exact hfit) hQ
 have hkws:=CC.bound fn.params hv hk hdv
 have hbn:((boundOf fn.params vs kv ([]:List Value)).map (·.1)).Nodup:=J0 K.nodup _ _ _
 refine Z8 (name:=q.name) (qual:=q.qual) (params:=q.params) (body:=fn.body) (scope:=fn.scope) (cdv:=.ref q.cda) (cc:=q.cc) (binds:=boundOf fn.params vs kv []) G.stays R.F R.N G.nolim G.frames (G.ff _ _ _ R.F R.N) (X _ _ K.look) rfl (codeRec_of X K.code) hroom hbind K.nocell
  (fun x hx=>lookup_nodup K.names (K.kinds _ (KA hx))) (fun g' L' h₁ tk Fg F₁ N₁ B₁ st₁ hlt E₁=>?_) K.co K.gen K.kind
 have G':BI (CP c (ksEnv q.qual fn.scope L' (c.af f) (.ref q.cda) q.cc) g'):=
  ⟨G.top,K.kind,rfl,rfl,Df G.frames,B₁.stays,fun h m news F N=>(groundX (R:=fun zz zz=>True) (s:={s with heap:=h}) (env:=ksEnv q.qual fn.scope L' (c.af f) (.ref q.cda) q.cc) B₁ F N (Df G.frames) rfl K.kind).2.1.frames⟩
 have el:=S5 (env:=ksEnv q.qual fn.scope L' (c.af f) (.ref q.cda) q.cc) (h₀:=g') (J:=c.J) G.top hkws hbn K.names K.dbg K.nocell R.heap
 have hR:Aj (CP c (ksEnv q.qual fn.scope L' (c.af f) (.ref q.cda) q.cc) g').fm k₁ (entry c.S fn.scope (boundOf fn.params xs kx fn.dflts) st.heap) h₁:=⟨_,R.MO,F₁,N₁,R.nd,el.1,el.2⟩
 refine Ql (c:=CP c (ksEnv q.qual fn.scope L' (c.af f) (.ref q.cda) q.cc) g') (j:=j) K G' rfl (IHc _ g' G') (IHx _ g' G' ⟨⟨c.outer,rfl⟩,rfl⟩) hR P (fun k' fl flow st'' h' tk' l' R'' hcf P'=>?_) Dy.no
 refine leaveK_ R''.F R''.N fun F' N'=>?_
 have R4:Aj c.fm k' ⟨st.loc,st''.heap⟩ h':=⟨R.m,R''.MO,F',N',R''.nd,R.loc.mono l',R''.heap⟩
 rcases fl with _|_
 case next=>rw[show flow= .next from hcf];exact HQ.1 k' .none _ _ h' tk' P' l' R4 rfl
 case ret v=>exact AS hcf fun w e hc=>by rw[e];exact HQ.1 k' v w _ h' tk' P' l' R4 hc
 all_goals exact P'.elim
end
theorem V6 {rc rc':Au→Prop}{o:Except V V×List O}(h:∀t,rc t→rc' t)(t:Au):Y1 rc o t→Y1 rc' o t:=by
 induction t with
 |none=>exact id
 |ret r h=>exact id
 |ite b x y ihx ihy=>rcases b with _|_<;>assumption
 |opt u a k ih=>
  rcases a with _|x
  ·exact id
  ·exact ih x
 |_=>exact h _
theorem Ye {S:BD}{o:Except V V×List O}(n:Nat):∀t,rc S o n t→rc S o (n+1) t:=by
 induction n with
 |zero=>exact fun t h=>h.elim
 |succ n ih=>exact fun t h=>V6 ih _ h
theorem OF {S:BD}{n:Nat}{o:Except V V×List O}{t:Au}(h:Y ⟨S,n⟩ o t):Y ⟨S,n+1⟩ o t:=V6 (Ye n) t h
noncomputable abbrev Cx.dn (c:Cx)(n:Nat):Cx:=⟨c.fm,c.A,c.outer,n⟩
theorem En.dn {α β:Type}{c:Cx}{C:Kn→α→β→Prop}{k:Kn}{s:Shared}{K:α→St→Au}{o:Except V V×List O}{Q:β→Shared→Prop}{n:Nat}(e:c.lv=n+1)(H:En c C k s K o Q):En (c.dn n) C k s K o Q:=
 fun k' a b st' h' tk l R hc P=>H k' a b st' h' tk l R hc (by show Y ⟨c.S,c.lv⟩ o _;rw[e];exact OF P)
theorem FL.dn {c:Cx}{k:Kn}{s:Shared}{X:V→St→Au}{o:Except V V×List O}{E:Value→Shared→Prop}{n:Nat}(e:c.lv=n+1)(H:FL c k s X o E):FL (c.dn n) k s X o E:=
 fun k' a st' x h' tk l R t P=>H k' a st' x h' tk l R t (by show Y ⟨c.S,c.lv⟩ o _;rw[e];exact OF P)
theorem Dy.dn {c:Cx}{X:V→St→Au}{o:Except V V×List O}{n:Nat}(e:c.lv=n+1)(H:Dy c X o):Dy (c.dn n) X o:=
 fun a st' P=>H a st' (by show Y ⟨c.S,c.lv⟩ o _;rw[e];exact OF P)
theorem Jl {S:BD}{lv n:Nat}{o:Except V V×List O}{t t':Au}(e:lv=n+1)(h:Y ⟨S,lv⟩ o t)(hn:∀rc:Au→Prop,Y1 rc o t→rc t)(ht:stp S t=t'):Y ⟨S,n⟩ o t':=by
 subst e ht
 exact hn _ h
theorem BL.dn {c:Cx}{d n:Nat}(G:BL c d):BL (c.dn n) d:=⟨⟨G.1.top,G.1.kind,G.1.gl,G.1.bi,G.1.frames,G.1.stays,G.1.ff⟩,G.2,G.3,G.4,G.5⟩
theorem Dq.dn {c:Cx}{d n:Nat}(G:Dq c d):Dq (c.dn n) d:=⟨⟨G.1.top,G.1.kind,G.1.gl,G.1.bi,G.1.frames,G.1.stays,G.1.ff⟩,G.2,G.3,G.4,G.5⟩
structure Ms (θ:Tp)(n:Nat):Prop where
 whl:∀c d,c.tp=θ→c.lv=n→BL c d→Gp c→∀k t b,LX c k (.whileLoop t b [] c.env) (Ia d t b)
 frl:∀c d,c.tp=θ→c.lv=n→BL c d→Gp c→Mv c d
 cmp:∀c d,c.tp=θ→c.lv=n→BL c d→QV c d
 call:∀c d,c.tp=θ→c.lv=n→Dq c d→Jb c d
structure YH (θ:Tp)(n:Nat)(r:Fh):Prop where
 ev:∀c d,c.tp=θ→c.lv=n→BL c d→∀k e,AV c k (CV c) (eval e c.env) (r.ev d e)
 evu:∀c d,c.tp=θ→c.lv=n→BL c d→∀k elt gs sc p x xp,c.env.kindOf x=some .local→AV c k CU (evalThenUse (.ListComp elt gs sc p) c.env (assign (.Name x xp) c.env)) ((r.ev d (.ListComp elt gs sc p)).bind fun v=>EX x v)
 tr:∀c d,c.tp=θ→c.lv=n→BL c d→∀k e,AV c k CB (isTrue e c.env (eval e c.env)) (r.tr d e)
 ex:∀c d,c.tp=θ→c.lv=n→BL c d→Gp c→∀k s,AV c k (CF c.tp) (exec s c.env) (r.ex d s)
theorem BL.callee {c:Cx}{d:Nat}(G:Dq c (d+1)){env:Env}{g:Heap}(h:BI (CP c env g)):BL (CP c env g) d:=by
 have h1:=G.2
 have h2:=G.3
 refine⟨h,?_,?_,fun zz=>G.4 rfl,.inl G.5⟩
 ·show c.A.units+3+8 * d+20≤cLine
  lia
 ·show c.A.depth+1+2 * d≤900
  lia
noncomputable def LW (θ:Tp):Prop:=∀f fn g k,θ.S.fns f=some fn→fn.sup=some (g,k)→∃q,QN θ f fn g k q
theorem Oj {θ:Tp}(T:E0 θ){n:Nat}(Z:Ms θ n)(m:Nat):YH θ n (E θ.S m):=by
 induction m with
 |zero=>exact⟨fun c d zz zz zz k e=>.stuck,fun c d zz zz zz k elt gs sc p x xp zz=>.stuck,fun c d zz zz zz k e=>.stuck,fun c d zz zz zz zz k e=>.stuck⟩
 |succ m ih=>
  refine⟨fun c d h hn G k e=>?_,fun c d h hn G k elt gs sc p x xp hl=>?_,fun c d h hn G k e=>?_,fun c d h hn G ow k s=>?_⟩
  ·subst h
   exact VV G T (ih.ev c d rfl hn G) (ih.tr c d rfl hn G) (fun c' d' h h' g=>Z.call c' d' h (h'.trans hn) g) (fun k elt t iter ifs sc pos=>T9 G (ih.ev c d rfl hn G) (fun c' d' h h' g=>Z.cmp c' d' h (h'.trans hn) g)) e
  ·subst h
   refine .look fun g hg=>?_
   rcases gs with _|⟨g1,gs⟩
   ·exact AP hg
   ·
    rcases g1 with⟨t,iter,ifs,n'⟩
    ·
     rcases gs with _|_
     ·
      refine I5 hg fun h0 hg'=>Dc hg' fun hg'=>?_
      subst h0 hg'
      exact R7 G (ih.ev c d rfl hn G) (fun c' d' h h' g=>Z.cmp c' d' h (h'.trans hn) g) hl
     ·exact AP hg
  ·subst h
   exact VP G T (ih.ev c d rfl hn G) (ih.tr c d rfl hn G) e
  ·subst h
   exact VU G T (ih.ev c d rfl hn G) (ih.evu c d rfl hn G) (ih.tr c d rfl hn G) ow (fun c' d' h h' g=>Z.call c' d' h (h'.trans hn) g) (ih.ex c d rfl hn G ow) (fun c' h h' g o=>ih.ex c' 0 h (h'.trans hn) g o) (Z.whl c d rfl hn G ow) (fun c' h h' g o=>Z.frl c' d h (h'.trans hn) g o) s
theorem Sr {θ:Tp}(T:E0 θ)(T2:LW θ){n:Nat}(Z:Ms θ n):Ms θ (n+1):=by
 have ZE:=Oj T Z 40
 refine⟨fun c d h hn G ow k t b=>?_,fun c d h hn G ow=>?_,fun c d h hn G=>?_,fun c d h hn G f k xs vs kx kv hv hk=>?_⟩
 ·subst h
  intro k₁ st s K X o R l Rl P HQ HE
  exact VO (c:=c.dn n) G.dn.1 ow (ZE.tr (c.dn n) d rfl rfl G.dn) (ZE.ex (c.dn n) d rfl rfl G.dn ow) (fun k=>Z.whl (c.dn n) d rfl rfl G.dn ow k t b) k₁ st s K X o R l Rl (Jl hn P (fun zz h=>h) rfl) (HQ.dn hn) (HE.dn hn)
 ·subst h
  intro hz t b it j p L k st s K X o R H hok Rl P HQ HE
  exact VT (c:=c.dn n) G.dn ow hz T (fun c' h h' g=>ZE.ev c' d h h' g) (fun c' h h' g o=>ZE.ex c' d h h' g o) (Z.frl (c.dn n) d rfl rfl G.dn ow) H hok Rl (Jl hn P (fun zz h=>h) rfl) (HQ.dn hn) (HE.dn hn)
 ·subst h
  intro elt t iter ifs sc pos it j p i x L k st s K X o Q H hok hx Rl P HQ HE hz
  exact TA (c:=c.dn n) G.dn T (fun c' h h' g=>ZE.ev c' d h h' g) (fun c' h h' g=>ZE.tr c' d h h' g) (Z.cmp (c.dn n) d rfl rfl G.dn) H hok hx Rl (Jl hn P (fun zz h=>h) rfl) (HQ.dn hn) (HE.dn hn) hz
 ·subst h
  have hroom:c.A.depth<F0:=by
   have:=G.3
   show c.A.depth<1000
   lia
  rcases d with _|d
  ·exact fun k₁ st s K X o Q zz zz P=>P.elim
  ·
   intro k₁ st s KK XX o Q l R P HQ
   have P:Y (c.dn n).l o (Gc c.S (E c.S 40) d f xs kx st.heap KK XX):=Jl hn P (fun zz h=>h) rfl
   have HQ:UI (c.dn n) k₁ st.loc s KK XX o Q:=⟨fun k' v b hp h' tk P l R' hc=>HQ.1 k' v b hp h' tk (by show Y ⟨c.S,c.lv⟩ o _;rw[hn];exact OF P) l R' hc,fun k' a e hp h' tk P l R'=>HQ.2 k' a e hp h' tk (by show Y ⟨c.S,c.lv⟩ o _;rw[hn];exact OF P) l R'⟩
   refine(show EE (c.dn n) k (.call (.ref (c.af f)) ⟨vs,kv⟩) (Gc c.S (E c.S 40) d f xs kx) from ?_) k₁ st s KK XX o Q l R P HQ
   rcases hfn:c.S.fns f with _|fn
   ·
    intro k₁ st s KK XX o Q _ _ P
    have P:Y (c.dn n).l o (oB (c.S.fns f) fun fn=>oB (Jv fn xs kx) fun b=>Ip (E c.S 40) d fn (entry c.S fn.scope b st.heap) (HV KK) (He XX)):=P
    rw[hfn] at P
    exact P.elim
   ·
    have G1:BI (c.dn n):=(Dq.dn G).1
    rcases hsup:fn.sup with _|gk
    ·
     refine OY G1 hroom (T.fn f fn hfn hsup) hfn (fun env g k h ow=>?_) hv hk
     have G':=BL.callee (Dq.dn G) h
     unfold Ip
     rw[hsup]
     exact Ed (c:=CP (c.dn n) env g) (ZE.ex (CP (c.dn n) env g) d rfl rfl G' ow) fn.body
    ·
     exact O4 G1 hroom (T2 f fn gk.1 gk.2 hfn hsup) hfn hsup (fun env g' h k xs vs hv=>Z.call (CP (c.dn n) env g') d rfl rfl (BL.callee (Dq.dn G) h).one gk.1 k xs vs [] [] hv rfl) (fun env g' h ow k=>by
      have G':=BL.callee (Dq.dn G) h
      exact Ed (c:=CP (c.dn n) env g') (ZE.ex (CP (c.dn n) env g') d rfl rfl G' ow) _) hv hk
theorem YW {θ:Tp}(T:E0 θ)(T2:LW θ)(n:Nat):Ms θ n:=by
 induction n with
 |zero=>exact⟨fun c d zz hn zz zz k t b k₁ st s K X o Q zz zz P=>by have P:Y ⟨c.S,c.lv⟩ o _:=P;rw[hn] at P;exact P.elim,fun c d zz hn zz zz zz t b it j p L k st s K X o R zz zz zz P=>by have P:Y ⟨c.S,c.lv⟩ o _:=P;rw[hn] at P;exact P.elim,
  fun c d zz hn zz elt t iter ifs sc pos it j p i x L k st s K X o Q zz zz zz zz P=>by have P:Y ⟨c.S,c.lv⟩ o _:=P;rw[hn] at P;exact P.elim,fun c d zz hn zz f k xs vs kx kv zz zz k₁ st s K X o Q zz zz P=>by
   have P:Y ⟨c.S,c.lv⟩ o _:=P
   rw[hn] at P
   rcases d with _|_<;>exact P.elim⟩
 |succ n ih=>exact Sr T T2 ih
noncomputable def Dt (S:BD)(o:Except V V×List O)(t:Au):Prop:=∃n,Y ⟨S,n⟩ o t
noncomputable def AK (S:BD)(d f:Nat)(vs:List V)(kws:List (Str×V))(h:List O)(v:V)(h':List O):Prop:=∀k e o,Dt S o (k v h')→Dt S o (.call d f vs kws h k e)
noncomputable def An (S:BD)(d:Nat)(t:Expr)(b:List Stmt)(s:St)(f:Fl)(s':St):Prop:=∀k e o,Dt S o (k f s')→Dt S o (.whl d t b s k e)
noncomputable def BJ (S:BD)(d:Nat)(t:Expr)(it:It)(j:Nat)(b:List Stmt)(s:St)(f:Fl)(s':St):Prop:=∀k e o,Dt S o (k f s')→Dt S o (.frl d t it j b s k e)
noncomputable def E5 (S:BD)(d:Nat)(elt t:Expr)(ifs:List Expr)(it:It)(j i:Nat)(s s':St):Prop:=∀k e o,Dt S o (k () s')→Dt S o (.cmp d elt t ifs it j i s k e)
noncomputable def DG (S:BD)(d f:Nat)(vs:List V)(kws:List (Str×V))(h:List O)(v:V)(h':List O):Prop:=∀k e o,Dt S o (e v h')→Dt S o (.call d f vs kws h k e)
noncomputable def E2 (S:BD)(d:Nat)(t:Expr)(b:List Stmt)(s:St)(v:V)(s':St):Prop:=∀k e o,Dt S o (e v s')→Dt S o (.whl d t b s k e)
noncomputable def Kf (S:BD)(d:Nat)(t:Expr)(it:It)(j:Nat)(b:List Stmt)(s:St)(v:V)(s':St):Prop:=∀k e o,Dt S o (e v s')→Dt S o (.frl d t it j b s k e)
inductive E4 where
 |a (n:Nat)
 |t|f
 |v (u:U) (x:u.T)
 |c (v:V) (h:List O)
 |i
 |w (f:Fl) (s:St)
 |m (s:St)
 |x (v:V) (h:List O)
 |y (v:V) (s:St)
set_option backward.match.sparseCases false in
noncomputable def Mo:(u u':U)→u.T→Option u'.T
 | .nat,.nat,x=>some x
 | .vals,.vals,x=>some x
 | .strs,.strs,x=>some x
 | .ob,.ob,x=>some x
 | .val,.val,x=>some x
 | .oval,.oval,x=>some x
 | .ents,.ents,x=>some x
 | .bool,.bool,x=>some x
 |_,_,_=>none
set_option backward.match.sparseCases false in
noncomputable def QM:Nat→Au→Au
 |0,t=>t
 |n+1,.ite b x y=>QM n (bif b then x else y)
 |n+1,.opt _ (some a) k=>QM n (k a)
 |_+1,t=>t
noncomputable def Gy (p:Prop)(q:Prop×Au):Prop×Au:=(p∧q.1,q.2)
set_option backward.match.sparseCases false in
noncomputable def Cr (S:BD):List E4→Au→Prop×Au
 |[],t=>(True,t)
 |q::r,t=>match q,t with
  | .a n,t=>Cr S r (QM n t)
  | .t,.ite b x _=>Gy (b=true) (Cr S r x)
  | .f,.ite b _ y=>Gy (b=false) (Cr S r y)
  | .v u x,.opt u' o k=>match Mo u u' x with
   |some z=>Gy (o=some z) (Cr S r (k z))
   |none=>(False,.none)
  | .c v h',.call d f vs kws h k _=>Gy (AK S d f vs kws h v h') (Cr S r (k v h'))
  | .i,t=>Cr S r (stp S t)
  | .w f s',.whl d t b s k _=>Gy (An S d t b s f s') (Cr S r (k f s'))
  | .w f s',.frl d t it j b s k _=>Gy (BJ S d t it j b s f s') (Cr S r (k f s'))
  | .x v h',.call d f vs kws h _ e=>Gy (DG S d f vs kws h v h') (Cr S r (e v h'))
  | .y v s',.whl d t b s _ e=>Gy (E2 S d t b s v s') (Cr S r (e v s'))
  | .y v s',.frl d t it j b s _ e=>Gy (Kf S d t it j b s v s') (Cr S r (e v s'))
  | .m s',.cmp d elt t ifs it j i s k _=>Gy (E5 S d elt t ifs it j i s s') (Cr S r (k () s'))
  |_,_=>(False,.none)
theorem YF {l:Lv}{o:Except V V×List O}(n:Nat):∀t,Y l o (QM n t)→Y l o t:=by
 induction n with
 |zero=>exact fun t h=>h
 |succ n ih=>
  intro t h
  rcases t with _|_|⟨b,x,y⟩|⟨u,a,k⟩|_
  case ite=>
   rcases b with _|_
   ·exact ih y h
   ·exact ih x h
  case opt=>
   rcases a with _|a
   ·exact h
   ·exact ih (k a) h
  all_goals exact h
theorem Dt.stp {S:BD}{o:Except V V×List O}{t:Au}(h:Dt S o (stp S t)):Dt S o t:=by
 refine h.elim fun n h=>?_
 rcases t with _|_<;>first|exact⟨n,h⟩|exact⟨n+1,h⟩
theorem Oo {S:BD}{o:Except V V×List O}:∀(is:List E4) (t:Au),(Cr S is t).1→Dt S o (Cr S is t).2→Dt S o t
 |[],t,_,h=>h
 |q::r,t,hp,h=>by
  have ih:=Oo (S:=S) (o:=o) r
  cases q with
  |a n=>exact(ih _ hp h).imp fun m h=>YF n t h
  |i=>exact(ih _ hp h).stp
  |t=>
   rcases t with _|_|⟨b,x,y⟩|_
   case ite=>
    have hp:b=true∧(Cr S r x).1:=hp
    have:=ih x hp.2 h
    rw[hp.1]
    exact this
   all_goals exact hp.elim
  |f=>
   rcases t with _|_|⟨b,x,y⟩|_
   case ite=>
    have hp:b=false∧(Cr S r y).1:=hp
    have:=ih y hp.2 h
    rw[hp.1]
    exact this
   all_goals exact hp.elim
  |v u x=>
   rcases t with _|_|_|⟨u',a,k⟩|_
   case opt=>
    have hp:(match Mo u u' x with
     |some z=>Gy (a=some z) (Cr S r (k z))
     |none=>(False,.none)).1:=hp
    have h:Dt S o (match Mo u u' x with
     |some z=>Gy (a=some z) (Cr S r (k z))
     |none=>(False,.none)).2:=h
    rcases e:Mo u u' x with _|z
    ·rw[e] at hp;exact hp.elim
    ·
     rw[e] at hp h
     have hp:a=some z∧(Cr S r (k z)).1:=hp
     have:=ih _ hp.2 h
     rw[hp.1]
     exact this
   all_goals exact hp.elim
  |c v h'=>
   rcases t with _|_|_|_|⟨d,f,vs,kws,h1,k,e⟩|_
   case call=>
    have hp:AK S d f vs kws h1 v h'∧(Cr S r (k v h')).1:=hp
    exact hp.1 k e o (ih _ hp.2 h)
   all_goals exact hp.elim
  |w f s'=>
   rcases t with _|_|_|_|_|⟨d,t,b,s,k,e⟩|⟨d,t,it,j,b,s,k,e⟩|_
   case whl=>
    have hp:An S d t b s f s'∧(Cr S r (k f s')).1:=hp
    exact hp.1 k e o (ih _ hp.2 h)
   case frl=>
    have hp:BJ S d t it j b s f s'∧(Cr S r (k f s')).1:=hp
    exact hp.1 k e o (ih _ hp.2 h)
   all_goals exact hp.elim
  |x v h'=>
   rcases t with _|_|_|_|⟨d,f,vs,kws,h1,k,e⟩|_
   case call=>
    have hp:DG S d f vs kws h1 v h'∧(Cr S r (e v h')).1:=hp
    exact hp.1 k e o (ih _ hp.2 h)
   all_goals exact hp.elim
  |y v s'=>
   rcases t with _|_|_|_|_|⟨d,t,b,s,k,e⟩|⟨d,t,it,j,b,s,k,e⟩|_
   case whl=>
    have hp:E2 S d t b s v s'∧(Cr S r (e v s')).1:=hp
    exact hp.1 k e o (ih _ hp.2 h)
   case frl=>
    have hp:Kf S d t it j b s v s'∧(Cr S r (e v s')).1:=hp
    exact hp.1 k e o (ih _ hp.2 h)
   all_goals exact hp.elim
  |m s'=>
   rcases t with _|_|_|_|_|_|_|⟨d,elt,t,ifs,it,j,i,s,k,e⟩
   case cmp=>
    have hp:E5 S d elt t ifs it j i s s'∧(Cr S r (k () s')).1:=hp
    exact hp.1 k e o (ih _ hp.2 h)
   all_goals exact hp.elim
theorem Di {S:BD}{o:Except V V×List O}{is:List E4}{t t':Au}{p:Prop}(hp:p)(e:Cr S is t=(p,t'))(h:Dt S o t'):Dt S o t:=
 Oo is t (by rw[e];exact hp) (by rw[e];exact h)
noncomputable abbrev KC:=V→List O→Au
noncomputable abbrev KF:=Fl→St→Au
noncomputable abbrev KE:=V→St→Au
noncomputable abbrev PO:=Prop×Au
noncomputable def ZO (S:BD)(is:List E4)(d f:Nat)(vs:List V)(kws:List (Str×V))(h:List O):KC→KC→PO:=fun k e=>Cr S is (Gc S (E S 40) d f vs kws h k e)
noncomputable def UX (S:BD)(is:List E4)(d:Nat)(t:Expr)(b:List Stmt)(s:St):KF→KE→PO:=fun k e=>Cr S is (SY (E S 40) d t b s k e)
noncomputable def UY (S:BD)(is:List E4)(d:Nat)(t:Expr)(it:It)(j:Nat)(b:List Stmt)(s:St):KF→KE→PO:=fun k e=>Cr S is (To S (E S 40) d t it j b s k e)
noncomputable def ZN (S:BD)(is:List E4)(d:Nat)(elt t:Expr)(ifs:List Expr)(it:It)(j i:Nat)(s:St):(Unit→St→Au)→KE→PO:=fun k e=>Cr S is (Ty S (E S 40) d elt t ifs it j i s k e)
noncomputable def au (p:Prop)(v:V)(h:List O):KC→KC→PO:=fun k zz=>(p,k v h)
noncomputable def aq (p:Prop)(v:V)(h:List O):KC→KC→PO:=fun zz e=>(p,e v h)
noncomputable def Wf (p:Prop)(f:Fl)(s:St):KF→KE→PO:=fun k zz=>(p,k f s)
noncomputable def ZL (p:Prop)(v:V)(s:St):KF→KE→PO:=fun zz e=>(p,e v s)
noncomputable def ao (p:Prop)(s:St):(Unit→St→Au)→KE→PO:=fun k zz=>(p,k () s)
noncomputable def ZX (p:Prop)(d:Nat)(t:Expr)(b:List Stmt)(s:St):KF→KE→PO:=fun k e=>(p,.whl d t b s k e)
noncomputable def ZY (p:Prop)(d:Nat)(t:Expr)(it:It)(j:Nat)(b:List Stmt)(s:St):KF→KE→PO:=fun k e=>(p,.frl d t it j b s k e)
noncomputable def bA (p:Prop)(d:Nat)(elt t:Expr)(ifs:List Expr)(it:It)(j i:Nat)(s:St):(Unit→St→Au)→KE→PO:=fun k e=>(p,.cmp d elt t ifs it j i s k e)
theorem IW {α β γ:Type}{f g:α→β→γ}(e:f=g)(a:α)(b:β):f a b=g a b:=congrFun (congrFun e a) b
theorem AK.by {S:BD}{d f:Nat}{vs:List V}{kws:List (Str×V)}{h:List O}{v:V}{h':List O}(is:List E4){p:Prop}(hp:p)(e:ZO S is d f vs kws h=au p v h'):AK S d f vs kws h v h':=
 fun k e' o y=>(Di hp (IW e k e') y).stp
theorem An.by {S:BD}{d:Nat}{t:Expr}{b:List Stmt}{s:St}{f:Fl}{s':St}(is:List E4){p:Prop}(hp:p)(e:UX S is d t b s=Wf p f s'):An S d t b s f s':=
 fun k e' o y=>(Di hp (IW e k e') y).stp
theorem An.go {S:BD}{d:Nat}{t:Expr}{b:List Stmt}{s s1:St}{f:Fl}{s':St}(is:List E4)(n:An S d t b s1 f s'){p:Prop}(hp:p)(e:UX S is d t b s=ZX p d t b s1):An S d t b s f s':=
 fun k e' o y=>(Di hp (IW e k e') (n k e' o y)).stp
theorem BJ.by {S:BD}{d:Nat}{t:Expr}{it:It}{j:Nat}{b:List Stmt}{s:St}{f:Fl}{s':St}(is:List E4){p:Prop}(hp:p)(e:UY S is d t it j b s=Wf p f s'):BJ S d t it j b s f s':=
 fun k e' o y=>(Di hp (IW e k e') y).stp
theorem BJ.go {S:BD}{d:Nat}{t:Expr}{it:It}{j:Nat}{b:List Stmt}{s s1:St}{f:Fl}{s':St}(is:List E4)(n:BJ S d t it (j+1) b s1 f s'){p:Prop}(hp:p)(e:UY S is d t it j b s=ZY p d t it (j+1) b s1):BJ S d t it j b s f s':=
 fun k e' o y=>(Di hp (IW e k e') (n k e' o y)).stp
theorem E5.by {S:BD}{d:Nat}{elt t:Expr}{ifs:List Expr}{it:It}{j i:Nat}{s s':St}(is:List E4){p:Prop}(hp:p)(e:ZN S is d elt t ifs it j i s=ao p s'):E5 S d elt t ifs it j i s s':=
 fun k e' o y=>(Di hp (IW e k e') y).stp
theorem E5.go {S:BD}{d:Nat}{elt t:Expr}{ifs:List Expr}{it:It}{j i:Nat}{s s1 s':St}(is:List E4)(n:E5 S d elt t ifs it (j+1) i s1 s'){p:Prop}(hp:p)(e:ZN S is d elt t ifs it j i s=bA p d elt t ifs it (j+1) i s1):E5 S d elt t ifs it j i s s':=
 fun k e' o y=>(Di hp (IW e k e') (n k e' o y)).stp
theorem DG.by {S:BD}{d f:Nat}{vs:List V}{kws:List (Str×V)}{h:List O}{v:V}{h':List O}(is:List E4){p:Prop}(hp:p)(e:ZO S is d f vs kws h=aq p v h'):DG S d f vs kws h v h':=
 fun k e' o y=>(Di hp (IW e k e') y).stp
theorem E2.by {S:BD}{d:Nat}{t:Expr}{b:List Stmt}{s:St}{v:V}{s':St}(is:List E4){p:Prop}(hp:p)(e:UX S is d t b s=ZL p v s'):E2 S d t b s v s':=
 fun k e' o y=>(Di hp (IW e k e') y).stp
theorem E2.go {S:BD}{d:Nat}{t:Expr}{b:List Stmt}{s s1:St}{v:V}{s':St}(is:List E4)(n:E2 S d t b s1 v s'){p:Prop}(hp:p)(e:UX S is d t b s=ZX p d t b s1):E2 S d t b s v s':=
 fun k e' o y=>(Di hp (IW e k e') (n k e' o y)).stp
theorem Kf.by {S:BD}{d:Nat}{t:Expr}{it:It}{j:Nat}{b:List Stmt}{s:St}{v:V}{s':St}(is:List E4){p:Prop}(hp:p)(e:UY S is d t it j b s=ZL p v s'):Kf S d t it j b s v s':=
 fun k e' o y=>(Di hp (IW e k e') y).stp
theorem Kf.go {S:BD}{d:Nat}{t:Expr}{it:It}{j:Nat}{b:List Stmt}{s s1:St}{v:V}{s':St}(is:List E4)(n:Kf S d t it (j+1) b s1 v s'){p:Prop}(hp:p)(e:UY S is d t it j b s=ZY p d t it (j+1) b s1):Kf S d t it j b s v s':=
 fun k e' o y=>(Di hp (IW e k e') (n k e' o y)).stp
noncomputable def Lg:List Stmt:=PySem.Challenge.pw_te0006_02.main.body
noncomputable def Bo:List Stmt→Nat→Stmt
 |[],_=>.Pass default
 |s::_,0=>s
 |_::r,n+1=>Bo r n
set_option backward.match.sparseCases false in
noncomputable def bK:Stmt→Option (Arguments×List Stmt×Scope)
 | .FunctionDef _ a b _ _ _ sc _ _ _=>some (a,b,sc)
 |_=>none
set_option backward.match.sparseCases false in
noncomputable def Y7:Stmt→List Stmt
 | .ClassDef _ _ _ b _ _ _ _ _ _ _=>b
 |_=>[]
set_option backward.match.sparseCases false in
noncomputable def Uv:Stmt→Expr
 | .Assign _ e _=>e
 |_=>.Constant .none 0 default
set_option backward.match.sparseCases false in
noncomputable def Ml:Expr→V
 | .Constant .none _ _=>.none
 | .Constant (.int i) _ _=>.int i
 | .Constant (.str x) _ _=>.str x
 |_=>.undef
noncomputable def aG (sup:Option (Nat×Nat))(d:Option (Arguments×List Stmt×Scope)):Option Fn:=d.map fun(a,b,sc)=>{params:=a.args.map (·.arg),dflts:=a.defaults.map Ml,body:=b,scope:=sc,sup}
noncomputable def bL (i:Nat)(j:Option Nat):Option (Arguments×List Stmt×Scope):=bK (match j with|none=>Bo Lg i|some j=>Bo (Y7 (Bo Lg i)) j)
noncomputable def RR:List (Option (Nat×Nat)×Nat×Option Nat):=[
 (none,2,some 0),
 (none,4,some 0),
 (none,7,none),
 (none,8,some 0),
 (none,8,some 1),
 (none,8,some 2),
 (none,8,some 3),
 (none,8,some 4),
 (none,8,some 5),
 (none,8,some 6),
 (none,10,some 0),
 (none,14,some 1),
 (none,30,some 1),
 (none,33,some 0),
 (some (3,8),34,some 0),
 (none,34,some 3),
 (none,34,some 4),
 (none,34,some 5),
 (none,34,some 6),
 (none,34,some 7),
 (none,34,some 8),
 (none,34,some 9),
 (none,34,some 10),
 (none,34,some 11),
 (none,34,some 12),
 (none,34,some 13),
 (none,34,some 25),
 (none,34,some 34),
 (none,34,some 35),
 (none,34,some 36),
 (none,34,some 41),
 (none,34,some 39),
 (none,34,some 40),
 (none,34,some 45),
 (none,34,some 61),
 (none,34,some 64),
 (none,34,some 65),
 (none,34,some 66),
 (none,34,some 72),
 (none,37,none),
 (none,38,none),
 (none,39,none),
 (none,40,none),
 (none,41,none),
 (none,42,none),
 (none,43,none)]
noncomputable def Nm (k:Nat):Option Fn:=RR[k]?.bind fun q=>aG q.1 (bL q.2.1 q.2.2)
noncomputable def fnN (k:Nat):Fn:=(Nm k).getD ⟨[],[],[],⟨.function,[],false,false,[]⟩,none⟩
noncomputable def BZ (k:Nat):List Stmt:=(fnN k).body
noncomputable def U1:FH:={kind:=.rcd,init:=0,attrs:=[(("name":Str),.free),(("index":Str),.free),(("line":Str),.free),(("column":Str),.free),(("buffer":Str),.free),(("pointer":Str),.free)]}
noncomputable def Xt:FH:={kind:=.rcd,init:=11,attrs:=[(("start_mark":Str),.free),(("end_mark":Str),.free),(("encoding":Str),.free)]}
noncomputable def Xs:FH:={kind:=.rcd,init:=10,attrs:=[(("start_mark":Str),.free),(("end_mark":Str),.free)]}
noncomputable def Xr:FH:={kind:=.rcd,init:=10,attrs:=[(("start_mark":Str),.free),(("end_mark":Str),.free)]}
noncomputable def Xq:FH:={kind:=.rcd,init:=10,attrs:=[(("start_mark":Str),.free),(("end_mark":Str),.free)]}
noncomputable def Xp:FH:={kind:=.rcd,init:=10,attrs:=[(("start_mark":Str),.free),(("end_mark":Str),.free)]}
noncomputable def Xo:FH:={kind:=.rcd,init:=12,attrs:=[(("value":Str),.free),(("plain":Str),.free),(("start_mark":Str),.free),(("end_mark":Str),.free),(("style":Str),.free)]}
noncomputable def Xn:FH:={kind:=.rcd,init:=13,attrs:=[(("token_number":Str),.free),(("required":Str),.free),(("index":Str),.free),(("line":Str),.free),(("column":Str),.free),(("mark":Str),.free)]}
noncomputable def Xm:FH:={kind:=.self,init:=14,attrs:=[(("name":Str),.free),(("stream":Str),.free),(("stream_pointer":Str),.free),(("eof":Str),.free),(("buffer":Str),.free),(("pointer":Str),.free),(("raw_buffer":Str),.free),(("raw_decode":Str),.free),(("encoding":Str),.free),(("index":Str),.free),(("line":Str),.free),(("column":Str),.free),(("done":Str),.free),(("flow_level":Str),.free),(("tokens":Str),.free),(("tokens_taken":Str),.free),(("indent":Str),.free),(("indents":Str),.free),(("allow_simple_key":Str),.free),(("possible_simple_keys":Str),.free),(("peek":Str),.fn 4),(("prefix":Str),.fn 5),(("forward":Str),.fn 6),(("get_mark":Str),.fn 7),(("check_printable":Str),.fn 8),(("update":Str),.fn 9),(("get_token":Str),.fn 15),(("need_more_tokens":Str),.fn 16),(("fetch_more_tokens":Str),.fn 17),(("next_possible_simple_key":Str),.fn 18),(("stale_possible_simple_keys":Str),.fn 19),(("save_possible_simple_key":Str),.fn 20),(("remove_possible_simple_key":Str),.fn 21),(("unwind_indent":Str),.fn 22),(("add_indent":Str),.fn 23),(("fetch_stream_start":Str),.fn 24),(("fetch_stream_end":Str),.fn 25),(("fetch_block_entry":Str),.fn 26),(("fetch_single":Str),.fn 27),(("fetch_double":Str),.fn 28),(("fetch_flow_scalar":Str),.fn 29),(("check_block_entry":Str),.fn 30),(("check_document_start":Str),.fn 31),(("check_document_end":Str),.fn 32),(("scan_to_next_token":Str),.fn 33),(("scan_flow_scalar":Str),.fn 34),(("scan_flow_scalar_non_spaces":Str),.fn 35),(("scan_flow_scalar_spaces":Str),.fn 36),(("scan_flow_scalar_breaks":Str),.fn 37),(("scan_line_break":Str),.fn 38),(("ESCAPE_REPLACEMENTS":Str),.sta 0),(("ESCAPE_CODES":Str),.sta 1)]}
noncomputable def Xl:FH:={kind:=.exc,init:=1,attrs:=[(("context":Str),.free),(("context_mark":Str),.free),(("problem":Str),.free),(("problem_mark":Str),.free),(("note":Str),.free)]}
noncomputable def JT (k:Nat):Option FH:=[U1,Xt,Xs,Xr,Xq,Xp,Xo,Xn,Xm,Xl][k]?
noncomputable def globL:List (Str×V):=[
 (("_is_printable":Str),.fn 2),
 (("_law_TAILS":Str),.fn 39),
 (("_law_rows":Str),.fn 40),
 (("_law_refused":Str),.fn 41),
 (("_law_bare":Str),.fn 42),
 (("_law_value":Str),.fn 43),
 (("_law_told":Str),.fn 44),
 (("law":Str),.fn 45),
 (("Mark":Str),.cls 0),
 (("StreamStartToken":Str),.cls 1),
 (("StreamEndToken":Str),.cls 2),
 (("BlockSequenceStartToken":Str),.cls 3),
 (("BlockEndToken":Str),.cls 4),
 (("BlockEntryToken":Str),.cls 5),
 (("ScalarToken":Str),.cls 6),
 (("SimpleKey":Str),.cls 7),
 (("Scanner":Str),.cls 8),
 (("ScannerError":Str),.cls 9),
 (("_law_PIECES":Str),.sta 2),
 (("len":Str),.bi "len"),
 (("isinstance":Str),.bi "isinstance"),
 (("chr":Str),.bi "chr"),
 (("all":Str),.bi "all"),
 (("range":Str),.ty "range"),
 (("enumerate":Str),.ty "enumerate"),
 (("list":Str),.ty "list"),
 (("int":Str),.ty "int"),
 (("str":Str),.ty "str")]
noncomputable def Uw:Expr→List (V×V)
 | .Dict ks vs _=>(ks.zip vs).map fun p=>((p.1.map Ml).getD .undef,Ml p.2)
 |_=>[]
noncomputable def Uj:Expr→List V
 | .List es _=>es.map Ml
 |_=>[]
noncomputable def Lk:Nat→O
 |0=>.dict (Uw (Uv (Bo (Y7 (Bo Lg 34)) 62)))
 |1=>.dict (Uw (Uv (Bo (Y7 (Bo Lg 34)) 63)))
 |2=>.list (Uj (Uv (Bo Lg 36)))
 |_=>.dead
noncomputable def S (ns:List Int):BD:={fns:=Nm,cls:=JT,glob:=fun x=>Cc x globL,sta:=fun n=>match n with|9=>.list (ns.map .int)|n=>Lk n}
noncomputable def QY (P:Nat→Prop):List Nat→Prop
 |[]=>True
 |i::l=>P i∧QY P l
theorem QY.get {P:Nat→Prop}{l:List Nat}:QY P l→∀{i:Nat},i∈l→P i:=by
 induction l with
 |nil=>exact fun zz {zz} h=>(Ap h).elim
 |cons a l ih=>exact fun h {i} m=>(AU.mp m).elim (fun e=>e▸h.1) (ih h.2)
noncomputable def CE (K:Frag)(a:Addr):Obj:=(K.lookup a).getD {cls:=.none,dict:=none,data:=.plain,slots:= #[]}
set_option backward.match.sparseCases false in
noncomputable def aN (K:Frag)(a:Addr):FuncData:=match (CE K a).data with| .func fd=>fd|_=>{name:="",qualname:="",params:=⟨[],[],none,[],[],none,[]⟩,body:=.stmts [],scope:=⟨.function,[],false,false,[]⟩,globals:=0,closure:=[],defaults:=.none,kwdefaults:=.none,doc:=.none,pyModule:=.none,annotations:=none,code:=.none,closureTuple:=.none,builtins:=0}
set_option backward.match.sparseCases false in
noncomputable def FN:Value→V
 | .none=>.none
 | .bool b=>.bool b
 | .int i _=>.int i
 | .str s _=>.str s
 |_=>.undef
noncomputable def MH:V→Bool
 | .undef=>false
 |_=>true
set_option backward.match.sparseCases false in
noncomputable def Gv:Value→Str
 | .str m _=>m
 |_=>""
noncomputable def ZU:Value→Bool
 | .str _ _=>true
 |_=>false
theorem Mk {v:Value}(h:ZU v=true):∃t,v= .str (Gv v) t:=by
 rcases v with _|_<;>first|exact(AI h).elim|exact⟨_,rfl⟩
theorem O1 {θ:Tp}{k:Kn}{v:Value}(h:MH (FN v)=true):Ag θ k (FN v) v:=by
 rcases v with _|_<;>first|exact(AI h).elim|exact rfl|exact⟨_,rfl⟩
theorem JR {θ:Tp}{k:Kn}:∀{vs:List Value},(vs.all fun v=>MH (FN v))=true→Am θ k (vs.map FN) vs
 |[],_=>rfl
 |_::_,h=>⟨_,_,O1 (AJ.mp h).1,JR (AJ.mp h).2,rfl⟩
noncomputable def Ub (d:C0):Bool:=ZU d.key&&MH (FN d.val)
noncomputable def NB:V→Str
 | .str n=>n
 |_=>""
theorem Uk {θ:Tp}{k:Kn}:∀{ds:List C0},ds.all Ub=true→Kv V.str θ k (ds.map fun d=>(FN d.key,FN d.val)) (ds.map fun d=>(Gv d.key,d.val))
 |[],_=>rfl
 |d::_,h=>⟨Gv d.key,d.val,_,AB (Mk (AJ.mp (AJ.mp h).1).1) fun t e=>by
   show FN d.key=_
   rw[e];rfl,O1 (AJ.mp (AJ.mp h).1).2,Uk (AJ.mp h).2,rfl⟩
theorem Rf {prog:Cg}{w:World}{d:C0}(h:Ub d=true):(DJ prog w).is (Gv d.key) d.key=true:=by
 refine EB (Mk (AJ.mp h).1) fun t e=>?_
 rw[e]
 show(Gv d.key==Gv d.key)=true
 exact beq_self_eq_true _
theorem NR {prog:Cg}{w:World}:∀{ds:List C0},ds.all Ub=true→Pairs (DJ prog w) ds (ds.map fun d=>(Gv d.key,d.val))
 |[],_=>.nil
 |_::_,h=>.cons (Rf (AJ.mp h).1) rfl (NR (AJ.mp h).2)
set_option backward.match.sparseCases false in
noncomputable def ZR (o:Obj):Nat:=match o.data with| .seq _ n=>n| .dict _ n=>n|_=>0
set_option backward.match.sparseCases false in
noncomputable def JP (o:Obj):List C0:=match o.data with| .dict es _=>es.toList|_=>[]
noncomputable def Ij:List Nat:=[0,1,2,3,4,5,6,7,8,9,10,11,12,13,15,16,17,18,19,20,21,22,23,24,25,26,27,28,29,30,31,32,33,34,35,36,37,38,39,40,41,42,43,44,45]
noncomputable def E6 (f:Nat):Addr:=([35,85,130,144,152,160,168,175,182,189,210,275,496,527,550,573,580,587,594,601,608,615,622,629,636,643,727,790,797,804,839,825,832,867,979,989,996,1003,1045,1058,1065,1072,1079,1084,1091,1096]:List Nat).getD f 1096
noncomputable def C6 (k:Nat):Addr:=([53,278,290,302,326,410,499,530,1048,511]:List Nat).getD k 53
noncomputable def EC (a:Addr):Nat→Addr
 |0=>980
 |1=>982
 |2=>1051
 |_=>a
noncomputable def th (w:World)(K:Frag)(p:Cg)(base:Heap)(ns:List Int)(a:Addr)(loose:List Str)(mg mb:Str→Option Value):Tp:=
 {prog:=PySem.Challenge.rw_te0006_02.row.prog,w,base,K,S:=S ns,af:=E6,ac:=C6,as:=EC a,p,loose,mg,mb}
noncomputable def CM (K:Frag)(f:Nat):FuncData:=aN K (E6 f)
noncomputable abbrev bP (K:Frag)(f:Nat):Prop:=
 K.lookup (E6 f)=some ⟨(CE K (E6 f)).cls,(CE K (E6 f)).dict,.func (fnX (CM K f).name (CM K f).qualname (CM K f).params (fnN f).body (fnN f).scope [] (CM K f).defaults (CM K f).kwdefaults (CM K f).doc (CM K f).pyModule (CM K f).annotations (CM K f).code (CM K f).closureTuple),(CE K (E6 f)).slots⟩
set_option backward.match.sparseCases false in
noncomputable def Ze (K:Frag):Value→Option (List V)
 | .none=>some []
 | .ref T=>(K.lookup T).bind fun ob=>match ob.data with
  | .seq vs _=>bif vs.toList.all fun v=>MH (FN v) then some (vs.toList.map FN) else none
  |_=>none
 |_=>none
noncomputable def fnB (K:Frag)(f:Nat):Bool:=
 codeIn K (CM K f).code (CM K f).qualname&&(CM K f).params.posonlyargs.isEmpty&&(CM K f).params.kwonlyargs.isEmpty&&(CM K f).params.vararg.isNone&&(CM K f).params.kwarg.isNone&&decide ((CM K f).params.args.map (·.arg)=(fnN f).params)
set_option backward.match.sparseCases false in
noncomputable def Zb (f:Nat):Bool:=
 decide (fnN f).params.Nodup&&decide ((fnN f).scope.names.map (·.1)).Nodup&& !((fnN f).scope.names.map (·.1)).contains ("__debug__":Str)&& !(fnN f).scope.isCoroutine&& !(fnN f).scope.isGenerator&&(match (fnN f).scope.kind with| .function=>true|_=>false)&&
 (fnN f).params.all fun p=>(fnN f).scope.names.any fun q=>decide (q.1=p)&&(match q.2 with| .local=>true| .cell=>true|_=>false)
theorem Vu:(FB 46).all Zb=true:=by kernel_rfl
noncomputable def clsN (k:Nat):FH:=(JT k).getD U1
noncomputable def KU (k:Nat):Bool:=match (clsN k).kind with
 | .exc=>true
 |_=>false
noncomputable def XP (K:Frag)(k:Nat)(n:Str):Bool:=bif KU k then(findIn K (.ref (C6 k)) "__getattribute__"==some (some (.builtin "BaseException.__getattribute__")))&&(findIn K (.ref (C6 k)) "__getattr__"==some none)&&GT K (C6 k) else plainGet K (C6 k) n
noncomputable def Jx (K:Frag)(k:Nat)(n:Str):CA→Bool
 | .free=>XP K k n&&EK K (C6 k)&&(takerIn K (C6 k) n==some none)&&(match findIn K (.ref (C6 k)) n with|some attr=>noGet K attr|none=>false)
 | .fn f=>plainGet K (C6 k) n&&(findIn K (.ref (C6 k)) n==some (some (.ref (E6 f))))&&isFn K (.ref (E6 f))
 | .sta m=>plainGet K (C6 k) n&&EK K (C6 k)&&(findIn K (.ref (C6 k)) n==some (some (.ref (EC 0 m))))&&(specialIn K (.ref (EC 0 m)) "__get__"==some none)&& !copiedNames.contains n&&decide (m<2)
noncomputable def Jp (K:Frag)(k:Nat):Bool:=bif KU k then GU K (C6 k) else plainOver K (C6 k)&&plainGet K (C6 k) "__class__"&&EK K (C6 k)&&(findIn K (.ref (C6 k)) "__class__"==some (some (.builtin "object.__class__")))&&(mroIn K (C6 k) (.type "object")==some true)&&makesIn K (C6 k)
noncomputable def U0 (K:Frag)(k:Nat):Bool:=
 (clsN k).attrs.all (fun p=>Jx K k p.1 p.2)&&(findIn K (.ref (C6 k)) "__setattr__"==some (some (.builtin "object.__setattr__")))&&
 isIn K (.ref (C6 k)) (C6 k)&&Jp K k&&
 (findIn K (.ref (C6 k)) "__init__"==some (some (.ref (E6 (clsN k).init))))&&(typeIn K (.ref (E6 (clsN k).init))==some (.type "function"))&&keepIn K (.ref (C6 k))
noncomputable def aC (K:Frag)(j:Nat):Bool:=(FB 10).all fun k=>j==k||kin_not K (C6 j) (C6 k)
set_option backward.match.sparseCases false in
noncomputable def Te:V→Bool
 | .bi _=>true
 | .ty _=>true
 |_=>false
set_option backward.match.sparseCases false in
noncomputable def V5:V→Option Value
 | .fn f=>some (.ref (E6 f))
 | .cls k=>some (.ref (C6 k))
 | .bi id=>some (.builtin id)
 | .ty id=>some (.type id)
 | .sta n=>bif Nat.blt n 3 then some (.ref (EC 0 n)) else none
 |_=>none
noncomputable def ZZ (K:Frag)(q:Str×V):Bool:=bif Te q.2 then nsIn K Cb q.1==some none else(V5 q.2).isSome&&(nsIn K Cb q.1==some (V5 q.2))
noncomputable def bB (q:Str×V):Prop:=Te q.2=false∨∃u,V5 q.2=some u∧bootBuiltins q.1=some u∧q.1≠"__name__"
noncomputable def Kb (K:Frag):Addr:=match (CM K 14).code with| .ref a=>a|_=>0
noncomputable def SK (K:Frag):Addr:=((CM K 14).closure.head?.map (·.2)).getD 0
noncomputable def UJ (K:Frag):Array Value:=match (CE K (Kb K)).data with| .fields vs=>vs|_=> #[]
noncomputable def LD (K:Frag):Str×Tok:=match ((UJ K)[2]?:Option Value) with|some (.str f t)=>(f,t)|_=>("",0)
set_option backward.match.sparseCases false in
noncomputable def Xx (K:Frag):ClassData:=match (CE K (C6 8)).data with| .cls cd=>cd|_=>default
noncomputable def Ly:Pos×Pos×Pos×Pos×Pos×Pos:=(⟨239,8,239,13⟩,⟨239,8,239,15⟩,⟨239,8,239,24⟩,⟨239,25,239,31⟩,⟨239,8,239,32⟩,⟨239,8,239,32⟩)
noncomputable def supD (K:Frag):OG:=
 {oc:=(CE K (E6 14)).cls,od:=(CE K (E6 14)).dict,osl:=(CE K (E6 14)).slots,name:=(CM K 14).name,qual:=(CM K 14).qualname,params:=(CM K 14).params,dV:=(CM K 14).defaults,kV:=(CM K 14).kwdefaults,doc:=(CM K 14).doc,pm:=(CM K 14).pyModule,an:=(CM K 14).annotations,cdv:=(CM K 14).code,ct:=(CM K 14).closureTuple
  cda:=Kb K,cc:=SK K,ps:="self",px:="stream",ar:=((CM K 14).params.args.head?).getD ⟨"",none,default⟩,rest:=(BZ 14).drop 1,p0:=Ly.1,p1:=Ly.2.1,p2:=Ly.2.2.1,p3:=Ly.2.2.2.1,p4:=Ly.2.2.2.2.1,p5:=Ly.2.2.2.2.2
  ccl:=(CE K (Kb K)).cls,cdd:=(CE K (Kb K)).dict,vs:=UJ K,ccs:=(CE K (Kb K)).slots,file:=(LD K).1,tf:=(LD K).2,cl:=(CE K (SK K)).cls,cld:=(CE K (SK K)).dict,csl:=(CE K (SK K)).slots,D:=C6 8,cdD:=Xx K}
structure aZ (K:Frag):Prop where
 look:K.lookup (E6 14)=some ⟨(supD K).oc,(supD K).od,.func ((supD K).fd (fnN 14)),(supD K).osl⟩
 code:codeIn K (.ref (Kb K)) (CM K 14).qualname=true
 po:(CM K 14).params.posonlyargs=[]
 as:(CM K 14).params.args.map (·.arg)=(fnN 14).params
 ko:(CM K 14).params.kwonlyargs=[]
 va:(CM K 14).params.vararg=none
 ka:(CM K 14).params.kwarg=none
 dV:(CM K 14).defaults= .none
 ar:(CM K 14).params.args.head? =some (supD K).ar
 arg:(supD K).ar.arg="self"
 cda:K.lookup (Kb K)=some ⟨(supD K).ccl,(supD K).cdd,.fields (UJ K),(supD K).ccs⟩
 vs:(UJ K)[2]? =some (.str (LD K).1 (LD K).2)
 file:((PySem.Challenge.rw_te0006_02.row.prog.main.file:Str)==(LD K).1)=true
 cc:K.lookup (SK K)=some ⟨(supD K).cl,(supD K).cld,.cell (some (.ref (C6 8))),(supD K).csl⟩
 D:clsIn K (C6 8)=some (Xx K)
 mro:mroIn K (C6 8) (.ref (C6 8))=some true
 sup:ks_superIn K (C6 8) (C6 8) "__init__"=some (some (.ref (E6 3)))
 nosup:nsIn K Cb "super"=some none
 third:nsIn K cStatics "thirdparty.any"=some none
 ty:typeIn K (.ref (E6 3))=some (.type "function")
 fng:fnIn K (E6 3)=true
noncomputable def No (n:Nat):List (V×V):=match Lk n with| .dict es=>es|_=>[]
structure UD (w:World)(K:Frag)(n:Nat):Prop where
 look:K.lookup (EC 0 n)=some ⟨.type "dict",none,.dict (JP (CE K (EC 0 n))).toArray (ZR (CE K (EC 0 n))), #[]⟩
 rows:No n=(JP (CE K (EC 0 n))).map fun d=>(FN d.key,FN d.val)
 ok:(JP (CE K (EC 0 n))).all Ub=true
 hash:(JP (CE K (EC 0 n))).map (·.hash)=(No n).map fun p=>hashStr w (NB p.1)
noncomputable def ZH (n:Nat):List V:=match Lk n with| .list xs=>xs|_=>[]
set_option backward.match.sparseCases false in
noncomputable def SZ (o:Obj):List Value:=match o.data with| .seq vs _=>vs.toList|_=>[]
structure YG (K:Frag)(n:Nat):Prop where
 look:K.lookup (EC 0 n)=some ⟨.type "list",none,.seq (SZ (CE K (EC 0 n))).toArray (ZR (CE K (EC 0 n))), #[]⟩
 rows:ZH n=(SZ (CE K (EC 0 n))).map FN
 ok:((SZ (CE K (EC 0 n))).all fun v=>MH (FN v))=true
structure I1 (w:World)(K:Frag):Prop where
 fnE:QY (bP K) Ij
 fnB:Ij.all (fnB K)=true
 dfs:Ij.map (fun f=>Ze K (CM K f).defaults)=Ij.map fun f=>some (fnN f).dflts
 keep:(FB 46).all (fun f=>keepIn K (.ref (E6 f)))=true
 cls:(FB 10).all (U0 K)=true
 nots:(FB 10).all (aC K)=true
 get:specialIn K (.builtin "object.__class__") "__get__"=some (some (.builtin "getset_descriptor.__get__"))
 takes:takesIn K (.builtin "object.__class__")=some true
 gl:globL.all (ZZ K)=true
 sup:aZ K
 st0:UD w K 0
 st1:UD w K 1
 st2:YG K 2
theorem P7 {k:Nat}{fn:Fn}(h:Nm k=some fn):k<46:=by
 refine Nat.lt_of_not_le fun hk=>?_
 unfold Nm at h
 rw[CR (show RR.length≤k from hk)] at h
 cases h
theorem Rz {k:Nat}{fn:Fn}(h:Nm k=some fn):fn=fnN k:=by
 unfold fnN
 rw[h];rfl
theorem GY {k:Nat}{q:FH}(h:JT k=some q):k<10:=by
 refine Nat.lt_of_not_le fun hk=>?_
 unfold JT at h
 rw[CR (show([U1,Xt,Xs,Xr,Xq,Xp,Xo,Xn,Xm,Xl]:List FH).length≤k from hk)] at h
 cases h
theorem M5 {k:Nat}{q:FH}(h:JT k=some q):q=clsN k:=by
 unfold clsN
 rw[h];rfl
theorem Sj:(Ij.all fun k=>(fnN k).sup.isNone)=true:=by kernel_rfl
theorem Qm:(fnN 14).sup=some (3,8):=by kernel_rfl
theorem Ro {f:Nat}(h:f<46)(h':f≠14):f∈Ij:=by
 have q:((FB 46).all fun f=>f==14||Ij.contains f)=true:=by decide+kernel
 have:=Az.mp q f (DO.mpr h)
 rw[Bool.or_eq_true] at this
 rcases this with e|e
 ·exact absurd (eq_of_beq e) h'
 ·exact DZ.mp e
section
variable {w:World}{K:Frag}{p:Cg}{base:Heap}{ns:List Int}{a:Addr}{loose:List Str}{mg mb:Str→Option Value}
theorem SC {θ:Tp}{d:Value}{xs:List V}(h:Ze θ.K d=some xs):(d= .none∧xs=[])∨∃(T:Addr) (ob:Obj) (n:Nat) (vs:List Value),d= .ref T∧θ.K.lookup T=some ob∧ob.data= .seq (AG vs) n∧Am θ ⟨[],[]⟩ xs vs:=by
 rcases d with _|_|_|_|_|_|_|_|_|_|⟨T⟩<;>first|exact AP h|skip
 ·exact .inl ⟨rfl,(AH h).symm⟩
 ·
  refine AS (Ak.mp h) fun ob hob h=>?_
  obtain⟨oc,od,dat,osl⟩:=ob
  rcases dat with _|_|⟨vs,n⟩|_<;>first|exact AP h|skip
  cases z:vs.toList.all fun v=>MH (FN v) with
  |false=>
   have h:(bif vs.toList.all fun v=>MH (FN v) then some (vs.toList.map FN) else none)=some xs:=h
   rw[z] at h;exact AP h
  |true=>
   have h:(bif vs.toList.all fun v=>MH (FN v) then some (vs.toList.map FN) else none)=some xs:=h
   rw[z] at h
   exact .inr ⟨T,_,n,vs.toList,rfl,hob,rfl,AH h▸JR z⟩
theorem Vv (C:I1 w K){f:Nat}(hf:f<46)(h':f≠14):UG (th w K p base ns a loose mg mb) f (fnN f):=by
 have hi:=Ro hf h'
 have h1:=C.fnE.get hi
 have h2:=Az.mp C.fnB f hi
 have h3:=Az.mp Vu f (DO.mpr hf)
 have h4:=Az.mp C.keep f (DO.mpr hf)
 unfold fnB at h2
 unfold Zb at h3
 simp only[BY,decide_eq_true_eq,E8,Option.isNone_iff_eq_none,CZ] at h2 h3
 obtain⟨⟨⟨⟨⟨a1,a2⟩,a3⟩,a4⟩,a5⟩,a6⟩:=h2
 have a7:=List.map_inj_left.mp C.dfs f hi
 obtain⟨⟨⟨⟨⟨⟨b1,b2⟩,b3⟩,b4⟩,b5⟩,b6⟩,b7⟩:=h3
 refine⟨⟨⟨(CE K (E6 f)).cls,(CE K (E6 f)).dict,(CE K (E6 f)).slots,(CM K f).name,(CM K f).qualname,(CM K f).params,(CM K f).defaults,(CM K f).kwdefaults,(CM K f).doc,(CM K f).pyModule,(CM K f).annotations,(CM K f).code,(CM K f).closureTuple⟩,h1,a1,a2,a6,a3,a4,a5,SC a7⟩,h4,b1,b2,fun p hp=>?_,fun h=>?_,b4,b5,?_⟩
 ·have:=Az.mp b7 p hp
  refine AS (List.any_eq_true.mp this) fun q hq e=>?_
  rw[BY,decide_eq_true_eq] at e
  obtain⟨x,k⟩:=q
  obtain⟨e1,e2⟩:=e
  have e1:x=p:=e1
  subst e1
  rcases k with _|_<;>first|exact .inl hq|exact .inr hq|cases e2
 ·rw[DZ.mpr h] at b3;cases b3
 ·cases hk:(fnN f).scope.kind<;>rw[hk] at b6<;>first|rfl|cases b6
theorem Tz (C:I1 w K){k:Nat}(hk:k<10):U0 K k=true:=Az.mp C.cls k (DO.mpr hk)
theorem LE {k:Nat}{q:FH}(h:JT k=some q):Ci (S ns) k=KU k:=by
 have e:(S ns).cls k=some q:=h
 unfold Ci KU
 rw[e,←M5 h]
 try rfl
theorem WB {k:Nat}{n:Str}{ca:CA}{q:FH}(hq:JT k=some q)(h:Jx K k n ca=true):SW (th w K p base ns a loose mg mb) k n ca:=by
 cases ca with
 |free=>
  unfold Jx at h
  simp only[BY,beq_iff_eq] at h
  obtain⟨⟨⟨h1,h2⟩,h3⟩,h4⟩:=h
  refine⟨?_,h2,h3,?_⟩
  ·have e:=LE (ns:=ns) hq
   unfold XP at h1
   rcases z:KU k with _|_
   ·rw[z] at h1 e;exact .inl ⟨e,h1⟩
   ·
    rw[z] at h1 e
    have h1:(_&&_&&_)=true:=h1
    simp only[BY,beq_iff_eq] at h1
    exact .inr ⟨e,h1.1.1,h1.1.2,h1.2⟩
  ·show ∃attr,findIn K (.ref (C6 k)) n=some attr∧noGet K attr=true
   rcases e:findIn K (.ref (C6 k)) n with _|attr
   ·rw[e] at h4;cases h4
   ·rw[e] at h4;exact⟨attr,rfl,h4⟩
 |fn f=>
  unfold Jx at h
  simp only[BY,beq_iff_eq] at h
  exact⟨h.1.1,h.1.2,h.2⟩
 |sta m=>
  unfold Jx at h
  simp only[BY,beq_iff_eq,E8,decide_eq_true_eq] at h
  obtain⟨⟨⟨⟨⟨h1,h2⟩,h3⟩,h4⟩,h5⟩,h6⟩:=h
  rcases m with _|m
  ·exact⟨h1,h2,h3,h4,h5⟩
  rcases m with _|m
  ·exact⟨h1,h2,h3,h4,h5⟩
  exact(Nat.not_lt_zero _ (E3 (E3 h6))).elim
structure ag (K:Frag)(k:Nat):Prop where
 attr:∀q∈(clsN k).attrs,Jx K k q.1 q.2=true
 set:findIn K (.ref (C6 k)) "__setattr__"=some (some (.builtin "object.__setattr__"))
 isin:isIn K (.ref (C6 k)) (C6 k)=true
 kind:Jp K k=true
 init:findIn K (.ref (C6 k)) "__init__"=some (some (.ref (E6 (clsN k).init)))
 ty:typeIn K (.ref (E6 (clsN k).init))=some (.type "function")
 keep:keepIn K (.ref (C6 k))=true
theorem Ka (C:I1 w K){k:Nat}(hk:k<10):ag K k:=by
 have h3:=Tz C hk
 unfold U0 at h3
 simp only[BY,beq_iff_eq] at h3
 obtain⟨⟨⟨⟨⟨⟨a1,a2⟩,a3⟩,a4⟩,a5⟩,a6⟩,a7⟩:=h3
 exact⟨Az.mp a1,a2,a3,a4,a5,a6,a7⟩
theorem KQ {k:Nat}(h:Jp K k=true)(z:KU k=false):plainOver K (C6 k)=true∧plainGet K (C6 k) "__class__"=true∧EK K (C6 k)=true∧findIn K (.ref (C6 k)) "__class__"=some (some (.builtin "object.__class__"))∧mroIn K (C6 k) (.type "object")=some true∧makesIn K (C6 k)=true:=by
 unfold Jp at h
 rw[z] at h
 have h:(_&&_&&_&&_&&_&&_)=true:=h
 simp only[BY,beq_iff_eq] at h
 exact⟨h.1.1.1.1.1,h.1.1.1.1.2,h.1.1.1.2,h.1.1.2,h.1.2,h.2⟩
theorem Vw {k:Nat}(h:Jp K k=true)(z:KU k=true):GU K (C6 k)=true:=by
 unfold Jp at h
 rw[z] at h
 exact h
theorem Z7 (C:I1 w K):Jz (th w K p base ns a loose mg mb):=by
 refine⟨fun k n ca e=>?_,fun k q e=>?_⟩
 ·unfold EQ at e
  rcases hq:(th w K p base ns a loose mg mb).S.cls k with _|q
  ·rw[hq] at e;cases e
  ·
   have hN:=M5 hq
   rw[hq] at e
   have e:(q.attrs.find? fun r=>r.1=n).map (·.2)=some ca:=e
   obtain⟨p',hp,rfl⟩:=Ao.mp e
   have h1:=List.mem_of_find?_eq_some hp
   have h2:=List.find?_some hp
   have h2:p'.1=n:=of_decide_eq_true h2
   subst h2
   rw[hN] at h1
   exact WB hq ((Ka C (GY hq)).attr p' h1)
 ·have D:=Ka C (GY e)
  exact⟨D.set,fun z=>(KQ D.kind ((LE (ns:=ns) e).symm.trans z)).1⟩
theorem Yw (C:I1 w K):Mu (th w K p base ns a loose mg mb):=by
 refine⟨fun k q h=>(Ka C (GY h)).isin,fun j k hjk hj hk=>?_,fun j q h z=>?_,C.get,C.takes⟩
 ·refine EB (DA.mp hj) fun q hq=>?_
  refine EB (DA.mp hk) fun q' hq'=>?_
  have:=Az.mp C.nots j (DO.mpr (GY hq))
  have:=Az.mp this k (DO.mpr (GY hq'))
  rw[Bool.or_eq_true] at this
  rcases this with e|e
  ·exact absurd (eq_of_beq e) hjk
  ·exact e
 ·have q:=KQ (Ka C (GY h)).kind ((LE (ns:=ns) h).symm.trans z)
  exact⟨q.2.1,q.2.2.1,q.2.2.2.1,q.2.2.2.2.1⟩
theorem YB {f:Nat}(h:46≤f):E6 f=E6 45:=by
 unfold E6
 rw[Cv,CR h];rfl
theorem YE {k:Nat}(h:10≤k):C6 k=C6 0:=by
 unfold C6
 rw[Cv,CR h];rfl
theorem Vo (C:I1 w K)(f:Nat):keepIn K (.ref (E6 f))=true:=by
 by_cases h:f<46
 ·exact Az.mp C.keep f (DO.mpr h)
 ·rw[YB (Nat.le_of_not_lt h)]
  exact Az.mp C.keep 45 (DO.mpr (by decide))
theorem Ta (C:I1 w K)(k:Nat):keepIn K (.ref (C6 k))=true:=by
 by_cases h:k<10
 ·exact(Ka C h).keep
 ·rw[YE (Nat.le_of_not_lt h)]
  exact(Ka C (k:=0) (by decide)).keep
theorem Vl (C:I1 w K)(k:Nat)(q:FH)(h:JT k=some q):LY (th w K p base ns a loose mg mb) k q:=by
 have D:=Ka C (GY h)
 have e:=LE (ns:=ns) h
 have hN:=M5 h
 subst hN
 exact⟨fun z=>(KQ D.kind (e.symm.trans z)).2.2.2.2.2,fun z=>Vw D.kind (e.symm.trans z),D.init,D.ty,D.keep⟩
theorem NG (C:UD w K n)(X:K.In base)(hs:EC a n=EC 0 n)(hn:((No n).map fun p=>NB p.1).Nodup)(he:(No n).isEmpty=false)(hm:(EC 0 n==Ce)=false):
  ∃kvs,Kv V.str (th w K p base ns a loose mg mb) ⟨[],[]⟩ (No n) kvs∧base.DictOf (PySem.strKind (th w K p base ns a loose mg mb).prog w) (EC a n) kvs∧(EC a n==Ce)=false∧(No n).isEmpty=false:=by
 have hk:=fun d hd=>Az.mp C.ok d hd
 have e1:((JP (CE K (EC 0 n))).map (fun d=>(Gv d.key,d.val))).map (·.1)=(No n).map fun p=>NB p.1:=by
  rw[C.rows,DV,DV]
  exact Ds fun d hd=>AB (Mk (AJ.mp (hk d hd)).1) fun t e=>by
   show Gv d.key=NB (FN d.key)
   rw[e];rfl
 have e2:(JP (CE K (EC 0 n))).map (·.hash)=(JP (CE K (EC 0 n))).map fun d=>hashStr w (Gv d.key):=by
  have:=C.hash
  rw[C.rows,DV] at this
  rw[this]
  exact Ds fun d hd=>AB (Mk (AJ.mp (hk d hd)).1) fun t e=>by
   show hashStr w (NB (FN d.key))=hashStr w (Gv d.key)
   rw[e];rfl
 rw[hs]
 refine⟨_,C.rows▸Uk C.ok,⟨_,_,_,X _ _ C.look,⟨rfl,rfl,rfl⟩,rfl,fun d hd=>?_,NR C.ok,?_⟩,hm,he⟩
 ·have hd:d∈JP (CE K (EC 0 n)):=by simpa using hd
  exact⟨Gv d.key,Rf (hk d hd),List.map_inj_left.mp e2 d hd⟩
 ·rw[e1];exact hn
theorem Sp {n:Nat}(C:YG K n)(X:K.In base)(hs:EC a n=EC 0 n):∃vs,Am (th w K p base ns a loose mg mb) ⟨[],[]⟩ (ZH n) vs∧base.IsList (EC a n) vs.toArray:=by
 rw[hs]
 exact⟨_,C.rows▸JR C.ok,⟨_,X _ _ C.look,rfl,_,rfl⟩⟩
theorem NH (n:Nat):(n=9∧(S ns).sta n= .list (ns.map .int))∨(S ns).sta n=Lk n:=by
 by_cases h:n=9
 ·subst h;exact .inl ⟨rfl,rfl⟩
 ·refine .inr ?_
  unfold S
  show(match n with|9=>_|n=>Lk n)=_
  split
  ·exact(h rfl).elim
  ·rfl
theorem Lj:∀n:Nat,n=0∨n=1∨n=2∨Lk n= .dead
 |0=>.inl rfl
 |1=>.inr (.inl rfl)
 |2=>.inr (.inr (.inl rfl))
 |_+3=>.inr (.inr (.inr rfl))
theorem YV (C:I1 w K)(X:K.In base){vs:List Value}(hv:Am (th w K p base ns a loose mg mb) ⟨[],[]⟩ (ns.map .int) vs)(hL:base.IsList a vs.toArray):G4 (th w K p base ns a loose mg mb):=by
 refine⟨fun n xs h=>?_,fun n es h=>?_,fun n es h=>?_⟩
 ·refine(NH (ns:=ns) n).elim (fun e=>?_) fun e=>(Lj n).elim (fun z=>?_) fun z=>z.elim (fun z=>?_) fun z=>z.elim (fun z=>?_) fun z=>?_
  ·obtain⟨e1,e2⟩:=e
   subst e1
   exact AH (congrArg oL (e2.symm.trans h))▸⟨vs,hv,hL⟩
  ·subst z;exact O.noConfusion (e.symm.trans h)
  ·subst z;exact O.noConfusion (e.symm.trans h)
  ·subst z;exact AH (congrArg oL (e.symm.trans h))▸Sp C.st2 X rfl
  ·exact O.noConfusion (z.symm.trans (e.symm.trans h))
 ·refine(NH (ns:=ns) n).elim (fun e=>?_) fun e=>(Lj n).elim (fun z=>?_) fun z=>z.elim (fun z=>?_) fun z=>z.elim (fun z=>?_) fun z=>?_
  ·exact O.noConfusion (e.2.symm.trans h)
  ·subst z;exact AH (congrArg oD (e.symm.trans h))▸NG C.st0 X rfl (by decide+kernel) rfl (by decide)
  ·subst z;exact AH (congrArg oD (e.symm.trans h))▸NG C.st1 X rfl (by decide+kernel) rfl (by decide)
  ·subst z;exact O.noConfusion (e.symm.trans h)
  ·exact O.noConfusion (z.symm.trans (e.symm.trans h))
 ·refine(NH (ns:=ns) n).elim (fun e=>?_) fun e=>(Lj n).elim (fun z=>?_) fun z=>z.elim (fun z=>?_) fun z=>z.elim (fun z=>?_) fun z=>?_
  ·exact O.noConfusion (e.2.symm.trans h)
  ·subst z;exact O.noConfusion (e.symm.trans h)
  ·subst z;exact O.noConfusion (e.symm.trans h)
  ·subst z;exact O.noConfusion (e.symm.trans h)
  ·exact O.noConfusion (z.symm.trans (e.symm.trans h))
theorem ZF (C:I1 w K)(X:K.In base){vs:List Value}(hv:Am (th w K p base ns a loose mg mb) ⟨[],[]⟩ (ns.map .int) vs)(hL:base.IsList a vs.toArray):E0 (th w K p base ns a loose mg mb):=by
 refine⟨YV C X hv hL,Z7 C,Yw C,fun f fn h hs=>?_,Vo C,Ta C,Vl C⟩
 have hf:=P7 h
 have hN:=Rz h
 subst hN
 refine Vv C hf fun e=>?_
 subst e
 rw[Qm] at hs
 cases hs
theorem WN (C:I1 w K):LW (th w K p base ns a loose mg mb):=by
 intro f fn g k h hs
 have hf:=P7 h
 have hN:=Rz h
 subst hN
 by_cases e:f=14
 ·subst e
  rw[Qm] at hs
  cases hs
  have S:=C.sup
  refine⟨supD K,S.look,S.code,S.po,S.as,S.ko,S.va,S.ka,S.dV,by kernel_rfl,S.ar,S.arg,by kernel_rfl,by kernel_rfl,S.cda,S.vs,S.file,S.cc,S.D,S.mro,S.sup,by kernel_rfl,by kernel_rfl,by decide+kernel,by decide+kernel,fun q hq=>?_,fun x hx=>?_,?_,by kernel_rfl,by kernel_rfl,by kernel_rfl,by kernel_rfl,by kernel_rfl,by kernel_rfl,by first|boot_by_name|rfl|kernel_rfl,S.nosup,S.third,S.ty,S.fng⟩
  ·have hq:q∈(["self","stream"]:List Str):=hq
   rcases AU.mp hq with rfl|hq
   ·exact mem_of_lookup (by kernel_rfl)
   ·rw[AY.mp hq]
    exact mem_of_lookup (by kernel_rfl)
  ·have q:((fnN 14).scope.names.all fun x=>match x.2 with| .cell=>false|_=>true)=true:=by kernel_rfl
   have:=Az.mp q x hx
   intro e
   rw[e] at this;cases this
  ·intro h
   have q:((fnN 14).scope.names.map (·.1)).contains ("__debug__":Str)=false:=by kernel_rfl
   rw[DZ.mpr h] at q;cases q
 ·have:=Az.mp Sj f (Ro hf e)
  rw[hs] at this
  cases this
theorem Lw {x:Str}{v:V}:∀{l:List (Str×V)},Cc x l=some v→(x,v)∈l
 |[],h=>AP h
 |q::l,h=>by
  rw[FS] at h
  by_cases e:x=q.1
  ·rw[if_pos e] at h
   rw[e,←AH h]
   exact .head _
  ·rw[if_neg e] at h
   exact .tail _ (Lw h)
theorem Vs:∀q∈globL,bB q:=by
 unfold globL
 repeat' first
  |exact List.forall_mem_nil _
  |refine List.forall_mem_cons.mpr ⟨?_,?_⟩
  |exact .inl rfl
  |exact .inr ⟨_,rfl,by first|boot_by_name|rfl|kernel_rfl,by decide⟩
theorem aK:(globL.all fun q=>Gw q.2)=true:=by kernel_rfl
theorem PC {v:V}{u:Value}(h:V5 v=some u):Ag (th w K p base ns a loose mg mb) ⟨[],[]⟩ v u:=by
 rcases v with _|_|_|_|_|_|_|_|_|_|_|⟨n⟩|_<;>first|exact AP h|exact(AH h).symm|skip
 rcases n with _|n
 ·exact(AH h).symm
 rcases n with _|n
 ·exact(AH h).symm
 rcases n with _|n
 ·exact(AH h).symm
 exact AP h
theorem Vr (C:I1 w K){x:Str}{v:V}(h:(S ns).glob x=some v):∃u,Ag (th w K p base ns a loose mg mb) ⟨[],[]⟩ v u∧(nsIn K Cb x=some (some u)∨(nsIn K Cb x=some none∧bootBuiltins x=some u∧x≠"__name__")):=by
 have hm:=Lw h
 have h1:=Az.mp C.gl _ hm
 have h2:=Vs _ hm
 unfold ZZ at h1
 cases z:Te v with
 |true=>
  rw[z] at h1
  refine Dx (h2.resolve_left fun e=>AI (e.symm.trans z)) fun u e1 e2 e3=>?_
  exact⟨u,PC e1,.inr ⟨eq_of_beq h1,e2,e3⟩⟩
 |false=>
  rw[z] at h1
  have h1:=AJ.mp h1
  refine EB (DA.mp h1.1) fun u e=>?_
  exact⟨u,PC e,.inl ((eq_of_beq h1.2).trans (congrArg some e))⟩
theorem YT (C:I1 w K){mean:ExcName→Option Value}(X:K.In base)(T:PyProof.Rows.Top p loose mean mg mb base):Top (th w K p base ns a loose mg mb):=
 ⟨X,topRead_of T,⟨mean,T⟩,T.nolimit,fun x v h=>Az.mp aK _ (Lw h),fun x v h=>Vr C h⟩
end
theorem Rc {θ:Tp}(AO:E0 θ)(SU:LW θ)(TO:Top θ){env:Env}(hk:env.scope.kind= .function)(hgl:env.globals=Cb)(hbi:env.builtins=builtinsNs)(hcells:env.cells=Br (env.locals+1) env.scope.names [])(hfr:env.frame=some env.locals)
  (K0:Below callerA θ.base [] θ.base){s:Shared}{bx:List (Str×V)}{bv:List (Str×Value)}{cells:BS}(F:Fr θ.base env.locals s.heap (bindL env.kindOf bv fun zz=>none))(N:News θ.base env.locals s.heap cells)(X0:CellsAre (bindC env.kindOf bv fun zz=>none) (Br (env.locals+1) env.scope.names []) cells)
  (hb:CC θ ⟨[none],[]⟩ bx bv)(hbn:(bv.map (·.1)).Nodup)
  (hn:(env.scope.names.map (·.1)).Nodup)(hd:("__debug__":Str)∉env.scope.names.map (·.1)){body:List Stmt}{hp:List O}{n:Nat}
  (run:Y ⟨θ.S,n⟩ (.ok (.bool true),hp) (DP (E θ.S 40) 16 body (entry θ.S env.scope bx [.void]) (HV fun v h=>.ret (.ok v) h) (He fun zz zz=>.none))){Q:Flow→Shared→Prop}{E:Value→Shared→Prop}
  (fin:∀h' tk m',Fr θ.base env.locals h' m'→Q (.ret (.bool true)) {s with heap:=h',toks:=tk}):wpAny (model θ.prog θ.w) (callerA.deeper env) (execs body env) Q E s:=by
 have G:BI ⟨⟨θ,env,θ.base,[]⟩,callerA.deeper env,[env],n⟩:=by
  refine⟨TO,hk,hgl,hbi,rfl,fun zz zz e=>e,fun h m news F N=>?_⟩
  exact(groundX (A:=callerA.deeper env) (R:=fun zz zz=>True) (s:={s with heap:=h}) K0 F N rfl hfr hk).2.1.frames
 have GD:BL ⟨⟨θ,env,θ.base,[]⟩,callerA.deeper env,[env],n⟩ 16:=⟨G,by show(callerA.units+3)+8 * 16+20≤cLine;decide,by show callerA.depth+1+2 * 16≤900;decide,fun zz=>rfl,.inr ⟨rfl,rfl⟩⟩
 have kind:∀{x:Str} {z:Al},(x,z)∈env.scope.names→env.kindOf x=some z:=fun hm=>lookup_nodup hn hm
 have sub:=fun n=>MI hn n [] EG (fun zz h=>nomatch h)
 refine AB (KV (θ:=θ) (J:=[]) (g:=θ.S.glob) (bx:=bx) (bv:=bv) (cm:=fun x=>bv.lookup x) (cells:=cells) (fun x u v zz h=>h) (names:=env.scope.names) (env.locals+1) [] [.void] [none] rfl fun x a hx hq zz=>?_) fun Dn e=>AB e fun Mn e=>?_
 ·refine AS (CellsAre.at X0 hq) fun ob h1 h2=>⟨ob,h1,h2.trans (congrArg Data.cell ?_)⟩
  show _=bv.lookup x
  rcases eb:bv.lookup x with _|v
  ·exact OA eb
  ·exact OB (by rw[kind hx];exact fun z=>nomatch z) hbn v eb
 have l2:B8 ⟨[none],[]⟩ ⟨[none]++Dn,[]⟩:=⟨fun i d h=>(Bz (AM.mp h).1).trans h,fun zz h=>h⟩
 have H0:CT θ [] ⟨[none]++Dn,[]⟩ [.void] [none] []:=⟨none,[],[],[],rfl,rfl,⟨rfl,rfl⟩,rfl,rfl⟩
 have hR:Aj ⟨θ,env,θ.base,[]⟩ ⟨[none]++Dn,[]⟩ (entry θ.S env.scope bx [.void]) s.heap:=by
  refine⟨_,Mn,F,fun p hp=>?_,?_,fun x a hx=>?_,e.4 _ _ (hb.mono l2) H0⟩
  ·have hp:p∈Mn++[]:=hp
   rw[AR] at hp
   exact N p (e.1 p hp).1
  ·show(AD (fun q:Addr×Obj=>q.1) (Mn++[])).Nodup
   rw[AR]
   exact e.2
  ·have db:∀z,(x,z)∈env.scope.names→(x==("__debug__":Str))=false:=fun z hm=>beq_eq_false_iff_ne.mpr fun e=>hd (e▸B9 (f:=(·.1)) hm)
   refine(e.5 x a hx).elim (fun z=>⟨db _ z.1,.inl ⟨kind z.1,?_⟩⟩) fun z=>z.elim (fun z=>⟨db _ z.1,.inr (.inl ⟨kind z.1,z.2,TO.globSt x a z.2⟩)⟩) fun z=>⟨db _ z.1,.inr (.inr ⟨kind z.1,z.2.elim fun i y=>y.elim fun q y=>⟨i,q,0,y.1,?_,y.2.2⟩⟩)⟩
   ·rw[z.2,HA]
    exact(hb.look x).elim (fun y=>by rw[y.1];exact⟨rfl,.inl rfl⟩) fun y=>BF y fun u v h1 h2 h3=>by rw[h1];exact⟨Hi h3,.inr ⟨v,O9 (kind z.1) hbn v h2,h3.mono l2⟩⟩
   ·show env.cells.lookup x=some q
    rw[hcells];exact lookup_nodup (sub (env.locals+1)) y.2.1
 have Z:=YW AO SU n
 have ZE:=Oj AO Z 40
 refine Ed (c:=⟨⟨θ,env,θ.base,[]⟩,callerA.deeper env,[env],n⟩) (ZE.ex _ 16 rfl rfl GD ⟨⟨[],rfl⟩,hfr⟩) body (k:=⟨[none]++Dn,[]⟩) _ _ s _ _ _ Q E (B8.refl _) hR run (fun k' fl flow st' h' tk l R hcf P=>?_) fun zz zz zz zz zz zz zz zz P=>P.elim
 rcases fl with _|_|_|⟨v⟩
 case next=>
  have P:(Except.ok V.none,st'.heap)=(Except.ok (V.bool true),hp):=P
  exact AP (congrArg SQ (Except.ok.inj (Prod.mk.inj P).1))
 case ret=>
  have P:(Except.ok v,st'.heap)=(Except.ok (V.bool true),hp):=P
  have e:v= .bool true:=Except.ok.inj (Prod.mk.inj P).1
  subst e
  exact AS hcf fun u e hu=>by
   have hu:u= .bool true:=hu
   rw[e,hu];exact fin h' tk _ R.F
 all_goals exact P.elim
theorem We {ns:List Int}{h':List O}(H:AK (S ns) 16 45 [.sta 9] [] [.void] (.bool true) h'):∃n,Y ⟨S ns,n⟩ (.ok (.bool true),h') (DP (E (S ns) 40) 16 (BZ 45) (entry (S ns) (fnN 45).scope [("script",.sta 9)] [.void]) (HV fun v h=>.ret (.ok v) h) (He fun zz zz=>.none)):=by
 have⟨m,hm⟩:=H (fun v h=>.ret (.ok v) h) (fun zz zz=>.none) (.ok (.bool true),h') ⟨0,rfl⟩
 rcases m with _|m
 ·exact hm.elim
 ·
  refine⟨m,?_⟩
  have hm:Y ⟨S ns,m⟩ (.ok (.bool true),h') (Gc (S ns) (E (S ns) 40) 16 45 [.sta 9] [] [.void] (fun v h=>.ret (.ok v) h) (fun zz zz=>.none)):=hm
  have e:Gc (S ns) (E (S ns) 40) 16 45 [.sta 9] [] [.void] (fun v h=>.ret (.ok v) h) (fun zz zz=>.none)=DP (E (S ns) 40) 16 (BZ 45) (entry (S ns) (fnN 45).scope [("script",.sta 9)] [.void]) (HV fun v h=>.ret (.ok v) h) (He fun zz zz=>.none):=by kernel_rfl
  rw[e] at hm
  exact hm
theorem QI {θ:Tp}{k:Kn}:∀{ns:List Int} {vs:List Value},IntsAre vs ns→Am θ k (ns.map .int) vs:=by
 intro ns vs h
 induction h with
 |nil=>rfl
 |cons n t h ih=>exact .cons (.int _ _) ih
theorem aF:((fnN 45).scope.names.map (·.1)).Nodup:=by decide+kernel
theorem aQ:("__debug__":Str)∉(fnN 45).scope.names.map (·.1):=by decide+kernel
theorem Tb {w:World}{K:Frag}{p:Cg}{base:Heap}{ns:List Int}{a:Addr}{loose:List Str}{mg mb:Str→Option Value}(C:I1 w K){mean:ExcName→Option Value}(X:K.In base)(T:PyProof.Rows.Top p loose mean mg mb base)
  {vs:List Value}(hI:IntsAre vs ns)(hL:base.IsList a vs.toArray){h':List O}(H:AK (S ns) 16 45 [.sta 9] [] [.void] (.bool true) h')
  {env:Env}(hs:env.scope=(fnN 45).scope)(hgl:env.globals=Cb)(hbi:env.builtins=builtinsNs)(hcells:env.cells=Br (env.locals+1) env.scope.names [])(hfr:env.frame=some env.locals)
  (K0:Below callerA base [] base){s:Shared}{cells:BS}{bv:List (Str×Value)}(F:Fr base env.locals s.heap (bindL env.kindOf bv fun zz=>none))(N:News base env.locals s.heap cells)(X0:CellsAre (bindC env.kindOf bv fun zz=>none) (Br (env.locals+1) env.scope.names []) cells)(hbv:bv=([("script",.ref a)]:List (Str×Value))){body:List Stmt}(hbody:body=BZ 45){Q:Flow→Shared→Prop}{E:Value→Shared→Prop}
  (fin:∀h' tk m',Fr base env.locals h' m'→Q (.ret (.bool true)) {s with heap:=h',toks:=tk}):wpAny (model PySem.Challenge.rw_te0006_02.row.prog w) (callerA.deeper env) (execs body env) Q E s:=by
 have⟨n,hr⟩:=We H
 subst hbody hbv
 have hv:Am (th w K p base ns a loose mg mb) ⟨[],[]⟩ (ns.map .int) vs:=QI hI
 refine Rc (θ:=th w K p base ns a loose mg mb) (bx:=[("script",.sta 9)]) (bv:=[("script",.ref a)]) (hp:=h') (n:=n) (ZF C X hv hL) (WN C) (YT C X T) ?_ hgl hbi hcells hfr K0 F N X0 ⟨_,[],rfl,rfl,rfl⟩ ?_ ?_ ?_ ?_ fin
 ·rw[hs];kernel_rfl
 ·exact Bw.mpr ⟨Ap,EG⟩
 ·rw[hs];exact aF
 ·rw[hs];exact aQ
 ·rw[hs];exact hr
universe u0 u1 u2 u3
theorem SA {α0:Sort u0}{A0:α0→Prop}{A1:α0→Prop}{A2:α0→Prop}{A3:α0→Prop}{G:Prop}(h:∃x0:α0,A0 x0∧A1 x0∧A2 x0∧A3 x0)(k:∀x0,A0 x0→A1 x0→A2 x0→A3 x0→G):G:=AB h fun x0 h=>k x0 h.1 h.2.1 h.2.2.1 h.2.2.2
theorem Hg {α0:Sort u0}{α1:Sort u1}{A0:α0→α1→Prop}{A1:α0→α1→Prop}{A2:α0→α1→Prop}{A3:α0→α1→Prop}{G:Prop}(h:∃x0:α0,∃x1:α1,A0 x0 x1∧A1 x0 x1∧A2 x0 x1∧A3 x0 x1)(k:∀x0 x1,A0 x0 x1→A1 x0 x1→A2 x0 x1→A3 x0 x1→G):G:=AB h fun x0 h=>AB h fun x1 h=>k x0 x1 h.1 h.2.1 h.2.2.1 h.2.2.2
theorem bG {α0:Sort u0}{α1:Sort u1}{α2:Sort u2}{A0:α0→α1→α2→Prop}{A1:α0→α1→α2→Prop}{G:Prop}(h:∃x0:α0,∃x1:α1,∃x2:α2,A0 x0 x1 x2∧A1 x0 x1 x2)(k:∀x0 x1 x2,A0 x0 x1 x2→A1 x0 x1 x2→G):G:=AB h fun x0 h=>AB h fun x1 h=>AB h fun x2 h=>k x0 x1 x2 h.1 h.2
theorem S8 {α0:Sort u0}{α1:Sort u1}{α2:Sort u2}{A0:α0→α1→α2→Prop}{A1:α0→α1→α2→Prop}{A2:α0→α1→α2→Prop}{A3:α0→α1→α2→Prop}{A4:α0→α1→α2→Prop}{G:Prop}(h:∃x0:α0,∃x1:α1,∃x2:α2,A0 x0 x1 x2∧A1 x0 x1 x2∧A2 x0 x1 x2∧A3 x0 x1 x2∧A4 x0 x1 x2)(k:∀x0 x1 x2,A0 x0 x1 x2→A1 x0 x1 x2→A2 x0 x1 x2→A3 x0 x1 x2→A4 x0 x1 x2→G):G:=AB h fun x0 h=>AB h fun x1 h=>AB h fun x2 h=>k x0 x1 x2 h.1 h.2.1 h.2.2.1 h.2.2.2.1 h.2.2.2.2
structure Sc where
 B:List Nat
 p:Nat
 ix:Nat
 ln:Nat
 cl:Nat
 dn:Bool
 tk:Nat
 tn:Nat
 ind:Nat
 ask:Bool
 keys:Nat
 dt:Int
noncomputable def am (σ:Sc):List (Str×V):=
 [("name",.str "<unicode string>"),("stream",.none),("stream_pointer",.int 0),("eof",.bool true),("buffer",.str ⟨σ.B.toArray⟩),("pointer",.int (σ.p:Int)),("raw_buffer",.none),("raw_decode",.none),("encoding",.none),("index",.int (σ.ix:Int)),("line",.int (σ.ln:Int)),("column",.int (σ.cl:Int)),("done",.bool σ.dn),("flow_level",.int 0),("tokens",.obj (σ.tk+1)),("tokens_taken",.int (σ.tn:Int)),("indent",.int σ.dt),("indents",.obj (σ.ind+1)),("allow_simple_key",.bool σ.ask),("possible_simple_keys",.obj (σ.keys+1))]
noncomputable def scO (σ:Sc):O:=.inst 8 (am σ)
theorem As {n:Nat}(h:n≤lim):BE n=true:=Nat.ble_eq_true_of_le h
theorem Gk {n k:Nat}(h:k<n)(hz:n≤lim):FE (k:Int) n=some k:=by
 have hz':n≤1000000:=hz
 unfold FE
 rw[if_pos hz',if_pos (by lia),if_pos (by lia)]
 rfl
theorem Hj {B:List Nat}{k c:Nat}(h:B[k]? =some c):k<B.length:=(AM.mp h).1
set_option backward.match.sparseCases false in
noncomputable def Pk:Stmt→Expr×List Stmt×List Stmt
 | .While t b _ _=>(t,b,[])
 | .For t _ b _ _=>(t,b,[])
 | .If t b e _=>(t,b,e)
 |_=>(.Constant .none 0 default,[],[])
noncomputable def wT (s:Stmt):Expr:=(Pk s).1
noncomputable def wB (s:Stmt):List Stmt:=(Pk s).2.1
noncomputable def wE (s:Stmt):List Stmt:=(Pk s).2.2
theorem an {a b:Prop}(x:a)(y:b):a∧b:=⟨x,y⟩
theorem SD (t:Str)(c:Nat):B0 t ⟨#[c]⟩=decide (c∈t.cps.toList):=by
 have h:=StrLaws.found_iff t ⟨#[c]⟩
 have h2:(∃i,i+(⟨#[c]⟩:Str).length≤t.length∧EI.Str.subAt t ⟨#[c]⟩ i=true)↔c∈t.cps.toList:=by
  constructor
  ·rintro⟨i,hi⟩
   exact List.mem_of_getElem? ((StrLaws.subAt_one t c i).mp hi)
  ·intro hm
   refine EB (List.getElem?_of_mem hm) fun i hi=>?_
   exact⟨i,(StrLaws.subAt_one t c i).mpr hi⟩
 show(!(EI.Str.occurrences t ⟨#[c]⟩ 0 t.length 1).isEmpty)=_
 rw[Bool.eq_iff_iff,h,h2,decide_eq_true_eq]
theorem Rn (t:String)(c:Nat){L:List Nat}(h:t.toList.map GF=L):B0 (A8 t) ⟨#[c]⟩=decide (c∈L):=by
 rw[SD,signs_ofString,h]
theorem Ha {t:String}{c:Nat}{L:List Nat}(h:t.toList.map GF=L)(m:c∈L):B0 (A8 t) ⟨#[c]⟩=true:=(Rn t c h).trans (decide_eq_true m)
theorem Hb {t:String}{c:Nat}{L:List Nat}(h:t.toList.map GF=L)(m:c∉L):B0 (A8 t) ⟨#[c]⟩=false:=(Rn t c h).trans (decide_eq_false m)
theorem HS {a b:Str}:a=b↔a.cps.toList=b.cps.toList:=by
 constructor
 ·exact fun h=>by rw[h]
 ·intro h
  obtain⟨a⟩:=a
  obtain⟨b⟩:=b
  have h:a.toList=b.toList:=h
  rw[Array.toList_inj.mp h]
theorem Ga {t:String}{c k:Nat}(h:t.toList.map GF=[k])(n:c≠k):decide ((⟨#[c]⟩:Str)=A8 t)=false:=
 decide_eq_false fun e=>by rw[HS,signs_ofString,h] at e;exact n (AZ e).1
theorem Gb {t:String}{l L:List Nat}(h:t.toList.map GF=L)(n:l≠L):decide ((⟨l.toArray⟩:Str)=A8 t)=false:=
 decide_eq_false fun e=>by rw[HS,signs_ofString,h] at e;exact n e
theorem Ih {t:String}{l L:List Nat}(h:t.toList.map GF=L)(n:l=L):decide ((⟨l.toArray⟩:Str)=A8 t)=true:=
 decide_eq_true (by rw[HS,signs_ofString,h];exact n)
theorem Yi {c:Nat}(h:c∈[10,133,8232,8233]):B0 (A8 "\n\u0085\u2028\u2029") ⟨#[c]⟩=true:=Ha (by decide) h
theorem Yj {c:Nat}(h:c∉[10,133,8232,8233]):B0 (A8 "\n\u0085\u2028\u2029") ⟨#[c]⟩=false:=Hb (by decide) h
theorem Z5 {c:Nat}(h:c∈[13,10,133]):B0 (A8 "\u000d\n\u0085") ⟨#[c]⟩=true:=Ha (by decide) h
theorem Ux {c:Nat}(h:c∉[13,10,133]):B0 (A8 "\u000d\n\u0085") ⟨#[c]⟩=false:=Hb (by decide) h
theorem YO {c:Nat}(h:c∈[8232,8233]):B0 (A8 "\u2028\u2029") ⟨#[c]⟩=true:=Ha (by decide) h
theorem YP {c:Nat}(h:c∉[8232,8233]):B0 (A8 "\u2028\u2029") ⟨#[c]⟩=false:=Hb (by decide) h
theorem Gd {c:Nat}(h:c∈[13,10,133,8232,8233]):B0 (A8 "\u000d\n\u0085\u2028\u2029") ⟨#[c]⟩=true:=Ha (by decide) h
theorem Mq {c:Nat}(h:c∉[13,10,133,8232,8233]):B0 (A8 "\u000d\n\u0085\u2028\u2029") ⟨#[c]⟩=false:=Hb (by decide) h
theorem WD {c:Nat}(h:c∈[0,13,10,133,8232,8233]):B0 (A8 "\u0000\u000d\n\u0085\u2028\u2029") ⟨#[c]⟩=true:=Ha (by decide) h
theorem WE {c:Nat}(h:c∉[0,13,10,133,8232,8233]):B0 (A8 "\u0000\u000d\n\u0085\u2028\u2029") ⟨#[c]⟩=false:=Hb (by decide) h
theorem QZ {c:Nat}(h:c∈[0,32,9,13,10,133,8232,8233]):B0 (A8 "\u0000 \t\u000d\n\u0085\u2028\u2029") ⟨#[c]⟩=true:=Ha (by decide) h
theorem IB {c:Nat}(h:c∉[0,32,9,13,10,133,8232,8233]):B0 (A8 "\u0000 \t\u000d\n\u0085\u2028\u2029") ⟨#[c]⟩=false:=Hb (by decide) h
theorem WQ {c:Nat}(h:c∈[39,34,92,0,32,9,13,10,133,8232,8233]):B0 (A8 "'\"\\\u0000 \t\u000d\n\u0085\u2028\u2029") ⟨#[c]⟩=true:=Ha (by decide) h
theorem WR {c:Nat}(h:c∉[39,34,92,0,32,9,13,10,133,8232,8233]):B0 (A8 "'\"\\\u0000 \t\u000d\n\u0085\u2028\u2029") ⟨#[c]⟩=false:=Hb (by decide) h
theorem Zv {c:Nat}(h:c∈[34,92]):B0 (A8 "\"\\") ⟨#[c]⟩=true:=Ha (by decide) h
theorem Zw {c:Nat}(h:c∉[34,92]):B0 (A8 "\"\\") ⟨#[c]⟩=false:=Hb (by decide) h
theorem V1 {c:Nat}(h:c∈[32,9]):B0 (A8 " \t") ⟨#[c]⟩=true:=Ha (by decide) h
theorem V2 {c:Nat}(h:c∉[32,9]):B0 (A8 " \t") ⟨#[c]⟩=false:=Hb (by decide) h
theorem ba {c:Nat}(h:c∈[48,49,50,51,52,53,54,55,56,57,65,66,67,68,69,70,97,98,99,100,101,102]):B0 (A8 "0123456789ABCDEFabcdef") ⟨#[c]⟩=true:=Ha (by decide) h
theorem bc {c:Nat}(h:c∉[48,49,50,51,52,53,54,55,56,57,65,66,67,68,69,70,97,98,99,100,101,102]):B0 (A8 "0123456789ABCDEFabcdef") ⟨#[c]⟩=false:=Hb (by decide) h
theorem UW {c:Nat}(h:c∈[9,10,13,133]):B0 (A8 "\t\n\u000d\u0085") ⟨#[c]⟩=true:=Ha (by decide) h
theorem Md {c:Nat}(h:c∉[9,10,13,133]):B0 (A8 "\t\n\u000d\u0085") ⟨#[c]⟩=false:=Hb (by decide) h
theorem I6:decide ((⟨#[13]⟩:Str)=A8 "\u000d")=true:=by decide+kernel
theorem aR {c:Nat}(h:c≠13):decide ((⟨#[c]⟩:Str)=A8 "\u000d")=false:=Ga (by decide) h
theorem bj:decide ((⟨#[10]⟩:Str)=A8 "\n")=true:=by decide+kernel
theorem aD {c:Nat}(h:c≠10):decide ((⟨#[c]⟩:Str)=A8 "\n")=false:=Ga (by decide) h
theorem bg:decide ((⟨#[65279]⟩:Str)=A8 "\ufeff")=true:=by decide+kernel
theorem Uz {c:Nat}(h:c≠65279):decide ((⟨#[c]⟩:Str)=A8 "\ufeff")=false:=Ga (by decide) h
theorem bk:decide ((⟨#[34]⟩:Str)=A8 "\"")=true:=by decide+kernel
theorem bl {c:Nat}(h:c≠34):decide ((⟨#[c]⟩:Str)=A8 "\"")=false:=Ga (by decide) h
theorem bh:decide ((⟨#[39]⟩:Str)=A8 "'")=true:=by decide+kernel
theorem Sq {c:Nat}(h:c≠39):decide ((⟨#[c]⟩:Str)=A8 "'")=false:=Ga (by decide) h
theorem bp:decide ((⟨#[92]⟩:Str)=A8 "\\")=true:=by decide+kernel
theorem bq {c:Nat}(h:c≠92):decide ((⟨#[c]⟩:Str)=A8 "\\")=false:=Ga (by decide) h
theorem bW:decide ((⟨#[0]⟩:Str)=A8 "\u0000")=true:=by decide+kernel
theorem Ku {c:Nat}(h:c≠0):decide ((⟨#[c]⟩:Str)=A8 "\u0000")=false:=Ga (by decide) h
theorem Zp:decide ((⟨#[32]⟩:Str)=A8 " ")=true:=by decide+kernel
theorem Zq {c:Nat}(h:c≠32):decide ((⟨#[c]⟩:Str)=A8 " ")=false:=Ga (by decide) h
theorem b9:decide ((⟨#[35]⟩:Str)=A8 "#")=true:=by decide+kernel
theorem Rq {c:Nat}(h:c≠35):decide ((⟨#[c]⟩:Str)=A8 "#")=false:=Ga (by decide) h
theorem bI:decide ((⟨#[45]⟩:Str)=A8 "-")=true:=by decide+kernel
theorem bJ {c:Nat}(h:c≠45):decide ((⟨#[c]⟩:Str)=A8 "-")=false:=Ga (by decide) h
theorem bM {l:List Nat}(n:l=[13,10]):decide ((⟨l.toArray⟩:Str)=A8 "\u000d\n")=true:=Ih (by decide) n
theorem Xi {l:List Nat}(n:l≠[13,10]):decide ((⟨l.toArray⟩:Str)=A8 "\u000d\n")=false:=Gb (by decide) n
theorem Jt {l:List Nat}(n:l=[45,45,45]):decide ((⟨l.toArray⟩:Str)=A8 "---")=true:=Ih (by decide) n
theorem GX {l:List Nat}(n:l≠[45,45,45]):decide ((⟨l.toArray⟩:Str)=A8 "---")=false:=Gb (by decide) n
theorem LI {l:List Nat}(n:l=[46,46,46]):decide ((⟨l.toArray⟩:Str)=A8 "...")=true:=Ih (by decide) n
theorem Nw {l:List Nat}(n:l≠[46,46,46]):decide ((⟨l.toArray⟩:Str)=A8 "...")=false:=Gb (by decide) n
theorem IF {B:List Nat}{k c:Nat}(h:B[k]? =some c):B.toArray[k]? =some c:=List.getElem?_toArray.trans h
theorem bY {a b:Nat}(h:a<b):decide ((a:Int)<(b:Int))=true:=decide_eq_true (Bl.mpr h)
theorem bZ {a b:Nat}(h:b≤a):decide ((a:Int)<(b:Int))=false:=decide_eq_false fun z=>DR.mpr h (Bl.mp z)
theorem Py {a b:Nat}(h:a≤b):decide ((a:Int)≤(b:Int))=true:=decide_eq_true (Int.ofNat_le.mpr h)
theorem Q0 {a b:Nat}(h:b<a):decide ((a:Int)≤(b:Int))=false:=decide_eq_false fun z=>G7.mpr h (Int.ofNat_le.mp z)
theorem bd {a:Int}:decide (a=a)=true:=decide_eq_true rfl
theorem be {a b:Nat}(h:a≠b):decide ((a:Int)=(b:Int))=false:=decide_eq_false fun z=>h (Int.ofNat.inj z)
theorem bV {a:Nat}:decide (((a+1:Nat):Int)≠0)=true:=decide_eq_true (by lia)
theorem bU {α:Type}{a:α}{l:List α}:decide ((a::l).length≠0)=true:=decide_eq_true (by simp)
theorem BR {n k d:Nat}:IV n (.int (k:Int)) d=some (min k n):=by
 show some (if 0≤(k:Int) then min (k:Int).toNat n else((k:Int)+n).toNat)=_
 rw[if_pos (by lia)]
 rfl
theorem Gf {B:List Nat}(p n:Nat):B1 B (min p B.length) (min (p+n) B.length)=(B.drop p).take n:=by
 unfold B1
 rw[List.drop_take]
 by_cases h:p≤B.length
 ·rw[Nat.min_eq_left h]
  by_cases q:p+n≤B.length
  ·rw[Nat.min_eq_left q,Nat.add_sub_cancel_left]
  ·have q:=Bu (G7.mp q)
   rw[Nat.min_eq_right q,FQ (CI Dp),FQ (by rw[Dp];exact Nat.sub_le_of_le_add (Bv p n▸q))]
 ·have h:=Bu (G7.mp h)
  rw[List.drop_eq_nil_of_le (Nat.le_min.mpr ⟨h,AT _⟩),List.drop_eq_nil_of_le h,FW,FW]
theorem av {n:Nat}(h:n≤lim):(decide ((0:Int)=0)&&BE n)=true:=by rw[As h];rfl
theorem gs {l:List O}{n:Nat}{o o':O}(h:l[n]? =some o):(l.set n o')[n]? =some o':=DS (AM.mp h).1
theorem gn {l:List O}{n m:Nat}{o o':O}(e:m≠n)(h:l[n]? =some o):(l.set m o')[n]? =some o:=(Aa e).trans h
theorem ga {l r:List O}{o:O}:(l++o::r)[l.length]? =some o:=by rw[Cu (AT _),Eu];rfl
theorem gl {l r:List O}{n:Nat}{o:O}(h:l[n]? =some o):(l++r)[n]? =some o:=(Bz (AM.mp h).1).trans h
theorem NO {l:List O}{n:Nat}{o:O}(h:l[n]? =some o):l.set n o=l:=by
 refine EB (AM.mp h) fun hl e=>?_
 rw[←e,List.set_getElem_self]
theorem BA {u v:V}(h:Cn u=true)(h2:Gw v=false):Fs u v=true:=by unfold Fs;rw[h,h2];rfl
noncomputable def Cm (S:BD)(d:Nat)(ss:List Stmt)(s:St)(f:Fl)(s':St):Prop:=∀k e o,Dt S o (k f s')→Dt S o (DP (E S 40) d ss s k e)
noncomputable def aw (S:BD)(is:List E4)(m d:Nat)(ss:List Stmt)(s:St):KF→KE→PO:=fun k e=>Cr S is (DP (E S m) d ss s k e)
theorem Cm.by {S:BD}{d:Nat}{ss:List Stmt}{s:St}{f:Fl}{s':St}(is:List E4){p:Prop}(hp:p)(e:aw S is 40 d ss s=Wf p f s'):Cm S d ss s f s':=
 fun k e' o y=>Di hp (IW e k e') y
theorem P8 (r:Fh)(d:Nat)(a b:List Stmt):∀(s:St) (k:Fl→St→Au) (e:V→St→Au),DP r d (a++b) s k e=DP r d a s (fun f s'=>LL (DP r d b) f s' k e) e:=by
 induction a with
 |nil=>exact fun s k e=>rfl
 |cons x a ih=>
  intro s k e
  show r.ex d x s (fun f s'=>LL (DP r d (a++b)) f s' k e) e=r.ex d x s (fun f s'=>LL (DP r d a) f s' (fun f s'=>LL (DP r d b) f s' k e) e) e
  refine congrArg (fun z=>r.ex d x s z e) (funext fun f=>funext fun s'=>?_)
  rcases f with _|_
  case next=>exact ih s' k e
  all_goals rfl
theorem Cm.app {S:BD}{d:Nat}{a b:List Stmt}{s s1 s2:St}{f:Fl}(x:Cm S d a s .next s1)(y:Cm S d b s1 f s2):Cm S d (a++b) s f s2:=fun k e o z=>by
 rw[P8];exact x _ e o (y k e o z)
theorem Cm.out {S:BD}{d:Nat}{a b:List Stmt}{s s1:St}{v:V}(x:Cm S d a s (.ret v) s1):Cm S d (a++b) s (.ret v) s1:=fun k e o z=>by
 rw[P8];exact x _ e o z
theorem An.ret {S:BD}{d:Nat}{t:Expr}{b:List Stmt}{s s':St}{v:V}(hT:∀k e,(E S 40).tr d t s k e=k true s)(x:Cm S d b s (.ret v) s'):An S d t b s (.ret v) s':=fun k e o z=>by
 refine Dt.stp ?_
 show Dt S o ((E S 40).tr d t s (fun q s=>Ep q ((DP (E S 40) d b).bind (Ib (Ia d t b))) (.pure .next) s k e) e)
 rw[hT]
 exact(x (fun f s=>Ib (Ia d t b) f s k e) e o z).imp fun n h=>h
theorem An.next {S:BD}{d:Nat}{t:Expr}{b:List Stmt}{s s1 s':St}{f:Fl}(hT:∀k e,(E S 40).tr d t s k e=k true s)(x:Cm S d b s .next s1)(n:An S d t b s1 f s'):An S d t b s f s':=fun k e o z=>by
 refine Dt.stp ?_
 show Dt S o ((E S 40).tr d t s (fun q s=>Ep q ((DP (E S 40) d b).bind (Ib (Ia d t b))) (.pure .next) s k e) e)
 rw[hT]
 exact(x (fun f s=>Ib (Ia d t b) f s k e) e o (n k e o z)).imp fun n h=>h
theorem AK.rows {S:BD}{d f:Nat}{vs:List V}{kws:List (Str×V)}{h:List O}{b:List Stmt}{s s':St}{v:V}(e:∀k e,Gc S (E S 40) d f vs kws h k e=DP (E S 40) d b s (HV k) (He e))(x:Cm S d b s (.ret v) s'):AK S d f vs kws h v s'.heap:=
 fun k e' o y=>Dt.stp (by show Dt S o (Gc S (E S 40) d f vs kws h k e');rw[e];exact x _ _ o y)
theorem AK.as {S:BD}{d f:Nat}{vs:List V}{kws:List (Str×V)}{h:List O}{v v':V}{h' h'':List O}(x:AK S d f vs kws h v h')(e:v=v')(e':h'=h''):AK S d f vs kws h v' h'':=by subst e e';exact x
noncomputable def MK (B:List Nat)(p:Nat)(lc:Nat×Nat):Nat×Nat:=
 let c:=B.getD p 0
 if c∈[10,133,8232,8233] then(lc.1+1,0) else if c=13 then(if B.getD (p+1) 0=10 then(lc.1,lc.2+1) else(lc.1+1,0)) else if c=65279 then lc else(lc.1,lc.2+1)
noncomputable def L7 (B:List Nat):Nat→Nat→Nat×Nat→Nat×Nat
 |0,_,lc=>lc
 |k+1,p,lc=>L7 B k (p+1) (MK B p lc)
noncomputable def fwdN (n:Nat)(σ:Sc):Sc:={σ with p:=σ.p+n,ix:=σ.ix+n,ln:=(L7 σ.B n σ.p (σ.ln,σ.cl)).1,cl:=(L7 σ.B n σ.p (σ.ln,σ.cl)).2}
theorem Lx (B:List Nat)(b:Nat):∀(a p:Nat) (lc:Nat×Nat),L7 B (a+b) p lc=L7 B b (p+a) (L7 B a p lc)
 |0,p,lc=>by rw[C2];rfl
 |a+1,p,lc=>by rw[Nat.add_right_comm,L7,Lx B b a,L7,BV,Bv 1 a]
theorem BC (a b:Nat)(σ:Sc):fwdN (a+b) σ=fwdN b (fwdN a σ):=by
 unfold fwdN
 rw[Lx,BV,BV]
structure Rd (σ:Sc)(u:List Nat):Prop where
 at_:σ.B.drop σ.p=u
 z:σ.B.length≤lim
section
variable {ns:List Int}{σ:Sc}{d:Nat}{hs:List O}{x r:List Nat}{c a:Nat}
theorem Rd.skip (h:Rd σ (x++r)):Rd (fwdN x.length σ) r:=⟨by show σ.B.drop (σ.p+x.length)=r;rw[←List.drop_drop,h.at_,List.drop_left],h.z⟩
theorem Rd.next (h:Rd σ (a::r)):Rd (fwdN 1 σ) r:=Rd.skip (x:=[a]) h
theorem Rd.get (h:Rd σ (x++c::r)):σ.B[σ.p+x.length]? =some c:=by rw[←List.getElem?_drop,h.at_,Cu (AT _),Eu];rfl
theorem Rd.get0 (h:Rd σ (c::r)):σ.B[σ.p]? =some c:=Rd.get (x:=[]) h
theorem Rd.lt (h:Rd σ (x++c::r)):σ.p+x.length<σ.B.length:=Hj h.get
theorem Rd.len {u:List Nat}(h:Rd σ u):u.length≤lim:=by have:=h.z;rw[←h.at_,Dp];lia
theorem Rd.as {u v:List Nat}(h:Rd σ u)(e:u=v):Rd σ v:=e▸h
theorem EM (h:Rd σ (x++c::r)):AK (S ns) (d+1) 4 [.obj 0,.int (x.length:Int)] [] (scO σ::hs) (Aw c) (scO σ::hs):=by
 have hx:=Gk h.lt h.z
 have hy:=IF h.get
 exact AK.by [.v .nat (Sc.p σ+A9 x),.v .nat (c)] (an hx (an hy trivial)) (by kernel_rfl)
theorem Ba (h:Rd σ (c::r)):AK (S ns) (d+1) 4 [.obj 0] [] (scO σ::hs) (Aw c) (scO σ::hs):=by
 have hx:=Gk (Hj h.get0) h.z
 have hy:=IF h.get0
 exact AK.by [.v .nat (Sc.p σ),.v .nat (c)] (an hx (an hy trivial)) (by kernel_rfl)
theorem Ld {v:V}:AK (S ns) (d+1) 9 [.obj 0,v] [] (scO σ::hs) .none (scO σ::hs):=by
 exact AK.by [.a 1] trivial (by kernel_rfl)
theorem Hm {u:List Nat}(h:Rd σ u){n:Nat}:AK (S ns) (d+2) 5 [.obj 0,.int (n:Int)] [] (scO σ::hs) (.str ⟨(u.take n).toArray⟩) (scO σ::hs):=by
 have hz:=h.z
 rw[←h.at_,←Gf]
 by_cases q:σ.B.length≤σ.p+n
 ·have q1:=Py q
  exact AK.by [.t,.t,.c (V.none) (scO σ::hs),.t,.v .nat (min (Sc.p σ) (A9 (Sc.B σ))),.v .nat (min (Sc.p σ+n) (A9 (Sc.B σ)))] (an (As (n:=A9 (Sc.B σ)) (h:=hz)) (an q1 (an (Ld (ns:=ns) (σ:=σ) (d:=d) (hs:=hs) (v:=V.int (↑n:Int))) (an (As (n:=A9 (Sc.B σ)) (h:=hz)) (an (BR (n:=A9 (Sc.B σ)) (k:=Sc.p σ) (d:=0)) (an (BR (n:=A9 (Sc.B σ)) (k:=Sc.p σ+n) (d:=A9 (Sc.B σ))) trivial)))))) (by kernel_rfl)
 ·have q1:=Q0 (G7.mp q)
  exact AK.by [.t,.f,.t,.v .nat (min (Sc.p σ) (A9 (Sc.B σ))),.v .nat (min (Sc.p σ+n) (A9 (Sc.B σ)))] (an (As (n:=A9 (Sc.B σ)) (h:=hz)) (an q1 (an (As (n:=A9 (Sc.B σ)) (h:=hz)) (an (BR (n:=A9 (Sc.B σ)) (k:=Sc.p σ) (d:=0)) (an (BR (n:=A9 (Sc.B σ)) (k:=Sc.p σ+n) (d:=A9 (Sc.B σ))) trivial))))) (by kernel_rfl)
theorem Me (h:Rd σ (x++r)):AK (S ns) (d+2) 5 [.obj 0,.int (x.length:Int)] [] (scO σ::hs) (.str ⟨x.toArray⟩) (scO σ::hs):=by
 have:=Hm (ns:=ns) (d:=d) (hs:=hs) h (n:=x.length)
 rwa [List.take_left] at this
noncomputable def T6:Expr:=wT (Bo (BZ 6) 1)
noncomputable def B6:List Stmt:=wB (Bo (BZ 6) 1)
noncomputable abbrev HZ (k:Nat)(v:V):List (Str×V):=[("self",.obj 0),("length",.int (k:Int)),("ch",v),("len",.bi "len")]
theorem IG (k:Nat):((k+1:Nat):Int) - 1=(k:Int):=by lia
theorem IN {B:List Nat}{p c:Nat}(h:B[p]? =some c):B.getD p 0=c:=by rw[Cv,h];rfl
theorem Rs {c2:Nat}(h:Rd σ (c::c2::r)){k:Nat}{v:V}(hv:Cn v=true){s':St}(n:An (S ns) (d+1) T6 B6 ⟨HZ k (Aw c),scO (fwdN 1 σ)::hs⟩ .next s'):
  An (S ns) (d+1) T6 B6 ⟨HZ (k+1) v,scO σ::hs⟩ .next s':=by
 have hz:=h.z
 have hc:=h.get0
 have hc2:σ.B[σ.p+1]? =some c2:=Rd.get (x:=[c]) h
 have hx:=Gk (Hj hc) hz
 have hx2:=Gk (Hj hc2) hz
 have hy:=IF hc
 have hy2:=IF hc2
 have n:An (S ns) (d+1) T6 B6 ⟨HZ k (Aw c),scO {σ with p:=σ.p+1,ix:=σ.ix+1,ln:=(MK σ.B σ.p (σ.ln,σ.cl)).1,cl:=(MK σ.B σ.p (σ.ln,σ.cl)).2}::hs⟩ .next s':=n
 unfold MK at n
 rw[IN hc,IN hc2] at n
 by_cases q1:c∈[10,133,8232,8233]
 ·rw[if_pos q1] at n
  refine An.go (s1:=St.mk [(A8 "self",V.obj 0),(A8 "length",V.int ((↑(k+1):Int) - 1)),(A8 "ch",V.str (Str.mk #[c])),(A8 "len",V.bi "len")] (scO (Sc.mk (Sc.B σ) (Sc.p σ+1) (Sc.ix σ+1) (Sc.ln σ+1) 0 (Sc.dn σ) (Sc.tk σ) (Sc.tn σ) (Sc.ind σ) (Sc.ask σ) (Sc.keys σ) (Sc.dt σ))::hs)) [.t,.v .nat (Sc.p σ),.v .nat (c),.t,.t,.a 2] ?_ (an I6 (an hx (an hy (an (BA (u:=v) (v:=Aw c) (h:=hv) (h2:=(by rfl))) (an (Yi (c:=c) (h:=q1)) trivial))))) (by kernel_rfl)
  rw[IG];exact n
 ·rw[if_neg q1] at n
  by_cases q2:c=13
  ·subst q2
   rw[if_pos rfl] at n
   by_cases q3:c2=10
   ·subst q3
    rw[if_pos rfl] at n
    refine An.go (s1:=St.mk [(A8 "self",V.obj 0),(A8 "length",V.int ((↑(k+1):Int) - 1)),(A8 "ch",V.str (Str.mk #[13])),(A8 "len",V.bi "len")] (scO (Sc.mk (Sc.B σ) (Sc.p σ+1) (Sc.ix σ+1) (Sc.ln σ) (Sc.cl σ+1) (Sc.dn σ) (Sc.tk σ) (Sc.tn σ) (Sc.ind σ) (Sc.ask σ) (Sc.keys σ) (Sc.dt σ))::hs)) [.t,.v .nat (Sc.p σ),.v .nat (13),.t,.a 2,.v .nat (Sc.p σ+1),.v .nat (10),.a 5] ?_ (an I6 (an hx (an hy (an (BA (u:=v) (v:=Aw 13) (h:=hv) (h2:=(by rfl))) (an hx2 (an hy2 trivial)))))) (by kernel_rfl)
    rw[IG];exact n
   ·rw[if_neg q3] at n
    refine An.go (s1:=St.mk [(A8 "self",V.obj 0),(A8 "length",V.int ((↑(k+1):Int) - 1)),(A8 "ch",V.str (Str.mk #[13])),(A8 "len",V.bi "len")] (scO (Sc.mk (Sc.B σ) (Sc.p σ+1) (Sc.ix σ+1) (Sc.ln σ+1) 0 (Sc.dn σ) (Sc.tk σ) (Sc.tn σ) (Sc.ind σ) (Sc.ask σ) (Sc.keys σ) (Sc.dt σ))::hs)) [.t,.v .nat (Sc.p σ),.v .nat (13),.t,.a 2,.v .nat (Sc.p σ+1),.v .nat (c2),.t,.a 3] ?_ (an I6 (an hx (an hy (an (BA (u:=v) (v:=Aw 13) (h:=hv) (h2:=(by rfl))) (an hx2 (an hy2 (an (congrArg not (aD (c:=c2) (h:=q3))) trivial))))))) (by kernel_rfl)
    rw[IG];exact n
  ·rw[if_neg q2] at n
   by_cases q4:c=65279
   ·subst q4
    rw[if_pos rfl] at n
    refine An.go (s1:=St.mk [(A8 "self",V.obj 0),(A8 "length",V.int ((↑(k+1):Int) - 1)),(A8 "ch",V.str (Str.mk #[65279])),(A8 "len",V.bi "len")] (scO (Sc.mk (Sc.B σ) (Sc.p σ+1) (Sc.ix σ+1) (Sc.ln σ) (Sc.cl σ) (Sc.dn σ) (Sc.tk σ) (Sc.tn σ) (Sc.ind σ) (Sc.ask σ) (Sc.keys σ) (Sc.dt σ))::hs)) [.t,.v .nat (Sc.p σ),.v .nat (65279),.t,.a 6] ?_ (an I6 (an hx (an hy (an (BA (u:=v) (v:=Aw 65279) (h:=hv) (h2:=(by rfl))) trivial)))) (by kernel_rfl)
    rw[IG];exact n
   ·rw[if_neg q4] at n
    refine An.go (s1:=St.mk [(A8 "self",V.obj 0),(A8 "length",V.int ((↑(k+1):Int) - 1)),(A8 "ch",V.str (Str.mk #[c])),(A8 "len",V.bi "len")] (scO (Sc.mk (Sc.B σ) (Sc.p σ+1) (Sc.ix σ+1) (Sc.ln σ) (Sc.cl σ+1) (Sc.dn σ) (Sc.tk σ) (Sc.tn σ) (Sc.ind σ) (Sc.ask σ) (Sc.keys σ) (Sc.dt σ))::hs)) [.t,.v .nat (Sc.p σ),.v .nat (c),.t,.f,.f,.a 2,.t,.a 1] ?_ (an I6 (an hx (an hy (an (BA (u:=v) (v:=Aw c) (h:=hv) (h2:=(by rfl))) (an (Yj (c:=c) (h:=q1)) (an (aR (c:=c) (h:=q2)) (an (congrArg not (Uz (c:=c) (h:=q4))) trivial))))))) (by kernel_rfl)
    rw[IG];exact n
end
section
variable {ns:List Int}{d:Nat}{hs:List O}{r:List Nat}{c:Nat}
theorem Nk:∀{x:List Nat} {σ:Sc} {v:V},Cn v=true→Rd σ (x++c::r)→∃v',An (S ns) (d+1) T6 B6 ⟨HZ x.length v,scO σ::hs⟩ .next ⟨HZ 0 v',scO (fwdN x.length σ)::hs⟩:=by
 intro x
 induction x with
 |nil=>
  intro σ v hv h
  refine⟨v,?_⟩
  rw[show fwdN (A9 (α:=Nat) []) σ=σ from rfl]
  exact An.by [.a 1] trivial (by kernel_rfl)
 |cons a x ih=>
  intro σ v hv h
  refine EB (ih (σ:=fwdN 1 σ) (v:=Aw a) rfl (Rd.next h)) fun v' e=>?_
  rw[←BC] at e
  rw[AX,Bv x.length 1]
  refine⟨v',?_⟩
  rw[Bv 1] at e ⊢
  cases x with
  |nil=>exact Rs h hv e
  |cons b x=>exact Rs h hv e
theorem Lz {x:List Nat}{σ:Sc}(h:Rd σ (x++c::r)):AK (S ns) (d+2) 6 [.obj 0,.int (x.length:Int)] [] (scO σ::hs) .none (scO (fwdN x.length σ)::hs):=by
 refine EB (Nk (ns:=ns) (d:=d+1) (hs:=hs) (v:=.undef) rfl h) fun v' e=>?_
 have hz:=h.z
 by_cases q:σ.B.length≤σ.p+x.length+1
 ·have q1:=Py q
  exact AK.by [.t,.t,.c (V.none) (scO σ::hs),.w (Fl.next) (St.mk (HZ 0 v') (scO (fwdN (A9 x) σ)::hs))] (an (As (n:=A9 (Sc.B σ)) (h:=hz)) (an q1 (an (Ld (ns:=ns) (σ:=σ) (d:=d) (hs:=hs) (v:=V.int (↑(A9 x+1):Int))) (an e trivial)))) (by kernel_rfl)
 ·have q1:=Q0 (G7.mp q)
  exact AK.by [.t,.f,.w (Fl.next) (St.mk (HZ 0 v') (scO (fwdN (A9 x) σ)::hs))] (an (As (n:=A9 (Sc.B σ)) (h:=hz)) (an q1 (an e trivial))) (by kernel_rfl)
theorem Gx {σ:Sc}{a:Nat}(h:Rd σ (a::c::r)):AK (S ns) (d+2) 6 [.obj 0] [] (scO σ::hs) .none (scO (fwdN 1 σ)::hs):=by
 refine EB (Nk (ns:=ns) (d:=d+1) (hs:=hs) (v:=.undef) rfl (x:=[a]) h) fun v' e=>?_
 have e:An (S ns) (d+2) T6 B6 ⟨HZ 1 .undef,scO σ::hs⟩ .next ⟨HZ 0 v',scO (fwdN 1 σ)::hs⟩:=e
 have hz:=h.z
 by_cases q:σ.B.length≤σ.p+1+1
 ·have q1:=Py q
  exact AK.by [.t,.t,.c (V.none) (scO σ::hs),.w (Fl.next) (St.mk (HZ 0 v') (scO (fwdN 1 σ)::hs))] (an (As (n:=A9 (Sc.B σ)) (h:=hz)) (an q1 (an (Ld (ns:=ns) (σ:=σ) (d:=d) (hs:=hs) (v:=V.int (↑(1+1):Int))) (an e trivial)))) (by kernel_rfl)
 ·have q1:=Q0 (G7.mp q)
  exact AK.by [.t,.f,.w (Fl.next) (St.mk (HZ 0 v') (scO (fwdN 1 σ)::hs))] (an (As (n:=A9 (Sc.B σ)) (h:=hz)) (an q1 (an e trivial))) (by kernel_rfl)
end
theorem Cz (h:List O)(o o':O):(h++[o]).set h.length o'=h++[o']:=by
 rw[List.set_append_right _ _ (AT _),Eu];rfl
noncomputable def II (c:Nat)(n:Nat):List O→List (Str×V)→List (Str×V)→List O
 |l,_,[]=>l
 |l,acc,f::r=>II c n (l.set n (.inst c (acc++[f]))) (acc++[f]) r
theorem J9 (c:Nat)(l:List O)(r:List (Str×V)):∀acc,II c l.length (l++[.inst c acc]) acc r=l++[.inst c (acc++r)]:=by
 induction r with
 |nil=>exact fun acc=>by rw[AR];rfl
 |cons f r ih=>exact fun acc=>by unfold II;rw[Cz,ih];simp
section
variable {ns:List Int}{σ:Sc}{d:Nat}{hs l:List O}{a0:O}
theorem AK.ini {S:BD}{d f:Nat}{vs:List V}{c:Nat}{h:List O}{fs:List (Str×V)}(x:AK S d f vs [] h .none (a0::II c l.length (l++[.inst c []]) [] fs)):AK S d f vs [] h .none (a0::(l++[.inst c fs])):=by
 rw[J9] at x;exact x
theorem AK.inik {S:BD}{d f:Nat}{vs:List V}{kw:List (Str×V)}{c:Nat}{h:List O}{fs:List (Str×V)}(x:AK S d f vs kw h .none (a0::II c l.length (l++[.inst c []]) [] fs)):AK S d f vs kw h .none (a0::(l++[.inst c fs])):=by
 rw[J9] at x;exact x
noncomputable abbrev Mh (nm:Str)(a b c:Int)(bf:Str)(p:Int):List (Str×V):=[("name",.str nm),("index",.int a),("line",.int b),("column",.int c),("buffer",.str bf),("pointer",.int p)]
theorem Un {nm bf:Str}{a b c p:Int}:AK (S ns) (d+1) 0 [.obj (l.length+1),.str nm,.int a,.int b,.int c,.str bf,.int p] [] (a0::(l++[.inst 0 []])) .none (a0::(l++[.inst 0 (Mh nm a b c bf p)])):=by
 refine .ini ?_
 exact AK.by [.v .ob (O.inst 0 []),.v .ob (O.inst 0 [(A8 "name",V.str nm)]),.v .ob (O.inst 0 [(A8 "name",V.str nm),(A8 "index",V.int a)]),.v .ob (O.inst 0 [(A8 "name",V.str nm),(A8 "index",V.int a),(A8 "line",V.int b)]),.v .ob (O.inst 0 [(A8 "name",V.str nm),(A8 "index",V.int a),(A8 "line",V.int b),(A8 "column",V.int c)]),.v .ob (O.inst 0 [(A8 "name",V.str nm),(A8 "index",V.int a),(A8 "line",V.int b),(A8 "column",V.int c),(A8 "buffer",V.str bf)])] (an (ga (l:=l) (o:=O.inst 0 []) (r:=[])) (an (gs (o':=O.inst 0 [(A8 "name",V.str nm)]) (ga (l:=l) (o:=O.inst 0 []) (r:=[]))) (an (gs (o':=O.inst 0 [(A8 "name",V.str nm),(A8 "index",V.int a)]) (gs (o':=O.inst 0 [(A8 "name",V.str nm)]) (ga (l:=l) (o:=O.inst 0 []) (r:=[])))) (an (gs (o':=O.inst 0 [(A8 "name",V.str nm),(A8 "index",V.int a),(A8 "line",V.int b)]) (gs (o':=O.inst 0 [(A8 "name",V.str nm),(A8 "index",V.int a)]) (gs (o':=O.inst 0 [(A8 "name",V.str nm)]) (ga (l:=l) (o:=O.inst 0 []) (r:=[]))))) (an (gs (o':=O.inst 0 [(A8 "name",V.str nm),(A8 "index",V.int a),(A8 "line",V.int b),(A8 "column",V.int c)]) (gs (o':=O.inst 0 [(A8 "name",V.str nm),(A8 "index",V.int a),(A8 "line",V.int b)]) (gs (o':=O.inst 0 [(A8 "name",V.str nm),(A8 "index",V.int a)]) (gs (o':=O.inst 0 [(A8 "name",V.str nm)]) (ga (l:=l) (o:=O.inst 0 []) (r:=[])))))) (an (gs (o':=O.inst 0 [(A8 "name",V.str nm),(A8 "index",V.int a),(A8 "line",V.int b),(A8 "column",V.int c),(A8 "buffer",V.str bf)]) (gs (o':=O.inst 0 [(A8 "name",V.str nm),(A8 "index",V.int a),(A8 "line",V.int b),(A8 "column",V.int c)]) (gs (o':=O.inst 0 [(A8 "name",V.str nm),(A8 "index",V.int a),(A8 "line",V.int b)]) (gs (o':=O.inst 0 [(A8 "name",V.str nm),(A8 "index",V.int a)]) (gs (o':=O.inst 0 [(A8 "name",V.str nm)]) (ga (l:=l) (o:=O.inst 0 []) (r:=[]))))))) trivial)))))) (by kernel_rfl)
noncomputable def BM (σ:Sc):List (Str×V):=Mh "<unicode string>" σ.ix σ.ln σ.cl ⟨σ.B.toArray⟩ σ.p
noncomputable abbrev mk (σ:Sc):V:=.rcd 0 (BM σ)
theorem DK:AK (S ns) (d+2) 7 [.obj 0] [] (scO σ::hs) (mk σ) (scO σ::(hs++[.dead])):=by
 rw[←Cz hs (.inst 0 (BM σ))]
 unfold mk BM
 exact AK.by [.a 1,.c (V.none) (scO σ::(hs++[O.inst 0 (Mh (A8 "<unicode string>") (↑(Sc.ix σ):Int) (↑(Sc.ln σ):Int) (↑(Sc.cl σ):Int) (Str.mk (AG (Sc.B σ))) (↑(Sc.p σ):Int))])),.v .ob (O.inst 0 [(A8 "name",V.str (A8 "<unicode string>")),(A8 "index",V.int (↑(Sc.ix σ):Int)),(A8 "line",V.int (↑(Sc.ln σ):Int)),(A8 "column",V.int (↑(Sc.cl σ):Int)),(A8 "buffer",V.str (Str.mk (AG (Sc.B σ)))),(A8 "pointer",V.int (↑(Sc.p σ):Int))])] (an (Un (ns:=ns) (d:=d) (l:=hs) (a0:=scO σ) (nm:=A8 "<unicode string>") (bf:=Str.mk (AG (Sc.B σ))) (a:=(↑(Sc.ix σ):Int)) (b:=(↑(Sc.ln σ):Int)) (c:=(↑(Sc.cl σ):Int)) (p:=(↑(Sc.p σ):Int))) (an (ga (l:=hs) (o:=O.inst 0 [(A8 "name",V.str (A8 "<unicode string>")),(A8 "index",V.int (↑(Sc.ix σ):Int)),(A8 "line",V.int (↑(Sc.ln σ):Int)),(A8 "column",V.int (↑(Sc.cl σ):Int)),(A8 "buffer",V.str (Str.mk (AG (Sc.B σ)))),(A8 "pointer",V.int (↑(Sc.p σ):Int))]) (r:=[])) trivial)) (by kernel_rfl)
theorem XI {c1 c2:Nat}{f1 f2:List (Str×V)}:AK (S ns) (d+1) 11 [.obj (l.length+1),.rcd c1 f1,.rcd c2 f2] [("encoding",.none)] (a0::(l++[.inst 1 []])) .none (a0::(l++[.inst 1 [("start_mark",.rcd c1 f1),("end_mark",.rcd c2 f2),("encoding",.none)]])):=by
 refine .inik ?_
 exact AK.by [.v .ob (O.inst 1 []),.v .ob (O.inst 1 [(A8 "start_mark",V.rcd c1 f1)]),.v .ob (O.inst 1 [(A8 "start_mark",V.rcd c1 f1),(A8 "end_mark",V.rcd c2 f2)])] (an (ga (l:=l) (o:=O.inst 1 []) (r:=[])) (an (gs (o':=O.inst 1 [(A8 "start_mark",V.rcd c1 f1)]) (ga (l:=l) (o:=O.inst 1 []) (r:=[]))) (an (gs (o':=O.inst 1 [(A8 "start_mark",V.rcd c1 f1),(A8 "end_mark",V.rcd c2 f2)]) (gs (o':=O.inst 1 [(A8 "start_mark",V.rcd c1 f1)]) (ga (l:=l) (o:=O.inst 1 []) (r:=[])))) trivial))) (by kernel_rfl)
theorem XJ {c1 c2:Nat}{f1 f2:List (Str×V)}:AK (S ns) (d+1) 10 [.obj (l.length+1),.rcd c1 f1,.rcd c2 f2] [] (a0::(l++[.inst 2 []])) .none (a0::(l++[.inst 2 [("start_mark",.rcd c1 f1),("end_mark",.rcd c2 f2)]])):=by
 refine .ini ?_
 exact AK.by [.v .ob (O.inst 2 []),.v .ob (O.inst 2 [(A8 "start_mark",V.rcd c1 f1)])] (an (ga (l:=l) (o:=O.inst 2 []) (r:=[])) (an (gs (o':=O.inst 2 [(A8 "start_mark",V.rcd c1 f1)]) (ga (l:=l) (o:=O.inst 2 []) (r:=[]))) trivial)) (by kernel_rfl)
theorem Th {c1 c2:Nat}{f1 f2:List (Str×V)}:AK (S ns) (d+1) 10 [.obj (l.length+1),.rcd c1 f1,.rcd c2 f2] [] (a0::(l++[.inst 3 []])) .none (a0::(l++[.inst 3 [("start_mark",.rcd c1 f1),("end_mark",.rcd c2 f2)]])):=by
 refine .ini ?_
 exact AK.by [.v .ob (O.inst 3 []),.v .ob (O.inst 3 [(A8 "start_mark",V.rcd c1 f1)])] (an (ga (l:=l) (o:=O.inst 3 []) (r:=[])) (an (gs (o':=O.inst 3 [(A8 "start_mark",V.rcd c1 f1)]) (ga (l:=l) (o:=O.inst 3 []) (r:=[]))) trivial)) (by kernel_rfl)
theorem Tg {c1 c2:Nat}{f1 f2:List (Str×V)}:AK (S ns) (d+1) 10 [.obj (l.length+1),.rcd c1 f1,.rcd c2 f2] [] (a0::(l++[.inst 4 []])) .none (a0::(l++[.inst 4 [("start_mark",.rcd c1 f1),("end_mark",.rcd c2 f2)]])):=by
 refine .ini ?_
 exact AK.by [.v .ob (O.inst 4 []),.v .ob (O.inst 4 [(A8 "start_mark",V.rcd c1 f1)])] (an (ga (l:=l) (o:=O.inst 4 []) (r:=[])) (an (gs (o':=O.inst 4 [(A8 "start_mark",V.rcd c1 f1)]) (ga (l:=l) (o:=O.inst 4 []) (r:=[]))) trivial)) (by kernel_rfl)
theorem Nh {c1 c2:Nat}{f1 f2:List (Str×V)}:AK (S ns) (d+1) 10 [.obj (l.length+1),.rcd c1 f1,.rcd c2 f2] [] (a0::(l++[.inst 5 []])) .none (a0::(l++[.inst 5 [("start_mark",.rcd c1 f1),("end_mark",.rcd c2 f2)]])):=by
 refine .ini ?_
 exact AK.by [.v .ob (O.inst 5 []),.v .ob (O.inst 5 [(A8 "start_mark",V.rcd c1 f1)])] (an (ga (l:=l) (o:=O.inst 5 []) (r:=[])) (an (gs (o':=O.inst 5 [(A8 "start_mark",V.rcd c1 f1)]) (ga (l:=l) (o:=O.inst 5 []) (r:=[]))) trivial)) (by kernel_rfl)
noncomputable abbrev Om (v:Str)(a b:V)(y:Str):V:=.rcd 6 [("value",.str v),("plain",.bool false),("start_mark",a),("end_mark",b),("style",.str y)]
theorem XH {v y:Str}{c1 c2:Nat}{f1 f2:List (Str×V)}:AK (S ns) (d+1) 12 [.obj (l.length+1),.str v,.bool false,.rcd c1 f1,.rcd c2 f2,.str y] [] (a0::(l++[.inst 6 []])) .none (a0::(l++[.inst 6 [("value",.str v),("plain",.bool false),("start_mark",.rcd c1 f1),("end_mark",.rcd c2 f2),("style",.str y)]])):=by
 refine .ini ?_
 exact AK.by [.v .ob (O.inst 6 []),.v .ob (O.inst 6 [(A8 "value",V.str v)]),.v .ob (O.inst 6 [(A8 "value",V.str v),(A8 "plain",V.bool false)]),.v .ob (O.inst 6 [(A8 "value",V.str v),(A8 "plain",V.bool false),(A8 "start_mark",V.rcd c1 f1)]),.v .ob (O.inst 6 [(A8 "value",V.str v),(A8 "plain",V.bool false),(A8 "start_mark",V.rcd c1 f1),(A8 "end_mark",V.rcd c2 f2)])] (an (ga (l:=l) (o:=O.inst 6 []) (r:=[])) (an (gs (o':=O.inst 6 [(A8 "value",V.str v)]) (ga (l:=l) (o:=O.inst 6 []) (r:=[]))) (an (gs (o':=O.inst 6 [(A8 "value",V.str v),(A8 "plain",V.bool false)]) (gs (o':=O.inst 6 [(A8 "value",V.str v)]) (ga (l:=l) (o:=O.inst 6 []) (r:=[])))) (an (gs (o':=O.inst 6 [(A8 "value",V.str v),(A8 "plain",V.bool false),(A8 "start_mark",V.rcd c1 f1)]) (gs (o':=O.inst 6 [(A8 "value",V.str v),(A8 "plain",V.bool false)]) (gs (o':=O.inst 6 [(A8 "value",V.str v)]) (ga (l:=l) (o:=O.inst 6 []) (r:=[]))))) (an (gs (o':=O.inst 6 [(A8 "value",V.str v),(A8 "plain",V.bool false),(A8 "start_mark",V.rcd c1 f1),(A8 "end_mark",V.rcd c2 f2)]) (gs (o':=O.inst 6 [(A8 "value",V.str v),(A8 "plain",V.bool false),(A8 "start_mark",V.rcd c1 f1)]) (gs (o':=O.inst 6 [(A8 "value",V.str v),(A8 "plain",V.bool false)]) (gs (o':=O.inst 6 [(A8 "value",V.str v)]) (ga (l:=l) (o:=O.inst 6 []) (r:=[])))))) trivial))))) (by kernel_rfl)
theorem XG {t ix ln cl:Int}{r:Bool}{c1:Nat}{f1:List (Str×V)}:AK (S ns) (d+1) 13 [.obj (l.length+1),.int t,.bool r,.int ix,.int ln,.int cl,.rcd c1 f1] [] (a0::(l++[.inst 7 []])) .none (a0::(l++[.inst 7 [("token_number",.int t),("required",.bool r),("index",.int ix),("line",.int ln),("column",.int cl),("mark",.rcd c1 f1)]])):=by
 refine .ini ?_
 exact AK.by [.v .ob (O.inst 7 []),.v .ob (O.inst 7 [(A8 "token_number",V.int t)]),.v .ob (O.inst 7 [(A8 "token_number",V.int t),(A8 "required",V.bool r)]),.v .ob (O.inst 7 [(A8 "token_number",V.int t),(A8 "required",V.bool r),(A8 "index",V.int ix)]),.v .ob (O.inst 7 [(A8 "token_number",V.int t),(A8 "required",V.bool r),(A8 "index",V.int ix),(A8 "line",V.int ln)]),.v .ob (O.inst 7 [(A8 "token_number",V.int t),(A8 "required",V.bool r),(A8 "index",V.int ix),(A8 "line",V.int ln),(A8 "column",V.int cl)])] (an (ga (l:=l) (o:=O.inst 7 []) (r:=[])) (an (gs (o':=O.inst 7 [(A8 "token_number",V.int t)]) (ga (l:=l) (o:=O.inst 7 []) (r:=[]))) (an (gs (o':=O.inst 7 [(A8 "token_number",V.int t),(A8 "required",V.bool r)]) (gs (o':=O.inst 7 [(A8 "token_number",V.int t)]) (ga (l:=l) (o:=O.inst 7 []) (r:=[])))) (an (gs (o':=O.inst 7 [(A8 "token_number",V.int t),(A8 "required",V.bool r),(A8 "index",V.int ix)]) (gs (o':=O.inst 7 [(A8 "token_number",V.int t),(A8 "required",V.bool r)]) (gs (o':=O.inst 7 [(A8 "token_number",V.int t)]) (ga (l:=l) (o:=O.inst 7 []) (r:=[]))))) (an (gs (o':=O.inst 7 [(A8 "token_number",V.int t),(A8 "required",V.bool r),(A8 "index",V.int ix),(A8 "line",V.int ln)]) (gs (o':=O.inst 7 [(A8 "token_number",V.int t),(A8 "required",V.bool r),(A8 "index",V.int ix)]) (gs (o':=O.inst 7 [(A8 "token_number",V.int t),(A8 "required",V.bool r)]) (gs (o':=O.inst 7 [(A8 "token_number",V.int t)]) (ga (l:=l) (o:=O.inst 7 []) (r:=[])))))) (an (gs (o':=O.inst 7 [(A8 "token_number",V.int t),(A8 "required",V.bool r),(A8 "index",V.int ix),(A8 "line",V.int ln),(A8 "column",V.int cl)]) (gs (o':=O.inst 7 [(A8 "token_number",V.int t),(A8 "required",V.bool r),(A8 "index",V.int ix),(A8 "line",V.int ln)]) (gs (o':=O.inst 7 [(A8 "token_number",V.int t),(A8 "required",V.bool r),(A8 "index",V.int ix)]) (gs (o':=O.inst 7 [(A8 "token_number",V.int t),(A8 "required",V.bool r)]) (gs (o':=O.inst 7 [(A8 "token_number",V.int t)]) (ga (l:=l) (o:=O.inst 7 []) (r:=[]))))))) trivial)))))) (by kernel_rfl)
end
noncomputable abbrev BRK:List Nat:=[13,10,133,8232,8233]
noncomputable def AW (x:List Nat):V:=.str ⟨x.toArray⟩
inductive Dr:List Nat→List Nat→List Nat→Prop
 |crlf {r:List Nat}:Dr [13,10] [10] r
 |one {c:Nat} {r:List Nat}:c∈[13,10,133]→(∀r',c::r≠13::10::r')→Dr [c] [10] r
 |wide {c:Nat} {r:List Nat}:c∈[8232,8233]→Dr [c] [c] r
theorem Dr.head {b l r:List Nat}(h:Dr b l r){G:Prop}(k:∀a b',b=a::b'→a∈BRK→l≠[]→G):G:=by
 cases h with
 |crlf=>exact k 13 [10] rfl (.head _) (fun z=>nomatch z)
 |@one c r hc _=>exact k c [] rfl (by revert hc;simp only[AU,Ap,or_false];exact fun h=>h.elim .inl fun h=>.inr (h.elim .inl fun h=>.inr (.inl h))) (fun z=>nomatch z)
 |@wide c r hc=>exact k c [] rfl (.tail _ (.tail _ (.tail _ hc))) (fun z=>nomatch z)
theorem Dr.len {b l r:List Nat}(h:Dr b l r):l.length≤b.length∧1≤b.length:=by cases h<;>first|exact⟨AT 1,AT 1⟩|exact⟨by decide,by decide⟩
noncomputable abbrev M7:List Nat:=[0,32,9,13,10,133,8232,8233]
inductive EH:List Nat→Prop
 |no {u:List Nat}:u.take 3≠[45,45,45]→u.take 3≠[46,46,46]→EH u
 |dash {c:Nat} {r:List Nat}:c∉M7→EH ([45,45,45]++c::r)
 |dots {c:Nat} {r:List Nat}:c∉M7→EH ([46,46,46]++c::r)
inductive VD:List Nat→Prop
 |dash {c:Nat} {r:List Nat}:c∈M7→VD ([45,45,45]++c::r)
 |dots {c:Nat} {r:List Nat}:c∈M7→VD ([46,46,46]++c::r)
noncomputable abbrev D5 (ws:List Nat):Prop:=∀y∈ws,y∈[32,9]
inductive G6:List Nat→List Nat→List Nat→Prop
 |stop {ws:List Nat} {c:Nat} {u:List Nat}:D5 ws→c∉[32,9]→c∉BRK→EH (ws++c::u)→G6 ws [] (c::u)
 |more {ws b l x t r:List Nat}:D5 ws→Dr b l (x++r)→EH (ws++(b++(x++r)))→G6 x t r→G6 (ws++(b++x)) (l++t) r
theorem G6.rest {x t r:List Nat}(h:G6 x t r):∃c u,r=c::u:=by
 induction h with
 |stop=>exact⟨_,_,rfl⟩
 |more _ _ _ _ ih=>exact ih
noncomputable def Cw (xs:List (List Nat))(u:List Nat):Prop:=xs.length+u.length≤lim
theorem Cw.ok {xs:List (List Nat)}{u:List Nat}(h:Cw xs u):BE (xs.map AW).length=true:=As (by unfold Cw at h;rw[AQ];lia)
theorem Cw.app {xs ys:List (List Nat)}{x r:List Nat}(h:Cw xs (x++r))(e:ys.length≤x.length):Cw (xs++ys) r:=by unfold Cw at *;rw[AE] at *;lia
theorem Cw.ext {xs ys:List (List Nat)}{x r:List Nat}(h:Cw xs (x++r))(e:ys.length≤x.length):BE ((xs.map AW).length+(ys.map AW).length)=true:=As (by unfold Cw at h;rw[AE] at h;rw[AQ,AQ];lia)
theorem Cw.drop {xs:List (List Nat)}{x r:List Nat}(h:Cw xs (x++r)):Cw xs r:=by unfold Cw at *;rw[AE] at *;lia
theorem Cw.as {xs:List (List Nat)}{u v:List Nat}(h:Cw xs u)(e:u=v):Cw xs v:=e▸h
noncomputable def Ch (h:List O):Prop:=h.all DH=true
theorem Ch.app {h x:List O}(n:Ch h)(m:Ch x):Ch (h++x):=by
 unfold Ch at *
 rw[List.all_append,n,m];rfl
theorem Ch.set {h:List O}(n:Ch h){i:Nat}{o:O}(ho:DH o=true):Ch (h.set i o):=by
 unfold Ch at *
 rw[Az] at *
 exact fun x hx=>(List.mem_or_eq_of_mem_set hx).elim (n x) fun e=>e▸ho
noncomputable def Aq (h h':List O):Prop:=h.length≤h'.length∧(∀j,j<h.length→h'[j]? =h[j]?)∧(Ch h→Ch h')
theorem Aq.refl (h:List O):Aq h h:=⟨AT _,fun zz zz=>rfl,id⟩
theorem Aq.trans {a b c:List O}(x:Aq a b)(y:Aq b c):Aq a c:=⟨AL x.1 y.1,fun j h2=>(y.2.1 j (Ab h2 x.1)).trans (x.2.1 j h2),fun n=>y.2.2 (x.2.2 n)⟩
theorem Aq.app (h:List O){o:O}(ho:DH o=true:=by rfl):Aq h (h++[o]):=⟨by rw[AE];exact BN ..,fun j h2=>Bz h2,fun n=>n.app (by unfold Ch;rw[Dv,ho];rfl)⟩
theorem Aq.up {h h':List O}(x:Aq h h'){c:Nat}(hc:h.length≤c){o:O}(ho:DH o=true:=by rfl):Aq h (h'.set c o):=
 ⟨by rw[BQ];exact x.1,fun j h2=>(Aa (Bh (Ab h2 hc))).trans (x.2.1 j h2),fun n=>(x.2.2 n).set ho⟩
theorem Aq.get {h h':List O}(x:Aq h h'){j:Nat}{o:O}(e:h[j]? =some o):h'[j]? =some o:=(x.2.1 j (AM.mp e).1).trans e
structure UH (h h':List O)(ys:List (List Nat)):Prop where
 lst:h'[h.length]? =some (.list (ys.map AW))
 ext:Aq h h'
section
variable {ns:List Int}{σ:Sc}{c d:Nat}{hs:List O}{r l b:List Nat}{a:Nat}
theorem RW {a:Nat}{L M:List Nat}(h:a∉M)(s:∀y∈L,y∈M:=by decide):a∉L:=fun q=>h (s a q)
theorem JI {a:Nat}{L M:List Nat}(h:a∈L)(s:∀y∈L,y∉M:=by decide):a∉M:=s a h
theorem Vn {c:Nat}(h:Rd σ (c::r))(hc:c∉BRK):AK (S ns) (d+2) 38 [.obj 0] [] (scO σ::hs) (.str "") (scO σ::hs):=by
 have q1:c∉[13,10,133]:=RW hc
 have q2:c∉[8232,8233]:=RW hc
 exact AK.by [.c (Aw c) (scO σ::hs),.a 1,.f,.f] (an (Ba (ns:=ns) (σ:=σ) (d:=d) (hs:=hs) (r:=r) (c:=c) (h:=h)) (an (Ux (c:=c) (h:=q1)) (an (YP (c:=c) (h:=q2)) trivial))) (by kernel_rfl)
theorem K7 (h:Rd σ (b++c::r))(hb:Dr b l (c::r)):AK (S ns) (d+3) 38 [.obj 0] [] (scO σ::hs) (.str ⟨l.toArray⟩) (scO (fwdN b.length σ)::hs):=by
 cases hb with
 |crlf=>
  have q:(13:Nat)∈[13,10,133]:=.head _
  have q2:([13,10]++c::r).take 2=[13,10]:=rfl
  have e:=Lz (ns:=ns) (d:=d) (hs:=hs) (x:=[13,10]) h
  have e:AK (S ns) (d+2) 6 [.obj 0,.int 2] [] (scO σ::hs) .none (scO (fwdN 2 σ)::hs):=e
  exact AK.by [.c (Aw 13) (scO σ::hs),.a 2,.c (V.str (Str.mk (AG (Ac 2 ([13,10]++c::r))))) (scO σ::hs),.t,.c (V.none) (scO (fwdN 2 σ)::hs)] (an (Ba (ns:=ns) (σ:=σ) (d:=d+1) (hs:=hs) (r:=List.append [10] (c::r)) (c:=13) (h:=h)) (an (Hm (ns:=ns) (σ:=σ) (d:=d) (hs:=hs) (u:=[13,10]++c::r) (n:=2) (h:=h)) (an I6 (an e trivial)))) (by kernel_rfl)
 |@one a r hc hn=>
  have q:([a]++c::r).take 2≠[13,10]:=fun e=>hn r (by
   have e:[a,c]=[13,10]:=e
   rw[(AZ e).1,(AZ (AZ e).2).1])
  have e:=Gx (ns:=ns) (d:=d) (hs:=hs) h
  exact AK.by [.c (Aw a) (scO σ::hs),.a 1,.t,.c (V.str (Str.mk (AG (Ac 2 ([a]++c::r))))) (scO σ::hs),.f,.c (V.none) (scO (fwdN 1 σ)::hs)] (an (Ba (ns:=ns) (σ:=σ) (d:=d+1) (hs:=hs) (r:=List.append [] (c::r)) (c:=a) (h:=h)) (an (Z5 (c:=a) (h:=hc)) (an (Hm (ns:=ns) (σ:=σ) (d:=d) (hs:=hs) (u:=[a]++c::r) (n:=2) (h:=h)) (an (Xi (l:=Ac 2 ([a]++c::r)) (n:=q)) (an e trivial))))) (by kernel_rfl)
 |@wide a r hc=>
  have q:a∉[13,10,133]:=JI hc
  have e:=Gx (ns:=ns) (d:=d) (hs:=hs) h
  exact AK.by [.c (Aw a) (scO σ::hs),.a 1,.f,.t,.c (V.none) (scO (fwdN 1 σ)::hs)] (an (Ba (ns:=ns) (σ:=σ) (d:=d+1) (hs:=hs) (r:=List.append [] (c::r)) (c:=a) (h:=h)) (an (Ux (c:=a) (h:=q)) (an (YO (c:=a) (h:=hc)) (an e trivial)))) (by kernel_rfl)
end
noncomputable def aV:Expr:=wT (Bo (wB (Bo (BZ 37) 1)) 2)
noncomputable def ah:List Stmt:=wB (Bo (wB (Bo (BZ 37) 1)) 2)
noncomputable def Zf:Expr:=wT (Bo (BZ 37) 1)
noncomputable def Zk:List Stmt:=wB (Bo (BZ 37) 1)
noncomputable abbrev Dw (c:Nat)(a b v:V):List (Str×V):=[("self",.obj 0),("double",a),("start_mark",b),("chunks",.obj c),("prefix",v),("ScannerError",.cls 9)]
section
variable {ns:List Int}{d:Nat}{hs:List O}{r l:List Nat}{x:Nat}{a b v:V}
theorem NJ {c:Nat}(hx:x∉[32,9]):∀{ws:List Nat} {σ:Sc},D5 ws→Rd σ (ws++x::r)→An (S ns) (d+3) aV ah ⟨Dw c a b v,scO σ::hs⟩ .next ⟨Dw c a b v,scO (fwdN ws.length σ)::hs⟩:=by
 intro ws
 induction ws with
 |nil=>
  intro σ _ h
  rw[show fwdN (A9 (α:=Nat) []) σ=σ from rfl]
  have h:Rd σ (x::r):=h
  exact An.by [.c (Aw x) (scO σ::hs),.f] (an (Ba (ns:=ns) (σ:=σ) (d:=d+1) (hs:=hs) (r:=r) (c:=x) (h:=h)) (an (V2 (c:=x) (h:=hx)) trivial)) (by kernel_rfl)
 |cons y ws ih=>
  intro σ hw h
  have hy:=hw y (.head _)
  have e3:=ih (fun z hz=>hw z (.tail _ hz)) (Rd.next h)
  have h:Rd σ (y::(ws++x::r)):=h
  have e2:AK (S ns) (d+2) 6 [.obj 0] [] (scO σ::hs) .none (scO (fwdN 1 σ)::hs):=by
   cases ws with
   |nil=>exact Gx h
   |cons z ws=>exact Gx h
  rw[←BC,Bv 1] at e3
  refine An.go (s1:=St.mk [(A8 "self",V.obj 0),(A8 "double",a),(A8 "start_mark",b),(A8 "chunks",V.obj c),(A8 "prefix",v),(A8 "ScannerError",V.cls 9)] (scO (fwdN 1 σ)::hs)) [.c (Aw y) (scO σ::hs),.t,.c (V.none) (scO (fwdN 1 σ)::hs)] ?_ (an (Ba (ns:=ns) (σ:=σ) (d:=d+1) (hs:=hs) (r:=ws++x::r) (c:=y) (h:=h)) (an (V1 (c:=y) (h:=hy)) (an e2 trivial))) (by kernel_rfl)
  exact e3
noncomputable def aa (ns:List Int)(d c:Nat)(a b v:V)(σ:Sc)(hs:List O)(xs:List (List Nat))(x t:List Nat):Prop:=
 ∃ys v',ys.flatten=t∧ys.length≤x.length∧(t=[]→ys=[])∧An (S ns) (d+4) Zf Zk ⟨Dw (c+1) a b v,scO σ::hs⟩ (.ret (.obj (c+1))) ⟨Dw (c+1) a b v',scO (fwdN x.length σ)::hs.set c (.list ((xs++ys).map AW))⟩
theorem ZA {c:Nat}{x t:List Nat}(hr:G6 x t r):∀{σ:Sc} {hs:List O} {v:V} {xs:List (List Nat)},Rd σ (x++r)→hs[c]? =some (.list (xs.map AW))→Cw xs (x++r)→Cn v=true→aa ns d c a b v σ hs xs x t:=by
 induction hr with
 |@stop ws x u hws hx hb hok=>
  intro σ hs v xs h hc _ hv
  have e1:=Hm (ns:=ns) (d:=d+1) (hs:=hs) h (n:=3)
  have e1:AK (S ns) (d+3) 5 [.obj 0,.int 3] [] (scO σ::hs) (.str ⟨((ws++x::u).take 3).toArray⟩) (scO σ::hs):=e1
  have e2:=NJ (ns:=ns) (d:=d+1) (c:=c+1) (hs:=hs) (a:=a) (b:=b) (v:=AW ((ws++x::u).take 3)) hx hws h
  have h2:=h.skip
  refine⟨[],AW ((ws++x::u).take 3),rfl,Bx _,fun zz=>rfl,?_⟩
  rw[AR,NO hc]
  generalize hw:ws++x::u=w at e1 e2 hok h
  cases hok with
  |no q1 q2=>exact An.by [.a 1,.c (V.str (Str.mk (AG (Ac 3 w)))) (scO σ::hs),.t,.f,.f,.a 2,.w (Fl.next) (St.mk (Dw (c+1) a b (AW (Ac 3 w))) (scO (fwdN (A9 ws) σ)::hs)),.c (Aw x) (scO (fwdN (A9 ws) σ)::hs),.f] (an e1 (an (BA (u:=v) (v:=V.str (Str.mk (AG (Ac 3 w)))) (h:=hv) (h2:=(by rfl))) (an (GX (l:=Ac 3 w) (n:=q1)) (an (Nw (l:=Ac 3 w) (n:=q2)) (an e2 (an (Ba (ns:=ns) (σ:=fwdN (A9 ws) σ) (d:=d+2) (hs:=hs) (r:=u) (c:=x) (h:=h2)) (an (Mq (c:=x) (h:=hb)) trivial))))))) (by kernel_rfl)
  |@dash y z hy=>
   have q1:Ac 3 ([45,45,45]++y::z)=[45,45,45]:=rfl
   have e5:AK (S ns) (d+3) 4 [.obj 0,.int 3] [] (scO σ::hs) (Aw y) (scO σ::hs):=EM h
   exact An.by [.a 1,.c (V.str (Str.mk (AG (Ac 3 ([45,45,45]++y::z))))) (scO σ::hs),.t,.t,.a 1,.c (Aw y) (scO σ::hs),.f,.a 1,.w (Fl.next) (St.mk (Dw (c+1) a b (AW (Ac 3 ([45,45,45]++y::z)))) (scO (fwdN (A9 ws) σ)::hs)),.c (Aw x) (scO (fwdN (A9 ws) σ)::hs),.f] (an e1 (an (BA (u:=v) (v:=V.str (Str.mk (AG (Ac 3 ([45,45,45]++y::z))))) (h:=hv) (h2:=(by rfl))) (an (Jt (l:=Ac 3 ([45,45,45]++y::z)) (n:=q1)) (an e5 (an (IB (c:=y) (h:=hy)) (an e2 (an (Ba (ns:=ns) (σ:=fwdN (A9 ws) σ) (d:=d+2) (hs:=hs) (r:=u) (c:=x) (h:=h2)) (an (Mq (c:=x) (h:=hb)) trivial)))))))) (by kernel_rfl)
  |@dots y z hy=>
   have q1:Ac 3 ([46,46,46]++y::z)≠[45,45,45]:=by simp
   have q2:Ac 3 ([46,46,46]++y::z)=[46,46,46]:=rfl
   have e5:AK (S ns) (d+3) 4 [.obj 0,.int 3] [] (scO σ::hs) (Aw y) (scO σ::hs):=EM h
   exact An.by [.a 1,.c (V.str (Str.mk (AG (Ac 3 ([46,46,46]++y::z))))) (scO σ::hs),.t,.f,.t,.a 1,.c (Aw y) (scO σ::hs),.f,.a 1,.w (Fl.next) (St.mk (Dw (c+1) a b (AW (Ac 3 ([46,46,46]++y::z)))) (scO (fwdN (A9 ws) σ)::hs)),.c (Aw x) (scO (fwdN (A9 ws) σ)::hs),.f] (an e1 (an (BA (u:=v) (v:=V.str (Str.mk (AG (Ac 3 ([46,46,46]++y::z))))) (h:=hv) (h2:=(by rfl))) (an (GX (l:=Ac 3 ([46,46,46]++y::z)) (n:=q1)) (an (LI (l:=Ac 3 ([46,46,46]++y::z)) (n:=q2)) (an e5 (an (IB (c:=y) (h:=hy)) (an e2 (an (Ba (ns:=ns) (σ:=fwdN (A9 ws) σ) (d:=d+2) (hs:=hs) (r:=u) (c:=x) (h:=h2)) (an (Mq (c:=x) (h:=hb)) trivial))))))))) (by kernel_rfl)
 |@more ws b l x t r hws hb hok hrow ih=>
  intro σ hs v xs h hc hf hv
  rw[AC,AC] at h hf
  refine hb.head fun q b' eb hq hl=>?_
  subst eb
  have hx:q∉[32,9]:=JI hq
  have e1:=Hm (ns:=ns) (d:=d+1) (hs:=hs) h (n:=3)
  have e1:AK (S ns) (d+3) 5 [.obj 0,.int 3] [] (scO σ::hs) (.str ⟨((ws++(q::b'++(x++r))).take 3).toArray⟩) (scO σ::hs):=e1
  have e2:=NJ (ns:=ns) (d:=d+1) (c:=c+1) (hs:=hs) (a:=a) (b:=b) (v:=AW ((ws++(q::b'++(x++r))).take 3)) hx hws h
  have h2:=h.skip
  have h2':Rd (fwdN ws.length σ) (q::(b'++(x++r))):=h2
  have e4:AK (S ns) (d+3) 38 [.obj 0] [] (scO (fwdN ws.length σ)::hs) (.str ⟨l.toArray⟩) (scO (fwdN (q::b').length (fwdN ws.length σ))::hs):=by
   refine AB hrow.rest fun z hr=>AB hr fun u e=>?_
   subst e
   cases x with
   |nil=>exact K7 h2 hb
   |cons y x=>exact K7 h2 hb
  have h3:=h2.skip
  rw[←BC] at h3 e4
  have hl2:=hb.len
  refine Hg (ih (v:=AW ((ws++(q::b'++(x++r))).take 3)) (xs:=xs++[l]) h3 (gs hc) ((hf.drop).app (ys:=[l]) (x:=q::b') (BP ..)) rfl) fun ys v' hy hn zz e5=>?_
  rw[←BC] at e5
  have hxl:=hf.ok
  rw[GA,Ae,AC] at e5
  refine⟨l::ys,v',by rw[List.flatten_cons,hy],?_,fun e=>(hl (List.append_eq_nil_iff.mp e).1).elim,?_⟩
  ·rw[AX,AE,AE];exact AL (C3 hn hl2.2) (by rw[Bv];exact BP ..)
  ·rw[AE,AE,←BV]
   have hx':q∈[13,10,133,8232,8233]:=hq
   generalize hw:ws++(q::b'++(x++r))=w at e1 e2 e5 hok h
   cases hok with
   |no q1 q2=>
    refine An.go (s1:=St.mk [(A8 "self",V.obj 0),(A8 "double",a),(A8 "start_mark",b),(A8 "chunks",V.obj (c+1)),(A8 "prefix",V.str (Str.mk (AG (Ac 3 w)))),(A8 "ScannerError",V.cls 9)] (scO (fwdN (A9 ws+(A9 b'+1)) σ)::Ai hs c (O.list (AD AW xs++[V.str (Str.mk (AG l))])))) [.a 1,.c (V.str (Str.mk (AG (Ac 3 w)))) (scO σ::hs),.t,.f,.f,.a 2,.w (Fl.next) (St.mk (Dw (c+1) a b (AW (Ac 3 w))) (scO (fwdN (A9 ws) σ)::hs)),.c (Aw q) (scO (fwdN (A9 ws) σ)::hs),.t,.v .ob (O.list (AD AW xs)),.c (V.str (Str.mk (AG l))) (scO (fwdN (A9 ws+A9 (q::b')) σ)::hs),.v .ob (O.list (AD AW xs)),.t] ?_ (an e1 (an (BA (u:=v) (v:=V.str (Str.mk (AG (Ac 3 w)))) (h:=hv) (h2:=(by rfl))) (an (GX (l:=Ac 3 w) (n:=q1)) (an (Nw (l:=Ac 3 w) (n:=q2)) (an e2 (an (Ba (ns:=ns) (σ:=fwdN (A9 ws) σ) (d:=d+2) (hs:=hs) (r:=b'++(x++r)) (c:=q) (h:=h2')) (an (Gd (c:=q) (h:=hq)) (an hc (an e4 (an hc (an hxl trivial))))))))))) (by kernel_rfl)
    exact e5
   |@dash y z hy=>
    have q1:Ac 3 ([45,45,45]++y::z)=[45,45,45]:=rfl
    have e6:AK (S ns) (d+3) 4 [.obj 0,.int 3] [] (scO σ::hs) (Aw y) (scO σ::hs):=EM h
    refine An.go (s1:=St.mk [(A8 "self",V.obj 0),(A8 "double",a),(A8 "start_mark",b),(A8 "chunks",V.obj (c+1)),(A8 "prefix",V.str (Str.mk (AG (Ac 3 ([45,45,45]++y::z))))),(A8 "ScannerError",V.cls 9)] (scO (fwdN (A9 ws+(A9 b'+1)) σ)::Ai hs c (O.list (AD AW xs++[V.str (Str.mk (AG l))])))) [.a 1,.c (V.str (Str.mk (AG (Ac 3 ([45,45,45]++y::z))))) (scO σ::hs),.t,.t,.a 1,.c (Aw y) (scO σ::hs),.f,.a 1,.w (Fl.next) (St.mk (Dw (c+1) a b (AW (Ac 3 ([45,45,45]++y::z)))) (scO (fwdN (A9 ws) σ)::hs)),.c (Aw q) (scO (fwdN (A9 ws) σ)::hs),.t,.v .ob (O.list (AD AW xs)),.c (V.str (Str.mk (AG l))) (scO (fwdN (A9 ws+A9 (q::b')) σ)::hs),.v .ob (O.list (AD AW xs)),.t] ?_ (an e1 (an (BA (u:=v) (v:=V.str (Str.mk (AG (Ac 3 ([45,45,45]++y::z))))) (h:=hv) (h2:=(by rfl))) (an (Jt (l:=Ac 3 ([45,45,45]++y::z)) (n:=q1)) (an e6 (an (IB (c:=y) (h:=hy)) (an e2 (an (Ba (ns:=ns) (σ:=fwdN (A9 ws) σ) (d:=d+2) (hs:=hs) (r:=b'++(x++r)) (c:=q) (h:=h2')) (an (Gd (c:=q) (h:=hq)) (an hc (an e4 (an hc (an hxl trivial)))))))))))) (by kernel_rfl)
    exact e5
   |@dots y z hy=>
    have q1:Ac 3 ([46,46,46]++y::z)≠[45,45,45]:=by simp
    have q2:Ac 3 ([46,46,46]++y::z)=[46,46,46]:=rfl
    have e6:AK (S ns) (d+3) 4 [.obj 0,.int 3] [] (scO σ::hs) (Aw y) (scO σ::hs):=EM h
    refine An.go (s1:=St.mk [(A8 "self",V.obj 0),(A8 "double",a),(A8 "start_mark",b),(A8 "chunks",V.obj (c+1)),(A8 "prefix",V.str (Str.mk (AG (Ac 3 ([46,46,46]++y::z))))),(A8 "ScannerError",V.cls 9)] (scO (fwdN (A9 ws+(A9 b'+1)) σ)::Ai hs c (O.list (AD AW xs++[V.str (Str.mk (AG l))])))) [.a 1,.c (V.str (Str.mk (AG (Ac 3 ([46,46,46]++y::z))))) (scO σ::hs),.t,.f,.t,.a 1,.c (Aw y) (scO σ::hs),.f,.a 1,.w (Fl.next) (St.mk (Dw (c+1) a b (AW (Ac 3 ([46,46,46]++y::z)))) (scO (fwdN (A9 ws) σ)::hs)),.c (Aw q) (scO (fwdN (A9 ws) σ)::hs),.t,.v .ob (O.list (AD AW xs)),.c (V.str (Str.mk (AG l))) (scO (fwdN (A9 ws+A9 (q::b')) σ)::hs),.v .ob (O.list (AD AW xs)),.t] ?_ (an e1 (an (BA (u:=v) (v:=V.str (Str.mk (AG (Ac 3 ([46,46,46]++y::z))))) (h:=hv) (h2:=(by rfl))) (an (GX (l:=Ac 3 ([46,46,46]++y::z)) (n:=q1)) (an (LI (l:=Ac 3 ([46,46,46]++y::z)) (n:=q2)) (an e6 (an (IB (c:=y) (h:=hy)) (an e2 (an (Ba (ns:=ns) (σ:=fwdN (A9 ws) σ) (d:=d+2) (hs:=hs) (r:=b'++(x++r)) (c:=q) (h:=h2')) (an (Gd (c:=q) (h:=hq)) (an hc (an e4 (an hc (an hxl trivial))))))))))))) (by kernel_rfl)
    exact e5
end
noncomputable def OH (ns:List Int)(d f:Nat)(vs:List V)(σ:Sc)(hs:List O)(x t:List Nat):Prop:=
 ∃ys hs',ys.flatten=t∧ys.length≤x.length∧(t=[]→ys=[])∧UH hs hs' ys∧AK (S ns) (d+1) f vs [] (scO σ::hs) (.obj (hs.length+1)) (scO (fwdN x.length σ)::hs')
noncomputable def bN:Expr:=wT (Bo (BZ 36) 2)
noncomputable def bR:List Stmt:=wB (Bo (BZ 36) 2)
noncomputable abbrev Ii (c:Nat)(a b:V)(k:Nat):List (Str×V):=[("self",.obj 0),("double",a),("start_mark",b),("chunks",.obj c),("length",.int (k:Int)),("whitespaces",.undef),("ch",.undef),("line_break",.undef),("breaks",.undef),("ScannerError",.cls 9)]
theorem Uc {l:List Nat}(h:l=[10]):decide ((⟨l.toArray⟩:Str)=A8 "\n")=true:=Ih (by decide) h
theorem Yh {l:List Nat}(h:l≠[10]):decide ((⟨l.toArray⟩:Str)=A8 "\n")=false:=Gb (by decide) h
noncomputable def EZ (l t:List Nat):List Nat:=if l=[10] then(if t=[] then[32] else t) else l++t
theorem Ww {a:Nat}:decide (a+1+1≠a+1)=true:=decide_eq_true (Nat.succ_ne_self _)
theorem Yt {l:List V}(h:l≠[]):decide (l.length≠0)=true:=decide_eq_true fun e=>h (B5.mp e)
theorem VN:[V.str (A8 " ")]=[[32]].map AW:=by
 show[V.str (A8 " ")]=[V.str ⟨#[32]⟩]
 rw[of_decide_eq_true Zp]
theorem Ik (l t:List Nat):l≠[]→(EZ l t=[]→False):=fun hl h=>by
 unfold EZ at h
 split at h
 ·split at h
  ·cases h
  ·contradiction
 ·exact hl (List.append_eq_nil_iff.mp h).1
section
variable {ns:List Int}{σ:Sc}{d:Nat}{hs:List O}{r l ws:List Nat}{a b:V}
theorem W8 {x t:List Nat}(hr:G6 x t r)(h:Rd σ (x++r)):OH ns (d+3) 37 [.obj 0,a,b] σ hs x t:=by
 have hlen:=h.len
 refine Hg (ZA (ns:=ns) (d:=d) (c:=hs.length) (hs:=hs++[.list []]) (a:=a) (b:=b) (v:=.undef) (xs:=[]) hr h ga (by unfold Cw;rw[Bk,C2];exact hlen) rfl) fun ys v' hy hn hne e=>?_
 refine⟨ys,(hs++[O.list []]).set hs.length (.list (([]++ys).map AW)),hy,hn,hne,⟨gs ga,(Aq.app hs).up (AT _)⟩,?_⟩
 exact AK.by [.a 1,.w (Fl.ret (V.obj (A9 hs+1))) (St.mk (Dw (A9 hs+1) a b v') (scO (fwdN (A9 x) σ)::Ai (hs++[O.list []]) (A9 hs) (O.list (AD AW ys))))] (an e trivial) (by kernel_rfl)
theorem Pf {c x:Nat}(hx:x∉[32,9]):∀{ws pre:List Nat},D5 ws→Rd σ (pre++(ws++x::r))→An (S ns) (d+2) bN bR ⟨Ii c a b pre.length,scO σ::hs⟩ .next ⟨Ii c a b (pre++ws).length,scO σ::hs⟩:=by
 intro ws
 induction ws with
 |nil=>
  intro pre _ h
  rw[AR]
  exact An.by [.c (Aw x) (scO σ::hs),.f] (an (EM (ns:=ns) (σ:=σ) (d:=d) (hs:=hs) (x:=pre) (r:=r) (c:=x) (h:=h)) (an (V2 (c:=x) (h:=hx)) trivial)) (by kernel_rfl)
 |cons y ws ih=>
  intro pre hw h
  have hy:=hw y (.head _)
  have e3:=ih (pre:=pre++[y]) (fun z hz=>hw z (.tail _ hz)) (h.as (by simp))
  rw[AC] at e3
  rw[AE (bs:=[y])] at e3
  refine An.go (s1:=St.mk [(A8 "self",V.obj 0),(A8 "double",a),(A8 "start_mark",b),(A8 "chunks",V.obj c),(A8 "length",V.int (↑(A9 pre+1):Int)),(A8 "whitespaces",V.undef),(A8 "ch",V.undef),(A8 "line_break",V.undef),(A8 "breaks",V.undef),(A8 "ScannerError",V.cls 9)] (scO σ::hs)) [.c (Aw y) (scO σ::hs),.t,.a 1] ?_ (an (EM (ns:=ns) (σ:=σ) (d:=d) (hs:=hs) (x:=pre) (r:=List.append ws (x::r)) (c:=y) (h:=h)) (an (V1 (c:=y) (h:=hy)) trivial)) (by kernel_rfl)
  exact e3
theorem Oi {x:Nat}(hws:D5 ws)(hx:x∉[32,9])(hx0:x≠0)(hxb:x∉BRK)(h0:ws≠[])(h:Rd σ (ws++x::r)):OH ns (d+3) 36 [.obj 0,a,b] σ hs ws ws:=by
 have e1:=Pf (ns:=ns) (d:=d+2) (hs:=hs++[.list []]) (c:=hs.length+1) (a:=a) (b:=b) hx (pre:=[]) hws h
 have e2:=Me (ns:=ns) (d:=d+1) (hs:=hs++[.list []]) h
 have e3:=Lz (ns:=ns) (d:=d+1) (hs:=hs++[.list []]) h
 have h2:=h.skip
 have hxb':x∉[13,10,133,8232,8233]:=hxb
 refine⟨[ws],(hs++[O.list []]).set hs.length (O.list [AW ws]),AR _,List.length_pos_iff.mpr h0,fun e=>(h0 e).elim,⟨gs ga,(Aq.app hs).up (AT _)⟩,?_⟩
 have z0:BE 0=true:=rfl
 exact AK.by [.a 2,.w (Fl.next) (St.mk (Ii (A9 hs+1) a b (A9 ws)) (scO σ::(hs++[O.list []]))),.c (V.str (Str.mk (AG ws))) (scO σ::(hs++[O.list []])),.a 1,.c (V.none) (scO (fwdN (A9 ws) σ)::(hs++[O.list []])),.c (Aw x) (scO (fwdN (A9 ws) σ)::(hs++[O.list []])),.a 1,.f,.f,.v .ob (O.list []),.v .ob (O.list []),.a 1] (an e1 (an e2 (an e3 (an (Ba (ns:=ns) (σ:=fwdN (A9 ws) σ) (d:=d+2) (hs:=hs++[O.list []]) (r:=r) (c:=x) (h:=h2)) (an (Ku (c:=x) (h:=hx0)) (an (Mq (c:=x) (h:=hxb)) (an (ga (l:=hs) (o:=O.list []) (r:=[])) (an (ga (l:=hs) (o:=O.list []) (r:=[])) trivial)))))))) (by kernel_rfl)
theorem Oh {dq:Bool}{cc:Nat}{ff:List (Str×V)}{w x t:List Nat}(hws:D5 ws)(hb:Dr w l (x++r))(hr:G6 x t r)(h:Rd σ (ws++(w++(x++r)))):OH ns (d+4) 36 [.obj 0,.bool dq,.rcd cc ff] σ hs (ws++(w++x)) (EZ l t):=by
 refine hb.head fun q w' eb hq hl=>?_
 subst eb
 have hl2:=hb.len.2
 have hx:q∉[32,9]:=JI hq
 have hx0:q≠0:=fun e=>absurd (e▸hq:0∈BRK) (by decide)
 have hxb:q∈[13,10,133,8232,8233]:=hq
 have e1:=Pf (ns:=ns) (d:=d+3) (hs:=hs++[.list []]) (c:=hs.length+1) (a:=.bool dq) (b:=.rcd cc ff) hx (pre:=[]) hws h
 have e2:=Me (ns:=ns) (d:=d+2) (hs:=hs++[.list []]) h
 have e3:=Lz (ns:=ns) (d:=d+2) (hs:=hs++[.list []]) h
 have h2:=h.skip
 have h2':Rd (fwdN ws.length σ) (q::(w'++(x++r))):=h2
 have e5:AK (S ns) (d+4) 38 [.obj 0] [] (scO (fwdN ws.length σ)::(hs++[.list []])) (.str ⟨l.toArray⟩) (scO (fwdN (q::w').length (fwdN ws.length σ))::(hs++[.list []])):=by
  refine AB hr.rest fun z hr=>AB hr fun u e=>?_
  subst e
  cases x with
  |nil=>exact K7 h2 hb
  |cons y x=>exact K7 h2 hb
 have h3:=h2.skip
 rw[←BC] at h3 e5
 refine FP (W8 (ns:=ns) (d:=d) (hs:=hs++[.list []]) hr (a:=.bool dq) (b:=.rcd cc ff) h3) fun ys h4 hy hn hne cm e6=>?_
 rw[←BC,AE] at e6
 have e6:AK (S ns) (d+4) 37 [.obj 0,.bool dq,.rcd cc ff] [] (scO (fwdN (ws.length+(q::w').length) σ)::(hs++[O.list []])) (.obj (hs.length+1+1)) (scO (fwdN (ws.length+(q::w').length+x.length) σ)::h4):=e6
 have hlst:h4[hs.length+1]? =some (.list (ys.map AW)):=by have:=cm.lst;rwa [AE] at this
 have hc4:h4[hs.length]? =some (.list []):=cm.ext.get ga
 have f0:Cw [] ((ws++q::w')++(x++r)):=by have:=h.len;unfold Cw;rw[Bk,C2,AC];exact this
 have f1:Cw [l] (x++r):=f0.app (ys:=[l]) (by rw[AE];exact AL hl2 (BP ..))
 have hys1:=Cw.ok (f0.drop.app hn)
 have hys2:BE (0+(ys.map AW).length)=true:=Cw.ext f0.drop hn
 have hys3:BE (1+(ys.map AW).length)=true:=Cw.ext (xs:=[l]) f1 hn
 have z0:BE 0=true:=rfl
 have hne1:hs.length≠hs.length+1:=Ah (Nat.lt_succ_self _)
 rw[show ws.length+(q::w').length+x.length=(ws++(q::w'++x)).length from by rw[AE,AE,BV]] at e6
 have le:∀zs:List (List Nat),zs.length≤1+x.length→zs.length≤(ws++(q::w'++x)).length:=fun zs h=>by rw[AE,AE];exact AL h (AL (Nat.add_le_add_right hl2 _) (BP ..))
 have fin:∀(zs:List (List Nat)) (o:O),UH hs ((h4.set hs.length o).set hs.length (.list (zs.map AW))) zs:=fun zs o=>⟨gs (gs hc4),by rw[GA];exact((Aq.app hs).trans cm.ext).up (AT _)⟩
 by_cases ql:l=[10]
 ·by_cases qt:t=[]
  ·have hys0:=hne qt
   subst hys0
   have fin':=fin [[32]] (.list [V.str (A8 " ")])
   rw[←VN] at fin'
   refine⟨[[32]],_,by unfold EZ;rw[if_pos ql,if_pos qt];rfl,le [[32]] (BN 1 _),fun e=>(Ik l t hl e).elim,fin',?_⟩
   exact AK.by [.a 2,.w (Fl.next) (St.mk (Ii (A9 hs+1) (V.bool dq) (V.rcd cc ff) (A9 ws)) (scO σ::(hs++[O.list []]))),.c (V.str (Str.mk (AG ws))) (scO σ::(hs++[O.list []])),.a 1,.c (V.none) (scO (fwdN (A9 ws) σ)::(hs++[O.list []])),.c (Aw q) (scO (fwdN (A9 ws) σ)::(hs++[O.list []])),.a 1,.f,.t,.c (V.str (Str.mk (AG l))) (scO (fwdN (A9 ws+A9 (q::w')) σ)::(hs++[O.list []])),.a 1,.c (V.obj (A9 hs+1+1)) (scO (fwdN (A9 (ws++(q::w'++x))) σ)::h4),.a 1,.f,.v .ob (O.list (AD AW [])),.a 2,.v .ob (O.list []),.v .ob (O.list []),.a 1,.v .ob (O.list [V.str (A8 " ")]),.v .ob (O.list [V.str (A8 " ")]),.t,.v .ob (O.list (AD AW [])),.a 1] (an e1 (an e2 (an e3 (an (Ba (ns:=ns) (σ:=fwdN (A9 ws) σ) (d:=d+3) (hs:=hs++[O.list []]) (r:=w'++(x++r)) (c:=q) (h:=h2')) (an (Ku (c:=q) (h:=hx0)) (an (Gd (c:=q) (h:=hq)) (an e5 (an e6 (an (congrArg not (Uc (l:=l) (h:=ql))) (an hlst (an hc4 (an hc4 (an (gs (o':=O.list [V.str (A8 " ")]) hc4) (an (gs (o':=O.list [V.str (A8 " ")]) hc4) (an (Ww (a:=A9 hs)) (an (gn (m:=A9 hs) (o':=O.list [V.str (A8 " ")]) hne1 hlst) trivial)))))))))))))))) (by kernel_rfl)
  ·have hys0:ys.map AW≠[]:=fun q=>qt (by rw[←hy,List.map_eq_nil_iff.mp q];rfl)
   have fin':=fin ys (.list (ys.map AW))
   rw[GA] at fin'
   refine⟨ys,_,by unfold EZ;rw[if_pos ql,if_neg qt];exact hy,le ys (AL hn (BP ..)),fun e=>(Ik l t hl e).elim,fin',?_⟩
   exact AK.by [.a 2,.w (Fl.next) (St.mk (Ii (A9 hs+1) (V.bool dq) (V.rcd cc ff) (A9 ws)) (scO σ::(hs++[O.list []]))),.c (V.str (Str.mk (AG ws))) (scO σ::(hs++[O.list []])),.a 1,.c (V.none) (scO (fwdN (A9 ws) σ)::(hs++[O.list []])),.c (Aw q) (scO (fwdN (A9 ws) σ)::(hs++[O.list []])),.a 1,.f,.t,.c (V.str (Str.mk (AG l))) (scO (fwdN (A9 ws+A9 (q::w')) σ)::(hs++[O.list []])),.a 1,.c (V.obj (A9 hs+1+1)) (scO (fwdN (A9 (ws++(q::w'++x))) σ)::h4),.a 1,.f,.v .ob (O.list (AD AW ys)),.t,.f,.v .ob (O.list []),.v .ob (O.list []),.t,.v .ob (O.list (AD AW ys)),.t] (an e1 (an e2 (an e3 (an (Ba (ns:=ns) (σ:=fwdN (A9 ws) σ) (d:=d+3) (hs:=hs++[O.list []]) (r:=w'++(x++r)) (c:=q) (h:=h2')) (an (Ku (c:=q) (h:=hx0)) (an (Gd (c:=q) (h:=hq)) (an e5 (an e6 (an (congrArg not (Uc (l:=l) (h:=ql))) (an hlst (an hys1 (an (congrArg not (Yt (l:=AD AW ys) (h:=hys0))) (an hc4 (an hc4 (an (Ww (a:=A9 hs)) (an hlst (an hys2 trivial))))))))))))))))) (by kernel_rfl)
 ·refine⟨l::ys,_,by unfold EZ;rw[if_neg ql,List.flatten_cons,hy],le (l::ys) (by rw[AX,Bv];exact CL hn 1),fun e=>(Ik l t hl e).elim,fin (l::ys) (.list [AW l]),?_⟩
  exact AK.by [.a 2,.w (Fl.next) (St.mk (Ii (A9 hs+1) (V.bool dq) (V.rcd cc ff) (A9 ws)) (scO σ::(hs++[O.list []]))),.c (V.str (Str.mk (AG ws))) (scO σ::(hs++[O.list []])),.a 1,.c (V.none) (scO (fwdN (A9 ws) σ)::(hs++[O.list []])),.c (Aw q) (scO (fwdN (A9 ws) σ)::(hs++[O.list []])),.a 1,.f,.t,.c (V.str (Str.mk (AG l))) (scO (fwdN (A9 ws+A9 (q::w')) σ)::(hs++[O.list []])),.a 1,.c (V.obj (A9 hs+1+1)) (scO (fwdN (A9 (ws++(q::w'++x))) σ)::h4),.a 1,.t,.v .ob (O.list []),.v .ob (O.list []),.a 1,.v .ob (O.list [V.str (Str.mk (AG l))]),.v .ob (O.list [V.str (Str.mk (AG l))]),.t,.v .ob (O.list (AD AW ys)),.t] (an e1 (an e2 (an e3 (an (Ba (ns:=ns) (σ:=fwdN (A9 ws) σ) (d:=d+3) (hs:=hs++[O.list []]) (r:=w'++(x++r)) (c:=q) (h:=h2')) (an (Ku (c:=q) (h:=hx0)) (an (Gd (c:=q) (h:=hq)) (an e5 (an e6 (an (congrArg not (Yh (l:=l) (h:=ql))) (an hc4 (an hc4 (an (gs (o':=O.list [V.str (Str.mk (AG l))]) hc4) (an (gs (o':=O.list [V.str (Str.mk (AG l))]) hc4) (an (Ww (a:=A9 hs)) (an (gn (m:=A9 hs) (o':=O.list [V.str (Str.mk (AG l))]) hne1 hlst) (an hys3 trivial)))))))))))))))) (by kernel_rfl)
end
noncomputable def OO:List Stmt:=wB (Bo (BZ 35) 1)
noncomputable def Zg:Expr:=wT (Bo (BZ 35) 1)
noncomputable def YM:List Stmt:=OO.take 4
noncomputable def QX:List Stmt:=OO.drop 4
noncomputable def aW:Expr:=wT (Bo OO 1)
noncomputable def ai:List Stmt:=wB (Bo OO 1)
noncomputable abbrev EO (c:Nat)(b L CH:V):List (Str×V):=[("self",.obj 0),("double",.bool false),("start_mark",b),("chunks",.obj c),("length",L),("ch",CH),("k",.undef),("code",.undef),("range",.ty "range"),("ScannerError",.cls 9),("int",.ty "int"),("chr",.bi "chr")]
noncomputable abbrev G5:List Nat:=[39,34,92,0,32,9,13,10,133,8232,8233]
noncomputable def EL (run:List Nat):List (List Nat):=if run=[] then[] else[run]
theorem JD (run:List Nat):(EL run).flatten=run:=by
 unfold EL
 by_cases e:run=[]
 ·rw[if_pos e,e];rfl
 ·rw[if_neg e];exact AR run
theorem Uf {a b:Nat}(h:a≠b):decide (a+1≠b+1)=true:=decide_eq_true fun e=>h (Nat.succ.inj e)
theorem Zy {n:Nat}(h:0<n):decide ((n:Int)≠0)=true:=decide_eq_true (by lia)
section
variable {ns:List Int}{σ:Sc}{c d:Nat}{hs:List O}{r:List Nat}{b L CH:V}
theorem YY {x:Nat}(hx:x∈G5):∀{ws pre:List Nat},(∀y∈ws,y∉G5)→Rd σ (pre++(ws++x::r))→
  An (S ns) (d+2) aW ai ⟨EO c b (.int (pre.length:Int)) CH,scO σ::hs⟩ .next ⟨EO c b (.int ((pre++ws).length:Int)) CH,scO σ::hs⟩:=by
 intro ws
 induction ws with
 |nil=>
  intro pre _ h
  rw[AR]
  exact An.by [.c (Aw x) (scO σ::hs),.f] (an (EM (ns:=ns) (σ:=σ) (d:=d) (hs:=hs) (x:=pre) (r:=r) (c:=x) (h:=h)) (an (congrArg not (WQ (c:=x) (h:=hx))) trivial)) (by kernel_rfl)
 |cons y ws ih=>
  intro pre hw h
  have hy:=hw y (.head _)
  have e3:=ih (pre:=pre++[y]) (fun z hz=>hw z (.tail _ hz)) (h.as (by simp))
  rw[AC] at e3
  rw[AE (bs:=[y])] at e3
  refine An.go (s1:=St.mk [(A8 "self",V.obj 0),(A8 "double",V.bool false),(A8 "start_mark",b),(A8 "chunks",V.obj c),(A8 "length",V.int (↑(A9 pre+1):Int)),(A8 "ch",CH),(A8 "k",V.undef),(A8 "code",V.undef),(A8 "range",V.ty "range"),(A8 "ScannerError",V.cls 9),(A8 "int",V.ty "int"),(A8 "chr",V.bi "chr")] (scO σ::hs)) [.c (Aw y) (scO σ::hs),.t,.a 1] ?_ (an (EM (ns:=ns) (σ:=σ) (d:=d) (hs:=hs) (x:=pre) (r:=List.append ws (x::r)) (c:=y) (h:=h)) (an (congrArg not (WR (c:=y) (h:=hy))) trivial)) (by kernel_rfl)
  exact e3
theorem Pl {run:List Nat}{x:Nat}{xs:List (List Nat)}(hcx:hs[c]? =some (.list (xs.map AW)))(hf:Cw xs (run++x::r))(hL:Cn L=true)(hCH:Cn CH=true)(hrun:∀y∈run,y∉G5)(hx:x∈G5)(h:Rd σ (run++x::r)):
  Cm (S ns) (d+4) YM ⟨EO (c+1) b L CH,scO σ::hs⟩ .next ⟨EO (c+1) b (.int (run.length:Int)) (Aw x),scO (fwdN run.length σ)::hs.set c (.list ((xs++EL run).map AW))⟩:=by
 have e1:=YY (ns:=ns) (σ:=σ) (d:=d+2) (c:=c+1) (hs:=hs) (b:=b) (CH:=CH) hx (pre:=[]) hrun h
 have hxl:=hf.ok
 by_cases q:run=[]
 ·subst q
  have h:Rd σ (x::r):=h
  rw[show EL []=[] from rfl,AR,NO hcx,show fwdN (A9 (α:=Nat) []) σ=σ from rfl]
  exact Cm.by [.t,.w (Fl.next) (St.mk (EO (c+1) b (V.int (↑0:Int)) CH) (scO σ::hs)),.a 1,.c (Aw x) (scO σ::hs),.t] (an (BA (u:=L) (v:=V.int 0) (h:=hL) (h2:=(by rfl))) (an e1 (an (Ba (ns:=ns) (σ:=σ) (d:=d+2) (hs:=hs) (r:=r) (c:=x) (h:=h)) (an (BA (u:=CH) (v:=Aw x) (h:=hCH) (h2:=(by rfl))) trivial)))) (by kernel_rfl)
 ·have e2:=Me (ns:=ns) (d:=d+1) (hs:=hs) h
  have e3:=Lz (ns:=ns) (d:=d+1) (hs:=hs.set c (.list (xs.map AW++[AW run]))) h
  have h2:=h.skip
  have hpos:0<run.length:=List.length_pos_iff.mpr q
  rw[show EL run=[run] from if_neg q,Ae]
  exact Cm.by [.t,.w (Fl.next) (St.mk (EO (c+1) b (V.int (↑(A9 run):Int)) CH) (scO σ::hs)),.t,.v .ob (O.list (AD AW xs)),.c (V.str (Str.mk (AG run))) (scO σ::hs),.v .ob (O.list (AD AW xs)),.t,.c (V.none) (scO (fwdN (A9 run) σ)::Ai hs c (O.list (AD AW xs++[AW run]))),.c (Aw x) (scO (fwdN (A9 run) σ)::Ai hs c (O.list (AD AW xs++[AW run]))),.t] (an (BA (u:=L) (v:=V.int 0) (h:=hL) (h2:=(by rfl))) (an e1 (an (Zy (n:=A9 run) (h:=hpos)) (an hcx (an e2 (an hcx (an hxl (an e3 (an (Ba (ns:=ns) (σ:=fwdN (A9 run) σ) (d:=d+2) (hs:=Ai hs c (O.list (AD AW xs++[AW run]))) (r:=r) (c:=x) (h:=h2)) (an (BA (u:=CH) (v:=Aw x) (h:=hCH) (h2:=(by rfl))) trivial)))))))))) (by kernel_rfl)
theorem Qi {x:Nat}(h1:x≠39)(h2:x∉[34,92]):Cm (S ns) (d+5) QX ⟨EO (c+1) b L (Aw x),scO σ::hs⟩ (.ret (.obj (c+1))) ⟨EO (c+1) b L (Aw x),scO σ::hs⟩:=by
 exact Cm.by [.a 1,.f,.a 4,.f,.a 4] (an (Sq (c:=x) (h:=h1)) (an (Zw (c:=x) (h:=h2)) trivial)) (by kernel_rfl)
theorem Sb {y:Nat}(h1:y≠39)(h:Rd σ (39::y::r)):Cm (S ns) (d+5) QX ⟨EO (c+1) b L (Aw 39),scO σ::hs⟩ (.ret (.obj (c+1))) ⟨EO (c+1) b L (Aw 39),scO σ::hs⟩:=by
 have e1:AK (S ns) (d+4) 4 [.obj 0,.int 1] [] (scO σ::hs) (Aw y) (scO σ::hs):=EM (ns:=ns) (d:=d+3) (hs:=hs) (x:=[39]) (c:=y) (r:=r) h
 exact Cm.by [.a 2,.c (Aw y) (scO σ::hs),.f,.a 9] (an e1 (an (Sq (c:=y) (h:=h1)) trivial)) (by kernel_rfl)
noncomputable def JW (ns:List Int)(d c:Nat)(b L:V)(σ:Sc)(hs:List O)(x:Nat)(n:Nat)(zs:List (List Nat)):Prop:=
 Cm (S ns) (d+5) QX ⟨EO (c+1) b L (Aw x),scO σ::hs⟩ .next ⟨EO (c+1) b L (Aw x),scO (fwdN n σ)::hs.set c (.list (zs.map AW))⟩
theorem UV {xs:List (List Nat)}{y:List Nat}:xs.map AW++[AW y]=(xs++[y]).map AW:=by rw[Ae];rfl
theorem Qj {xs:List (List Nat)}{y:Nat}(hc:hs[c]? =some (.list (xs.map AW)))(hX:BE (xs.map AW).length=true)(h:Rd σ (39::39::y::r)):JW ns d c b L σ hs 39 2 (xs++[[39]]):=by
 have e1:AK (S ns) (d+4) 4 [.obj 0,.int 1] [] (scO σ::hs) (Aw 39) (scO σ::hs):=EM (ns:=ns) (d:=d+3) (hs:=hs) (x:=[39]) (c:=39) (r:=y::r) h
 have e2:AK (S ns) (d+4) 6 [.obj 0,.int 2] [] (scO σ::hs.set c (.list (xs.map AW++[Aw 39]))) .none (scO (fwdN 2 σ)::hs.set c (.list (xs.map AW++[Aw 39]))):=Lz (ns:=ns) (d:=d+2) (x:=[39,39]) (hs:=hs.set c (.list (xs.map AW++[Aw 39]))) h
 unfold JW
 rw[←UV]
 exact Cm.by [.a 2,.c (Aw 39) (scO σ::hs),.a 2,.v .ob (O.list (AD AW xs)),.v .ob (O.list (AD AW xs)),.t,.c (V.none) (scO (fwdN 2 σ)::Ai hs c (O.list (AD AW xs++[Aw 39])))] (an e1 (an hc (an hc (an hX (an e2 trivial))))) (by kernel_rfl)
theorem Sa {xs:List (List Nat)}{q y:Nat}(hq:q∈[34,92])(hc:hs[c]? =some (.list (xs.map AW)))(hX:BE (xs.map AW).length=true)(h:Rd σ (q::y::r)):JW ns d c b L σ hs q 1 (xs++[[q]]):=by
 have e2:=Gx (ns:=ns) (d:=d+2) (hs:=hs.set c (.list (xs.map AW++[Aw q]))) h
 have hn:q≠39:=fun e=>by subst e;exact absurd hq (by decide)
 unfold JW
 rw[←UV]
 exact Cm.by [.a 1,.f,.a 4,.t,.a 2,.v .ob (O.list (AD AW xs)),.v .ob (O.list (AD AW xs)),.t,.c (V.none) (scO (fwdN 1 σ)::Ai hs c (O.list (AD AW xs++[Aw q])))] (an (Sq (c:=q) (h:=hn)) (an (Zv (c:=q) (h:=hq)) (an hc (an hc (an hX (an e2 trivial)))))) (by kernel_rfl)
end
noncomputable abbrev I0 (run:List Nat):Prop:=∀y∈run,y∉G5
inductive Dz:List Nat→List Nat→List Nat→Prop
 |stop {run:List Nat} {x:Nat} {u:List Nat}:I0 run→x∈G5→x≠39→x∉[34,92]→Dz run run (x::u)
 |quote {run:List Nat} {y:Nat} {u:List Nat}:I0 run→y≠39→Dz run run (39::y::u)
 |apos {run x t r:List Nat}:I0 run→Dz x t r→Dz (run++39::39::x) (run++39::t) r
 |oth {run x t r:List Nat} {q:Nat}:I0 run→q∈[34,92]→Dz x t r→Dz (run++q::x) (run++q::t) r
theorem Dz.rest {x t r:List Nat}(h:Dz x t r):∃c u,r=c::u:=by
 induction h with
 |stop=>exact⟨_,_,rfl⟩
 |quote=>exact⟨_,_,rfl⟩
 |apos _ _ ih=>exact ih
 |oth _ _ _ ih=>exact ih
theorem Dz.len {x t r:List Nat}(h:Dz x t r):t.length≤x.length:=by
 induction h with
 |stop=>exact AT _
 |quote=>exact AT _
 |apos _ _ ih=>simp only[AE,AX];lia
 |oth _ _ _ ih=>simp only[AE,AX];lia
theorem HH {x r:List Nat}(h:∃c u,r=c::u):∃c u,x++r=c::u:=by
 refine AB h fun c h=>AB h fun u e=>?_
 subst e
 rcases x with _|⟨a,x⟩
 ·exact⟨c,u,rfl⟩
 ·exact⟨a,_,rfl⟩
noncomputable def CS (c:Nat)(h h':List O):Prop:=h.length≤h'.length∧(∀j,j≠c→j<h.length→h'[j]? =h[j]?)∧(Ch h→Ch h')
theorem CS.trans {c:Nat}{a b e:List O}(x:CS c a b)(y:CS c b e):CS c a e:=⟨AL x.1 y.1,fun j h2 h3=>(y.2.1 j h2 (Ab h3 x.1)).trans (x.2.1 j h2 h3),fun n=>y.2.2 (x.2.2 n)⟩
theorem CS.setc {c:Nat}(h:List O){o:O}(ho:DH o=true:=by rfl):CS c h (h.set c o):=⟨by rw[BQ];exact AT _,fun j h1 zz=>Aa (Cq h1),fun n=>n.set ho⟩
theorem CS.refl (c:Nat)(h:List O):CS c h h:=⟨AT _,fun zz zz zz=>rfl,id⟩
theorem Aq.keep {c:Nat}{h h':List O}(x:Aq h h'):CS c h h':=⟨x.1,fun j zz h3=>x.2.1 j h3,x.2.2⟩
theorem CS.ext {h h':List O}{o:O}(x:CS h.length (h++[o]) h')(ho:DH o=true:=by rfl):Aq h h':=by
 have e:=Aq.app h ho
 exact⟨AL e.1 x.1,fun j h2=>(x.2.1 j (Ah h2) (Ab h2 e.1)).trans (e.2.1 j h2),fun n=>x.2.2 (e.2.2 n)⟩
theorem GP (run:List Nat):(EL run).length≤run.length:=by
 unfold EL
 by_cases e:run=[]
 ·rw[if_pos e];exact Bx _
 ·rw[if_neg e];exact List.length_pos_iff.mpr e
theorem ON:YM++QX=OO:=Fi 4 OO
noncomputable def UE (ns:List Int)(d c:Nat)(b L CH:V)(σ:Sc)(hs:List O)(xs:List (List Nat))(x t:List Nat):Prop:=
 ∃ys hs' l',ys.flatten=t∧ys.length≤x.length∧hs'[c]? =some (.list ((xs++ys).map AW))∧CS c hs hs'∧An (S ns) (d+5) Zg OO ⟨EO (c+1) b L CH,scO σ::hs⟩ (.ret (.obj (c+1))) ⟨l',scO (fwdN x.length σ)::hs'⟩
section
variable {ns:List Int}{c d:Nat}{cc:Nat}{ff:List (Str×V)}
theorem N5 {s:St}(k:Bool→St→Au)(e:V→St→Au):(E (S ns) 40).tr (d+5) Zg s k e=k true s:=by kernel_rfl
theorem Qr {σ:Sc}{hs:List O}{L CH:V}{xs ys2:List (List Nat)}{run m x t t2 r:List Nat}{q:Nat}(hc:hs[c]? =some (.list (xs.map AW)))(hf:Cw xs (run++(q::m++(x++r))))(hL:Cn L=true)(hCH:Cn CH=true)(hrun:I0 run)(hq:q∈G5)(h:Rd σ (run++(q::m++(x++r))))
  (T:JW ns d c (.rcd cc ff) (.int (run.length:Int)) (fwdN run.length σ) (hs.set c (.list ((xs++EL run).map AW))) q (q::m).length (xs++EL run++ys2))(f2:ys2.flatten=t2)(l2:ys2.length≤(q::m).length)
  (ih:∀{σ:Sc} {hs:List O} {L CH:V} {xs:List (List Nat)},hs[c]? =some (.list (xs.map AW))→Cw xs (x++r)→Cn L=true→Cn CH=true→Rd σ (x++r)→UE ns d c (.rcd cc ff) L CH σ hs xs x t):
  UE ns d c (.rcd cc ff) L CH σ hs xs (run++(q::m++x)) (run++(t2++t)):=by
 have e1:=Pl (ns:=ns) (d:=d+1) (b:=.rcd cc ff) hc hf hL hCH hrun hq h
 have h2:=h.skip.skip
 have hc1:(hs.set c (.list ((xs++EL run).map AW)))[c]? =some (.list ((xs++EL run).map AW)):=gs hc
 have hc2:=gs (o':=.list ((xs++EL run++ys2).map AW)) hc1
 refine S8 (ih (L:=.int (run.length:Int)) (CH:=Aw q) hc2 ((hf.app (GP run)).app l2) rfl rfl h2) fun ys h3 l' hy hn hc3 k3 e3=>?_
 have T6:Cm _ _ _ _ _ _:=T
 rw[←BC] at T6
 rw[←BC,←BC] at e3
 refine⟨EL run++(ys2++ys),h3,l',by rw[DI,DI,JD,f2,hy],?_,by rw[←AC,←AC];exact hc3,((CS.setc hs).trans (CS.setc _)).trans k3,?_⟩
 ·rw[AE,AE,AE,AE]
  exact C3 (GP run) (C3 l2 hn)
 ·rw[AE,AE,←BV]
  rw[←ON] at e3 ⊢
  exact .next N5 (e1.app T6) e3
theorem X1 {x t r:List Nat}(hr:Dz x t r):∀{σ:Sc} {hs:List O} {L CH:V} {xs:List (List Nat)},hs[c]? =some (.list (xs.map AW))→Cw xs (x++r)→Cn L=true→Cn CH=true→Rd σ (x++r)→UE ns d c (.rcd cc ff) L CH σ hs xs x t:=by
 induction hr with
 |@stop run x u hrun hx h39 h92=>
  intro σ hs L CH xs hc hf hL hCH h
  have e1:=Pl (ns:=ns) (d:=d+1) (b:=.rcd cc ff) hc hf hL hCH hrun hx h
  refine⟨EL run,hs.set c (.list ((xs++EL run).map AW)),EO (c+1) (.rcd cc ff) (.int (run.length:Int)) (Aw x),JD run,GP run,gs hc,CS.setc _,.ret N5 ?_⟩
  rw[←ON]
  exact e1.app (Qi h39 h92)
 |@quote run y u hrun hy=>
  intro σ hs L CH xs hc hf hL hCH h
  have e1:=Pl (ns:=ns) (d:=d+1) (b:=.rcd cc ff) hc hf hL hCH hrun (by decide) h
  refine⟨EL run,hs.set c (.list ((xs++EL run).map AW)),EO (c+1) (.rcd cc ff) (.int (run.length:Int)) (Aw 39),JD run,GP run,gs hc,CS.setc _,.ret N5 ?_⟩
  rw[←ON]
  exact e1.app (Sb hy h.skip)
 |@apos run x t r hrun hr ih=>
  intro σ hs L CH xs hc hf hL hCH h
  rw[AC] at hf h
  refine AB (HH (x:=x) hr.rest) fun y e=>AB e fun u e=>?_
  have T:=Qj (ns:=ns) (d:=d) (b:=.rcd cc ff) (L:=.int (run.length:Int)) (σ:=fwdN run.length σ) (r:=u) (gs (o':=.list ((xs++EL run).map AW)) hc) (hf.app (GP run)).ok (h.skip.as (congrArg (39::39::·) e))
  exact Qr (m:=[39]) (t2:=[39]) hc hf hL hCH hrun (by decide) h T rfl (by decide) ih
 |@oth run x t r q hrun hq hr ih=>
  intro σ hs L CH xs hc hf hL hCH h
  rw[AC] at hf h
  refine AB (HH (x:=x) hr.rest) fun y e=>AB e fun u e=>?_
  have T:=Sa (ns:=ns) (d:=d) (b:=.rcd cc ff) (L:=.int (run.length:Int)) (σ:=fwdN run.length σ) (r:=u) hq (gs (o':=.list ((xs++EL run).map AW)) hc) (hf.app (GP run)).ok (h.skip.as (congrArg (q::·) e))
  exact Qr (m:=[]) (t2:=[q]) hc hf hL hCH hrun ((by decide:∀q∈[34,92],q∈G5) q hq) h T rfl (AT 1) ih
theorem H6 {σ:Sc}{hs:List O}{x t r:List Nat}(hr:Dz x t r)(h:Rd σ (x++r)):
  ∃ys hs',ys.flatten=t∧ys.length≤x.length∧UH hs hs' ys∧AK (S ns) (d+5) 35 [.obj 0,.bool false,.rcd cc ff] [] (scO σ::hs) (.obj (hs.length+1)) (scO (fwdN x.length σ)::hs'):=by
 have hl:=h.len
 refine S8 (X1 (ns:=ns) (d:=d) (c:=hs.length) (hs:=hs++[.list []]) (cc:=cc) (ff:=ff) (xs:=[]) hr (L:=.undef) (CH:=.undef) ga (by unfold Cw;rw[Bk,C2];exact hl) rfl rfl h) fun ys h' l' hf hle b k e=>?_
 refine⟨ys,h',hf,hle,⟨b,k.ext⟩,?_⟩
 exact AK.by [.a 1,.w (Fl.ret (V.obj (A9 hs+1))) (St.mk l' (scO (fwdN (A9 x) σ)::h'))] (an e trivial) (by kernel_rfl)
end
theorem JL:∀ys:List (List Nat),B3 (A8 "") (ys.map fun y=>(⟨y.toArray⟩:Str))=⟨ys.flatten.toArray⟩
 |[]=>rfl
 |[y]=>by simp[B3]
 |y::z::ys=>by
  have ih:=JL (z::ys)
  rw[At,At] at *
  rw[B3,ih]
  ·rw[HS]
   show((y.toArray++(A8 "").cps)++((z::ys).flatten).toArray).toList=_
   have h0:(A8 "").cps= #[]:=rfl
   rw[h0]
   simp
  ·simp
theorem My {ys:List (List Nat)}:Mz (ys.map AW)=some (ys.map fun y=>(⟨y.toArray⟩:Str)):=by
 induction ys with
 |nil=>rfl
 |cons y ys ih=>
  rw[At]
  show(Mz (ys.map AW)).map _=_
  rw[ih]
  rfl
theorem Ow {ys:List (List Nat)}(h:ys.flatten.length≤lim):BE (((ys.map fun y=>(⟨y.toArray⟩:Str)).map fun x=>x.cps.size).sum+(A8 "").cps.size * (ys.map fun y=>(⟨y.toArray⟩:Str)).length)=true:=by
 have h0:(A8 "").cps.size=0:=rfl
 refine As ?_
 rw[h0,Nat.zero_mul,Nat.add_zero,DV]
 rw[List.length_flatten] at h
 exact h
inductive Tl:List Nat→List Nat→List Nat→Prop
 |quote {r:List Nat}:Tl [] [] (39::r)
 |blank {ws x1 t1 x2 t2 r u:List Nat} {c:Nat}:ws≠[]→D5 ws→x1++(x2++r)=c::u→c∉[32,9]→c≠0→c∉BRK→Dz x1 t1 (x2++r)→Tl x2 t2 r→Tl (ws++(x1++x2)) (ws++(t1++t2)) r
 |fold {ws w l y t0 x1 t1 x2 t2 r:List Nat}:D5 ws→Dr w l (y++(x1++(x2++r)))→G6 y t0 (x1++(x2++r))→Dz x1 t1 (x2++r)→Tl x2 t2 r→Tl ((ws++(w++y))++(x1++x2)) (EZ l t0++(t1++t2)) r
noncomputable abbrev L5 (c:Nat)(ff:List (Str×V)):List (Str×V):=[("self",.obj 0),("style",.str (A8 "'")),("double",.bool false),("chunks",.obj c),("start_mark",.rcd 0 ff),("quote",Aw 39),("end_mark",.undef),("ScalarToken",.cls 6)]
noncomputable def Zh:Expr:=wT (Bo (BZ 34) 6)
noncomputable def Zl:List Stmt:=wB (Bo (BZ 34) 6)
noncomputable def UF (ns:List Int)(d c:Nat)(ff:List (Str×V))(σ:Sc)(hs:List O)(xs:List (List Nat))(x t:List Nat):Prop:=
 ∃ys hs',ys.flatten=t∧ys.length≤x.length∧hs'[c]? =some (.list ((xs++ys).map AW))∧CS c hs hs'∧An (S ns) (d+6) Zh Zl ⟨L5 (c+1) ff,scO σ::hs⟩ .next ⟨L5 (c+1) ff,scO (fwdN x.length σ)::hs'⟩
theorem Pi {c:Nat}(h:c≠39):decide ((⟨#[c]⟩:Str)=⟨#[39]⟩)=false:=decide_eq_false fun e=>h (by rw[HS] at e;exact(AZ e).1)
section
variable {ns:List Int}{c d:Nat}{ff:List (Str×V)}{hs:List O}
theorem NF {σ:Sc}{xs:List (List Nat)}{x0 t0 x1 t1 x2 t2 r u:List Nat}{q:Nat}(hc:hs[c]? =some (.list (xs.map AW)))(hf:Cw xs (x0++(x1++(x2++r))))(h:Rd σ (x0++(x1++(x2++r))))(e0:x0++(x1++(x2++r))=q::u)(hq:q≠39)
  (sp:OH ns (d+4) 36 [.obj 0,.bool false,.rcd 0 ff] σ hs x0 t0)(hn:Dz x1 t1 (x2++r))
  (ih:∀{σ:Sc} {hs:List O} {xs:List (List Nat)},hs[c]? =some (.list (xs.map AW))→Cw xs (x2++r)→Rd σ (x2++r)→UF ns d c ff σ hs xs x2 t2):UF ns d c ff σ hs xs (x0++(x1++x2)) (t0++(t1++t2)):=by
 have h':=h.as e0
 have q1:=Pi hq
 refine FP (sp) fun ys0 hs1 hy0 hn0 zz cm0 e1=>?_
 have hc1:=cm0.ext.get hc
 have g0:=cm0.lst
 have s0:=hf.ext hn0
 have n0:hs.length≠c:=fun e=>absurd (AM.mp hc).1 (by rw[e];exact CG _)
 have hf1:=hf.app hn0
 have h1:=h.skip
 refine Hg (H6 (ns:=ns) (d:=d) (hs:=hs1.set c (.list (xs.map AW++ys0.map AW))) (cc:=0) (ff:=ff) hn h1) fun ys1 hs2 hy1 hn1 cm1 e2=>?_
 rw[←BC] at e2
 have hc2:=cm1.ext.get (gs hc1)
 rw[←Ae] at hc2
 have g1:=cm1.lst
 have s1:=hf1.ext hn1
 have n1:(hs1.set c (.list (xs.map AW++ys0.map AW))).length≠c:=fun e=>absurd (AM.mp hc1).1 (by rw[BQ] at e;rw[e];exact CG _)
 rw[Ae] at hc2 s1
 have h2:=h1.skip
 rw[←BC] at h2
 refine FP (ih (hs:=hs2.set c (.list ((xs.map AW++ys0.map AW)++ys1.map AW))) (xs:=xs++ys0++ys1) (by rw[Ae,Ae];exact gs hc2) (hf1.app hn1) h2) fun ys2 hs3 hy2 hn2 hc3 k3 e3=>?_
 rw[←BC,BV] at e3
 refine⟨ys0++(ys1++ys2),hs3,by rw[DI,DI,hy0,hy1,hy2],?_,by rw[←AC,←AC];exact hc3,(cm0.ext.keep.trans ((CS.setc hs1).trans (cm1.ext.keep.trans (CS.setc hs2)))).trans k3,?_⟩
 ·rw[AE,AE,AE,AE]
  exact C3 hn0 (C3 hn1 hn2)
 ·rw[AE,AE]
  refine An.go (s1:=St.mk [(A8 "self",V.obj 0),(A8 "style",V.str (A8 "'")),(A8 "double",V.bool false),(A8 "chunks",V.obj (c+1)),(A8 "start_mark",V.rcd 0 ff),(A8 "quote",V.str (Str.mk #[39])),(A8 "end_mark",V.undef),(A8 "ScalarToken",V.cls 6)] (scO (fwdN (A9 x0+A9 x1) σ)::Ai hs2 c (O.list (AD AW xs++AD AW ys0++AD AW ys1)))) [.c (Aw q) (scO σ::hs),.t,.v .ob (O.list (AD AW xs)),.c (V.obj (A9 hs+1)) (scO (fwdN (A9 x0) σ)::hs1),.v .ob (O.list (AD AW xs)),.t,.v .ob (O.list (AD AW ys0)),.t,.v .ob (O.list (AD AW xs++AD AW ys0)),.c (V.obj (A9 (Ai hs1 c (O.list (AD AW xs++AD AW ys0)))+1)) (scO (fwdN (A9 x0+A9 x1) σ)::hs2),.v .ob (O.list (AD AW xs++AD AW ys0)),.t,.v .ob (O.list (AD AW ys1)),.t] ?_ (an (Ba (ns:=ns) (σ:=σ) (d:=d+4) (hs:=hs) (r:=u) (c:=q) (h:=h')) (an (congrArg not q1) (an hc (an e1 (an hc1 (an (Uf (a:=A9 hs) (b:=c) (h:=n0)) (an g0 (an s0 (an (gs (o':=O.list (AD AW xs++AD AW ys0)) hc1) (an e2 (an hc2 (an (Uf (a:=A9 (Ai hs1 c (O.list (AD AW xs++AD AW ys0)))) (b:=c) (h:=n1)) (an g1 (an s1 trivial)))))))))))))) (by kernel_rfl)
  exact e3
theorem X3 {x t r:List Nat}(hr:Tl x t r):∀{σ:Sc} {hs:List O} {xs:List (List Nat)},hs[c]? =some (.list (xs.map AW))→Cw xs (x++r)→Rd σ (x++r)→UF ns d c ff σ hs xs x t:=by
 induction hr with
 |@quote r=>
  intro σ hs xs hc hf h
  have h:Rd σ (39::r):=h
  refine⟨[],hs,rfl,AT _,by rw[AR];exact hc,CS.refl _ _,?_⟩
  rw[show fwdN (A9 (α:=Nat) []) σ=σ from rfl]
  exact An.by [.c (Aw 39) (scO σ::hs),.a 1] (an (Ba (ns:=ns) (σ:=σ) (d:=d+4) (hs:=hs) (r:=r) (c:=39) (h:=h)) trivial) (by kernel_rfl)
 |@blank ws x1 t1 x2 t2 r u q hws0 hws e0 hx hx0 hxb hn ht ih=>
  intro σ hs xs hc hf h
  rw[AC,AC] at hf h
  have sp:=Oi (ns:=ns) (d:=d+1) (hs:=hs) (a:=.bool false) (b:=.rcd 0 ff) (r:=u) hws hx hx0 hxb hws0 (h.as (by rw[e0]))
  cases ws with
  |nil=>exact(hws0 rfl).elim
  |cons w ws=>exact NF hc hf h (u:=ws++(x1++(x2++r))) rfl (fun e=>absurd (e▸hws w (.head _)) (by decide)) sp hn ih
 |@fold ws w l y t0 x1 t1 x2 t2 r hws hb hrow hn ht ih=>
  intro σ hs xs hc hf h
  rw[AC (ws++(w++y)),AC x1] at hf h
  have sp:=Oh (ns:=ns) (dq:=false) (d:=d) (hs:=hs) (cc:=0) (ff:=ff) hws hb hrow (h.as (by rw[AC,AC]))
  refine hb.head fun q w' eb hq zz=>?_
  subst eb
  cases ws with
  |nil=>exact NF hc hf h (u:=w'++y++(x1++(x2++r))) rfl (fun e=>absurd (e▸hq) (by decide)) sp hn ih
  |cons z ws=>exact NF hc hf h (u:=(ws++(q::w'++y))++(x1++(x2++r))) rfl (fun e=>absurd (e▸hws z (.head _)) (by decide)) sp hn ih
end
theorem ax {a b c d:Nat}(h:a≤c)(h':b≤d):a+b≤c+d:=C3 h h'
theorem IX {a b c d:List Nat}(h:a.length≤c.length)(h':b.length≤d.length):(a++b).length≤(c++d).length:=by
 rw[AE,AE];exact C3 h h'
theorem WO (a b:List Nat):b.length≤(a++b).length:=by rw[AE];exact BP ..
theorem G6.len {x t r:List Nat}(h:G6 x t r):t.length≤x.length:=by
 induction h with
 |stop=>exact Bx _
 |more _ hb _ _ ih=>exact AL (IX hb.len.1 ih) (WO _ _)
theorem Rx (l t:List Nat):(EZ l t).length≤l.length+t.length:=by
 unfold EZ
 split
 ·rename_i h
  subst h
  split
  ·exact BN 1 _
  ·exact BP ..
 ·rw[AE];exact AT _
theorem Tl.len {x t r:List Nat}(h:Tl x t r):t.length≤x.length:=by
 induction h with
 |quote=>exact AT _
 |blank _ _ _ _ _ _ hn _ ih=>exact IX (AT _) (IX hn.len ih)
 |fold _ hb hr hn _ ih=>exact IX (AL (Rx _ _) (by rw[AE,AE];exact AL (C3 hb.len.1 hr.len) (BP ..))) (IX hn.len ih)
theorem Os (h:List O)(a b:O):decide (((h++[a])++[b]).length+1≠h.length+1)=true:=decide_eq_true (by rw[AE,AE];exact Bh (Nat.succ_lt_succ (Nat.lt_add_of_pos_right (k:=2) (by decide))))
section
variable {ns:List Int}{d:Nat}{hs:List O}
theorem Vb {σ:Sc}{x1 t1 x2 t2 r:List Nat}(hn:Dz x1 t1 (x2++39::r))(ht:Tl x2 t2 (39::r))(hr:∃a u,r=a::u)(h:Rd σ (39::(x1++(x2++39::r)))):
  ∃hs',Aq hs hs'∧AK (S ns) (d+6) 34 [.obj 0,.str "'"] [] (scO σ::hs) (Om ⟨(t1++t2).toArray⟩ (mk σ) (mk (fwdN (1+x1.length+x2.length+1) σ)) (A8 "'")) (scO (fwdN (1+x1.length+x2.length+1) σ)::hs'):=by
 refine AB hr fun a hr=>AB hr fun u hr=>?_
 subst hr
 refine AB (HH (x:=x1) (HH (x:=x2) ⟨39,a::u,rfl⟩)) fun y e=>AB e fun w e=>?_
 have h0:Rd σ (39::y::w):=h.as (congrArg (39::·) e)
 have ef:=Gx (ns:=ns) (d:=d+3) (hs:=(hs++[.list []])++[.dead]) h0
 have h1:=h.next
 refine Hg (H6 (ns:=ns) (d:=d) (hs:=(hs++[.list []])++[.dead]) (cc:=0) (ff:=BM σ) hn h1) fun ys1 hs1 hy1 hn1 cm1 e1=>?_
 have hl1:=h1.len
 have hf0:Cw [] (x1++(x2++39::a::u)):=by unfold Cw;rw[Bk,C2];exact hl1
 have s1:=hf0.ext hn1
 have hf1:=hf0.app hn1
 rw[←BC] at e1
 have h2:=h1.skip
 rw[←BC] at h2
 have g1:=cm1.lst
 have hcl:((hs++[O.list []])++[O.dead])[hs.length]? =some (.list []):=by rw[AC];exact ga
 have hc1:hs1[hs.length]? =some (.list []):=cm1.ext.get hcl
 refine FP (X3 (ns:=ns) (d:=d) (c:=hs.length) (ff:=BM σ) ht (hs:=hs1.set hs.length (.list (ys1.map AW))) (gs hc1) hf1 h2) fun ys2 hs2 hy2 hn2 hc2 k2 e2=>?_
 rw[←BC] at e2
 have h3:=h2.skip
 rw[←BC] at h3
 have ef2:=Gx (ns:=ns) (d:=d+3) (hs:=hs2) h3
 rw[←BC] at ef2
 have hj:(ys1++ys2).flatten.length≤lim:=by
  rw[DI,hy1,hy2]
  exact AL (IX hn.len (AL ht.len (by rw[AE (as:=x2)];exact BN ..))) hl1
 have jo:=Ow hj
 have jt:=My (ys:=ys1++ys2)
 have x1k:CS hs.length (hs++[.list []]) ((hs++[.list []])++[.dead]):=(Aq.app (hs++[.list []]) (o:=.dead)).keep
 refine⟨hs2++[.dead]++[.dead],?_,?_⟩
 ·exact((((x1k.trans cm1.ext.keep).trans (CS.setc hs1)).trans k2).ext.trans (Aq.app _)).trans (Aq.app _)
 ·rw[←hy1,←hy2,←DI,←JL,←Cz (hs2++[O.dead]) (O.inst 6 [("value",.str (B3 (A8 "") ((ys1++ys2).map fun y=>(⟨y.toArray⟩:Str)))),("plain",.bool false),("start_mark",mk σ),("end_mark",mk (fwdN (1+x1.length+x2.length+1) σ)),("style",.str "'")])]
  exact AK.by [.a 3,.c (mk σ) (scO σ::(hs++[O.list []]++[O.dead])),.a 1,.c (Aw 39) (scO σ::(hs++[O.list []]++[O.dead])),.a 1,.c (V.none) (scO (fwdN 1 σ)::(hs++[O.list []]++[O.dead])),.v .ob (O.list []),.c (V.obj (A9 (hs++[O.list []]++[O.dead])+1)) (scO (fwdN (1+A9 x1) σ)::hs1),.v .ob (O.list []),.t,.v .ob (O.list (AD AW ys1)),.t,.w (Fl.next) (St.mk (L5 (A9 hs+1) (BM σ)) (scO (fwdN (1+A9 x1+A9 x2) σ)::hs2)),.c (V.none) (scO (fwdN (1+A9 x1+A9 x2+1) σ)::hs2),.c (mk (fwdN (1+A9 x1+A9 x2+1) σ)) (scO (fwdN (1+A9 x1+A9 x2+1) σ)::(hs2++[O.dead])),.a 1,.v .ob (O.list (AD AW (ys1++ys2))),.v .strs (AD (fun y=>Str.mk (AG y)) (ys1++ys2)),.t,.c (V.none) (scO (fwdN (1+A9 x1+A9 x2+1) σ)::(hs2++[O.dead]++[O.inst 6 [(A8 "value",V.str (B3 (A8 "") (AD (fun y=>Str.mk (AG y)) (ys1++ys2)))),(A8 "plain",V.bool false),(A8 "start_mark",V.rcd 0 (BM σ)),(A8 "end_mark",V.rcd 0 (BM (fwdN (1+A9 x1+A9 x2+1) σ))),(A8 "style",V.str (A8 "'"))]])),.v .ob (O.inst 6 [(A8 "value",V.str (B3 (A8 "") (AD (fun y=>Str.mk (AG y)) (ys1++ys2)))),(A8 "plain",V.bool false),(A8 "start_mark",V.rcd 0 (BM σ)),(A8 "end_mark",V.rcd 0 (BM (fwdN (1+A9 x1+A9 x2+1) σ))),(A8 "style",V.str (A8 "'"))])] (an (DK (ns:=ns) (σ:=σ) (d:=d+3) (hs:=hs++[O.list []])) (an (Ba (ns:=ns) (σ:=σ) (d:=d+4) (hs:=hs++[O.list []]++[O.dead]) (r:=x1++(x2++39::a::u)) (c:=39) (h:=h)) (an ef (an hcl (an e1 (an hc1 (an (Os (h:=hs) (a:=O.list []) (b:=O.dead)) (an g1 (an s1 (an e2 (an ef2 (an (DK (ns:=ns) (σ:=fwdN (1+A9 x1+A9 x2+1) σ) (d:=d+3) (hs:=hs2)) (an (gl (r:=[O.dead]) hc2) (an jt (an jo (an (XH (ns:=ns) (d:=d+4) (l:=hs2++[O.dead]) (a0:=scO (fwdN (1+A9 x1+A9 x2+1) σ)) (v:=B3 (A8 "") (AD (fun y=>Str.mk (AG y)) (ys1++ys2))) (y:=A8 "'") (c1:=0) (c2:=0) (f1:=BM σ) (f2:=BM (fwdN (1+A9 x1+A9 x2+1) σ))) (an (ga (l:=hs2++[O.dead]) (o:=O.inst 6 [(A8 "value",V.str (B3 (A8 "") (AD (fun y=>Str.mk (AG y)) (ys1++ys2)))),(A8 "plain",V.bool false),(A8 "start_mark",V.rcd 0 (BM σ)),(A8 "end_mark",V.rcd 0 (BM (fwdN (1+A9 x1+A9 x2+1) σ))),(A8 "style",V.str (A8 "'"))]) (r:=[])) trivial))))))))))))))))) (by kernel_rfl)
end
noncomputable def KT (rq:Bool)(t:Int)(ix ln cl:Int)(m:V):List (Str×V):=[("token_number",.int t),("required",.bool rq),("index",.int ix),("line",.int ln),("column",.int cl),("mark",m)]
noncomputable def Bg (κ:Sc):V:=.rcd 7 (KT (decide (κ.dt=(κ.cl:Int))) κ.tn κ.ix κ.ln κ.cl (mk κ))
inductive GZ (κ:Sc):List (V×V)→Prop
 |no:GZ κ []
 |yes:decide (κ.dt=(κ.cl:Int))=false→GZ κ [(.int 0,Bg κ)]
noncomputable def L9 (k:Int):List V:=if k=-1 then[] else[.int (-1)]
structure BU (Z hs:List O)(σ:Sc)(T:List V)(D:List (V×V)):Prop where
 tk:hs[σ.tk]? =some (.list T)
 ks:hs[σ.keys]? =some (.dict D)
 ne:σ.tk≠σ.keys
 nf:Ch hs
 kp:∀j,j<Z.length→hs[j]? =Z[j]?
 k1:Z.length≤σ.tk
 k2:Z.length≤σ.keys
 is:hs[σ.ind]? =some (.list (L9 σ.dt))
 n2:σ.tk≠σ.ind
 n3:σ.keys≠σ.ind
 k3:Z.length≤σ.ind
section
variable {ns:List Int}{Z:List O}{d:Nat}{σ κ:Sc}{hs:List O}{T:List V}{D:List (V×V)}
theorem BU.ext (f:BU Z hs σ T D){hs':List O}(x:Aq hs hs'){σ':Sc}(e1:σ'.tk=σ.tk)(e2:σ'.keys=σ.keys)(e3:σ'.ind=σ.ind:=by rfl)(e4:σ'.dt=σ.dt:=by rfl):BU Z hs' σ' T D:=
 ⟨by rw[e1];exact x.get f.tk,by rw[e2];exact x.get f.ks,by rw[e1,e2];exact f.ne,x.2.2 f.nf,fun j hj=>(x.2.1 j (Ab hj (Bu (Ev f.k1 (AM.mp f.tk).1)))).trans (f.kp j hj),e1▸f.k1,e2▸f.k2,
  by rw[e3,e4];exact x.get f.is,by rw[e1,e3];exact f.n2,by rw[e2,e3];exact f.n3,e3▸f.k3⟩
theorem BU.sett (f:BU Z hs σ T D)(T':List V):BU Z (hs.set σ.tk (.list T')) σ T' D:=
 ⟨gs f.tk,(Aa f.ne).trans f.ks,f.ne,f.nf.set rfl,fun j hj=>(Aa (Bh (Ab hj f.k1))).trans (f.kp j hj),f.k1,f.k2,(Aa f.n2).trans f.is,f.n2,f.n3,f.k3⟩
theorem BU.setk (f:BU Z hs σ T D)(D':List (V×V)):BU Z (hs.set σ.keys (.dict D')) σ T D':=
 ⟨(Aa (Cq f.ne)).trans f.tk,gs f.ks,f.ne,f.nf.set rfl,fun j hj=>(Aa (Bh (Ab hj f.k2))).trans (f.kp j hj),f.k1,f.k2,(Aa f.n3).trans f.is,f.n2,f.n3,f.k3⟩
noncomputable def PR:Expr:=wT (Bo (BZ 19) 0)
noncomputable def PQ:List Stmt:=wB (Bo (BZ 19) 0)
noncomputable abbrev EP (a b:V):List (Str×V):=[("self",.obj 0),("level",a),("key",b),("list",.ty "list"),("ScannerError",.cls 9)]
theorem Ko (f:BU Z hs σ T []):AK (S ns) (d+2) 19 [.obj 0] [] (scO σ::hs) .none (scO σ::(hs++[O.list []])):=by
 have g:=f.ks
 have e:BJ (S ns) (d+2) PR (.list (hs.length+1) false) 0 PQ ⟨EP .undef .undef,scO σ::(hs++[O.list []])⟩ .next ⟨EP .undef .undef,scO σ::(hs++[O.list []])⟩:=by
  exact BJ.by [.v .ob (O.list []),.a 2] (an (ga (l:=hs) (o:=O.list []) (r:=[])) trivial) (by kernel_rfl)
 exact AK.by [.v .ob (O.dict []),.a 1,.v .ob (O.list []),.w (Fl.next) (St.mk (EP V.undef V.undef) (scO σ::(hs++[O.list []])))] (an g (an (ga (l:=hs) (o:=O.list []) (r:=[])) (an e trivial))) (by kernel_rfl)
theorem Qs (f:BU Z hs σ T [(.int 0,Bg κ)])(hrq:decide (κ.dt=(κ.cl:Int))=false):
  ∃D' hs',BU Z hs' σ T D'∧GZ κ D'∧AK (S ns) (d+2) 19 [.obj 0] [] (scO σ::hs) .none (scO σ::hs'):=by
 have g:=f.ks
 have f1:=f.ext (σ':=σ) (Aq.app hs (o:=.list [.int 0])) rfl rfl
 have g1:=f1.ks
 have f2:=f1.setk []
 have gone:BJ (S ns) (d+2) PR (.list (hs.length+1) false) 0 PQ ⟨EP .undef .undef,scO σ::(hs++[O.list [.int 0]])⟩ .next ⟨EP (.int 0) (Bg κ),scO σ::(hs++[O.list [.int 0]]).set σ.keys (.dict [])⟩→∃D' hs',BU Z hs' σ T D'∧GZ κ D'∧AK (S ns) (d+2) 19 [.obj 0] [] (scO σ::hs) .none (scO σ::hs'):=fun e=>by
  refine⟨[],(hs++[O.list [.int 0]]).set σ.keys (.dict []),f2,.no,?_⟩
  exact AK.by [.v .ob (O.dict [(V.int 0,Bg κ)]),.a 1,.v .ob (O.list [V.int 0]),.w (Fl.next) (St.mk (EP (V.int 0) (Bg κ)) (scO σ::Ai (hs++[O.list [V.int 0]]) (Sc.keys σ) (O.dict [])))] (an g (an (ga (l:=hs) (o:=O.list [V.int 0]) (r:=[])) (an e trivial))) (by kernel_rfl)
 have hk:σ.keys≠hs.length:=fun e=>absurd (AM.mp f.ks).1 (by rw[e];exact CG _)
 have hN:((hs++[O.list [.int 0]]).set σ.keys (.dict []))[hs.length]? =some (.list [.int 0]):=(Aa hk).trans ga
 by_cases q1:decide ((κ.ln:Int)=(σ.ln:Int))=true
 ·by_cases q2:decide ((1024:Int)<(σ.ix:Int) - (κ.ix:Int))=true
  ·refine gone ?_
   have e:BJ (S ns) (d+2) PR (.list (hs.length+1) false) 1 PQ ⟨EP (.int 0) (Bg κ),scO σ::(hs++[O.list [.int 0]]).set σ.keys (.dict [])⟩ .next ⟨EP (.int 0) (Bg κ),scO σ::(hs++[O.list [.int 0]]).set σ.keys (.dict [])⟩:=by
    exact BJ.by [.v .ob (O.list [V.int 0]),.a 2] (an hN trivial) (by kernel_rfl)
   refine BJ.go (s1:=St.mk [(A8 "self",V.obj 0),(A8 "level",V.int 0),(A8 "key",V.rcd 7 (KT (decide (Sc.dt κ=(↑(Sc.cl κ):Int))) (↑(Sc.tn κ):Int) (↑(Sc.ix κ):Int) (↑(Sc.ln κ):Int) (↑(Sc.cl κ):Int) (mk κ))),(A8 "list",V.ty "list"),(A8 "ScannerError",V.cls 9)] (scO σ::Ai (hs++[O.list [V.int 0]]) (Sc.keys σ) (O.dict []))) [.v .ob (O.list [V.int 0]),.a 3,.v .ob (O.dict [(V.int 0,Bg κ)]),.a 3,.f,.t,.a 1,.f,.v .ob (O.dict [(V.int 0,Bg κ)]),.a 2] ?_ (an (ga (l:=hs) (o:=O.list [V.int 0]) (r:=[])) (an g1 (an (congrArg not q1) (an q2 (an hrq (an g1 trivial)))))) (by kernel_rfl)
   exact e
  ·have q2:=eq_false_of_ne_true q2
   refine⟨_,hs++[O.list [.int 0]],f1,.yes hrq,?_⟩
   have e:BJ (S ns) (d+2) PR (.list (hs.length+1) false) 1 PQ ⟨EP (.int 0) (Bg κ),scO σ::(hs++[O.list [.int 0]])⟩ .next ⟨EP (.int 0) (Bg κ),scO σ::(hs++[O.list [.int 0]])⟩:=by
    exact BJ.by [.v .ob (O.list [V.int 0]),.a 2] (an (ga (l:=hs) (o:=O.list [V.int 0]) (r:=[])) trivial) (by kernel_rfl)
   have e:BJ (S ns) (d+2) PR (.list (hs.length+1) false) 0 PQ ⟨EP .undef .undef,scO σ::(hs++[O.list [.int 0]])⟩ .next ⟨EP (.int 0) (Bg κ),scO σ::(hs++[O.list [.int 0]])⟩:=by
    refine BJ.go (s1:=St.mk [(A8 "self",V.obj 0),(A8 "level",V.int 0),(A8 "key",V.rcd 7 (KT (decide (Sc.dt κ=(↑(Sc.cl κ):Int))) (↑(Sc.tn κ):Int) (↑(Sc.ix κ):Int) (↑(Sc.ln κ):Int) (↑(Sc.cl κ):Int) (mk κ))),(A8 "list",V.ty "list"),(A8 "ScannerError",V.cls 9)] (scO σ::(hs++[O.list [V.int 0]]))) [.v .ob (O.list [V.int 0]),.a 3,.v .ob (O.dict [(V.int 0,Bg κ)]),.a 3,.f,.f,.a 1] ?_ (an (ga (l:=hs) (o:=O.list [V.int 0]) (r:=[])) (an g1 (an (congrArg not q1) (an q2 trivial)))) (by kernel_rfl)
    exact e
   exact AK.by [.v .ob (O.dict [(V.int 0,Bg κ)]),.a 1,.v .ob (O.list [V.int 0]),.w (Fl.next) (St.mk (EP (V.int 0) (Bg κ)) (scO σ::(hs++[O.list [V.int 0]])))] (an g (an (ga (l:=hs) (o:=O.list [V.int 0]) (r:=[])) (an e trivial))) (by kernel_rfl)
 ·have q1:=eq_false_of_ne_true q1
  refine gone ?_
  have e:BJ (S ns) (d+2) PR (.list (hs.length+1) false) 1 PQ ⟨EP (.int 0) (Bg κ),scO σ::(hs++[O.list [.int 0]]).set σ.keys (.dict [])⟩ .next ⟨EP (.int 0) (Bg κ),scO σ::(hs++[O.list [.int 0]]).set σ.keys (.dict [])⟩:=by
   exact BJ.by [.v .ob (O.list [V.int 0]),.a 2] (an hN trivial) (by kernel_rfl)
  refine BJ.go (s1:=St.mk [(A8 "self",V.obj 0),(A8 "level",V.int 0),(A8 "key",V.rcd 7 (KT (decide (Sc.dt κ=(↑(Sc.cl κ):Int))) (↑(Sc.tn κ):Int) (↑(Sc.ix κ):Int) (↑(Sc.ln κ):Int) (↑(Sc.cl κ):Int) (mk κ))),(A8 "list",V.ty "list"),(A8 "ScannerError",V.cls 9)] (scO σ::Ai (hs++[O.list [V.int 0]]) (Sc.keys σ) (O.dict []))) [.v .ob (O.list [V.int 0]),.a 3,.v .ob (O.dict [(V.int 0,Bg κ)]),.a 3,.t,.a 1,.f,.v .ob (O.dict [(V.int 0,Bg κ)]),.a 2] ?_ (an (ga (l:=hs) (o:=O.list [V.int 0]) (r:=[])) (an g1 (an (congrArg not q1) (an hrq (an g1 trivial))))) (by kernel_rfl)
  exact e
theorem Pa (f:BU Z hs σ T D)(hD:GZ κ D):∃D' hs',BU Z hs' σ T D'∧GZ κ D'∧AK (S ns) (d+2) 19 [.obj 0] [] (scO σ::hs) .none (scO σ::hs'):=by
 cases hD with
 |no=>exact⟨[],_,f.ext (Aq.app hs) rfl rfl,.no,Ko f⟩
 |yes hrq=>exact Qs f hrq
end
section
variable {ns:List Int}{Z:List O}{d:Nat}{σ κ:Sc}{hs:List O}{T:List V}{D:List (V×V)}
noncomputable def YL:Expr:=wT (Bo (BZ 18) 1)
noncomputable def YK:List Stmt:=wB (Bo (BZ 18) 1)
noncomputable abbrev Hq (a b c:V):List (Str×V):=[("self",.obj 0),("min_token_number",a),("level",b),("key",c)]
theorem KN {k:Nat}{o o':O}(hk:hs[k]? =some o):(hs.set k o').set k o=hs:=by
 rw[GA]
 exact List.ext_getElem? fun j=>(CJ).trans (by
  split
  ·rename_i e
   subst e
   rw[if_pos (AM.mp hk).1,hk]
  ·rfl)
theorem UO (f:BU Z hs σ T D):((scO σ::hs.set σ.keys (.fro D)).set (σ.keys+1) (.dict D)).all DH=true:=by
 show(scO σ::(hs.set σ.keys (.fro D)).set σ.keys (.dict D)).all DH=true
 rw[KN f.ks]
 exact f.nf
theorem Ud (f:BU Z hs σ T []):AK (S ns) (d+2) 18 [.obj 0] [] (scO σ::hs) .none (scO σ::hs):=by
 have g:=f.ks
 have e:BJ (S ns) (d+2) YL (.dict (σ.keys+1)) 0 YK ⟨Hq .none .undef .undef,scO σ::hs.set σ.keys (.fro [])⟩ .next ⟨Hq .none .undef .undef,scO σ::hs.set σ.keys (.fro [])⟩:=by
  exact BJ.by [.v .ob (O.fro []),.a 1] (an (gs (o':=O.fro []) g) trivial) (by kernel_rfl)
 have n:=UO f
 suffices h:AK (S ns) (d+2) 18 [.obj 0] [] (scO σ::hs) .none (scO σ::(hs.set σ.keys (.fro [])).set σ.keys (.dict [])) by rwa [KN g] at h
 exact AK.by [.a 1,.v .ob (O.dict []),.a 1,.w (Fl.next) (St.mk (Hq V.none V.undef V.undef) (scO σ::Ai hs (Sc.keys σ) (O.fro []))),.v .ob (O.fro []),.t] (an g (an e (an (gs (o':=O.fro []) g) (an n trivial)))) (by kernel_rfl)
theorem Yk (f:BU Z hs σ T [(.int 0,Bg κ)]):AK (S ns) (d+2) 18 [.obj 0] [] (scO σ::hs) (.int (κ.tn:Int)) (scO σ::hs):=by
 have g:=f.ks
 have n:=UO f
 have e:BJ (S ns) (d+2) YL (.dict (σ.keys+1)) 1 YK ⟨Hq (.int (κ.tn:Int)) (.int 0) (Bg κ),scO σ::hs.set σ.keys (.fro [(.int 0,Bg κ)])⟩ .next ⟨Hq (.int (κ.tn:Int)) (.int 0) (Bg κ),scO σ::hs.set σ.keys (.fro [(.int 0,Bg κ)])⟩:=by
  exact BJ.by [.v .ob (O.fro [(V.int 0,Bg κ)]),.a 1] (an (gs (o':=O.fro [(V.int 0,Bg κ)]) g) trivial) (by kernel_rfl)
 have e:BJ (S ns) (d+2) YL (.dict (σ.keys+1)) 0 YK ⟨Hq .none .undef .undef,scO σ::hs.set σ.keys (.fro [(.int 0,Bg κ)])⟩ .next ⟨Hq (.int (κ.tn:Int)) (.int 0) (Bg κ),scO σ::hs.set σ.keys (.fro [(.int 0,Bg κ)])⟩:=by
  refine BJ.go (s1:=St.mk [(A8 "self",V.obj 0),(A8 "min_token_number",V.int (↑(Sc.tn κ):Int)),(A8 "level",V.int 0),(A8 "key",V.rcd 7 (KT (decide (Sc.dt κ=(↑(Sc.cl κ):Int))) (↑(Sc.tn κ):Int) (↑(Sc.ix κ):Int) (↑(Sc.ln κ):Int) (↑(Sc.cl κ):Int) (mk κ)))] (scO σ::Ai hs (Sc.keys σ) (O.fro [(V.int 0,Bg κ)]))) [.v .ob (O.fro [(V.int 0,Bg κ)]),.a 2,.v .ob (O.fro [(V.int 0,Bg κ)]),.a 6] ?_ (an (gs (o':=O.fro [(V.int 0,Bg κ)]) g) (an (gs (o':=O.fro [(V.int 0,Bg κ)]) g) trivial)) (by kernel_rfl)
  exact e
 suffices h:AK (S ns) (d+2) 18 [.obj 0] [] (scO σ::hs) (.int (κ.tn:Int)) (scO σ::(hs.set σ.keys (.fro [(.int 0,Bg κ)])).set σ.keys (.dict [(.int 0,Bg κ)])) by rwa [KN g] at h
 exact AK.by [.a 1,.v .ob (O.dict [(V.int 0,Bg κ)]),.a 1,.w (Fl.next) (St.mk (Hq (V.int (↑(Sc.tn κ):Int)) (V.int 0) (Bg κ)) (scO σ::Ai hs (Sc.keys σ) (O.fro [(V.int 0,Bg κ)]))),.v .ob (O.fro [(V.int 0,Bg κ)]),.t] (an g (an e (an (gs (o':=O.fro [(V.int 0,Bg κ)]) g) (an n trivial)))) (by kernel_rfl)
theorem TS (hd:σ.dn=true):AK (S ns) (d+1) 16 [.obj 0] [] (scO σ::hs) (.bool false) (scO σ::hs):=by
 exact AK.by [.t] (an hd trivial) (by kernel_rfl)
theorem HK (f:BU Z hs σ [] D)(hd:σ.dn=false):AK (S ns) (d+1) 16 [.obj 0] [] (scO σ::hs) (.bool true) (scO σ::hs):=by
 have g:=f.tk
 exact AK.by [.f,.v .ob (O.list []),.a 2] (an hd (an g trivial)) (by kernel_rfl)
theorem Kx {v:V}{T:List V}(f:BU Z hs σ (v::T) [])(hT:(v::T).length≤lim)(hd:σ.dn=false):AK (S ns) (d+3) 16 [.obj 0] [] (scO σ::hs) .none (scO σ::(hs++[.list []])):=by
 have g:=f.tk
 have e1:=Ko (ns:=ns) (d:=d) f
 have e2:=Ud (ns:=ns) (d:=d) (f.ext (σ':=σ) (Aq.app hs (o:=.list [])) rfl rfl)
 exact AK.by [.f,.v .ob (O.list (v::T)),.t,.f,.c (V.none) (scO σ::(hs++[O.list []])),.c (V.none) (scO σ::(hs++[O.list []])),.a 1] (an hd (an g (an (As (n:=A9 T+1) (h:=(by omega))) (an (congrArg not I6) (an e1 (an e2 trivial)))))) (by kernel_rfl)
theorem Ue {v:V}{T:List V}(f:BU Z hs σ (v::T) [(.int 0,Bg κ)])(hT:(v::T).length≤lim)(hd:σ.dn=false)(ht:κ.tn=σ.tn)(hrq:decide (κ.dt=(κ.cl:Int))=false):
  ∃D' hs',BU Z hs' σ (v::T) D'∧((D'=[]∧AK (S ns) (d+3) 16 [.obj 0] [] (scO σ::hs) .none (scO σ::hs'))∨(D'=[(.int 0,Bg κ)]∧AK (S ns) (d+3) 16 [.obj 0] [] (scO σ::hs) (.bool true) (scO σ::hs'))):=by
 have g:=f.tk
 refine BF (Qs (ns:=ns) (d:=d) f hrq) fun D' hs' f1 hD e1=>?_
 refine⟨D',hs',f1,?_⟩
 cases hD with
 |no=>
  refine .inl ⟨rfl,?_⟩
  have e2:=Ud (ns:=ns) (d:=d) f1
  exact AK.by [.f,.v .ob (O.list (v::T)),.t,.f,.c (V.none) (scO σ::hs'),.c (V.none) (scO σ::hs'),.a 1] (an hd (an g (an (As (n:=A9 T+1) (h:=(by omega))) (an (congrArg not I6) (an e1 (an e2 trivial)))))) (by kernel_rfl)
 |yes hrq=>
  refine .inr ⟨rfl,?_⟩
  have e2:=Yk (ns:=ns) (d:=d) f1
  have q:decide ((κ.tn:Int)=(σ.tn:Int))=true:=decide_eq_true (by rw[ht])
  exact AK.by [.f,.v .ob (O.list (v::T)),.t,.f,.c (V.none) (scO σ::hs'),.c (V.int (↑(Sc.tn κ):Int)) (scO σ::hs'),.t] (an hd (an g (an (As (n:=A9 T+1) (h:=(by omega))) (an (congrArg not I6) (an e1 (an e2 (an q trivial))))))) (by kernel_rfl)
theorem NP (f:BU Z hs σ T D)(hD:GZ κ D):∃hs',BU Z hs' σ T []∧AK (S ns) (d+2) 21 [.obj 0] [] (scO σ::hs) .none (scO σ::hs'):=by
 have g:=f.ks
 cases hD with
 |no=>
  refine⟨hs,f,?_⟩
  exact AK.by [.v .ob (O.dict []),.a 2] (an g trivial) (by kernel_rfl)
 |yes hrq=>
  refine⟨_,f.setk [],?_⟩
  exact AK.by [.v .ob (O.dict [(V.int 0,Bg κ)]),.a 2,.v .ob (O.dict [(V.int 0,Bg κ)]),.a 3,.f,.v .ob (O.dict [(V.int 0,Bg κ)]),.a 2] (an g (an g (an hrq (an g trivial)))) (by kernel_rfl)
theorem J5 {k:Int}(hk:σ.dt≤k):AK (S ns) (d+1) 22 [.obj 0,.int k] [] (scO σ::hs) .none (scO σ::hs):=by
 have q:decide (k<σ.dt)=false:=decide_eq_false (FC.mpr hk)
 have e:An (S ns) (d+1) (wT (Bo (BZ 22) 1)) (wB (Bo (BZ 22) 1)) ⟨[("self",.obj 0),("column",.int k),("mark",.undef),("BlockEndToken",.cls 4)],scO σ::hs⟩ .next ⟨[("self",.obj 0),("column",.int k),("mark",.undef),("BlockEndToken",.cls 4)],scO σ::hs⟩:=by
  exact An.by [.f] (an q trivial) (by kernel_rfl)
 exact AK.by [.a 1,.w (Fl.next) (St.mk [(A8 "self",V.obj 0),(A8 "column",V.int k),(A8 "mark",V.undef),(A8 "BlockEndToken",V.cls 4)] (scO σ::hs))] (an e trivial) (by kernel_rfl)
theorem WY (f:BU Z hs σ [] [])(ha:σ.ask=true):∃hs',BU Z hs' σ [] [(.int 0,Bg σ)]∧AK (S ns) (d+3) 20 [.obj 0] [] (scO σ::hs) .none (scO σ::hs'):=by
 have g:=f.tk
 have gk:=f.ks
 have e1:AK (S ns) (d+2) 21 [.obj 0] [] (scO σ::hs) .none (scO σ::hs):=by
  exact AK.by [.v .ob (O.dict []),.a 2] (an gk trivial) (by kernel_rfl)
 have f1:=f.ext (σ':=σ) ((Aq.app hs (o:=.dead)).trans (Aq.app _ (o:=.dead))) rfl rfl
 have gk2:((hs++[O.dead]++[O.inst 7 (KT (decide (σ.dt=(σ.cl:Int))) σ.tn σ.ix σ.ln σ.cl (mk σ))]).set (hs++[O.dead]).length O.dead)[σ.keys]? =some (.dict []):=by
  rw[Cz];exact f1.ks
 refine⟨_,f1.setk [(.int 0,Bg σ)],?_⟩
 rw[←Cz (hs++[O.dead]) (O.inst 7 (KT (decide (σ.dt=(σ.cl:Int))) σ.tn σ.ix σ.ln σ.cl (mk σ)))]
 exact AK.by [.a 2,.t,.c (V.none) (scO σ::hs),.v .ob (O.list []),.a 2,.c (mk σ) (scO σ::(hs++[O.dead])),.c (V.none) (scO σ::(hs++[O.dead]++[O.inst 7 [(A8 "token_number",V.int (↑(Sc.tn σ+0):Int)),(A8 "required",V.bool (decide (Sc.dt σ=(↑(Sc.cl σ):Int)))),(A8 "index",V.int (↑(Sc.ix σ):Int)),(A8 "line",V.int (↑(Sc.ln σ):Int)),(A8 "column",V.int (↑(Sc.cl σ):Int)),(A8 "mark",V.rcd 0 (BM σ))]])),.v .ob (O.inst 7 [(A8 "token_number",V.int (↑(Sc.tn σ+0):Int)),(A8 "required",V.bool (decide (Sc.dt σ=(↑(Sc.cl σ):Int)))),(A8 "index",V.int (↑(Sc.ix σ):Int)),(A8 "line",V.int (↑(Sc.ln σ):Int)),(A8 "column",V.int (↑(Sc.cl σ):Int)),(A8 "mark",V.rcd 0 (BM σ))]),.a 1,.v .ob (O.dict []),.a 2] (an ha (an e1 (an g (an (DK (ns:=ns) (σ:=σ) (d:=d) (hs:=hs)) (an (XG (ns:=ns) (d:=d+1) (l:=hs++[O.dead]) (a0:=scO σ) (t:=(↑(Sc.tn σ+0):Int)) (ix:=(↑(Sc.ix σ):Int)) (ln:=(↑(Sc.ln σ):Int)) (cl:=(↑(Sc.cl σ):Int)) (r:=decide (Sc.dt σ=(↑(Sc.cl σ):Int))) (c1:=0) (f1:=BM σ)) (an (ga (l:=hs++[O.dead]) (o:=O.inst 7 [(A8 "token_number",V.int (↑(Sc.tn σ+0):Int)),(A8 "required",V.bool (decide (Sc.dt σ=(↑(Sc.cl σ):Int)))),(A8 "index",V.int (↑(Sc.ix σ):Int)),(A8 "line",V.int (↑(Sc.ln σ):Int)),(A8 "column",V.int (↑(Sc.cl σ):Int)),(A8 "mark",V.rcd 0 (BM σ))]) (r:=[])) (an gk2 trivial))))))) (by kernel_rfl)
end
theorem XB {n:Nat}(h:n=0):decide ((n:Int)=0)=true:=decide_eq_true (by rw[h];rfl)
theorem XC {n:Nat}(h:n≠0):decide ((n:Int)=0)=false:=decide_eq_false (fun e=>h (Int.ofNat.inj e))
section
variable {ns:List Int}{Z:List O}{d:Nat}{hs:List O}
noncomputable abbrev Ei (v:V):List (Str×V):=[("self",.obj 0),("found",v)]
noncomputable def Zi:Expr:=wT (Bo (BZ 33) 2)
noncomputable def PT:List Stmt:=wB (Bo (BZ 33) 2)
noncomputable def aY:Expr:=wT (Bo PT 0)
noncomputable def ak:List Stmt:=wB (Bo PT 0)
noncomputable def aX:Expr:=wT (Bo (wB (Bo PT 1)) 0)
noncomputable def aj:List Stmt:=wB (Bo (wB (Bo PT 1)) 0)
theorem NK {b:Bool}{x:Nat}{r:List Nat}(hx:x≠32):∀{ws:List Nat} {σ:Sc},(∀y∈ws,y=32)→Rd σ (ws++x::r)→An (S ns) (d+3) aY ak ⟨Ei (.bool b),scO σ::hs⟩ .next ⟨Ei (.bool b),scO (fwdN ws.length σ)::hs⟩:=by
 intro ws
 induction ws with
 |nil=>
  intro σ hws h
  have h:Rd σ (x::r):=h
  rw[show fwdN (A9 (α:=Nat) []) σ=σ from rfl]
  exact An.by [.c (Aw x) (scO σ::hs),.f] (an (Ba (ns:=ns) (σ:=σ) (d:=d+1) (hs:=hs) (r:=r) (c:=x) (h:=h)) (an (Zq (c:=x) (h:=hx)) trivial)) (by kernel_rfl)
 |cons w ws ih=>
  intro σ hws h
  have hw:=hws w (.head _)
  subst hw
  have h:Rd σ (32::(ws++x::r)):=h
  have e:=ih (σ:=fwdN 1 σ) (fun y hy=>hws y (.tail _ hy)) h.next
  rw[←BC,Bv 1] at e
  refine AB (HH (x:=ws) ⟨x,r,rfl⟩) fun y e'=>AB e' fun u e'=>?_
  have f:=Gx (ns:=ns) (d:=d) (hs:=hs) (h.as (congrArg (32::·) e'))
  refine An.go (s1:=St.mk [(A8 "self",V.obj 0),(A8 "found",V.bool b)] (scO (fwdN 1 σ)::hs)) [.c (Aw 32) (scO σ::hs),.a 1,.c (V.none) (scO (fwdN 1 σ)::hs)] ?_ (an (Ba (ns:=ns) (σ:=σ) (d:=d+1) (hs:=hs) (r:=ws++x::r) (c:=32) (h:=h)) (an f trivial)) (by kernel_rfl)
  exact e
theorem Xk {b:Bool}{x:Nat}{r:List Nat}(hx:x∈[0,13,10,133,8232,8233]):∀{cs:List Nat} {σ:Sc},(∀y∈cs,y∉[0,13,10,133,8232,8233])→Rd σ (cs++x::r)→An (S ns) (d+3) aX aj ⟨Ei (.bool b),scO σ::hs⟩ .next ⟨Ei (.bool b),scO (fwdN cs.length σ)::hs⟩:=by
 intro cs
 induction cs with
 |nil=>
  intro σ hws h
  have h:Rd σ (x::r):=h
  rw[show fwdN (A9 (α:=Nat) []) σ=σ from rfl]
  exact An.by [.c (Aw x) (scO σ::hs),.f] (an (Ba (ns:=ns) (σ:=σ) (d:=d+1) (hs:=hs) (r:=r) (c:=x) (h:=h)) (an (congrArg not (WD (c:=x) (h:=hx))) trivial)) (by kernel_rfl)
 |cons w ws ih=>
  intro σ hws h
  have hw:=hws w (.head _)
  have h:Rd σ (w::(ws++x::r)):=h
  have e:=ih (σ:=fwdN 1 σ) (fun y hy=>hws y (.tail _ hy)) h.next
  rw[←BC,Bv 1] at e
  refine AB (HH (x:=ws) ⟨x,r,rfl⟩) fun y e'=>AB e' fun u e'=>?_
  have f:=Gx (ns:=ns) (d:=d) (hs:=hs) (h.as (congrArg (w::·) e'))
  refine An.go (s1:=St.mk [(A8 "self",V.obj 0),(A8 "found",V.bool b)] (scO (fwdN 1 σ)::hs)) [.c (Aw w) (scO σ::hs),.t,.c (V.none) (scO (fwdN 1 σ)::hs)] ?_ (an (Ba (ns:=ns) (σ:=σ) (d:=d+1) (hs:=hs) (r:=ws++x::r) (c:=w) (h:=h)) (an (congrArg not (WE (c:=w) (h:=hw))) (an f trivial))) (by kernel_rfl)
  exact e
inductive Ey:Bool→List Nat→List Nat→Prop
 |done {ws u:List Nat} {c:Nat}:(∀y∈ws,y=32)→c≠32→c≠35→c≠65279→c∉BRK→Ey false ws (c::u)
 |line {q:Bool} {ws b l x r:List Nat}:(∀y∈ws,y=32)→Dr b l (x++r)→Ey q x r→Ey true (ws++(b++x)) r
 |comm {q:Bool} {ws cs b l x r:List Nat}:(∀y∈ws,y=32)→(∀y∈cs,y∉[0,13,10,133,8232,8233])→Dr b l (x++r)→Ey q x r→Ey true (ws++((35::cs)++(b++x))) r
theorem Ey.rest {q:Bool}{x r:List Nat}(h:Ey q x r):∃c u,r=c::u:=by
 induction h with
 |done=>exact⟨_,_,rfl⟩
 |line _ _ _ ih=>exact ih
 |comm _ _ _ _ ih=>exact ih
noncomputable def B2 (n:Nat)(σ:Sc):Sc:={fwdN n σ with ask:=true}
theorem TN {n:Nat}{σ:Sc}(h:σ.ask=true):fwdN n σ=B2 n σ:=by
 obtain⟨B,p,ix,ln,cl,dn,tk,tn,ind,ask,keys,dt⟩:=σ
 cases (show ask=true from h)
 rfl
theorem NS (a b:Nat)(σ:Sc):B2 b (B2 a σ)=B2 (a+b) σ:=by
 unfold B2
 rw[BC a b σ]
 rfl
theorem F3 {σ:Sc}{x r:List Nat}(h:Rd σ (x++r)):Rd (B2 x.length σ) r:=⟨h.skip.at_,h.skip.z⟩
theorem Z0 {q:Bool}{x r:List Nat}(g:Ey q x r):∀{σ:Sc},(q=true∨σ.ask=true)→Rd σ (x++r)→An (S ns) (d+4) Zi PT ⟨Ei (.bool false),scO σ::hs⟩ .next ⟨Ei (.bool true),scO (B2 x.length σ)::hs⟩:=by
 induction g with
 |@done ws u c hws h32 h35 _ hb=>
  intro σ ha h
  have ha:σ.ask=true:=ha.elim (fun e=>(AI e).elim) id
  have e1:=NK (ns:=ns) (d:=d+1) (hs:=hs) (b:=false) h32 hws h
  have h1:=h.skip
  rw[←TN ha]
  have e2:An (S ns) (d+4) Zi PT ⟨Ei (.bool true),scO (fwdN ws.length σ)::hs⟩ .next ⟨Ei (.bool true),scO (fwdN ws.length σ)::hs⟩:=by
   exact An.by [.a 1] trivial (by kernel_rfl)
  refine An.go (s1:=St.mk [(A8 "self",V.obj 0),(A8 "found",V.bool true)] (scO (fwdN (A9 ws) σ)::hs)) [.a 1,.w (Fl.next) (St.mk (Ei (V.bool false)) (scO (fwdN (A9 ws) σ)::hs)),.c (Aw c) (scO (fwdN (A9 ws) σ)::hs),.f,.c (V.str (A8 "")) (scO (fwdN (A9 ws) σ)::hs),.a 3] ?_ (an e1 (an (Ba (ns:=ns) (σ:=fwdN (A9 ws) σ) (d:=d+2) (hs:=hs) (r:=u) (c:=c) (h:=h1)) (an (Rq (c:=c) (h:=h35)) (an (Vn (ns:=ns) (σ:=fwdN (A9 ws) σ) (d:=d+1) (hs:=hs) (r:=u) (c:=c) (h:=h1) (hc:=hb)) trivial)))) (by kernel_rfl)
  exact e2
 |@line q ws b l x r hws hb hg ih=>
  intro σ ha h
  rw[AC,AC] at h
  refine hb.head fun a b' eb ha hl=>?_
  subst eb
  have h32:a≠32:=fun e=>absurd (e▸ha) (by decide)
  have h35:a≠35:=fun e=>absurd (e▸ha) (by decide)
  have e1:=NK (ns:=ns) (d:=d+1) (hs:=hs) (b:=false) (x:=a) (r:=b'++(x++r)) h32 hws h
  have h1:=h.skip
  have h1':Rd (fwdN ws.length σ) (a::(b'++(x++r))):=h1
  have ol:BE l.length=true:=As (AL hb.len.1 (AL (by rw[AE];exact BN ..) h1.len))
  refine AB (HH (x:=x) hg.rest) fun y e=>AB e fun u e=>?_
  have e3:AK (S ns) (d+3) 38 [.obj 0] [] (scO (fwdN ws.length σ)::hs) (.str ⟨l.toArray⟩) (scO (fwdN (a::b').length (fwdN ws.length σ))::hs):=by
   rw[e] at h1 hb
   exact K7 (ns:=ns) (d:=d) (hs:=hs) h1 hb
  rw[←BC] at e3
  have h2:=h1.skip
  rw[←BC] at h2
  have e4:=ih (σ:=B2 (ws.length+(a::b').length) σ) (.inr rfl) ⟨h2.at_,h2.z⟩
  rw[NS] at e4
  rw[show(ws++((a::b')++x)).length=ws.length+(a::b').length+x.length by rw[AE,AE,BV]]
  have nl:decide (l.length≠0)=true:=decide_eq_true fun e=>hl (B5.mp e)
  refine An.go (s1:=St.mk [(A8 "self",V.obj 0),(A8 "found",V.bool false)] (scO (Sc.mk (Sc.B (fwdN (A9 ws+(A9 b'+1)) σ)) (Sc.p (fwdN (A9 ws+(A9 b'+1)) σ)) (Sc.ix (fwdN (A9 ws+(A9 b'+1)) σ)) (Sc.ln (fwdN (A9 ws+(A9 b'+1)) σ)) (Sc.cl (fwdN (A9 ws+(A9 b'+1)) σ)) (Sc.dn (fwdN (A9 ws+(A9 b'+1)) σ)) (Sc.tk (fwdN (A9 ws+(A9 b'+1)) σ)) (Sc.tn (fwdN (A9 ws+(A9 b'+1)) σ)) (Sc.ind (fwdN (A9 ws+(A9 b'+1)) σ)) true (Sc.keys (fwdN (A9 ws+(A9 b'+1)) σ)) (Sc.dt (fwdN (A9 ws+(A9 b'+1)) σ)))::hs)) [.a 1,.w (Fl.next) (St.mk (Ei (V.bool false)) (scO (fwdN (A9 ws) σ)::hs)),.c (Aw a) (scO (fwdN (A9 ws) σ)::hs),.f,.c (V.str (Str.mk (AG l))) (scO (fwdN (A9 ws+A9 (a::b')) σ)::hs),.t,.t,.a 1] ?_ (an e1 (an (Ba (ns:=ns) (σ:=fwdN (A9 ws) σ) (d:=d+2) (hs:=hs) (r:=b'++(x++r)) (c:=a) (h:=h1')) (an (Rq (c:=a) (h:=h35)) (an e3 (an ol (an nl trivial)))))) (by kernel_rfl)
  exact e4
 |@comm q ws cs b l x r hws hcs hb hg ih=>
  intro σ ha h
  rw[AC,AC,AC] at h
  refine hb.head fun a b' eb ha hl=>?_
  subst eb
  have ha':a∈[0,13,10,133,8232,8233]:=.tail _ ha
  have e1:=NK (ns:=ns) (d:=d+1) (hs:=hs) (b:=false) (x:=35) (r:=cs++((a::b')++(x++r))) (by decide) hws h
  have h1:=h.skip
  have h1':Rd (fwdN ws.length σ) (35::(cs++((a::b')++(x++r)))):=h1
  have e2:=Xk (ns:=ns) (d:=d+1) (hs:=hs) (b:=false) (x:=a) (r:=b'++(x++r)) (cs:=35::cs) ha' (fun y hy=>(AU.mp hy).elim (fun e=>by rw[e];decide) (hcs y)) h1
  rw[←BC] at e2
  have h2:=h1.skip
  rw[←BC] at h2
  have ol:BE l.length=true:=As (AL hb.len.1 (AL (by rw[AE];exact BN ..) h2.len))
  refine AB (HH (x:=x) hg.rest) fun y e=>AB e fun u e=>?_
  have e3:AK (S ns) (d+3) 38 [.obj 0] [] (scO (fwdN (ws.length+(35::cs).length) σ)::hs) (.str ⟨l.toArray⟩) (scO (fwdN (a::b').length (fwdN (ws.length+(35::cs).length) σ))::hs):=by
   rw[e] at h2 hb
   exact K7 (ns:=ns) (d:=d) (hs:=hs) h2 hb
  rw[←BC] at e3
  have h3:=h2.skip
  rw[←BC] at h3
  have e4:=ih (σ:=B2 (ws.length+(35::cs).length+(a::b').length) σ) (.inr rfl) ⟨h3.at_,h3.z⟩
  rw[NS] at e4
  rw[show(ws++((35::cs)++((a::b')++x))).length=ws.length+(35::cs).length+(a::b').length+x.length by rw[AE,AE (as:=35::cs),AE,BV,BV]]
  have nl:decide (l.length≠0)=true:=decide_eq_true fun e=>hl (B5.mp e)
  refine An.go (s1:=St.mk [(A8 "self",V.obj 0),(A8 "found",V.bool false)] (scO (Sc.mk (Sc.B (fwdN (A9 ws+(A9 cs+1)+(A9 b'+1)) σ)) (Sc.p (fwdN (A9 ws+(A9 cs+1)+(A9 b'+1)) σ)) (Sc.ix (fwdN (A9 ws+(A9 cs+1)+(A9 b'+1)) σ)) (Sc.ln (fwdN (A9 ws+(A9 cs+1)+(A9 b'+1)) σ)) (Sc.cl (fwdN (A9 ws+(A9 cs+1)+(A9 b'+1)) σ)) (Sc.dn (fwdN (A9 ws+(A9 cs+1)+(A9 b'+1)) σ)) (Sc.tk (fwdN (A9 ws+(A9 cs+1)+(A9 b'+1)) σ)) (Sc.tn (fwdN (A9 ws+(A9 cs+1)+(A9 b'+1)) σ)) (Sc.ind (fwdN (A9 ws+(A9 cs+1)+(A9 b'+1)) σ)) true (Sc.keys (fwdN (A9 ws+(A9 cs+1)+(A9 b'+1)) σ)) (Sc.dt (fwdN (A9 ws+(A9 cs+1)+(A9 b'+1)) σ)))::hs)) [.a 1,.w (Fl.next) (St.mk (Ei (V.bool false)) (scO (fwdN (A9 ws) σ)::hs)),.c (Aw 35) (scO (fwdN (A9 ws) σ)::hs),.a 1,.w (Fl.next) (St.mk (Ei (V.bool false)) (scO (fwdN (A9 ws+(A9 cs+1)) σ)::hs)),.c (V.str (Str.mk (AG l))) (scO (fwdN (A9 ws+A9 (35::cs)+A9 (a::b')) σ)::hs),.t,.t,.a 1] ?_ (an e1 (an (Ba (ns:=ns) (σ:=fwdN (A9 ws) σ) (d:=d+2) (hs:=hs) (r:=cs++(a::b'++(x++r))) (c:=35) (h:=h1')) (an e2 (an e3 (an ol (an nl trivial)))))) (by kernel_rfl)
  exact e4
theorem JC {σ:Sc}{q:Bool}{x r u:List Nat}{c:Nat}(g:Ey q x r)(ha:q=true∨σ.ask=true)(h:Rd σ (x++r))(e:x++r=c::u)(hbom:c≠65279):AK (S ns) (d+5) 33 [.obj 0] [] (scO σ::hs) .none (scO (B2 x.length σ)::hs):=by
 have e1:=Z0 (ns:=ns) (d:=d+1) (hs:=hs) g ha h
 have h':=h.as e
 by_cases q:σ.ix=0
 ·have q:=XB q
  exact AK.by [.t,.c (Aw c) (scO σ::hs),.f,.a 2,.w (Fl.next) (St.mk (Ei (V.bool true)) (scO (B2 (A9 x) σ)::hs))] (an q (an (Ba (ns:=ns) (σ:=σ) (d:=d+3) (hs:=hs) (r:=u) (c:=c) (h:=h')) (an (Uz (c:=c) (h:=hbom)) (an e1 trivial)))) (by kernel_rfl)
 ·have q:=XC q
  exact AK.by [.f,.a 2,.w (Fl.next) (St.mk (Ei (V.bool true)) (scO (B2 (A9 x) σ)::hs))] (an q (an e1 trivial)) (by kernel_rfl)
end
inductive I8:List Nat→List Nat→List Nat→Prop
 |mk {x1 t1 x2 t2 r:List Nat}:Dz x1 t1 (x2++39::r)→Tl x2 t2 (39::r)→I8 (x1++x2) (t1++t2) r
noncomputable def Eb (x:List Nat)(σ:Sc):Sc:=fwdN (x.length+2) {σ with ask:=false}
noncomputable abbrev HR (x t:List Nat)(σ:Sc):V:=Om ⟨t.toArray⟩ (mk σ) (mk (Eb x σ)) (A8 "'")
section
variable {ns:List Int}{Z:List O}{d:Nat}{σ:Sc}{hs:List O}{x t r:List Nat}{T:List V}{D:List (V×V)}
theorem Va (hx:I8 x t r)(hr:∃a u,r=a::u)(h:Rd σ (39::(x++39::r))):
  ∃hs',Aq hs hs'∧AK (S ns) (d+6) 34 [.obj 0,.str "'"] [] (scO {σ with ask:=false}::hs) (HR x t σ) (scO (Eb x σ)::hs'):=by
 obtain @⟨x1,t1,x2,t2,_,h1,h2⟩:=hx
 have e:=Vb (ns:=ns) (d:=d) (hs:=hs) h1 h2 hr (σ:={σ with ask:=false}) ⟨by rw[←AC];exact h.at_,h.z⟩
 rw[show 1+x1.length+x2.length+1=(x1++x2).length+2 from by rw[AE];lia] at e
 exact e
theorem Sv (hx:I8 x t r)(hr:∃a u,r=a::u)(h:Rd σ (39::(x++39::r)))(f:BU Z hs σ [] [])(ha:σ.ask=true):
  ∃hs',BU Z hs' (Eb x σ) [HR x t σ] [(.int 0,Bg σ)]∧AK (S ns) (d+8) 27 [.obj 0] [] (scO σ::hs) .none (scO (Eb x σ)::hs'):=by
 refine AS (WY (ns:=ns) (d:=d+3) f ha) fun hs1 f1 e1=>?_
 refine AS (Va (ns:=ns) (d:=d) (hs:=hs1) hx hr h) fun hs2 x2 e2=>?_
 have f2:=f1.ext (σ':=Eb x σ) x2 rfl rfl
 have g1:=f1.tk
 have g2:=f2.tk
 refine⟨_,f2.sett [HR x t σ],?_⟩
 have e3:AK (S ns) (d+7) 29 [.obj 0] [("style",.str "'")] (scO σ::hs) .none (scO (Eb x σ)::hs2.set (Eb x σ).tk (.list [HR x t σ])):=by
  exact AK.by [.c (V.none) (scO σ::hs1),.v .ob (O.list []),.c (HR x t σ) (scO (Eb x σ)::hs2),.v .ob (O.list []),.a 1] (an e1 (an g1 (an e2 (an g2 trivial)))) (by kernel_rfl)
 exact AK.by [.c (V.none) (scO (Eb x σ)::Ai hs2 (Sc.tk (Eb x σ)) (O.list [HR x t σ]))] (an e3 trivial) (by kernel_rfl)
noncomputable abbrev D4 (k:Nat)(a b:Sc):V:=.rcd k [("start_mark",mk a),("end_mark",mk b)]
noncomputable abbrev XW (σ:Sc):V:=D4 2 σ σ
structure GE (Z hs:List O)(σ:Sc)(T:List V):Prop where
 tk:hs[σ.tk]? =some (.list T)
 dn:σ.dn=true
 kp:∀j,j<Z.length→hs[j]? =Z[j]?
 k1:Z.length≤σ.tk
theorem BU.setd (f:BU Z hs σ T D){k:Int}:BU Z (hs.set σ.ind (.list (L9 k))) {σ with dt:=k} T D:=
 ⟨(Aa (Cq f.n2)).trans f.tk,(Aa (Cq f.n3)).trans f.ks,f.ne,f.nf.set rfl,fun j hj=>(Aa (Bh (Ab hj f.k3))).trans (f.kp j hj),f.k1,f.k2,gs f.is,f.n2,f.n3,f.k3⟩
noncomputable abbrev FY (σ:Sc):Sc:={σ with dt:=-1}
theorem VH (f:BU Z hs σ T D)(hdt:σ.dt=0)(hT:BE T.length=true):
  ∃hs',BU Z hs' (FY σ) (T++[D4 4 σ σ]) D∧AK (S ns) (d+3) 22 [.obj 0,.int (-1)] [] (scO σ::hs) .none (scO (FY σ)::hs'):=by
 have f1:=f.ext (σ':=σ) (Aq.app hs (o:=.dead)) rfl rfl
 have g1:(hs++[O.dead])[σ.ind]? =some (.list [.int (-1)]):=by
  have g:=f1.is
  rw[hdt,show L9 0=[.int (-1)] from if_neg (by decide)] at g
  exact g
 have q:decide ((-1:Int)<σ.dt)=true:=by rw[hdt];rfl
 have q2:decide ((-1:Int)< -1)=false:=rfl
 have f2:BU Z ((hs++[O.dead]).set σ.ind (O.list (L9 (-1)))) (FY σ) T D:=f1.setd (k:=-1)
 rw[show L9 (-1)=[] from if_pos rfl] at f2
 have g2:((hs++[O.dead]).set σ.ind (O.list []))[σ.tk]? =some (.list T):=f2.tk
 have f3:=f2.ext (σ':=FY σ) (Aq.app _ (o:=.dead)) rfl rfl
 have g3:=f3.tk
 refine⟨_,f3.sett (T++[D4 4 σ σ]),?_⟩
 rw[←Cz ((hs++[O.dead]).set σ.ind (O.list [])) (O.inst 4 [("start_mark",mk σ),("end_mark",mk σ)])]
 rw[←Cz ((hs++[O.dead]).set σ.ind (O.list [])) (O.inst 4 [("start_mark",mk σ),("end_mark",mk σ)])] at g3
 have e:An (S ns) (d+3) (wT (Bo (BZ 22) 1)) (wB (Bo (BZ 22) 1)) ⟨[("self",.obj 0),("column",.int (-1)),("mark",mk σ),("BlockEndToken",.cls 4)],scO (FY σ)::((((hs++[O.dead]).set σ.ind (O.list [])++[O.inst 4 [("start_mark",mk σ),("end_mark",mk σ)]]).set ((hs++[O.dead]).set σ.ind (O.list [])).length O.dead).set (FY σ).tk (O.list (T++[D4 4 σ σ])))⟩ .next ⟨[("self",.obj 0),("column",.int (-1)),("mark",mk σ),("BlockEndToken",.cls 4)],scO (FY σ)::((((hs++[O.dead]).set σ.ind (O.list [])++[O.inst 4 [("start_mark",mk σ),("end_mark",mk σ)]]).set ((hs++[O.dead]).set σ.ind (O.list [])).length O.dead).set (FY σ).tk (O.list (T++[D4 4 σ σ])))⟩:=by
  exact An.by [.f] (an q2 trivial) (by kernel_rfl)
 have e:An (S ns) (d+3) (wT (Bo (BZ 22) 1)) (wB (Bo (BZ 22) 1)) ⟨[("self",.obj 0),("column",.int (-1)),("mark",.undef),("BlockEndToken",.cls 4)],scO σ::hs⟩ .next ⟨[("self",.obj 0),("column",.int (-1)),("mark",mk σ),("BlockEndToken",.cls 4)],scO (FY σ)::((((hs++[O.dead]).set σ.ind (O.list [])++[O.inst 4 [("start_mark",mk σ),("end_mark",mk σ)]]).set ((hs++[O.dead]).set σ.ind (O.list [])).length O.dead).set (FY σ).tk (O.list (T++[D4 4 σ σ])))⟩:=by
  refine An.go (s1:=St.mk [(A8 "self",V.obj 0),(A8 "column",V.int (-1)),(A8 "mark",V.rcd 0 (BM σ)),(A8 "BlockEndToken",V.cls 4)] (scO (Sc.mk (Sc.B σ) (Sc.p σ) (Sc.ix σ) (Sc.ln σ) (Sc.cl σ) (Sc.dn σ) (Sc.tk σ) (Sc.tn σ) (Sc.ind σ) (Sc.ask σ) (Sc.keys σ) (-1))::Ai (Ai (Ai (hs++[O.dead]) (Sc.ind σ) (O.list [])++[O.inst 4 [(A8 "start_mark",V.rcd 0 (BM σ)),(A8 "end_mark",V.rcd 0 (BM σ))]]) (A9 (Ai (hs++[O.dead]) (Sc.ind σ) (O.list []))) O.dead) (Sc.tk σ) (O.list (T++[V.rcd 4 [(A8 "start_mark",V.rcd 0 (BM σ)),(A8 "end_mark",V.rcd 0 (BM σ))]])))) [.t,.c (mk σ) (scO σ::(hs++[O.dead])),.a 1,.v .ob (O.list [V.int (-1)]),.v .ob (O.list [V.int (-1)]),.a 2,.v .ob (O.list T),.c (V.none) (scO (Sc.mk (Sc.B σ) (Sc.p σ) (Sc.ix σ) (Sc.ln σ) (Sc.cl σ) (Sc.dn σ) (Sc.tk σ) (Sc.tn σ) (Sc.ind σ) (Sc.ask σ) (Sc.keys σ) (-1))::(Ai (hs++[O.dead]) (Sc.ind σ) (O.list (List.dropLast [V.int (-1)]))++[O.inst 4 [(A8 "start_mark",V.rcd 0 (BM σ)),(A8 "end_mark",V.rcd 0 (BM σ))]])),.v .ob (O.inst 4 [(A8 "start_mark",V.rcd 0 (BM σ)),(A8 "end_mark",V.rcd 0 (BM σ))]),.v .ob (O.list T),.t] ?_ (an q (an (DK (ns:=ns) (σ:=σ) (d:=d) (hs:=hs)) (an g1 (an g1 (an g2 (an (Tg (ns:=ns) (d:=d+1) (l:=Ai (hs++[O.dead]) (Sc.ind σ) (O.list (List.dropLast [V.int (-1)]))) (a0:=scO (Sc.mk (Sc.B σ) (Sc.p σ) (Sc.ix σ) (Sc.ln σ) (Sc.cl σ) (Sc.dn σ) (Sc.tk σ) (Sc.tn σ) (Sc.ind σ) (Sc.ask σ) (Sc.keys σ) (-1))) (c1:=0) (c2:=0) (f1:=BM σ) (f2:=BM σ)) (an (ga (l:=Ai (hs++[O.dead]) (Sc.ind σ) (O.list [])) (o:=O.inst 4 [(A8 "start_mark",V.rcd 0 (BM σ)),(A8 "end_mark",V.rcd 0 (BM σ))]) (r:=[])) (an g3 (an hT trivial))))))))) (by kernel_rfl)
  exact e
 exact AK.by [.a 1,.w (Fl.next) (St.mk [(A8 "self",V.obj 0),(A8 "column",V.int (-1)),(A8 "mark",mk σ),(A8 "BlockEndToken",V.cls 4)] (scO (FY σ)::Ai (Ai (Ai (hs++[O.dead]) (Sc.ind σ) (O.list [])++[O.inst 4 [(A8 "start_mark",mk σ),(A8 "end_mark",mk σ)]]) (A9 (Ai (hs++[O.dead]) (Sc.ind σ) (O.list []))) O.dead) (Sc.tk (FY σ)) (O.list (T++[D4 4 σ σ]))))] (an e trivial) (by kernel_rfl)
end
noncomputable abbrev Gj (σ:Sc):Sc:={σ with dt:=0}
section
variable {ns:List Int}{Z:List O}{d:Nat}{σ κ:Sc}{hs:List O}{T:List V}{D:List (V×V)}{r:List Nat}
theorem aJ:L9 0=[.int (-1)]:=if_neg (by decide)
theorem aI:L9 (-1)=[]:=if_pos rfl
theorem YC (f:BU Z hs σ T D)(hdt:σ.dt=-1)(hcl:σ.cl=0):∃hs',BU Z hs' (Gj σ) T D∧AK (S ns) (d+1) 23 [.obj 0,.int (σ.cl:Int)] [] (scO σ::hs) (.bool true) (scO (Gj σ)::hs'):=by
 have g:hs[σ.ind]? =some (.list []):=by
  have g:=f.is
  rw[hdt,aI] at g
  exact g
 have q:decide (σ.dt<(σ.cl:Int))=true:=by rw[hdt,hcl];rfl
 have f1:=f.setd (k:=0)
 rw[aJ] at f1
 refine⟨_,f1,?_⟩
 suffices h:AK (S ns) (d+1) 23 [.obj 0,.int (σ.cl:Int)] [] (scO σ::hs) (.bool true) (scO {σ with dt:=(σ.cl:Int)}::hs.set σ.ind (.list ([]++[.int σ.dt]))) by
  have e0:((σ.cl:Nat):Int)=0:=by rw[hcl];rfl
  have h:AK (S ns) (d+1) 23 [.obj 0,.int (σ.cl:Int)] [] (scO σ::hs) (.bool true) (scO ((fun k=>{σ with dt:=k}) (σ.cl:Int))::hs.set σ.ind (.list ([]++[.int σ.dt]))):=h
  rw[hdt] at h
  generalize ((σ.cl:Nat):Int)=k at h e0 ⊢
  subst e0
  exact h
 exact AK.by [.t,.v .ob (O.list []),.v .ob (O.list []),.a 1] (an q (an g (an g trivial))) (by kernel_rfl)
theorem YD (h:¬σ.dt<(σ.cl:Int)):AK (S ns) (d+1) 23 [.obj 0,.int (σ.cl:Int)] [] (scO σ::hs) (.bool false) (scO σ::hs):=by
 have q:decide (σ.dt<(σ.cl:Int))=false:=decide_eq_false h
 exact AK.by [.f] (an q trivial) (by kernel_rfl)
noncomputable def DM (σ:Sc):Sc:=fwdN 1 {σ with ask:=true}
noncomputable abbrev M2 (σ:Sc):V:=D4 5 σ (DM σ)
noncomputable abbrev Bt (σ:Sc):Sc:={σ with ask:=true}
theorem U6 {c:Nat}(f:BU Z hs σ T D)(hD:GZ κ D)(ha:σ.ask=true)(hn:¬σ.dt<(σ.cl:Int))(hT:BE T.length=true)(h:Rd σ (45::c::r)):
  ∃hs',BU Z hs' (DM σ) (T++[M2 σ]) []∧AK (S ns) (d+3) 26 [.obj 0] [] (scO σ::hs) .none (scO (DM σ)::hs'):=by
 have e1:=YD (ns:=ns) (d:=d+1) (hs:=hs) hn
 refine AS (NP (ns:=ns) (d:=d) (f.ext (σ':=Bt σ) (Aq.refl hs) rfl rfl) hD) fun hs1 f1 e2=>?_
 have h1:Rd (Bt σ) (45::c::r):=⟨h.at_,h.z⟩
 have e3:=Gx (ns:=ns) (d:=d) (hs:=hs1++[O.dead]) h1
 have f2:=f1.ext (σ':=DM σ) (((Aq.app hs1 (o:=.dead)).trans (Aq.app _ (o:=.dead))).trans (Aq.app _ (o:=.dead))) rfl rfl
 have g2:=f2.tk
 have g1:=(f1.ext (σ':=DM σ) ((Aq.app hs1 (o:=.dead)).trans (Aq.app _ (o:=.dead))) rfl rfl).tk
 have em:mk (fwdN 1 (Bt σ))=mk (DM σ):=rfl
 refine⟨_,f2.sett (T++[M2 σ]),?_⟩
 rw[←Cz (hs1++[O.dead]++[O.dead]) (O.inst 5 [("start_mark",mk σ),("end_mark",mk (DM σ))])] at g2 ⊢
 exact AK.by [.a 1,.f,.c (V.bool false) (scO σ::hs),.a 1,.c (V.none) (scO (Bt σ)::hs1),.c (mk (Bt σ)) (scO (Bt σ)::(hs1++[O.dead])),.a 1,.c (V.none) (scO (fwdN 1 (Bt σ))::(hs1++[O.dead])),.c (mk (fwdN 1 (Bt σ))) (scO (fwdN 1 (Bt σ))::(hs1++[O.dead]++[O.dead])),.a 1,.v .ob (O.list T),.c (V.none) (scO (fwdN 1 (Bt σ))::(hs1++[O.dead]++[O.dead]++[O.inst 5 [(A8 "start_mark",V.rcd 0 (BM (Bt σ))),(A8 "end_mark",V.rcd 0 (BM (fwdN 1 (Bt σ))))]])),.v .ob (O.inst 5 [(A8 "start_mark",V.rcd 0 (BM (Bt σ))),(A8 "end_mark",V.rcd 0 (BM (fwdN 1 (Bt σ))))]),.v .ob (O.list T),.t] (an (congrArg not ha) (an e1 (an e2 (an (DK (ns:=ns) (σ:=Bt σ) (d:=d) (hs:=hs1)) (an e3 (an (DK (ns:=ns) (σ:=fwdN 1 (Bt σ)) (d:=d) (hs:=hs1++[O.dead])) (an g1 (an (Nh (ns:=ns) (d:=d+1) (l:=hs1++[O.dead]++[O.dead]) (a0:=scO (fwdN 1 (Bt σ))) (c1:=0) (c2:=0) (f1:=BM (Bt σ)) (f2:=BM (fwdN 1 (Bt σ)))) (an (ga (l:=hs1++[O.dead]++[O.dead]) (o:=O.inst 5 [(A8 "start_mark",V.rcd 0 (BM (Bt σ))),(A8 "end_mark",V.rcd 0 (BM (fwdN 1 (Bt σ))))]) (r:=[])) (an g2 (an hT trivial))))))))))) (by kernel_rfl)
noncomputable abbrev KP (σ:Sc):V:=D4 3 σ σ
theorem U7 {c:Nat}(f:BU Z hs σ [] D)(hD:GZ κ D)(ha:σ.ask=true)(hdt:σ.dt=-1)(hcl:σ.cl=0)(h:Rd σ (45::c::r)):
  ∃hs',BU Z hs' (DM (Gj σ)) [KP (Gj σ),M2 (Gj σ)] []∧AK (S ns) (d+3) 26 [.obj 0] [] (scO σ::hs) .none (scO (DM (Gj σ))::hs'):=by
 refine AS (YC (ns:=ns) (d:=d+1) (hs:=hs) f hdt hcl) fun hs0 f0 e1=>?_
 have h0:Rd (Gj σ) (45::c::r):=⟨h.at_,h.z⟩
 generalize Gj σ=σ1 at f0 e1 h0 ⊢
 have f0a:=f0.ext (σ':=σ1) (Aq.app hs0 (o:=.dead)) rfl rfl
 have f1:=f0.ext (σ':=σ1) ((Aq.app hs0 (o:=.dead)).trans (Aq.app _ (o:=.dead))) rfl rfl
 have g0:=f0a.tk
 have g1:=f1.tk
 have f2:=f1.sett [KP σ1]
 refine AS (NP (ns:=ns) (d:=d) (f2.ext (σ':=Bt σ1) (Aq.refl _) rfl rfl) hD) fun hs1 f3 e2=>?_
 have h1:Rd (Bt σ1) (45::c::r):=⟨h0.at_,h0.z⟩
 have e3:=Gx (ns:=ns) (d:=d) (hs:=hs1++[O.dead]) h1
 have f4:=f3.ext (σ':=DM σ1) (((Aq.app hs1 (o:=.dead)).trans (Aq.app _ (o:=.dead))).trans (Aq.app _ (o:=.dead))) rfl rfl
 have g4:=f4.tk
 have g3:=(f3.ext (σ':=DM σ1) ((Aq.app hs1 (o:=.dead)).trans (Aq.app _ (o:=.dead))) rfl rfl).tk
 have o1:BE [KP σ1].length=true:=rfl
 have o0:BE ([]:List V).length=true:=rfl
 refine⟨_,f4.sett [KP σ1,M2 σ1],?_⟩
 rw[←Cz (hs1++[O.dead]++[O.dead]) (O.inst 5 [("start_mark",mk σ1),("end_mark",mk (DM σ1))])] at g4 ⊢
 rw[←Cz (hs0++[O.dead]) (O.inst 3 [("start_mark",mk σ1),("end_mark",mk σ1)])] at e2 g1
 exact AK.by [.a 1,.f,.c (V.bool true) (scO σ1::hs0),.a 1,.c (mk σ1) (scO σ1::(hs0++[O.dead])),.a 1,.v .ob (O.list []),.c (V.none) (scO σ1::(hs0++[O.dead]++[O.inst 3 [(A8 "start_mark",V.rcd 0 (BM σ1)),(A8 "end_mark",V.rcd 0 (BM σ1))]])),.v .ob (O.inst 3 [(A8 "start_mark",V.rcd 0 (BM σ1)),(A8 "end_mark",V.rcd 0 (BM σ1))]),.v .ob (O.list []),.a 1,.c (V.none) (scO (Bt σ1)::hs1),.c (mk (Bt σ1)) (scO (Bt σ1)::(hs1++[O.dead])),.a 1,.c (V.none) (scO (fwdN 1 (Bt σ1))::(hs1++[O.dead])),.c (mk (fwdN 1 (Bt σ1))) (scO (fwdN 1 (Bt σ1))::(hs1++[O.dead]++[O.dead])),.a 1,.v .ob (O.list [KP σ1]),.c (V.none) (scO (fwdN 1 (Bt σ1))::(hs1++[O.dead]++[O.dead]++[O.inst 5 [(A8 "start_mark",V.rcd 0 (BM (Bt σ1))),(A8 "end_mark",V.rcd 0 (BM (fwdN 1 (Bt σ1))))]])),.v .ob (O.inst 5 [(A8 "start_mark",V.rcd 0 (BM (Bt σ1))),(A8 "end_mark",V.rcd 0 (BM (fwdN 1 (Bt σ1))))]),.v .ob (O.list [KP σ1]),.a 1] (an (congrArg not ha) (an e1 (an (DK (ns:=ns) (σ:=σ1) (d:=d) (hs:=hs0)) (an g0 (an (Th (ns:=ns) (d:=d+1) (l:=hs0++[O.dead]) (a0:=scO σ1) (c1:=0) (c2:=0) (f1:=BM σ1) (f2:=BM σ1)) (an (ga (l:=hs0++[O.dead]) (o:=O.inst 3 [(A8 "start_mark",V.rcd 0 (BM σ1)),(A8 "end_mark",V.rcd 0 (BM σ1))]) (r:=[])) (an g1 (an e2 (an (DK (ns:=ns) (σ:=Bt σ1) (d:=d) (hs:=hs1)) (an e3 (an (DK (ns:=ns) (σ:=fwdN 1 (Bt σ1)) (d:=d) (hs:=hs1++[O.dead])) (an g3 (an (Nh (ns:=ns) (d:=d+1) (l:=hs1++[O.dead]++[O.dead]) (a0:=scO (fwdN 1 (Bt σ1))) (c1:=0) (c2:=0) (f1:=BM (Bt σ1)) (f2:=BM (fwdN 1 (Bt σ1)))) (an (ga (l:=hs1++[O.dead]++[O.dead]) (o:=O.inst 5 [(A8 "start_mark",V.rcd 0 (BM (Bt σ1))),(A8 "end_mark",V.rcd 0 (BM (fwdN 1 (Bt σ1))))]) (r:=[])) (an g4 trivial))))))))))))))) (by kernel_rfl)
end
section
variable {ns:List Int}{Z:List O}{d:Nat}{σ κ:Sc}{hs:List O}{T:List V}{D:List (V×V)}{x t r u:List Nat}
theorem PF {c:Nat}(h:Rd σ (45::32::c::u)):AK (S ns) (d+3) 31 [.obj 0] [] (scO σ::hs) .none (scO σ::hs):=by
 have e1:=Hm (ns:=ns) (d:=d) (hs:=hs) (n:=3) h
 have q1:decide ((⟨(Ac 3 (45::32::c::u)).toArray⟩:Str)=A8 "---")=false:=Gb (L:=[45,45,45]) (by decide) (fun e=>absurd (AZ (AZ e).2).1 (by decide))
 by_cases q:σ.cl=0
 ·have q:=XB q
  exact AK.by [.t,.c (V.str (Str.mk (AG (Ac 3 (45::32::c::u))))) (scO σ::hs),.f,.a 1] (an q (an e1 (an q1 trivial))) (by kernel_rfl)
 ·have q:=XC q
  exact AK.by [.f] (an q trivial) (by kernel_rfl)
theorem PG (h:Rd σ (45::32::u)):AK (S ns) (d+2) 30 [.obj 0] [] (scO σ::hs) (.bool true) (scO σ::hs):=by
 have e1:AK (S ns) (d+1) 4 [.obj 0,.int 1] [] (scO σ::hs) (Aw 32) (scO σ::hs):=EM (ns:=ns) (d:=d) (hs:=hs) (x:=[45]) (c:=32) (r:=u) h
 exact AK.by [.c (Aw 32) (scO σ::hs)] (an e1 trivial) (by kernel_rfl)
theorem LG {a:Int}{n:Nat}(h:a=0∨a=-1):a≤(n:Int):=h.elim (fun e=>e▸CD n) fun e=>e▸GB (by decide) (CD n)
theorem XS {q:Bool}{c c0:Nat}{u0:List Nat}(g:Ey q x (45::32::c::u))(ha:q=true∨σ.ask=true)(h:Rd σ (x++45::32::c::u))(e:x++45::32::c::u=c0::u0)(hbom:c0≠65279)(f:BU Z hs σ [] D)(hD:GZ κ D)(hdt:σ.dt=-1)(hcl:(B2 x.length σ).cl=0):
  ∃hs',BU Z hs' (DM (Gj (B2 x.length σ))) [KP (Gj (B2 x.length σ)),M2 (Gj (B2 x.length σ))] []∧AK (S ns) (d+9) 17 [.obj 0] [] (scO σ::hs) .none (scO (DM (Gj (B2 x.length σ)))::hs'):=by
 have e1:=JC (ns:=ns) (d:=d+3) (hs:=hs) g ha h e hbom
 have h1:=F3 h
 have f1:=f.ext (σ':=B2 x.length σ) (Aq.refl hs) rfl rfl
 have hdt:(B2 x.length σ).dt=-1:=hdt
 have ha1:(B2 x.length σ).ask=true:=rfl
 generalize B2 x.length σ=σ1 at *
 refine BF (Pa (ns:=ns) (d:=d+6) f1 hD) fun D' hs1 f2 hD' e2=>?_
 have e3:=J5 (ns:=ns) (d:=d+7) (σ:=σ1) (hs:=hs1) (LG (n:=σ1.cl) (.inr hdt))
 have e4:=PF (ns:=ns) (d:=d+5) (hs:=hs1) h1
 have e5:=PG (ns:=ns) (d:=d+6) (hs:=hs1) h1
 refine AS (U7 (ns:=ns) (d:=d+5) f2 hD' ha1 hdt hcl h1) fun hs2 f3 e6=>?_
 refine⟨hs2,f3,?_⟩
 exact AK.by [.c (V.none) (scO σ1::hs),.c (V.none) (scO σ1::hs1),.c (V.none) (scO σ1::hs1),.c (Aw 45) (scO σ1::hs1),.a 5,.c (V.none) (scO σ1::hs1),.a 10,.c (V.bool true) (scO σ1::hs1),.a 2,.c (V.none) (scO (DM (Gj σ1))::hs2)] (an e1 (an e2 (an e3 (an (Ba (ns:=ns) (σ:=σ1) (d:=d+7) (hs:=hs1) (r:=32::c::u) (c:=45) (h:=h1)) (an e4 (an e5 (an e6 trivial))))))) (by kernel_rfl)
theorem S3 {q:Bool}{c c0:Nat}{u0:List Nat}(g:Ey q x (45::32::c::u))(ha:q=true∨σ.ask=true)(h:Rd σ (x++45::32::c::u))(e:x++45::32::c::u=c0::u0)(hbom:c0≠65279)(f:BU Z hs σ T D)(hD:GZ κ D)(hT:BE T.length=true)(hdt:σ.dt=0)(hcl:(B2 x.length σ).cl=0):
  ∃hs',BU Z hs' (DM (B2 x.length σ)) (T++[M2 (B2 x.length σ)]) []∧AK (S ns) (d+9) 17 [.obj 0] [] (scO σ::hs) .none (scO (DM (B2 x.length σ))::hs'):=by
 have e1:=JC (ns:=ns) (d:=d+3) (hs:=hs) g ha h e hbom
 have h1:=F3 h
 have f1:=f.ext (σ':=B2 x.length σ) (Aq.refl hs) rfl rfl
 have hdt:(B2 x.length σ).dt=0:=hdt
 have ha1:(B2 x.length σ).ask=true:=rfl
 generalize B2 x.length σ=σ1 at *
 refine BF (Pa (ns:=ns) (d:=d+6) f1 hD) fun D' hs1 f2 hD' e2=>?_
 have e3:=J5 (ns:=ns) (d:=d+7) (σ:=σ1) (hs:=hs1) (LG (n:=σ1.cl) (.inl hdt))
 have e4:=PF (ns:=ns) (d:=d+5) (hs:=hs1) h1
 have e5:=PG (ns:=ns) (d:=d+6) (hs:=hs1) h1
 refine AS (U6 (ns:=ns) (d:=d+5) f2 hD' ha1 (by rw[hdt,hcl];decide) hT h1) fun hs2 f3 e6=>?_
 refine⟨hs2,f3,?_⟩
 exact AK.by [.c (V.none) (scO σ1::hs),.c (V.none) (scO σ1::hs1),.c (V.none) (scO σ1::hs1),.c (Aw 45) (scO σ1::hs1),.a 5,.c (V.none) (scO σ1::hs1),.a 10,.c (V.bool true) (scO σ1::hs1),.a 2,.c (V.none) (scO (DM σ1)::hs2)] (an e1 (an e2 (an e3 (an (Ba (ns:=ns) (σ:=σ1) (d:=d+7) (hs:=hs1) (r:=32::c::u) (c:=45) (h:=h1)) (an e4 (an e5 (an e6 trivial))))))) (by kernel_rfl)
theorem S1 {q:Bool}{y:List Nat}{c0:Nat}{u0:List Nat}(g:Ey q x (39::(y++39::r)))(ha:q=true∨σ.ask=true)(h:Rd σ (x++39::(y++39::r)))(e:x++39::(y++39::r)=c0::u0)(hbom:c0≠65279)(hx:I8 y t r)(hr:∃a u,r=a::u)(f:BU Z hs σ [] [])(hdt:σ.dt=0):
  ∃hs',BU Z hs' (Eb y (B2 x.length σ)) [HR y t (B2 x.length σ)] [(.int 0,Bg (B2 x.length σ))]∧AK (S ns) (d+9) 17 [.obj 0] [] (scO σ::hs) .none (scO (Eb y (B2 x.length σ))::hs'):=by
 have e1:=JC (ns:=ns) (d:=d+3) (hs:=hs) g ha h e hbom
 have h1:=F3 h
 have f1:=f.ext (σ':=B2 x.length σ) (Aq.refl hs) rfl rfl
 have hdt:(B2 x.length σ).dt=0:=hdt
 have ha1:(B2 x.length σ).ask=true:=rfl
 generalize B2 x.length σ=σ1 at *
 have e2:=Ko (ns:=ns) (d:=d+6) f1
 have e3:=J5 (ns:=ns) (d:=d+7) (σ:=σ1) (hs:=hs++[.list []]) (LG (n:=σ1.cl) (.inl hdt))
 have f2:=f1.ext (σ':=σ1) (Aq.app hs (o:=.list [])) rfl rfl
 refine AS (Sv (ns:=ns) (d:=d) hx hr h1 f2 ha1) fun hs' f3 e5=>?_
 refine⟨hs',f3,?_⟩
 exact AK.by [.c (V.none) (scO σ1::hs),.c (V.none) (scO σ1::(hs++[O.list []])),.c (V.none) (scO σ1::(hs++[O.list []])),.c (Aw 39) (scO σ1::(hs++[O.list []])),.a 27,.c (V.none) (scO (Eb y σ1)::hs')] (an e1 (an e2 (an e3 (an (Ba (ns:=ns) (σ:=σ1) (d:=d+7) (hs:=hs++[O.list []]) (r:=y++39::r) (c:=39) (h:=h1)) (an e5 trivial))))) (by kernel_rfl)
theorem Z4 (f:BU Z hs σ T D)(hD:GZ κ D)(hdt:σ.dt=0)(hT:BE T.length=true)(hT2:BE (T++[D4 4 σ σ]).length=true):
  ∃σ' hs',GE Z hs' σ' (T++[D4 4 σ σ]++[XW (FY σ)])∧AK (S ns) (d+4) 25 [.obj 0] [] (scO σ::hs) .none (scO σ'::hs'):=by
 refine AS (VH (ns:=ns) (d:=d) f hdt hT) fun hs0 f0 e0=>?_
 generalize T++[D4 4 σ σ]=T1 at *
 generalize FY σ=σ1 at *
 refine AS (NP (ns:=ns) (d:=d+1) f0 hD) fun hs1 f1 e1=>?_
 have f2:=f1.ext (σ':=σ1) (((Aq.app hs1 (o:=.dict [])).trans (Aq.app _ (o:=.dead))).trans (Aq.app _ (o:=.dead))) rfl rfl
 have g2:=f2.tk
 have g1:=(f1.ext (σ':=σ1) ((Aq.app hs1 (o:=.dict [])).trans (Aq.app _ (o:=.dead))) rfl rfl).tk
 have g3:((hs1++[O.dict []]++[O.dead]++[O.inst 2 [("start_mark",mk σ1),("end_mark",mk σ1)]]).set (hs1++[O.dict []]++[O.dead]).length O.dead)[σ1.tk]? =some (.list T1):=by
  rw[Cz];exact g2
 refine⟨{σ1 with ask:=false,keys:=hs1.length,dn:=true},_,⟨gs g2,rfl,(f2.sett _).kp,f1.k1⟩,?_⟩
 rw[←Cz (hs1++[O.dict []]++[O.dead]) (O.inst 2 [("start_mark",mk σ1),("end_mark",mk σ1)])]
 exact AK.by [.c (V.none) (scO σ1::hs0),.c (V.none) (scO σ1::hs1),.c (mk (Sc.mk (Sc.B σ1) (Sc.p σ1) (Sc.ix σ1) (Sc.ln σ1) (Sc.cl σ1) (Sc.dn σ1) (Sc.tk σ1) (Sc.tn σ1) (Sc.ind σ1) false (A9 hs1) (Sc.dt σ1))) (scO (Sc.mk (Sc.B σ1) (Sc.p σ1) (Sc.ix σ1) (Sc.ln σ1) (Sc.cl σ1) (Sc.dn σ1) (Sc.tk σ1) (Sc.tn σ1) (Sc.ind σ1) false (A9 hs1) (Sc.dt σ1))::(hs1++[O.dict []]++[O.dead])),.a 1,.v .ob (O.list T1),.c (V.none) (scO (Sc.mk (Sc.B σ1) (Sc.p σ1) (Sc.ix σ1) (Sc.ln σ1) (Sc.cl σ1) (Sc.dn σ1) (Sc.tk σ1) (Sc.tn σ1) (Sc.ind σ1) false (A9 hs1) (Sc.dt σ1))::(hs1++[O.dict []]++[O.dead]++[O.inst 2 [(A8 "start_mark",V.rcd 0 (BM (Sc.mk (Sc.B σ1) (Sc.p σ1) (Sc.ix σ1) (Sc.ln σ1) (Sc.cl σ1) (Sc.dn σ1) (Sc.tk σ1) (Sc.tn σ1) (Sc.ind σ1) false (A9 hs1) (Sc.dt σ1)))),(A8 "end_mark",V.rcd 0 (BM (Sc.mk (Sc.B σ1) (Sc.p σ1) (Sc.ix σ1) (Sc.ln σ1) (Sc.cl σ1) (Sc.dn σ1) (Sc.tk σ1) (Sc.tn σ1) (Sc.ind σ1) false (A9 hs1) (Sc.dt σ1))))]])),.v .ob (O.inst 2 [(A8 "start_mark",V.rcd 0 (BM (Sc.mk (Sc.B σ1) (Sc.p σ1) (Sc.ix σ1) (Sc.ln σ1) (Sc.cl σ1) (Sc.dn σ1) (Sc.tk σ1) (Sc.tn σ1) (Sc.ind σ1) false (A9 hs1) (Sc.dt σ1)))),(A8 "end_mark",V.rcd 0 (BM (Sc.mk (Sc.B σ1) (Sc.p σ1) (Sc.ix σ1) (Sc.ln σ1) (Sc.cl σ1) (Sc.dn σ1) (Sc.tk σ1) (Sc.tn σ1) (Sc.ind σ1) false (A9 hs1) (Sc.dt σ1))))]),.v .ob (O.list T1),.t] (an e0 (an e1 (an (DK (ns:=ns) (σ:=Sc.mk (Sc.B σ1) (Sc.p σ1) (Sc.ix σ1) (Sc.ln σ1) (Sc.cl σ1) (Sc.dn σ1) (Sc.tk σ1) (Sc.tn σ1) (Sc.ind σ1) false (A9 hs1) (Sc.dt σ1)) (d:=d+1) (hs:=hs1++[O.dict []])) (an g1 (an (XJ (ns:=ns) (d:=d+2) (l:=hs1++[O.dict []]++[O.dead]) (a0:=scO (Sc.mk (Sc.B σ1) (Sc.p σ1) (Sc.ix σ1) (Sc.ln σ1) (Sc.cl σ1) (Sc.dn σ1) (Sc.tk σ1) (Sc.tn σ1) (Sc.ind σ1) false (A9 hs1) (Sc.dt σ1))) (c1:=0) (c2:=0) (f1:=BM (Sc.mk (Sc.B σ1) (Sc.p σ1) (Sc.ix σ1) (Sc.ln σ1) (Sc.cl σ1) (Sc.dn σ1) (Sc.tk σ1) (Sc.tn σ1) (Sc.ind σ1) false (A9 hs1) (Sc.dt σ1))) (f2:=BM (Sc.mk (Sc.B σ1) (Sc.p σ1) (Sc.ix σ1) (Sc.ln σ1) (Sc.cl σ1) (Sc.dn σ1) (Sc.tk σ1) (Sc.tn σ1) (Sc.ind σ1) false (A9 hs1) (Sc.dt σ1)))) (an (ga (l:=hs1++[O.dict []]++[O.dead]) (o:=O.inst 2 [(A8 "start_mark",V.rcd 0 (BM (Sc.mk (Sc.B σ1) (Sc.p σ1) (Sc.ix σ1) (Sc.ln σ1) (Sc.cl σ1) (Sc.dn σ1) (Sc.tk σ1) (Sc.tn σ1) (Sc.ind σ1) false (A9 hs1) (Sc.dt σ1)))),(A8 "end_mark",V.rcd 0 (BM (Sc.mk (Sc.B σ1) (Sc.p σ1) (Sc.ix σ1) (Sc.ln σ1) (Sc.cl σ1) (Sc.dn σ1) (Sc.tk σ1) (Sc.tn σ1) (Sc.ind σ1) false (A9 hs1) (Sc.dt σ1))))]) (r:=[])) (an g3 (an hT2 trivial)))))))) (by kernel_rfl)
theorem S2 {q:Bool}{c0:Nat}{u0:List Nat}(g:Ey q x (0::[]))(ha:q=true∨σ.ask=true)(h:Rd σ (x++0::[]))(e:x++0::[]=c0::u0)(hbom:c0≠65279)(f:BU Z hs σ T D)(hD:GZ κ D)(hdt:σ.dt=0)(hT:BE T.length=true)(hT2:BE (T.length+1)=true):
  ∃σ1 σ' hs',GE Z hs' σ' (T++[D4 4 σ1 σ1]++[XW (FY σ1)])∧AK (S ns) (d+9) 17 [.obj 0] [] (scO σ::hs) .none (scO σ'::hs'):=by
 have e1:=JC (ns:=ns) (d:=d+3) (hs:=hs) g ha h e hbom
 have h1:=F3 h
 have f1:=f.ext (σ':=B2 x.length σ) (Aq.refl hs) rfl rfl
 have hdt:(B2 x.length σ).dt=0:=hdt
 generalize B2 x.length σ=σ1 at *
 refine BF (Pa (ns:=ns) (d:=d+6) f1 hD) fun D' hs1 f2 hD' e2=>?_
 have e3:=J5 (ns:=ns) (d:=d+7) (σ:=σ1) (hs:=hs1) (LG (n:=σ1.cl) (.inl hdt))
 refine Dl (Z4 (ns:=ns) (d:=d+4) f2 hD' hdt hT (by rw[AE];exact hT2)) fun σ' hs' f3 e5=>?_
 refine⟨σ1,σ',hs',f3,?_⟩
 exact AK.by [.c (V.none) (scO σ1::hs),.c (V.none) (scO σ1::hs1),.c (V.none) (scO σ1::hs1),.c (Aw 0) (scO σ1::hs1),.a 2,.c (V.none) (scO σ'::hs')] (an e1 (an e2 (an e3 (an (Ba (ns:=ns) (σ:=σ1) (d:=d+7) (hs:=hs1) (r:=[]) (c:=0) (h:=h1)) (an e5 trivial))))) (by kernel_rfl)
end
noncomputable def KB (c:Nat):Prop:=c∈[9,10,13,133]∨(32≤c∧c≤126)∨(160≤c∧c≤55295)∨(57344≤c∧c≤65533)∨(65536≤c∧c≤1114111)
theorem Lp (a b:Nat):([a]<[b])↔a<b:=by
 constructor
 ·intro h
  rcases List.cons_lt_cons_iff.mp h with h|⟨_,h⟩
  ·exact h
  ·exact absurd h (List.not_lt_nil _)
 ·exact fun h=>List.cons_lt_cons_iff.mpr (.inl h)
theorem NZ {s:Str}{k c:Nat}(e:s.cps.toList=[k])(h:k≤c):decide ((#[c]:Array Nat).toList<s.cps.toList)=false:=decide_eq_false (by rw[e];exact fun z=>DR.mpr h ((Lp c k).mp z))
theorem Q4 {s:Str}{k c:Nat}(e:s.cps.toList=[k])(h:c≤k):decide (s.cps.toList<(#[c]:Array Nat).toList)=false:=decide_eq_false (by rw[e];exact fun z=>DR.mpr h ((Lp k c).mp z))
theorem Ti {s:Str}{k c:Nat}(e:s.cps.toList=[k])(h:k<c):decide (s.cps.toList<(#[c]:Array Nat).toList)=true:=decide_eq_true (by rw[e];exact(Lp k c).mpr h)
theorem ZK:(A8 " ").cps.toList=[32]:=by decide+kernel
theorem Wb:(A8 "~").cps.toList=[126]:=by decide+kernel
theorem Zs:(A8 "\u00a0").cps.toList=[160]:=by decide+kernel
theorem RG:(A8 "\ud7ff").cps.toList=[55295]:=by decide+kernel
theorem Wa:(A8 "\ue000").cps.toList=[57344]:=by decide+kernel
theorem RF:(A8 "\ufffd").cps.toList=[65533]:=by decide+kernel
theorem WZ:(A8 "𐀀").cps.toList=[65536]:=by decide+kernel
theorem Zr:(⟨#[1114111]⟩:Str).cps.toList=[1114111]:=rfl
section
variable {ns:List Int}{d:Nat}{h:List O}
theorem Zx {c:Nat}(hc:KB c):AK (S ns) (d+1) 2 [Aw c] [] h (.bool true) h:=by
 by_cases q1:c∈[9,10,13,133]
 ·suffices e:AK (S ns) (d+1) 2 [Aw c] [] h (.bool (B0 (A8 "\t\n\u000d\u0085") ⟨#[c]⟩)) h by rwa [UW q1] at e
  exact AK.by [.t] (an (UW (c:=c) (h:=q1)) trivial) (by kernel_rfl)
 ·refine hc.elim (fun h=>absurd h q1) fun hc=>hc.elim (fun hc=>?_) fun hc=>?_
  ·have a1:=NZ ZK hc.1
   have a2:=Q4 Wb hc.2
   suffices e:AK (S ns) (d+1) 2 [Aw c] [] h (.bool (!decide ((A8 "~").cps.toList<(#[c]:Array Nat).toList))) h by rwa [a2] at e
   exact AK.by [.f,.t,.t] (an (Md (c:=c) (h:=q1)) (an (congrArg not a1) (an (congrArg not a2) trivial))) (by kernel_rfl)
  ·have g:160≤c:=hc.elim (fun h=>h.1) fun hc=>hc.elim (fun h=>AL (by decide) h.1) fun h=>AL (by decide) h.1
   have a1:=NZ ZK (AL (by decide) g)
   have a2:=Ti Wb (Ab (by decide) g)
   have a3:=NZ Zs g
   refine hc.elim (fun hc=>?_) fun hc=>?_
   ·have a4:=Q4 RG hc.2
    suffices e:AK (S ns) (d+1) 2 [Aw c] [] h (.bool (!decide ((A8 "\ud7ff").cps.toList<(#[c]:Array Nat).toList))) h by rwa [a4] at e
    exact AK.by [.f,.t,.f,.t,.t] (an (Md (c:=c) (h:=q1)) (an (congrArg not a1) (an (congrArg not a2) (an (congrArg not a3) (an (congrArg not a4) trivial))))) (by kernel_rfl)
   ·have g:57344≤c:=hc.elim (fun h=>h.1) fun h=>AL (by decide) h.1
    have a4:=Ti RG (Ab (by decide) g)
    have a5:=NZ Wa g
    refine hc.elim (fun hc=>?_) fun hc=>?_
    ·have a6:=Q4 RF hc.2
     suffices e:AK (S ns) (d+1) 2 [Aw c] [] h (.bool (!decide ((A8 "\ufffd").cps.toList<(#[c]:Array Nat).toList))) h by rwa [a6] at e
     exact AK.by [.f,.t,.f,.t,.f,.t,.t] (an (Md (c:=c) (h:=q1)) (an (congrArg not a1) (an (congrArg not a2) (an (congrArg not a3) (an (congrArg not a4) (an (congrArg not a5) (an (congrArg not a6) trivial))))))) (by kernel_rfl)
    ·have a6:=Ti RF (Ab (by decide) hc.1)
     have a7:=NZ WZ hc.1
     have a8:=Q4 Zr hc.2
     suffices e:AK (S ns) (d+1) 2 [Aw c] [] h (.bool (!decide ((⟨#[1114111]⟩:Str).cps.toList<(#[c]:Array Nat).toList))) h by rwa [a8] at e
     exact AK.by [.f,.t,.f,.t,.f,.t,.f,.t] (an (Md (c:=c) (h:=q1)) (an (congrArg not a1) (an (congrArg not a2) (an (congrArg not a3) (an (congrArg not a4) (an (congrArg not a5) (an (congrArg not a6) (an (congrArg not a7) trivial)))))))) (by kernel_rfl)
end
noncomputable abbrev NY (B:List Nat)(a b:V):List (Str×V):=[("self",.obj 0),("data",.str ⟨B.toArray⟩),("start",a),("character",b),("position",.undef),("enumerate",.ty "enumerate"),("_is_printable",.fn 2),("len",.bi "len")]
noncomputable def F8:Expr:=wT (Bo (BZ 8) 0)
noncomputable def G8:List Stmt:=wB (Bo (BZ 8) 0)
section
variable {ns:List Int}{d:Nat}{h:List O}
theorem a9 {B:List Nat}{k c:Nat}(e:B[k]? =some c):some ((((⟨B.toArray⟩:Str).cps[k]?).map Aw).map (IC true k))=some (some (.tup [.int (k:Int),Aw c])):=by
 rw[show(⟨B.toArray⟩:Str).cps[k]? =some c from IF e];rfl
theorem aA {B:List Nat}:some ((((⟨B.toArray⟩:Str).cps[B.length]?).map Aw).map (IC true B.length))=some none:=by
 rw[show(⟨B.toArray⟩:Str).cps[B.length]? =none by rw[List.getElem?_toArray];exact CR (AT _)];rfl
theorem Ys:∀{C A B:List Nat},A++C=B→(∀c∈C,KB c)→∀{a b:V},Cn a=true→Cn b=true→
  ∃a' b',BJ (S ns) (d+2) F8 (.str ⟨B.toArray⟩ true) A.length G8 ⟨NY B a b,h⟩ .next ⟨NY B a' b',h⟩:=by
 intro C
 induction C with
 |nil=>
  intro A B e hB a b ha hb
  rw[AR] at e
  subst e
  refine⟨a,b,?_⟩
  have q:=aA (B:=A)
  exact BJ.by [.v .oval (none)] (an q trivial) (by kernel_rfl)
 |cons c C ih=>
  intro A B e hB a b ha hb
  have hg:B[A.length]? =some c:=by rw[←e,Cu (AT _),Eu];rfl
  have q:=a9 hg
  have p:=Zx (ns:=ns) (d:=d) (h:=h) (hB c (.head _))
  refine Fv (ih (A:=A++[c]) (B:=B) (by rw[AC];exact e) (fun y hy=>hB y (.tail _ hy)) (a:=.int (A.length:Int)) (b:=Aw c) rfl rfl) fun a' b' e2=>?_
  rw[AE] at e2
  refine⟨a',b',?_⟩
  refine BJ.go (s1:=St.mk [(A8 "self",V.obj 0),(A8 "data",V.str (Str.mk (AG B))),(A8 "start",V.int (↑(A9 A):Int)),(A8 "character",V.str (Str.mk #[c])),(A8 "position",V.undef),(A8 "enumerate",V.ty "enumerate"),(A8 "_is_printable",V.fn 2),(A8 "len",V.bi "len")] h) [.v .oval (some (V.tup [V.int (↑(A9 A):Int),Aw c])),.t,.t,.c (V.bool true) (h),.a 1] ?_ (an q (an (BA (u:=a) (v:=V.int (↑(A9 A):Int)) (h:=ha) (h2:=(by rfl))) (an (BA (u:=b) (v:=Aw c) (h:=hb) (h2:=(by rfl))) (an p trivial)))) (by kernel_rfl)
  exact e2
theorem Xu {B:List Nat}(hB:∀c∈B,KB c):AK (S ns) (d+3) 8 [.obj 0,.str ⟨B.toArray⟩] [] h .none h:=by
 refine Fv (Ys (ns:=ns) (d:=d+1) (h:=h) (A:=[]) rfl hB (a:=.undef) (b:=.undef) rfl rfl) fun a' b' e=>?_
 have e:BJ (S ns) (d+3) F8 (.str ⟨B.toArray⟩ true) 0 G8 ⟨NY B .undef .undef,h⟩ .next ⟨NY B a' b',h⟩:=e
 exact AK.by [.w (Fl.next) (St.mk (NY B a' b') h)] (an e trivial) (by kernel_rfl)
end
noncomputable def JF (B:Str):List (Str×V):=[("name",.str "<unicode string>"),("stream",.none),("stream_pointer",.int 0),("eof",.bool true),("buffer",.str B),("pointer",.int 0),("raw_buffer",.none),("raw_decode",.none),("encoding",.none),("index",.int 0),("line",.int 0),("column",.int 0)]
theorem aS (L:List Nat):(⟨L.toArray⟩:Str)++A8 "\u0000"=⟨(L++[0]).toArray⟩:=by
 rw[HS]
 show(L.toArray++(A8 "\u0000").cps).toList=_
 have:(A8 "\u0000").cps= #[0]:=by rfl
 rw[this]
 simp
section
variable {ns:List Int}{Z:List O}{d:Nat}{hs:List O}{L:List Nat}
theorem Yd (hL:∀c∈L,KB c)(hz:L.length+1≤lim):AK (S ns) (d+4) 3 [.obj 0,.str ⟨L.toArray⟩] [] (.inst 8 []::hs) .none (.inst 8 (JF ⟨(L++[0]).toArray⟩)::hs):=by
 rw[←aS]
 have e1:=fun fs:List (Str×V)=>Xu (ns:=ns) (d:=d) (h:=.inst 8 fs::hs) hL
 have k:=As hz
 exact AK.by [.a 1,.c (V.none) (O.inst 8 [(A8 "name",V.str (A8 "<unicode string>")),(A8 "stream",V.none),(A8 "stream_pointer",V.int 0),(A8 "eof",V.bool true),(A8 "buffer",V.str (A8 "")),(A8 "pointer",V.int 0),(A8 "raw_buffer",V.none),(A8 "raw_decode",V.none),(A8 "encoding",V.none),(A8 "index",V.int 0),(A8 "line",V.int 0),(A8 "column",V.int 0)]::hs),.t] (an (e1 (fs:=[(A8 "name",V.str (A8 "<unicode string>")),(A8 "stream",V.none),(A8 "stream_pointer",V.int 0),(A8 "eof",V.bool true),(A8 "buffer",V.str (A8 "")),(A8 "pointer",V.int 0),(A8 "raw_buffer",V.none),(A8 "raw_decode",V.none),(A8 "encoding",V.none),(A8 "index",V.int 0),(A8 "line",V.int 0),(A8 "column",V.int 0)])) (an (As (n:=A9 L+Array.size (Str.cps (A8 "\x00"))) (h:=(by assumption))) trivial)) (by kernel_rfl)
noncomputable def WX (B:List Nat)(t i k:Nat):Sc:={B:=B,p:=0,ix:=0,ln:=0,cl:=0,dn:=false,tk:=t,tn:=0,ind:=i,ask:=true,keys:=k,dt:=-1}
noncomputable abbrev Gh (B:List Nat):Sc:=WX B 0 0 0
noncomputable abbrev Fo (B:List Nat):V:=.rcd 1 [("start_mark",mk (Gh B)),("end_mark",mk (Gh B)),("encoding",.none)]
noncomputable abbrev xF (k:Nat):List (Str×V):=[("done",.bool false),("flow_level",.int 0),("tokens",.obj k)]
theorem aL {B:List Nat}{k:Nat}:AK (S ns) (d+2) 7 [.obj 0] [] (.inst 8 (JF ⟨B.toArray⟩++xF k)::hs) (mk (Gh B)) (.inst 8 (JF ⟨B.toArray⟩++xF k)::(hs++[.dead])):=by
 rw[←Cz hs (.inst 0 (BM (Gh B)))]
 exact AK.by [.a 1,.c (V.none) (O.inst 8 [(A8 "name",V.str (A8 "<unicode string>")),(A8 "stream",V.none),(A8 "stream_pointer",V.int 0),(A8 "eof",V.bool true),(A8 "buffer",V.str (Str.mk (AG B))),(A8 "pointer",V.int 0),(A8 "raw_buffer",V.none),(A8 "raw_decode",V.none),(A8 "encoding",V.none),(A8 "index",V.int 0),(A8 "line",V.int 0),(A8 "column",V.int 0),(A8 "done",V.bool false),(A8 "flow_level",V.int 0),(A8 "tokens",V.obj k)]::(hs++[O.inst 0 (Mh (A8 "<unicode string>") 0 0 0 (Str.mk (AG B)) 0)])),.v .ob (O.inst 0 [(A8 "name",V.str (A8 "<unicode string>")),(A8 "index",V.int 0),(A8 "line",V.int 0),(A8 "column",V.int 0),(A8 "buffer",V.str (Str.mk (AG B))),(A8 "pointer",V.int 0)])] (an (Un (ns:=ns) (d:=d) (l:=hs) (a0:=O.inst 8 [(A8 "name",V.str (A8 "<unicode string>")),(A8 "stream",V.none),(A8 "stream_pointer",V.int 0),(A8 "eof",V.bool true),(A8 "buffer",V.str (Str.mk (AG B))),(A8 "pointer",V.int 0),(A8 "raw_buffer",V.none),(A8 "raw_decode",V.none),(A8 "encoding",V.none),(A8 "index",V.int 0),(A8 "line",V.int 0),(A8 "column",V.int 0),(A8 "done",V.bool false),(A8 "flow_level",V.int 0),(A8 "tokens",V.obj k)]) (nm:=A8 "<unicode string>") (bf:=Str.mk (AG B)) (a:=0) (b:=0) (c:=0) (p:=0)) (an (ga (l:=hs) (o:=O.inst 0 [(A8 "name",V.str (A8 "<unicode string>")),(A8 "index",V.int 0),(A8 "line",V.int 0),(A8 "column",V.int 0),(A8 "buffer",V.str (Str.mk (AG B))),(A8 "pointer",V.int 0)]) (r:=[])) trivial)) (by kernel_rfl)
theorem VL {B:List Nat}:AK (S ns) (d+3) 24 [.obj 0] [] (.inst 8 (JF ⟨B.toArray⟩++xF (hs.length+1))::(hs++[.list []])) .none (.inst 8 (JF ⟨B.toArray⟩++xF (hs.length+1))::(hs++[O.list []]++[O.dead]++[O.dead]).set hs.length (.list [Fo B])):=by
 have e1:=aL (ns:=ns) (d:=d) (B:=B) (hs:=hs++[.list []]) (k:=hs.length+1)
 have g1:(hs++[O.list []]++[O.dead])[hs.length]? =some (.list []):=by rw[AC];exact ga
 have g2:((hs++[O.list []]++[O.dead]++[O.inst 1 [("start_mark",mk (Gh B)),("end_mark",mk (Gh B)),("encoding",.none)]]).set (hs++[O.list []]++[O.dead]).length O.dead)[hs.length]? =some (.list []):=by
  rw[Cz,AC,AC];exact ga
 rw[←Cz (hs++[O.list []]++[O.dead]) (O.inst 1 [("start_mark",mk (Gh B)),("end_mark",mk (Gh B)),("encoding",.none)])]
 exact AK.by [.c (mk (Gh B)) (O.inst 8 (JF (Str.mk (AG B))++xF (A9 hs+1))::(hs++[O.list []]++[O.dead])),.a 1,.v .ob (O.list []),.c (V.none) (O.inst 8 [(A8 "name",V.str (A8 "<unicode string>")),(A8 "stream",V.none),(A8 "stream_pointer",V.int 0),(A8 "eof",V.bool true),(A8 "buffer",V.str (Str.mk (AG B))),(A8 "pointer",V.int 0),(A8 "raw_buffer",V.none),(A8 "raw_decode",V.none),(A8 "encoding",V.none),(A8 "index",V.int 0),(A8 "line",V.int 0),(A8 "column",V.int 0),(A8 "done",V.bool false),(A8 "flow_level",V.int 0),(A8 "tokens",V.obj (A9 hs+1))]::(hs++[O.list []]++[O.dead]++[O.inst 1 [(A8 "start_mark",V.rcd 0 (BM (Gh B))),(A8 "end_mark",V.rcd 0 (BM (Gh B))),(A8 "encoding",V.none)]])),.v .ob (O.inst 1 [(A8 "start_mark",V.rcd 0 (BM (Gh B))),(A8 "end_mark",V.rcd 0 (BM (Gh B))),(A8 "encoding",V.none)]),.v .ob (O.list []),.a 1] (an e1 (an g1 (an (XI (ns:=ns) (d:=d+1) (l:=hs++[O.list []]++[O.dead]) (a0:=O.inst 8 [(A8 "name",V.str (A8 "<unicode string>")),(A8 "stream",V.none),(A8 "stream_pointer",V.int 0),(A8 "eof",V.bool true),(A8 "buffer",V.str (Str.mk (AG B))),(A8 "pointer",V.int 0),(A8 "raw_buffer",V.none),(A8 "raw_decode",V.none),(A8 "encoding",V.none),(A8 "index",V.int 0),(A8 "line",V.int 0),(A8 "column",V.int 0),(A8 "done",V.bool false),(A8 "flow_level",V.int 0),(A8 "tokens",V.obj (A9 hs+1))]) (c1:=0) (c2:=0) (f1:=BM (Gh B)) (f2:=BM (Gh B))) (an (ga (l:=hs++[O.list []]++[O.dead]) (o:=O.inst 1 [(A8 "start_mark",V.rcd 0 (BM (Gh B))),(A8 "end_mark",V.rcd 0 (BM (Gh B))),(A8 "encoding",V.none)]) (r:=[])) (an g2 trivial))))) (by kernel_rfl)
noncomputable def Hc (hs:List O)(B:List Nat):List O:=(hs++[O.list []]++[O.dead]++[O.dead]).set hs.length (.list [Fo B])
theorem XF (hL:∀c∈L,KB c)(hz:L.length+1≤lim):AK (S ns) (d+5) 14 [.obj 0,.str ⟨L.toArray⟩] [] (.inst 8 []::hs) .none (scO (WX (L++[0]) hs.length (Hc hs (L++[0])).length (Hc hs (L++[0])++[O.list []]).length)::(Hc hs (L++[0])++[O.list []]++[O.dict []])):=by
 have e1:=Yd (ns:=ns) (d:=d) (hs:=hs) hL hz
 have e2:=VL (ns:=ns) (d:=d+1) (hs:=hs) (B:=L++[0])
 exact AK.by [.c (V.none) (O.inst 8 (JF (Str.mk (AG (L++[0]))))::hs),.c (V.none) (O.inst 8 (JF (Str.mk (AG (L++[0])))++xF (A9 hs+1))::Ai (hs++[O.list []]++[O.dead]++[O.dead]) (A9 hs) (O.list [Fo (L++[0])]))] (an e1 (an e2 trivial)) (by kernel_rfl)
theorem Z1 {B:List Nat}(hn:Ch hs):BU hs (Hc hs B++[O.list []]++[O.dict []]) (WX B hs.length (Hc hs B).length (Hc hs B++[O.list []]).length) [Fo B] []:=by
 have g2:(hs++[O.list []]++[O.dead]++[O.dead])[hs.length]? =some (.list []):=by
  rw[AC,AC];exact ga
 have g3:(Hc hs B)[hs.length]? =some (.list [Fo B]):=gs g2
 have g4:(Hc hs B++[O.list []]++[O.dict []])[hs.length]? =some (.list [Fo B]):=by rw[AC];exact gl g3
 have x:Aq hs (Hc hs B++[O.list []]++[O.dict []]):=(((((Aq.app hs).trans (Aq.app _)).trans (Aq.app _)).up (AT _)).trans (Aq.app _)).trans (Aq.app _)
 have y:Aq hs (Hc hs B++[O.list []]):=((((Aq.app hs).trans (Aq.app _)).trans (Aq.app _)).up (AT _)).trans (Aq.app _)
 have l:=(AM.mp g3).1
 refine⟨g4,ga,fun e=>?_,(((((hn.app (x:=[O.list []]) rfl).app (x:=[O.dead]) rfl).app (x:=[O.dead]) rfl).set rfl).app (x:=[O.list []]) rfl).app (x:=[O.dict []]) rfl,x.2.1,AT _,y.1,?_,Ah l,fun e=>?_,Bu l⟩
 ·have e:hs.length=(Hc hs B++[O.list []]).length:=e
  rw[AE] at e
  exact absurd e (Ah (Nat.lt_add_right _ l))
 ·show(Hc hs B++[O.list []]++[O.dict []])[(Hc hs B).length]? =some (.list (L9 (-1)))
  rw[show L9 (-1)=[] from if_pos rfl,AC]
  exact ga
 ·have e:(Hc hs B++[O.list []]).length=(Hc hs B).length:=e
  rw[AE] at e
  exact absurd e (Bh (Nat.lt_succ_self _))
end
noncomputable abbrev Ee (ct cm p pm:V):List (Str×V):=[("context",ct),("context_mark",cm),("problem",p),("problem_mark",pm),("note",.none)]
noncomputable def Hz (v cm pm:V):Prop:=∃ct p,v= .rcd 9 (Ee ct cm p pm)
section
variable {ns:List Int}{σ:Sc}{d:Nat}{hs l:List O}{a0:O}{r:List Nat}{cc:Nat}{ff:List (Str×V)}{a:V}
theorem AK.inx {S:BD}{d f:Nat}{vs:List V}{h:List O}{f1:Str×V}{fs:List (Str×V)}(x:AK S d f vs [] h .none (a0::II 9 l.length ((l++[O.exc 9]).set l.length (.inst 9 [f1])) [f1] fs)):AK S d f vs [] h .none (a0::(l++[.inst 9 (f1::fs)])):=by
 rw[Cz,J9] at x;exact x
theorem Rk {c p:Str}{c1 c2:Nat}{f1 f2:List (Str×V)}:AK (S ns) (d+1) 1 [.obj (l.length+1),.str c,.rcd c1 f1,.str p,.rcd c2 f2] [] (a0::(l++[O.exc 9])) .none (a0::(l++[.inst 9 (Ee (.str c) (.rcd c1 f1) (.str p) (.rcd c2 f2))])):=by
 refine .inx ?_
 exact AK.by [.v .ob (O.exc 9),.v .ob (O.inst 9 [(A8 "context",V.str c)]),.v .ob (O.inst 9 [(A8 "context",V.str c),(A8 "context_mark",V.rcd c1 f1)]),.v .ob (O.inst 9 [(A8 "context",V.str c),(A8 "context_mark",V.rcd c1 f1),(A8 "problem",V.str p)]),.v .ob (O.inst 9 [(A8 "context",V.str c),(A8 "context_mark",V.rcd c1 f1),(A8 "problem",V.str p),(A8 "problem_mark",V.rcd c2 f2)])] (an (ga (l:=l) (o:=O.exc 9) (r:=[])) (an (gs (o':=O.inst 9 [(A8 "context",V.str c)]) (ga (l:=l) (o:=O.exc 9) (r:=[]))) (an (gs (o':=O.inst 9 [(A8 "context",V.str c),(A8 "context_mark",V.rcd c1 f1)]) (gs (o':=O.inst 9 [(A8 "context",V.str c)]) (ga (l:=l) (o:=O.exc 9) (r:=[])))) (an (gs (o':=O.inst 9 [(A8 "context",V.str c),(A8 "context_mark",V.rcd c1 f1),(A8 "problem",V.str p)]) (gs (o':=O.inst 9 [(A8 "context",V.str c),(A8 "context_mark",V.rcd c1 f1)]) (gs (o':=O.inst 9 [(A8 "context",V.str c)]) (ga (l:=l) (o:=O.exc 9) (r:=[]))))) (an (gs (o':=O.inst 9 [(A8 "context",V.str c),(A8 "context_mark",V.rcd c1 f1),(A8 "problem",V.str p),(A8 "problem_mark",V.rcd c2 f2)]) (gs (o':=O.inst 9 [(A8 "context",V.str c),(A8 "context_mark",V.rcd c1 f1),(A8 "problem",V.str p)]) (gs (o':=O.inst 9 [(A8 "context",V.str c),(A8 "context_mark",V.rcd c1 f1)]) (gs (o':=O.inst 9 [(A8 "context",V.str c)]) (ga (l:=l) (o:=O.exc 9) (r:=[])))))) trivial))))) (by kernel_rfl)
theorem b8 {c:Str}{c1 c2:Nat}{f1 f2:List (Str×V)}:AK (S ns) (d+1) 1 [.obj (l.length+1),.str c,.rcd c1 f1,.txt,.rcd c2 f2] [] (a0::(l++[O.exc 9])) .none (a0::(l++[.inst 9 (Ee (.str c) (.rcd c1 f1) .txt (.rcd c2 f2))])):=by
 refine .inx ?_
 exact AK.by [.v .ob (O.exc 9),.v .ob (O.inst 9 [(A8 "context",V.str c)]),.v .ob (O.inst 9 [(A8 "context",V.str c),(A8 "context_mark",V.rcd c1 f1)]),.v .ob (O.inst 9 [(A8 "context",V.str c),(A8 "context_mark",V.rcd c1 f1),(A8 "problem",V.txt)]),.v .ob (O.inst 9 [(A8 "context",V.str c),(A8 "context_mark",V.rcd c1 f1),(A8 "problem",V.txt),(A8 "problem_mark",V.rcd c2 f2)])] (an (ga (l:=l) (o:=O.exc 9) (r:=[])) (an (gs (o':=O.inst 9 [(A8 "context",V.str c)]) (ga (l:=l) (o:=O.exc 9) (r:=[]))) (an (gs (o':=O.inst 9 [(A8 "context",V.str c),(A8 "context_mark",V.rcd c1 f1)]) (gs (o':=O.inst 9 [(A8 "context",V.str c)]) (ga (l:=l) (o:=O.exc 9) (r:=[])))) (an (gs (o':=O.inst 9 [(A8 "context",V.str c),(A8 "context_mark",V.rcd c1 f1),(A8 "problem",V.txt)]) (gs (o':=O.inst 9 [(A8 "context",V.str c),(A8 "context_mark",V.rcd c1 f1)]) (gs (o':=O.inst 9 [(A8 "context",V.str c)]) (ga (l:=l) (o:=O.exc 9) (r:=[]))))) (an (gs (o':=O.inst 9 [(A8 "context",V.str c),(A8 "context_mark",V.rcd c1 f1),(A8 "problem",V.txt),(A8 "problem_mark",V.rcd c2 f2)]) (gs (o':=O.inst 9 [(A8 "context",V.str c),(A8 "context_mark",V.rcd c1 f1),(A8 "problem",V.txt)]) (gs (o':=O.inst 9 [(A8 "context",V.str c),(A8 "context_mark",V.rcd c1 f1)]) (gs (o':=O.inst 9 [(A8 "context",V.str c)]) (ga (l:=l) (o:=O.exc 9) (r:=[])))))) trivial))))) (by kernel_rfl)
noncomputable abbrev exH (hs:List O)(F:List (Str×V)):List O:=((hs++[O.dead])++[O.inst 9 F]).set (hs++[O.dead]).length .dead
noncomputable abbrev OM:V:=.str "while scanning a quoted scalar"
noncomputable abbrev OJ:V:=.str "found unexpected document separator"
inductive IA:List Nat→List Nat→Prop
 |here {r:List Nat}:VD r→IA [] r
 |more {ws b l x r:List Nat}:D5 ws→Dr b l (x++r)→EH (ws++(b++(x++r)))→IA x r→IA (ws++(b++x)) r
theorem IA.rest {x r:List Nat}(h:IA x r):∃c u,r=c::u:=by
 induction h with
 |here hd=>cases hd<;>exact⟨_,_,rfl⟩
 |more _ _ _ _ ih=>exact ih
noncomputable def Ek (n:Nat)(hs h':List O):Prop:=∀j,j<n→h'[j+1]? =hs[j]?
theorem Ek.set {n c:Nat}{hs h':List O}{o:O}(k:Ek n (hs.set c o) h')(hc:n≤c):Ek n hs h':=fun j hj=>(k j hj).trans (Aa (Bh (Ab hj hc)))
theorem Ek.ext {n:Nat}{hs hs1 h':List O}(k:Ek n hs1 h')(x:Aq hs hs1)(hn:n≤hs.length):Ek n hs h':=fun j hj=>(k j hj).trans (x.2.1 j (Ab hj hn))
theorem XU {n:Nat}{hs:List O}{a:O}{F:List (Str×V)}(hn:n≤hs.length):Ek n hs (a::exH hs F):=fun j hj=>by
 have h1:=Ab hj hn
 show(exH hs F)[j]? =_
 unfold exH
 rw[Aa (by rw[AE];exact Bh (Nat.lt_succ_of_lt h1)),AC,Bz h1]
theorem aT {n c:Nat}{x:List Nat}(hr:IA x r):∀{σ:Sc} {hs:List O} {v:V} {xs:List (List Nat)},Rd σ (x++r)→hs[c]? =some (.list (xs.map AW))→Cw xs (x++r)→Cn v=true→n≤c→
  ∃s',Ek n hs s'.heap∧E2 (S ns) (d+5) Zf Zk ⟨Dw (c+1) a (.rcd cc ff) v,scO σ::hs⟩ (.rcd 9 (Ee OM (.rcd cc ff) OJ (mk (fwdN x.length σ)))) s':=by
 induction hr with
 |@here r hd=>
  intro σ hs v xs h hc _ hv hn
  have hk:∀{F:List (Str×V)},Ek n hs (scO σ::exH hs F):=XU (Bu (Ev hn (AM.mp hc).1))
  have h:Rd σ r:=h
  have e1:AK (S ns) (d+4) 5 [.obj 0,.int 3] [] (scO σ::hs) (.str ⟨(r.take 3).toArray⟩) (scO σ::hs):=Hm h (n:=3)
  rw[show fwdN (A9 (α:=Nat) []) σ=σ from rfl]
  cases hd with
  |@dash y z hy=>
   have q1:Ac 3 ([45,45,45]++y::z)=[45,45,45]:=rfl
   have e6:AK (S ns) (d+4) 4 [.obj 0,.int 3] [] (scO σ::hs) (Aw y) (scO σ::hs):=EM h
   refine⟨⟨Dw (c+1) a (.rcd cc ff) (AW [45,45,45]),scO σ::exH hs (Ee OM (.rcd cc ff) OJ (mk σ))⟩,hk,?_⟩
   unfold mk BM
   exact E2.by [.a 1,.c (V.str (Str.mk (AG (Ac 3 ([45,45,45]++y::z))))) (scO σ::hs),.t,.t,.a 1,.c (Aw y) (scO σ::hs),.t,.a 1,.c (mk σ) (scO σ::(hs++[O.dead])),.c (V.none) (scO σ::(hs++[O.dead]++[O.inst 9 (Ee (V.str (A8 "while scanning a quoted scalar")) (V.rcd cc ff) (V.str (A8 "found unexpected document separator")) (V.rcd 0 (BM σ)))])),.v .ob (O.inst 9 [(A8 "context",V.str (A8 "while scanning a quoted scalar")),(A8 "context_mark",V.rcd cc ff),(A8 "problem",V.str (A8 "found unexpected document separator")),(A8 "problem_mark",V.rcd 0 (BM σ)),(A8 "note",V.none)])] (an e1 (an (BA (u:=v) (v:=V.str (Str.mk (AG (Ac 3 ([45,45,45]++y::z))))) (h:=hv) (h2:=(by rfl))) (an (Jt (l:=Ac 3 ([45,45,45]++y::z)) (n:=q1)) (an e6 (an (QZ (c:=y) (h:=hy)) (an (DK (ns:=ns) (σ:=σ) (d:=d+2) (hs:=hs)) (an (Rk (ns:=ns) (d:=d+3) (l:=hs++[O.dead]) (a0:=scO σ) (c:=A8 "while scanning a quoted scalar") (p:=A8 "found unexpected document separator") (c1:=cc) (c2:=0) (f1:=ff) (f2:=BM σ)) (an (ga (l:=hs++[O.dead]) (o:=O.inst 9 [(A8 "context",V.str (A8 "while scanning a quoted scalar")),(A8 "context_mark",V.rcd cc ff),(A8 "problem",V.str (A8 "found unexpected document separator")),(A8 "problem_mark",V.rcd 0 (BM σ)),(A8 "note",V.none)]) (r:=[])) trivial)))))))) (by kernel_rfl)
  |@dots y z hy=>
   have q1:Ac 3 ([46,46,46]++y::z)≠[45,45,45]:=by simp
   have q2:Ac 3 ([46,46,46]++y::z)=[46,46,46]:=rfl
   have e6:AK (S ns) (d+4) 4 [.obj 0,.int 3] [] (scO σ::hs) (Aw y) (scO σ::hs):=EM h
   refine⟨⟨Dw (c+1) a (.rcd cc ff) (AW [46,46,46]),scO σ::exH hs (Ee OM (.rcd cc ff) OJ (mk σ))⟩,hk,?_⟩
   unfold mk BM
   exact E2.by [.a 1,.c (V.str (Str.mk (AG (Ac 3 ([46,46,46]++y::z))))) (scO σ::hs),.t,.f,.t,.a 1,.c (Aw y) (scO σ::hs),.t,.a 1,.c (mk σ) (scO σ::(hs++[O.dead])),.c (V.none) (scO σ::(hs++[O.dead]++[O.inst 9 (Ee (V.str (A8 "while scanning a quoted scalar")) (V.rcd cc ff) (V.str (A8 "found unexpected document separator")) (V.rcd 0 (BM σ)))])),.v .ob (O.inst 9 [(A8 "context",V.str (A8 "while scanning a quoted scalar")),(A8 "context_mark",V.rcd cc ff),(A8 "problem",V.str (A8 "found unexpected document separator")),(A8 "problem_mark",V.rcd 0 (BM σ)),(A8 "note",V.none)])] (an e1 (an (BA (u:=v) (v:=V.str (Str.mk (AG (Ac 3 ([46,46,46]++y::z))))) (h:=hv) (h2:=(by rfl))) (an (GX (l:=Ac 3 ([46,46,46]++y::z)) (n:=q1)) (an (LI (l:=Ac 3 ([46,46,46]++y::z)) (n:=q2)) (an e6 (an (QZ (c:=y) (h:=hy)) (an (DK (ns:=ns) (σ:=σ) (d:=d+2) (hs:=hs)) (an (Rk (ns:=ns) (d:=d+3) (l:=hs++[O.dead]) (a0:=scO σ) (c:=A8 "while scanning a quoted scalar") (p:=A8 "found unexpected document separator") (c1:=cc) (c2:=0) (f1:=ff) (f2:=BM σ)) (an (ga (l:=hs++[O.dead]) (o:=O.inst 9 [(A8 "context",V.str (A8 "while scanning a quoted scalar")),(A8 "context_mark",V.rcd cc ff),(A8 "problem",V.str (A8 "found unexpected document separator")),(A8 "problem_mark",V.rcd 0 (BM σ)),(A8 "note",V.none)]) (r:=[])) trivial))))))))) (by kernel_rfl)
 |@more ws b l x r hws hb hok hrow ih=>
  intro σ hs v xs h hc hf hv hn
  rw[AC,AC] at h hf
  refine hb.head fun q b' eb hq hl=>?_
  subst eb
  have hx:q∉[32,9]:=JI hq
  have e1:=Hm (ns:=ns) (d:=d+2) (hs:=hs) h (n:=3)
  have e1:AK (S ns) (d+4) 5 [.obj 0,.int 3] [] (scO σ::hs) (.str ⟨((ws++(q::b'++(x++r))).take 3).toArray⟩) (scO σ::hs):=e1
  have e2:=NJ (ns:=ns) (d:=d+2) (c:=c+1) (hs:=hs) (a:=a) (b:=.rcd cc ff) (v:=AW ((ws++(q::b'++(x++r))).take 3)) hx hws h
  have h2:=h.skip
  have h2':Rd (fwdN ws.length σ) (q::(b'++(x++r))):=h2
  have e4:AK (S ns) (d+4) 38 [.obj 0] [] (scO (fwdN ws.length σ)::hs) (.str ⟨l.toArray⟩) (scO (fwdN (q::b').length (fwdN ws.length σ))::hs):=by
   refine AB hrow.rest fun z hr=>AB hr fun u e=>?_
   subst e
   cases x with
   |nil=>exact K7 h2 hb
   |cons y x=>exact K7 h2 hb
  have h3:=h2.skip
  rw[←BC] at h3 e4
  have hl2:=hb.len
  refine AB (ih (v:=AW ((ws++(q::b'++(x++r))).take 3)) (xs:=xs++[l]) h3 (gs hc) ((hf.drop).app (ys:=[l]) (x:=q::b') (BP ..)) rfl hn) fun s' e5=>?_
  have ek:=e5.1.set hn
  have e5:=e5.2
  rw[←BC] at e5
  have hxl:=hf.ok
  rw[Ae] at e5
  refine⟨s',ek,?_⟩
  rw[AE,AE,←BV]
  have hx':q∈[13,10,133,8232,8233]:=hq
  generalize hw:ws++(q::b'++(x++r))=w at e1 e2 e5 hok h
  cases hok with
  |no q1 q2=>
   refine E2.go (s1:=St.mk [(A8 "self",V.obj 0),(A8 "double",a),(A8 "start_mark",V.rcd cc ff),(A8 "chunks",V.obj (c+1)),(A8 "prefix",V.str (Str.mk (AG (Ac 3 w)))),(A8 "ScannerError",V.cls 9)] (scO (fwdN (A9 ws+(A9 b'+1)) σ)::Ai hs c (O.list (AD AW xs++[V.str (Str.mk (AG l))])))) [.a 1,.c (V.str (Str.mk (AG (Ac 3 w)))) (scO σ::hs),.t,.f,.f,.a 2,.w (Fl.next) (St.mk (Dw (c+1) a (V.rcd cc ff) (AW (Ac 3 w))) (scO (fwdN (A9 ws) σ)::hs)),.c (Aw q) (scO (fwdN (A9 ws) σ)::hs),.t,.v .ob (O.list (AD AW xs)),.c (V.str (Str.mk (AG l))) (scO (fwdN (A9 ws+A9 (q::b')) σ)::hs),.v .ob (O.list (AD AW xs)),.t] ?_ (an e1 (an (BA (u:=v) (v:=V.str (Str.mk (AG (Ac 3 w)))) (h:=hv) (h2:=(by rfl))) (an (GX (l:=Ac 3 w) (n:=q1)) (an (Nw (l:=Ac 3 w) (n:=q2)) (an e2 (an (Ba (ns:=ns) (σ:=fwdN (A9 ws) σ) (d:=d+3) (hs:=hs) (r:=b'++(x++r)) (c:=q) (h:=h2')) (an (Gd (c:=q) (h:=hq)) (an hc (an e4 (an hc (an hxl trivial))))))))))) (by kernel_rfl)
   exact e5
  |@dash y z hy=>
   have q1:Ac 3 ([45,45,45]++y::z)=[45,45,45]:=rfl
   have e6:AK (S ns) (d+4) 4 [.obj 0,.int 3] [] (scO σ::hs) (Aw y) (scO σ::hs):=EM h
   refine E2.go (s1:=St.mk [(A8 "self",V.obj 0),(A8 "double",a),(A8 "start_mark",V.rcd cc ff),(A8 "chunks",V.obj (c+1)),(A8 "prefix",V.str (Str.mk (AG (Ac 3 ([45,45,45]++y::z))))),(A8 "ScannerError",V.cls 9)] (scO (fwdN (A9 ws+(A9 b'+1)) σ)::Ai hs c (O.list (AD AW xs++[V.str (Str.mk (AG l))])))) [.a 1,.c (V.str (Str.mk (AG (Ac 3 ([45,45,45]++y::z))))) (scO σ::hs),.t,.t,.a 1,.c (Aw y) (scO σ::hs),.f,.a 1,.w (Fl.next) (St.mk (Dw (c+1) a (V.rcd cc ff) (AW (Ac 3 ([45,45,45]++y::z)))) (scO (fwdN (A9 ws) σ)::hs)),.c (Aw q) (scO (fwdN (A9 ws) σ)::hs),.t,.v .ob (O.list (AD AW xs)),.c (V.str (Str.mk (AG l))) (scO (fwdN (A9 ws+A9 (q::b')) σ)::hs),.v .ob (O.list (AD AW xs)),.t] ?_ (an e1 (an (BA (u:=v) (v:=V.str (Str.mk (AG (Ac 3 ([45,45,45]++y::z))))) (h:=hv) (h2:=(by rfl))) (an (Jt (l:=Ac 3 ([45,45,45]++y::z)) (n:=q1)) (an e6 (an (IB (c:=y) (h:=hy)) (an e2 (an (Ba (ns:=ns) (σ:=fwdN (A9 ws) σ) (d:=d+3) (hs:=hs) (r:=b'++(x++r)) (c:=q) (h:=h2')) (an (Gd (c:=q) (h:=hq)) (an hc (an e4 (an hc (an hxl trivial)))))))))))) (by kernel_rfl)
   exact e5
  |@dots y z hy=>
   have q1:Ac 3 ([46,46,46]++y::z)≠[45,45,45]:=by simp
   have q2:Ac 3 ([46,46,46]++y::z)=[46,46,46]:=rfl
   have e6:AK (S ns) (d+4) 4 [.obj 0,.int 3] [] (scO σ::hs) (Aw y) (scO σ::hs):=EM h
   refine E2.go (s1:=St.mk [(A8 "self",V.obj 0),(A8 "double",a),(A8 "start_mark",V.rcd cc ff),(A8 "chunks",V.obj (c+1)),(A8 "prefix",V.str (Str.mk (AG (Ac 3 ([46,46,46]++y::z))))),(A8 "ScannerError",V.cls 9)] (scO (fwdN (A9 ws+(A9 b'+1)) σ)::Ai hs c (O.list (AD AW xs++[V.str (Str.mk (AG l))])))) [.a 1,.c (V.str (Str.mk (AG (Ac 3 ([46,46,46]++y::z))))) (scO σ::hs),.t,.f,.t,.a 1,.c (Aw y) (scO σ::hs),.f,.a 1,.w (Fl.next) (St.mk (Dw (c+1) a (V.rcd cc ff) (AW (Ac 3 ([46,46,46]++y::z)))) (scO (fwdN (A9 ws) σ)::hs)),.c (Aw q) (scO (fwdN (A9 ws) σ)::hs),.t,.v .ob (O.list (AD AW xs)),.c (V.str (Str.mk (AG l))) (scO (fwdN (A9 ws+A9 (q::b')) σ)::hs),.v .ob (O.list (AD AW xs)),.t] ?_ (an e1 (an (BA (u:=v) (v:=V.str (Str.mk (AG (Ac 3 ([46,46,46]++y::z))))) (h:=hv) (h2:=(by rfl))) (an (GX (l:=Ac 3 ([46,46,46]++y::z)) (n:=q1)) (an (LI (l:=Ac 3 ([46,46,46]++y::z)) (n:=q2)) (an e6 (an (IB (c:=y) (h:=hy)) (an e2 (an (Ba (ns:=ns) (σ:=fwdN (A9 ws) σ) (d:=d+3) (hs:=hs) (r:=b'++(x++r)) (c:=q) (h:=h2')) (an (Gd (c:=q) (h:=hq)) (an hc (an e4 (an hc (an hxl trivial))))))))))))) (by kernel_rfl)
   exact e5
theorem W7 {x:List Nat}(hr:IA x r)(h:Rd σ (x++r)):∃h',Ek hs.length hs h'∧DG (S ns) (d+5) 37 [.obj 0,a,.rcd cc ff] [] (scO σ::hs) (.rcd 9 (Ee OM (.rcd cc ff) OJ (mk (fwdN x.length σ)))) h':=by
 have hlen:=h.len
 refine AB (aT (ns:=ns) (d:=d) (n:=hs.length) (c:=hs.length) (hs:=hs++[.list []]) (a:=a) (v:=.undef) (xs:=[]) (cc:=cc) (ff:=ff) hr h ga (by unfold Cw;rw[Bk,C2];exact hlen) rfl (AT _)) fun s' e=>?_
 refine⟨s'.heap,e.1.ext (Aq.app hs) (AT _),?_⟩
 have e:=e.2
 exact DG.by [.a 1,.y (V.rcd 9 (Ee OM (V.rcd cc ff) OJ (mk (fwdN (A9 x) σ)))) (s')] (an e trivial) (by kernel_rfl)
end
noncomputable abbrev bt:V:=.str "found unexpected end of stream"
section
variable {ns:List Int}{σ:Sc}{d:Nat}{hs:List O}{r l ws:List Nat}{cc:Nat}{ff:List (Str×V)}
theorem VM {w x:List Nat}(hws:D5 ws)(hb:Dr w l (x++r))(hr:IA x r)(h:Rd σ (ws++(w++(x++r)))):
  ∃h',Ek hs.length hs h'∧DG (S ns) (d+6) 36 [.obj 0,.bool false,.rcd cc ff] [] (scO σ::hs) (.rcd 9 (Ee OM (.rcd cc ff) OJ (mk (fwdN (ws++(w++x)).length σ)))) h':=by
 refine hb.head fun q w' eb hq hl=>?_
 subst eb
 have hx:q∉[32,9]:=JI hq
 have hx0:q≠0:=fun e=>absurd (e▸hq:0∈BRK) (by decide)
 have hxb:q∈[13,10,133,8232,8233]:=hq
 have e1:=Pf (ns:=ns) (d:=d+4) (hs:=hs++[.list []]) (c:=hs.length+1) (a:=.bool false) (b:=.rcd cc ff) hx (pre:=[]) hws h
 have e2:=Me (ns:=ns) (d:=d+3) (hs:=hs++[.list []]) h
 have e3:=Lz (ns:=ns) (d:=d+3) (hs:=hs++[.list []]) h
 have h2:=h.skip
 have h2':Rd (fwdN ws.length σ) (q::(w'++(x++r))):=h2
 have e5:AK (S ns) (d+5) 38 [.obj 0] [] (scO (fwdN ws.length σ)::(hs++[.list []])) (.str ⟨l.toArray⟩) (scO (fwdN (q::w').length (fwdN ws.length σ))::(hs++[.list []])):=by
  refine AB hr.rest fun z hr=>AB hr fun u e=>?_
  subst e
  cases x with
  |nil=>exact K7 h2 hb
  |cons y x=>exact K7 h2 hb
 have h3:=h2.skip
 rw[←BC] at h3 e5
 refine AB (W7 (ns:=ns) (d:=d) (hs:=hs++[.list []]) hr (a:=.bool false) (cc:=cc) (ff:=ff) h3) fun h' e6=>?_
 have ek:Ek hs.length hs h':=Ek.ext (fun j hj=>e6.1 j (Ab hj (Aq.app hs).1)) (Aq.app hs) (AT _)
 have e6:=e6.2
 rw[←BC] at e6
 rw[show ws.length+(q::w').length+x.length=(ws++(q::w'++x)).length from by rw[AE,AE,BV]] at e6
 refine⟨h',ek,?_⟩
 exact DG.by [.a 2,.w (Fl.next) (St.mk (Ii (A9 hs+1) (V.bool false) (V.rcd cc ff) (A9 ws)) (scO σ::(hs++[O.list []]))),.c (V.str (Str.mk (AG ws))) (scO σ::(hs++[O.list []])),.a 1,.c (V.none) (scO (fwdN (A9 ws) σ)::(hs++[O.list []])),.c (Aw q) (scO (fwdN (A9 ws) σ)::(hs++[O.list []])),.a 1,.f,.t,.c (V.str (Str.mk (AG l))) (scO (fwdN (A9 ws+A9 (q::w')) σ)::(hs++[O.list []])),.a 1,.x (V.rcd 9 (Ee OM (V.rcd cc ff) OJ (mk (fwdN (A9 (ws++(q::w'++x))) σ)))) (h')] (an e1 (an e2 (an e3 (an (Ba (ns:=ns) (σ:=fwdN (A9 ws) σ) (d:=d+4) (hs:=hs++[O.list []]) (r:=w'++(x++r)) (c:=q) (h:=h2')) (an (Ku (c:=q) (h:=hx0)) (an (Gd (c:=q) (h:=hq)) (an e5 (an e6 trivial)))))))) (by kernel_rfl)
end
inductive Hy:List Nat→List Nat→Prop
 |doc {ws w l y r:List Nat}:D5 ws→Dr w l (y++r)→IA y r→Hy (ws++(w++y)) r
 |blank {ws x1 t1 x2 r u:List Nat} {c:Nat}:ws≠[]→D5 ws→x1++(x2++r)=c::u→c∉[32,9]→c≠0→c∉BRK→Dz x1 t1 (x2++r)→Hy x2 r→Hy (ws++(x1++x2)) r
 |fold {ws w l y t0 x1 t1 x2 r:List Nat}:D5 ws→Dr w l (y++(x1++(x2++r)))→G6 y t0 (x1++(x2++r))→Dz x1 t1 (x2++r)→Hy x2 r→Hy ((ws++(w++y))++(x1++x2)) r
noncomputable def Mt (ns:List Int)(d n c:Nat)(ff:List (Str×V))(σ:Sc)(hs:List O)(x:List Nat):Prop:=
 ∃v s',Hz v (.rcd 0 ff) (mk (fwdN x.length σ))∧Ek n hs s'.heap∧E2 (S ns) (d+7) Zh Zl ⟨L5 (c+1) ff,scO σ::hs⟩ v s'
section
variable {ns:List Int}{n c d:Nat}{ff:List (Str×V)}{hs:List O}
theorem Ut {σ:Sc}{xs:List (List Nat)}(hc:hs[c]? =some (.list (xs.map AW))){x r u:List Nat}{q:Nat}{ct cm p pm:V}{hx:List O}(h:Rd σ (x++r))(e0:x++r=q::u)(hq:q≠39)(hv:Hz (.rcd 9 (Ee ct cm p pm)) (.rcd 0 ff) (mk (fwdN x.length σ)))
  (e:DG (S ns) (d+6) 36 [.obj 0,.bool false,.rcd 0 ff] [] (scO σ::hs) (.rcd 9 (Ee ct cm p pm)) hx)(hk:Ek n hs hx):Mt ns d n c ff σ hs x:=by
 have h':=h.as e0
 have q1:=Pi hq
 refine⟨.rcd 9 (Ee ct cm p pm),⟨L5 (c+1) ff,hx⟩,hv,hk,?_⟩
 exact E2.by [.c (Aw q) (scO σ::hs),.t,.v .ob (O.list (AD AW xs)),.x (V.rcd 9 (Ee ct cm p pm)) (hx)] (an (Ba (ns:=ns) (σ:=σ) (d:=d+5) (hs:=hs) (r:=u) (c:=q) (h:=h')) (an (congrArg not q1) (an hc (an e trivial)))) (by kernel_rfl)
theorem Li {σ:Sc}{xs:List (List Nat)}{x0 t0 x1 t1 x2 r u:List Nat}{q:Nat}(hc:hs[c]? =some (.list (xs.map AW)))(hf:Cw xs (x0++(x1++(x2++r))))(h:Rd σ (x0++(x1++(x2++r))))(e0:x0++(x1++(x2++r))=q::u)(hq:q≠39)
  (sp:OH ns (d+5) 36 [.obj 0,.bool false,.rcd 0 ff] σ hs x0 t0)(hn:Dz x1 t1 (x2++r))
  (ih:∀{σ:Sc} {hs:List O} {xs:List (List Nat)},hs[c]? =some (.list (xs.map AW))→Cw xs (x2++r)→Rd σ (x2++r)→Mt ns d n c ff σ hs x2)(hnc:n≤c):Mt ns d n c ff σ hs (x0++(x1++x2)):=by
 have h':=h.as e0
 have q1:=Pi hq
 refine FP (sp) fun ys0 hs1 hy0 hn0 zz cm0 e1=>?_
 have hc1:=cm0.ext.get hc
 have g0:=cm0.lst
 have s0:=hf.ext hn0
 have n0:hs.length≠c:=fun e=>absurd (AM.mp hc).1 (by rw[e];exact CG _)
 have hf1:=hf.app hn0
 have h1:=h.skip
 refine Hg (H6 (ns:=ns) (d:=d+1) (hs:=hs1.set c (.list (xs.map AW++ys0.map AW))) (cc:=0) (ff:=ff) hn h1) fun ys1 hs2 hy1 hn1 cm1 e2=>?_
 rw[←BC] at e2
 have hc2:=cm1.ext.get (gs hc1)
 rw[←Ae] at hc2
 have g1:=cm1.lst
 have s1:=hf1.ext hn1
 have n1:(hs1.set c (.list (xs.map AW++ys0.map AW))).length≠c:=fun e=>absurd (AM.mp hc1).1 (by rw[BQ] at e;rw[e];exact CG _)
 rw[Ae] at hc2 s1
 have h2:=h1.skip
 rw[←BC] at h2
 refine AB (ih (hs:=hs2.set c (.list ((xs.map AW++ys0.map AW)++ys1.map AW))) (xs:=xs++ys0++ys1) (by rw[Ae,Ae];exact gs hc2) (hf1.app hn1) h2) fun v e=>AB e fun s' e=>?_
 have ev:=e.1
 have e3:=e.2.2
 have ek:Ek n hs s'.heap:=(((e.2.1.set hnc).ext cm1.ext (by rw[BQ];exact Bu (Ev hnc (AM.mp hc1).1))).set hnc).ext cm0.ext (Bu (Ev hnc (AM.mp hc).1))
 rw[←BC,BV] at ev
 refine⟨v,s',?_,ek,?_⟩
 ·rw[AE,AE];exact ev
 ·refine E2.go (s1:=St.mk [(A8 "self",V.obj 0),(A8 "style",V.str (A8 "'")),(A8 "double",V.bool false),(A8 "chunks",V.obj (c+1)),(A8 "start_mark",V.rcd 0 ff),(A8 "quote",V.str (Str.mk #[39])),(A8 "end_mark",V.undef),(A8 "ScalarToken",V.cls 6)] (scO (fwdN (A9 x0+A9 x1) σ)::Ai hs2 c (O.list (AD AW xs++AD AW ys0++AD AW ys1)))) [.c (Aw q) (scO σ::hs),.t,.v .ob (O.list (AD AW xs)),.c (V.obj (A9 hs+1)) (scO (fwdN (A9 x0) σ)::hs1),.v .ob (O.list (AD AW xs)),.t,.v .ob (O.list (AD AW ys0)),.t,.v .ob (O.list (AD AW xs++AD AW ys0)),.c (V.obj (A9 (Ai hs1 c (O.list (AD AW xs++AD AW ys0)))+1)) (scO (fwdN (A9 x0+A9 x1) σ)::hs2),.v .ob (O.list (AD AW xs++AD AW ys0)),.t,.v .ob (O.list (AD AW ys1)),.t] ?_ (an (Ba (ns:=ns) (σ:=σ) (d:=d+5) (hs:=hs) (r:=u) (c:=q) (h:=h')) (an (congrArg not q1) (an hc (an e1 (an hc1 (an (Uf (a:=A9 hs) (b:=c) (h:=n0)) (an g0 (an s0 (an (gs (o':=O.list (AD AW xs++AD AW ys0)) hc1) (an e2 (an hc2 (an (Uf (a:=A9 (Ai hs1 c (O.list (AD AW xs++AD AW ys0)))) (b:=c) (h:=n1)) (an g1 (an s1 trivial)))))))))))))) (by kernel_rfl)
  exact e3
theorem Vm {x r:List Nat}(hr:Hy x r)(hnc:n≤c):∀{σ:Sc} {hs:List O} {xs:List (List Nat)},hs[c]? =some (.list (xs.map AW))→Cw xs (x++r)→Rd σ (x++r)→Mt ns d n c ff σ hs x:=by
 induction hr with
 |@doc ws w l y r hws hb hrow=>
  intro σ hs xs hc hf h
  refine AB (VM (ns:=ns) (d:=d) (hs:=hs) (cc:=0) (ff:=ff) hws hb hrow (h.as (by rw[AC,AC]))) fun h' e=>?_
  have ek:Ek n hs h':=fun j hj=>e.1 j (Do (Ab hj hnc) (AM.mp hc).1)
  have e:=e.2
  refine hb.head fun q w' eb hq zz=>?_
  subst eb
  cases ws with
  |nil=>exact Ut hc h rfl (fun e=>absurd (e▸hq) (by decide)) ⟨_,_,rfl⟩ e ek
  |cons z ws=>exact Ut hc h rfl (fun e=>absurd (e▸hws z (.head _)) (by decide)) ⟨_,_,rfl⟩ e ek
 |@blank ws x1 t1 x2 r u q hws0 hws e0 hx hx0 hxb hn ht ih=>
  intro σ hs xs hc hf h
  rw[AC,AC] at hf h
  have sp:=Oi (ns:=ns) (d:=d+2) (hs:=hs) (a:=.bool false) (b:=.rcd 0 ff) (r:=u) hws hx hx0 hxb hws0 (h.as (by rw[e0]))
  cases ws with
  |nil=>exact(hws0 rfl).elim
  |cons w ws=>exact Li hc hf h rfl (fun e=>absurd (e▸hws w (.head _)) (by decide)) sp hn ih hnc
 |@fold ws w l y t0 x1 t1 x2 r hws hb hrow hn ht ih=>
  intro σ hs xs hc hf h
  rw[AC (ws++(w++y)),AC x1] at hf h
  have sp:=Oh (ns:=ns) (dq:=false) (d:=d+1) (hs:=hs) (cc:=0) (ff:=ff) hws hb hrow (h.as (by rw[AC,AC]))
  refine hb.head fun q w' eb hq zz=>?_
  subst eb
  cases ws with
  |nil=>exact Li hc hf h rfl (fun e=>absurd (e▸hq) (by decide)) sp hn ih hnc
  |cons z ws=>exact Li hc hf h rfl (fun e=>absurd (e▸hws z (.head _)) (by decide)) sp hn ih hnc
end
noncomputable def V8:Expr:=wT (Bo (BZ 15) 0)
noncomputable def VE:List Stmt:=wB (Bo (BZ 15) 0)
noncomputable abbrev Ft:List (Str×V):=[("self",.obj 0)]
inductive Gr:List Nat→List Nat→Prop
 |later {x1 t1 x2 r:List Nat}:Dz x1 t1 (x2++r)→Hy x2 r→Gr (x1++x2) r
section
variable {ns:List Int}{Z:List O}{d:Nat}{σ:Sc}{hs:List O}{x r:List Nat}
theorem TH {x1 t1 x2:List Nat}(hn:Dz x1 t1 (x2++r))(ht:Hy x2 r)(h:Rd σ (39::(x1++(x2++r)))):
  ∃v h',Hz v (mk σ) (mk (fwdN (1+x1.length+x2.length) σ))∧Ek hs.length hs h'∧DG (S ns) (d+7) 34 [.obj 0,.str "'"] [] (scO σ::hs) v h':=by
 refine AB (HH (x:=x1) hn.rest) fun y e=>AB e fun w e=>?_
 have h0:Rd σ (39::y::w):=h.as (congrArg (39::·) e)
 have ef:=Gx (ns:=ns) (d:=d+4) (hs:=(hs++[.list []])++[.dead]) h0
 have h1:=h.next
 refine Hg (H6 (ns:=ns) (d:=d+1) (hs:=(hs++[.list []])++[.dead]) (cc:=0) (ff:=BM σ) hn h1) fun ys1 hs1 hy1 hn1 cm1 e1=>?_
 have hl1:=h1.len
 have hf0:Cw [] (x1++(x2++r)):=by unfold Cw;rw[Bk,C2];exact hl1
 have s1:=hf0.ext hn1
 have hf1:=hf0.app hn1
 rw[←BC] at e1
 have h2:=h1.skip
 rw[←BC] at h2
 have g1:=cm1.lst
 have hcl:((hs++[O.list []])++[O.dead])[hs.length]? =some (.list []):=by rw[AC];exact ga
 have hc1:hs1[hs.length]? =some (.list []):=cm1.ext.get hcl
 refine AB (Vm (ns:=ns) (d:=d) (n:=hs.length) (c:=hs.length) (ff:=BM σ) ht (AT _) (hs:=hs1.set hs.length (.list (ys1.map AW))) (gs hc1) hf1 h2) fun v e=>AB e fun s' e=>AB e.1 fun ct hv=>AB hv fun p hv=>?_
 subst hv
 have e2:=e.2.2
 have ek:Ek hs.length hs s'.heap:=((e.2.1.set (AT _)).ext cm1.ext (AL (Aq.app hs).1 (Aq.app _).1)).ext ((Aq.app hs).trans (Aq.app _)) (AT _)
 rw[←BC] at e2
 refine⟨_,s'.heap,⟨ct,p,rfl⟩,ek,?_⟩
 exact DG.by [.a 3,.c (mk σ) (scO σ::(hs++[O.list []]++[O.dead])),.a 1,.c (Aw 39) (scO σ::(hs++[O.list []]++[O.dead])),.a 1,.c (V.none) (scO (fwdN 1 σ)::(hs++[O.list []]++[O.dead])),.v .ob (O.list []),.c (V.obj (A9 (hs++[O.list []]++[O.dead])+1)) (scO (fwdN (1+A9 x1) σ)::hs1),.v .ob (O.list []),.t,.v .ob (O.list (AD AW ys1)),.t,.y (V.rcd 9 (Ee ct (V.rcd 0 (BM σ)) p (mk (fwdN (1+A9 x1+A9 x2) σ)))) (s')] (an (DK (ns:=ns) (σ:=σ) (d:=d+4) (hs:=hs++[O.list []])) (an (Ba (ns:=ns) (σ:=σ) (d:=d+5) (hs:=hs++[O.list []]++[O.dead]) (r:=x1++(x2++r)) (c:=39) (h:=h)) (an ef (an hcl (an e1 (an hc1 (an (Os (h:=hs) (a:=O.list []) (b:=O.dead)) (an g1 (an s1 (an e2 trivial)))))))))) (by kernel_rfl)
theorem VZ (hx:Gr x r)(h:Rd σ (39::(x++r))):
  ∃v h',Hz v (mk σ) (mk (fwdN (x.length+1) σ))∧Ek hs.length hs h'∧DG (S ns) (d+7) 34 [.obj 0,.str "'"] [] (scO σ::hs) v h':=by
 obtain @⟨x1,t1,x2,r,hn,ht⟩:=hx
 rw[show(x1++x2).length+1=1+x1.length+x2.length from by rw[AE];lia]
 exact TH hn ht (h.as (by rw[AC]))
theorem aM {q:Bool}{z:List Nat}{c0:Nat}{u0:List Nat}(g:Ey q z (39::(x++r)))(ha:q=true∨σ.ask=true)(h:Rd σ (z++39::(x++r)))(e:z++39::(x++r)=c0::u0)(hbom:c0≠65279)(hx:Gr x r)(f:BU Z hs σ [] [])(hdt:σ.dt=0)(hd:σ.dn=false):
  ∃v h' cm,Hz v cm (mk (fwdN (x.length+1) {B2 z.length σ with ask:=false}))∧Ek Z.length Z h'∧DG (S ns) (d+11) 15 [.obj 0] [] (scO σ::hs) v h':=by
 have e0:=HK (ns:=ns) (d:=d+9) f hd
 have e1:=JC (ns:=ns) (d:=d+4) (hs:=hs) g ha h e hbom
 have h1:=F3 h
 have f1:=f.ext (σ':=B2 z.length σ) (Aq.refl hs) rfl rfl
 have hdt:(B2 z.length σ).dt=0:=hdt
 have ha1:(B2 z.length σ).ask=true:=rfl
 generalize B2 z.length σ=σ1 at *
 have e2:=Ko (ns:=ns) (d:=d+7) f1
 have e3:=J5 (ns:=ns) (d:=d+8) (σ:=σ1) (hs:=hs++[.list []]) (LG (n:=σ1.cl) (.inl hdt))
 have f2:=f1.ext (σ':=σ1) (Aq.app hs (o:=.list [])) rfl rfl
 refine AS (WY (ns:=ns) (d:=d+4) f2 ha1) fun hs1 f3 e4=>?_
 have g1:=f3.tk
 refine AB (VZ (ns:=ns) (d:=d) (hs:=hs1) hx (σ:={σ1 with ask:=false}) ⟨h1.at_,h1.z⟩) fun v e=>AB e fun h2 e=>?_
 have e5:=e.2.2
 have ek:Ek Z.length Z h2:=fun j hj=>(e.2.1 j (Do (Ab hj f3.k1) (AM.mp f3.tk).1)).trans (f3.kp j hj)
 have e6:DG (S ns) (d+8) 29 [.obj 0] [("style",.str "'")] (scO σ1::(hs++[O.list []])) v h2:=by
  exact DG.by [.c (V.none) (scO σ1::hs1),.v .ob (O.list []),.x (v) (h2)] (an e4 (an g1 (an e5 trivial))) (by kernel_rfl)
 have e7:DG (S ns) (d+9) 27 [.obj 0] [] (scO σ1::(hs++[O.list []])) v h2:=by
  exact DG.by [.x (v) (h2)] (an e6 trivial) (by kernel_rfl)
 have e8:DG (S ns) (d+10) 17 [.obj 0] [] (scO σ::hs) v h2:=by
  exact DG.by [.c (V.none) (scO σ1::hs),.c (V.none) (scO σ1::(hs++[O.list []])),.c (V.none) (scO σ1::(hs++[O.list []])),.c (Aw 39) (scO σ1::(hs++[O.list []])),.a 27,.x (v) (h2)] (an e1 (an e2 (an e3 (an (Ba (ns:=ns) (σ:=σ1) (d:=d+8) (hs:=hs++[O.list []]) (r:=x++r) (c:=39) (h:=h1)) (an e7 trivial))))) (by kernel_rfl)
 have e9:E2 (S ns) (d+11) V8 VE ⟨Ft,scO σ::hs⟩ v ⟨Ft,h2⟩:=by
  exact E2.by [.c (V.bool true) (scO σ::hs),.a 1,.x (v) (h2)] (an e0 (an e8 trivial)) (by kernel_rfl)
 refine⟨v,h2,_,e.1,ek,?_⟩
 exact DG.by [.y (v) (St.mk Ft h2)] (an e9 trivial) (by kernel_rfl)
end
noncomputable def ED (ns:List Int)(v t:V):Prop:=∀(d:Nat) (h:List O),AK (S ns) (d+1) 44 [v] [] h t h
noncomputable abbrev wordT (s:Str):V:=.tup [.str s]
noncomputable abbrev E7 (t:List Nat)(i j:Nat):V:=.tup [.str "scalar",.str ⟨t.toArray⟩,.str "'",.int (i:Int),.int (j:Int)]
section
variable {ns:List Int}
theorem K2 {x t:List Nat}{σ:Sc}:ED ns (HR x t σ) (E7 t σ.ix (Eb x σ).ix):=fun d h=>by
 unfold HR mk BM
 exact AK.by [.a 1] trivial (by kernel_rfl)
theorem Kj {a b:Sc}:ED ns (D4 5 a b) (wordT "entry"):=fun d h=>by
 exact AK.by [.a 2] trivial (by kernel_rfl)
theorem Se {a b:Sc}:ED ns (D4 3 a b) (wordT "sequence"):=fun d h=>by
 exact AK.by [.a 4] trivial (by kernel_rfl)
theorem MA {a b:Sc}:ED ns (D4 4 a b) (wordT "sequence end"):=fun d h=>by
 exact AK.by [.a 5] trivial (by kernel_rfl)
theorem Sf {a b:Sc}:ED ns (D4 2 a b) (wordT "stream end"):=fun d h=>by
 exact AK.by [.a 6] trivial (by kernel_rfl)
theorem PU {B:List Nat}:ED ns (Fo B) (wordT "stream"):=fun d h=>by
 exact AK.by [.a 3] trivial (by kernel_rfl)
end
noncomputable abbrev FX (σ:Sc):Sc:={σ with tn:=σ.tn+1}
noncomputable abbrev M8 (ns:List Int)(d:Nat)(σ:Sc)(hs:List O)(σ':Sc)(hs':List O):Prop:=An (S ns) (d+1) V8 VE ⟨Ft,scO σ::hs⟩ .next ⟨Ft,scO σ'::hs'⟩
section
variable {ns:List Int}{Z:List O}{d:Nat}{σ σ' κ:Sc}{hs hs':List O}{x t r:List Nat}{T:List V}{D:List (V×V)}{v:V}
theorem FO (e:M8 ns d σ hs σ' hs')(g:hs'[σ'.tk]? =some (.list (v::T)))(hT:BE (v::T).length=true):AK (S ns) (d+1) 15 [.obj 0] [] (scO σ::hs) v (scO (FX σ')::hs'.set σ'.tk (.list T)):=by
 have e:An (S ns) (d+1) V8 VE ⟨Ft,scO σ::hs⟩ .next ⟨Ft,scO σ'::hs'⟩:=e
 exact AK.by [.w (Fl.next) (St.mk Ft (scO σ'::hs')),.v .ob (O.list (v::T)),.t,.t,.v .ob (O.list (v::T)),.v .ob (O.list (v::T)),.t,.a 1] (an e (an g (an hT (an I6 (an g (an g (an hT trivial))))))) (by kernel_rfl)
theorem Tk (e:M8 ns d σ hs σ' hs')(g:hs'[σ'.tk]? =some (.list [])):AK (S ns) (d+1) 15 [.obj 0] [] (scO σ::hs) .none (scO σ'::hs'):=by
 have e:An (S ns) (d+1) V8 VE ⟨Ft,scO σ::hs⟩ .next ⟨Ft,scO σ'::hs'⟩:=e
 exact AK.by [.w (Fl.next) (St.mk Ft (scO σ'::hs')),.v .ob (O.list []),.a 2] (an e (an g trivial)) (by kernel_rfl)
theorem GR (e:AK (S ns) (d+1) 16 [.obj 0] [] (scO σ::hs) .none (scO σ::hs')):M8 ns (d+1) σ hs σ hs':=by
 exact An.by [.c (V.none) (scO σ::hs'),.a 1] (an e trivial) (by kernel_rfl)
theorem Jn (hd:σ.dn=true):M8 ns (d+1) σ hs σ hs:=by
 have e:=TS (ns:=ns) (d:=d) (hs:=hs) hd
 exact An.by [.c (V.bool false) (scO σ::hs),.a 1] (an e trivial) (by kernel_rfl)
theorem F5 {σ1:Sc}{hs1 hs2:List O}(e:AK (S ns) (d+1) 16 [.obj 0] [] (scO σ::hs) (.bool true) (scO σ::hs1))(e2:AK (S ns) (d+1) 17 [.obj 0] [] (scO σ::hs1) .none (scO σ1::hs2))(e3:M8 ns (d+1) σ1 hs2 σ' hs'):M8 ns (d+1) σ hs σ' hs':=by
 refine An.go (s1:=St.mk [(A8 "self",V.obj 0)] (scO σ1::hs2)) [.c (V.bool true) (scO σ::hs1),.a 1,.c (V.none) (scO σ1::hs2)] ?_ (an e (an e2 trivial)) (by kernel_rfl)
 exact e3
theorem Gi (v:V):BE [v].length=true:=As (by show 1≤lim;decide)
theorem Ki (v w:V):BE [v,w].length=true:=As (by show 2≤lim;decide)
theorem BU.take (f:BU Z hs σ (v::T) D):BU Z (hs.set σ.tk (.list T)) (FX σ) T D:=
 ⟨gs f.tk,(Aa f.ne).trans f.ks,f.ne,f.nf.set rfl,(f.sett T).kp,f.k1,f.k2,(Aa f.n2).trans f.is,f.n2,f.n3,f.k3⟩
theorem GE.take (f:GE Z hs σ (v::T)):GE Z (hs.set σ.tk (.list T)) (FX σ) T:=⟨gs f.tk,f.dn,fun j hj=>(Aa (Bh (Ab hj f.k1))).trans (f.kp j hj),f.k1⟩
theorem BU.foot (f:BU Z hs σ T D){j:Nat}(hj:j<Z.length){o:O}(ho:DH o=true):BU (Z.set j o) (hs.set j o) σ T D:=by
 have l:(Z.set j o).length=Z.length:=BQ
 refine⟨(Aa (Ah (Ab hj f.k1))).trans f.tk,(Aa (Ah (Ab hj f.k2))).trans f.ks,f.ne,f.nf.set ho,fun i hi=>?_,by rw[l];exact f.k1,by rw[l];exact f.k2,(Aa (Ah (Ab hj f.k3))).trans f.is,f.n2,f.n3,by rw[l];exact f.k3⟩
 rw[l] at hi
 rw[CJ,CJ]
 have hl:j<hs.length:=Do (Ab hj f.k1) (AM.mp f.tk).1
 by_cases q:j=i
 ·rw[if_pos q,if_pos q,if_pos hl,if_pos hj]
 ·rw[if_neg q,if_neg q]
  exact f.kp i hi
theorem GE.foot (f:GE Z hs σ T){j:Nat}(hj:j<Z.length){o:O}:GE (Z.set j o) (hs.set j o) σ T:=by
 have l:(Z.set j o).length=Z.length:=BQ
 refine⟨(Aa (Ah (Ab hj f.k1))).trans f.tk,f.dn,fun i hi=>?_,by rw[l];exact f.k1⟩
 rw[l] at hi
 rw[CJ,CJ]
 have hl:j<hs.length:=Do (Ab hj f.k1) (AM.mp f.tk).1
 by_cases q:j=i
 ·rw[if_pos q,if_pos q,if_pos hl,if_pos hj]
 ·rw[if_neg q,if_neg q]
  exact f.kp i hi
end
noncomputable def F6:V→Bool
 | .rcd _ _=>true
 |_=>false
theorem IK {v:V}(h:F6 v=true):∃c fs,v= .rcd c fs:=by
 rcases v with _|_|_|_|_|_|_|⟨c,fs⟩|_|_|_|_|_|_|_|_<;>first|exact⟨c,fs,rfl⟩|exact(AI h).elim
inductive FJ (ns:List Int) (d:Nat):List V→Option Nat→(Sc→List O→List O→Prop)→Prop
 |tok {t:V} {L:List V} {e:Option Nat} {K K':Sc→List O→List O→Prop}:(∀σ Z hs j o,K' σ Z hs→j<Z.length→DH o=true→K' σ (Z.set j o) (hs.set j o))→(∀σ Z hs,K' σ Z hs→∀j,j<Z.length→hs[j]? =Z[j]?)→
   (∀σ Z hs,K σ Z hs→∃v σ' hs',ED ns v t∧F6 v=true∧K' σ' Z hs'∧AK (S ns) (d+11) 15 [.obj 0] [] (scO σ::hs) v (scO σ'::hs'))→FJ ns d L e K'→FJ ns d (t::L) e K
 |stop {K:Sc→List O→List O→Prop}:(∀σ Z hs,K σ Z hs→AK (S ns) (d+11) 15 [.obj 0] [] (scO σ::hs) .none (scO σ::hs))→FJ ns d [] none K
 |err {i:Nat} {K:Sc→List O→List O→Prop}:(∀σ Z hs,K σ Z hs→∃v h' cm κ,Hz v cm (mk κ)∧κ.ix=i∧Ek Z.length Z h'∧DG (S ns) (d+11) 15 [.obj 0] [] (scO σ::hs) v h')→FJ ns d [] (some i) K
section
variable {ns:List Int}{Z:List O}{d:Nat}{σ κ:Sc}{hs:List O}
structure QS (u:List Nat)(σ:Sc)(Z hs:List O):Prop where
 f:∃B,BU Z hs σ [Fo B] []
 rd:Rd σ u
 ix:σ.ix=0
 cl:σ.cl=0
 ask:σ.ask=true
 dn:σ.dn=false
 dt:σ.dt=-1
structure QF (u:List Nat)(σ:Sc)(Z hs:List O):Prop where
 f:BU Z hs σ [] []
 rd:Rd σ u
 ix:σ.ix=0
 cl:σ.cl=0
 ask:σ.ask=true
 dn:σ.dn=false
 dt:σ.dt=-1
structure QE (i:Nat)(u:List Nat)(σ:Sc)(Z hs:List O):Prop where
 f:∃a b,BU Z hs σ [D4 5 a b] []
 rd:Rd σ u
 ix:σ.ix=i
 ask:σ.ask=true
 dn:σ.dn=false
 dt:σ.dt=0
structure QQ (i:Nat)(u:List Nat)(σ:Sc)(Z hs:List O):Prop where
 f:BU Z hs σ [] []
 rd:Rd σ u
 ix:σ.ix=i
 ask:σ.ask=true
 dn:σ.dn=false
 dt:σ.dt=0
structure QA (i:Nat)(u:List Nat)(σ:Sc)(Z hs:List O):Prop where
 f:BU Z hs σ [] []
 rd:Rd σ u
 ix:σ.ix=i
 dn:σ.dn=false
 dt:σ.dt=0
noncomputable def QD (σ:Sc)(Z hs:List O):Prop:=∃a b,GE Z hs σ [D4 4 a a,D4 2 b b]
noncomputable def YI (σ:Sc)(Z hs:List O):Prop:=∃b,GE Z hs σ [D4 2 b b]
noncomputable def YJ (σ:Sc)(Z hs:List O):Prop:=GE Z hs σ []
theorem PX {u:List Nat}(k:QS u σ Z hs):∃v σ' hs',ED ns v (wordT "stream")∧F6 v=true∧QF u σ' Z hs'∧AK (S ns) (d+11) 15 [.obj 0] [] (scO σ::hs) v (scO σ'::hs'):=by
 refine AB k.f fun B f=>?_
 have f1:=f.ext (σ':=σ) (Aq.app hs (o:=.list [])) rfl rfl
 exact⟨Fo B,FX σ,_,PU,rfl,⟨f1.take,⟨k.rd.at_,k.rd.z⟩,k.ix,k.cl,k.ask,k.dn,k.dt⟩,FO (GR (Kx (d:=d+7) f (by show 1≤lim;decide) k.dn)) f1.tk (Gi _)⟩
theorem PY {c:Nat}{u:List Nat}(k:QF (45::32::c::u) σ Z hs):∃v σ' hs',ED ns v (wordT "sequence")∧F6 v=true∧QE 1 (32::c::u) σ' Z hs'∧AK (S ns) (d+11) 15 [.obj 0] [] (scO σ::hs) v (scO σ'::hs'):=by
 have e0:=HK (ns:=ns) (d:=d+9) k.f k.dn
 have g:Ey false [] (45::32::c::u):=.done (fun zz h=>(Ap h).elim) (by decide) (by decide) (by decide) (by decide)
 refine AS (XS (ns:=ns) (d:=d+1) (σ:=σ) (κ:=σ) g (.inr k.ask) k.rd rfl (by decide) k.f .no k.dt (show σ.cl=0 from k.cl)) fun hs1 f1 e1=>?_
 have h1:Rd (DM (Gj (B2 0 σ))) (32::c::u):=by
  have h:Rd (Bt (Gj (B2 0 σ))) (45::32::c::u):=⟨k.rd.at_,k.rd.z⟩
  exact h.next
 have e2:=Kx (ns:=ns) (d:=d+7) f1 (by show 2≤lim;decide) k.dn
 have f2:=f1.ext (σ':=DM (Gj (B2 0 σ))) (Aq.app hs1 (o:=.list [])) rfl rfl
 exact⟨_,FX (DM (Gj (B2 0 σ))),_,Se,rfl,⟨⟨_,_,f2.take⟩,⟨h1.at_,h1.z⟩,(by show σ.ix+0+1=1;rw[k.ix]),rfl,k.dn,rfl⟩,FO (F5 e0 e1 (GR e2)) f2.tk (Ki _ _)⟩
theorem Km {i:Nat}{u:List Nat}(k:QE i u σ Z hs):∃v σ' hs',ED ns v (wordT "entry")∧F6 v=true∧QQ i u σ' Z hs'∧AK (S ns) (d+11) 15 [.obj 0] [] (scO σ::hs) v (scO σ'::hs'):=by
 refine AB k.f fun a f=>AB f fun b f=>?_
 have f1:=f.ext (σ':=σ) (Aq.app hs (o:=.list [])) rfl rfl
 exact⟨_,FX σ,_,Kj,rfl,⟨f1.take,⟨k.rd.at_,k.rd.z⟩,k.ix,k.ask,k.dn,k.dt⟩,FO (GR (Kx (d:=d+7) f (by show 1≤lim;decide) k.dn)) f1.tk (Gi _)⟩
end
section
variable {ns:List Int}{Z:List O}{d:Nat}{σ κ:Sc}{hs:List O}
theorem U5 {u:List Nat}(h:Rd σ (32::u)):(B2 1 σ).cl=σ.cl+1:=by
 show(MK σ.B σ.p (σ.ln,σ.cl)).2=_
 unfold MK
 rw[IN h.get0]
 rfl
noncomputable def QU (x r:List Nat):Prop:=∃x' c,x=x'++[c]∧(c∈[10,133,8232,8233]∨c=13∧r.head?≠some 10)
theorem PE {x r:List Nat}(e:QU x r)(hr:∃a u,r=a::u)(h:Rd σ (x++r)):(B2 x.length σ).cl=0:=by
 refine AB e fun x' e=>AB e fun c e=>AB hr fun a hr=>AB hr fun u hr=>?_
 have ex:=e.1
 subst ex hr
 have h:Rd σ (x'++c::a::u):=h.as (by rw[AC];rfl)
 have g1:=IN h.get
 have g2:σ.B.getD (σ.p+x'.length+1) 0=a:=by
  have h2:Rd σ ((x'++[c])++a::u):=h.as (by rw[AC];rfl)
  have g:=IN h2.get
  rw[AE,←BV] at g
  exact g
 show(L7 σ.B (x'++[c]).length σ.p (σ.ln,σ.cl)).2=0
 rw[AE,Lx]
 show(MK σ.B (σ.p+x'.length) _).2=0
 unfold MK
 dsimp only
 rw[g1]
 refine e.2.elim (fun hc=>by rw[if_pos hc]) fun hc=>?_
 have hc1:=hc.1
 subst hc1
 rw[if_neg (by decide),if_pos rfl,g2,if_neg fun z=>hc.2 (by rw[z];rfl)]
theorem SS {x r:List Nat}(h:Rd σ (39::(x++39::r))):Rd (Eb x σ) r:=by
 have e:39::(x++39::r)=(39::(x++[39]))++r:=by rw[By,AC];rfl
 have h1:=(h.as e).skip
 rw[AX,AE] at h1
 exact⟨h1.at_,h1.z⟩
theorem Up {y r:List Nat}:Ey false [32] (39::(y++39::r)):=.done (fun zz h=>AY.mp h) (by decide) (by decide) (by decide) (by decide)
theorem UT {u:List Nat}(h:Rd σ (32::u))(hdt:σ.dt=0):decide ((B2 1 σ).dt=((B2 1 σ).cl:Int))=false:=by
 rw[U5 h]
 exact decide_eq_false fun e=>by have e:σ.dt=_:=e;rw[hdt] at e;exact absurd e.symm (Int.ne_of_gt (Bl.mpr (Nat.succ_pos _)))
noncomputable def QB (j j':Nat)(r u:List Nat)(σ:Sc)(Z hs:List O):Prop:=QA j r σ Z hs∨QE j' u σ Z hs
noncomputable def QC (j:Nat)(r:List Nat)(σ:Sc)(Z hs:List O):Prop:=QA j r σ Z hs∨QD σ Z hs
theorem NE {i:Nat}{y t x u:List Nat}{c c0:Nat}{u0:List Nat}(k:QQ i (32::39::(y++39::(x++45::32::c::u))) σ Z hs)(hx:I8 y t (x++45::32::c::u))(g:Ey true x (45::32::c::u))(en:QU x (45::32::c::u))(e0:x++45::32::c::u=c0::u0)(hbom:c0≠65279):
  ∃v σ' hs',ED ns v (E7 t (i+1) (i+1+(y.length+2)))∧F6 v=true∧QB (i+1+(y.length+2)) (i+1+(y.length+2)+x.length+1) (x++45::32::c::u) (32::c::u) σ' Z hs'∧AK (S ns) (d+11) 15 [.obj 0] [] (scO σ::hs) v (scO σ'::hs'):=by
 have n0:=HK (ns:=ns) (d:=d+9) k.f k.dn
 have rq:=UT k.rd k.dt
 refine AS (S1 (ns:=ns) (d:=d+1) (x:=[32]) Up (.inr k.ask) k.rd rfl (by decide) hx ⟨c0,u0,e0⟩ k.f k.dt) fun hs1 f1 e1=>?_
 have h1:Rd (B2 1 σ) (39::(y++39::(x++45::32::c::u))):=F3 (x:=[32]) k.rd
 have h2:=SS h1
 have tv:ED ns (HR y t (B2 1 σ)) (E7 t (i+1) (i+1+(y.length+2))):=by
  have tv:=K2 (ns:=ns) (x:=y) (t:=t) (σ:=B2 1 σ)
  rw[show(B2 1 σ).ix=i+1 from congrArg (·+1) k.ix,show(Eb y (B2 1 σ)).ix=i+1+(y.length+2) from congrArg (·+1+(y.length+2)) k.ix] at tv
  exact tv
 have ixa:(Eb y (B2 1 σ)).ix=i+1+(y.length+2):=congrArg (·+1+(y.length+2)) k.ix
 refine Dl (Ue (ns:=ns) (d:=d+7) f1 (by show 1≤lim;decide) k.dn rfl rq) fun D' hs2 f2 hc=>hc.elim (fun hc=>?_) fun hc=>?_
 ·have q:=hc.1
  subst q
  exact⟨_,FX (Eb y (B2 1 σ)),_,tv,rfl,.inl ⟨f2.take,⟨h2.at_,h2.z⟩,ixa,k.dn,k.dt⟩,FO (F5 n0 e1 (GR hc.2)) f2.tk (Gi _)⟩
 ·have q:=hc.1
  subst q
  refine AS (S3 (ns:=ns) (d:=d+1) (κ:=B2 1 σ) g (.inl rfl) h2 e0 hbom f2 (.yes rq) (Gi _) k.dt (PE en ⟨_,_,rfl⟩ h2)) fun hs3 f3 e3=>?_
  have n3:=Kx (ns:=ns) (d:=d+7) f3 (by show 2≤lim;decide) k.dn
  have f4:=f3.ext (σ':=DM (B2 x.length (Eb y (B2 1 σ)))) (Aq.app hs3 (o:=.list [])) rfl rfl
  have h3:Rd (DM (B2 x.length (Eb y (B2 1 σ)))) (32::c::u):=by
   have h:=F3 h2
   have h:Rd (Bt (B2 x.length (Eb y (B2 1 σ)))) (45::32::c::u):=⟨h.at_,h.z⟩
   exact h.next
  exact⟨_,FX (DM (B2 x.length (Eb y (B2 1 σ)))),_,tv,rfl,.inr ⟨⟨_,_,f4.take⟩,⟨h3.at_,h3.z⟩,congrArg (·+x.length+1) ixa,rfl,k.dn,k.dt⟩,FO (F5 n0 e1 (F5 hc.2 e3 (GR n3))) f4.tk (Ki _ _)⟩
theorem ND {i:Nat}{y t x:List Nat}{c0:Nat}{u0:List Nat}(k:QQ i (32::39::(y++39::(x++0::[]))) σ Z hs)(hx:I8 y t (x++0::[]))(g:Ey true x (0::[]))(e0:x++0::[]=c0::u0)(hbom:c0≠65279):
  ∃v σ' hs',ED ns v (E7 t (i+1) (i+1+(y.length+2)))∧F6 v=true∧QC (i+1+(y.length+2)) (x++0::[]) σ' Z hs'∧AK (S ns) (d+11) 15 [.obj 0] [] (scO σ::hs) v (scO σ'::hs'):=by
 have n0:=HK (ns:=ns) (d:=d+9) k.f k.dn
 have rq:=UT k.rd k.dt
 refine AS (S1 (ns:=ns) (d:=d+1) (x:=[32]) Up (.inr k.ask) k.rd rfl (by decide) hx ⟨c0,u0,e0⟩ k.f k.dt) fun hs1 f1 e1=>?_
 have h1:Rd (B2 1 σ) (39::(y++39::(x++0::[]))):=F3 (x:=[32]) k.rd
 have h2:=SS h1
 have tv:ED ns (HR y t (B2 1 σ)) (E7 t (i+1) (i+1+(y.length+2))):=by
  have tv:=K2 (ns:=ns) (x:=y) (t:=t) (σ:=B2 1 σ)
  rw[show(B2 1 σ).ix=i+1 from congrArg (·+1) k.ix,show(Eb y (B2 1 σ)).ix=i+1+(y.length+2) from congrArg (·+1+(y.length+2)) k.ix] at tv
  exact tv
 have ixa:(Eb y (B2 1 σ)).ix=i+1+(y.length+2):=congrArg (·+1+(y.length+2)) k.ix
 refine Dl (Ue (ns:=ns) (d:=d+7) f1 (by show 1≤lim;decide) k.dn rfl rq) fun D' hs2 f2 hc=>hc.elim (fun hc=>?_) fun hc=>?_
 ·have q:=hc.1
  subst q
  exact⟨_,FX (Eb y (B2 1 σ)),_,tv,rfl,.inl ⟨f2.take,⟨h2.at_,h2.z⟩,ixa,k.dn,k.dt⟩,FO (F5 n0 e1 (GR hc.2)) f2.tk (Gi _)⟩
 ·have q:=hc.1
  subst q
  refine AB (S2 (ns:=ns) (d:=d+1) (κ:=B2 1 σ) g (.inl rfl) h2 e0 hbom f2 (.yes rq) k.dt (Gi _) rfl) fun σ1 z=>AB z fun σ' z=>AB z fun hs3 z=>?_
  have f3:=z.1
  exact⟨_,FX σ',_,tv,rfl,.inr ⟨_,_,f3.take⟩,FO (F5 n0 e1 (F5 hc.2 z.2 (Jn f3.dn))) f3.tk (As (by show 3≤lim;decide))⟩
theorem Qp {j:Nat}{x u:List Nat}{c c0:Nat}{u0:List Nat}(k:QB j (j+x.length+1) (x++45::32::c::u) (32::c::u) σ Z hs)(g:Ey true x (45::32::c::u))(en:QU x (45::32::c::u))(e0:x++45::32::c::u=c0::u0)(hbom:c0≠65279):
  ∃v σ' hs',ED ns v (wordT "entry")∧F6 v=true∧QQ (j+x.length+1) (32::c::u) σ' Z hs'∧AK (S ns) (d+11) 15 [.obj 0] [] (scO σ::hs) v (scO σ'::hs'):=by
 refine k.elim (fun k=>?_) Km
 have n0:=HK (ns:=ns) (d:=d+9) k.f k.dn
 refine AS (S3 (ns:=ns) (d:=d+1) (κ:=σ) g (.inl rfl) k.rd e0 hbom k.f .no rfl k.dt (PE en ⟨_,_,rfl⟩ k.rd)) fun hs1 f1 e1=>?_
 have n1:=Kx (ns:=ns) (d:=d+7) f1 (by show 1≤lim;decide) k.dn
 have f2:=f1.ext (σ':=DM (B2 x.length σ)) (Aq.app hs1 (o:=.list [])) rfl rfl
 have h3:Rd (DM (B2 x.length σ)) (32::c::u):=by
  have h:=F3 k.rd
  have h:Rd (Bt (B2 x.length σ)) (45::32::c::u):=⟨h.at_,h.z⟩
  exact h.next
 exact⟨_,FX (DM (B2 x.length σ)),_,Kj,rfl,⟨f2.take,⟨h3.at_,h3.z⟩,congrArg (·+x.length+1) k.ix,rfl,k.dn,k.dt⟩,FO (F5 n0 e1 (GR n1)) f2.tk (Gi _)⟩
theorem getD {T:List V}{v:V}(f:GE Z hs σ (v::T))(hT:BE (v::T).length=true):AK (S ns) (d+2) 15 [.obj 0] [] (scO σ::hs) v (scO (FX σ)::hs.set σ.tk (.list T)):=FO (Jn f.dn) f.tk hT
theorem Qq {j:Nat}{x:List Nat}{c0:Nat}{u0:List Nat}(k:QC j (x++0::[]) σ Z hs)(g:Ey true x (0::[]))(e0:x++0::[]=c0::u0)(hbom:c0≠65279):
  ∃v σ' hs',ED ns v (wordT "sequence end")∧F6 v=true∧YI σ' Z hs'∧AK (S ns) (d+11) 15 [.obj 0] [] (scO σ::hs) v (scO σ'::hs'):=by
 refine k.elim (fun k=>?_) fun k=>AB k fun a k=>AB k fun b f=>⟨D4 4 a a,FX σ,_,MA,rfl,⟨b,f.take⟩,getD (d:=d+9) f (Ki _ _)⟩
 have n0:=HK (ns:=ns) (d:=d+9) k.f k.dn
 refine AB (S2 (ns:=ns) (d:=d+1) (κ:=σ) g (.inl rfl) k.rd e0 hbom k.f .no k.dt rfl rfl) fun σ1 z=>AB z fun σ' z=>AB z fun hs3 z=>?_
 have f3:=z.1
 exact⟨D4 4 σ1 σ1,FX σ',_,MA,rfl,⟨_,f3.take⟩,FO (F5 n0 z.2 (Jn f3.dn)) f3.tk (Ki _ _)⟩
theorem Sn (k:YI σ Z hs):∃v σ' hs',ED ns v (wordT "stream end")∧F6 v=true∧YJ σ' Z hs'∧AK (S ns) (d+11) 15 [.obj 0] [] (scO σ::hs) v (scO σ'::hs'):=
 AB k fun b f=>⟨D4 2 b b,FX σ,_,Sf,rfl,f.take,getD (d:=d+9) f (Gi _)⟩
theorem Qo (k:YJ σ Z hs):AK (S ns) (d+11) 15 [.obj 0] [] (scO σ::hs) .none (scO σ::hs):=Tk (Jn (d:=d+9) k.dn) k.tk
theorem So {i:Nat}{y r:List Nat}(k:QQ i (32::39::(y++r)) σ Z hs)(hx:Gr y r):∃v h' cm κ,Hz v cm (mk κ)∧κ.ix=i+1+(y.length+1)∧Ek Z.length Z h'∧DG (S ns) (d+11) 15 [.obj 0] [] (scO σ::hs) v h':=by
 have g:Ey false [32] (39::(y++r)):=.done (fun zz h=>AY.mp h) (by decide) (by decide) (by decide) (by decide)
 refine AB (aM (ns:=ns) (d:=d) (z:=[32]) g (.inr k.ask) k.rd rfl (by decide) hx k.f k.dt k.dn) fun v e=>AB e fun h' e=>AB e fun cm e=>⟨v,h',cm,_,e.1,congrArg (·+1+(y.length+1)) k.ix,e.2⟩
end
section
variable {ns:List Int}{d:Nat}
structure Gz (K:Sc→List O→List O→Prop):Prop where
 foot:∀σ Z hs j o,K σ Z hs→j<Z.length→DH o=true→K σ (Z.set j o) (hs.set j o)
 keep:∀σ Z hs,K σ Z hs→∀j,j<Z.length→hs[j]? =Z[j]?
theorem W9 {u:List Nat}:Gz (QF u):=⟨fun σ Z hs j o k hj ho=>⟨k.f.foot hj ho,k.rd,k.ix,k.cl,k.ask,k.dn,k.dt⟩,fun σ Z hs k=>k.f.kp⟩
theorem PK {i:Nat}{u:List Nat}:Gz (QE i u):=⟨fun σ Z hs j o k hj ho=>⟨k.f.elim fun a f=>f.elim fun b f=>⟨a,b,f.foot hj ho⟩,k.rd,k.ix,k.ask,k.dn,k.dt⟩,fun σ Z hs k=>k.f.elim fun a f=>f.elim fun b f=>f.kp⟩
theorem PJ {i:Nat}{u:List Nat}:Gz (QQ i u):=⟨fun σ Z hs j o k hj ho=>⟨k.f.foot hj ho,k.rd,k.ix,k.ask,k.dn,k.dt⟩,fun σ Z hs k=>k.f.kp⟩
theorem PL {i:Nat}{u:List Nat}:Gz (QA i u):=⟨fun σ Z hs j o k hj ho=>⟨k.f.foot hj ho,k.rd,k.ix,k.dn,k.dt⟩,fun σ Z hs k=>k.f.kp⟩
theorem WA:Gz QD:=⟨fun σ Z hs j o k hj ho=>k.elim fun a k=>k.elim fun b f=>⟨a,b,f.foot hj⟩,fun σ Z hs k=>k.elim fun a k=>k.elim fun b f=>f.kp⟩
theorem U9:Gz YI:=⟨fun σ Z hs j o k hj ho=>k.elim fun b f=>⟨b,f.foot hj⟩,fun σ Z hs k=>k.elim fun b f=>f.kp⟩
theorem UA:Gz YJ:=⟨fun σ Z hs j o k hj ho=>GE.foot k hj,fun σ Z hs k=>GE.kp k⟩
theorem Gz.or {K K':Sc→List O→List O→Prop}(a:Gz K)(b:Gz K'):Gz fun σ Z hs=>K σ Z hs∨K' σ Z hs:=⟨fun σ Z hs j o k hj ho=>k.imp (fun k=>a.foot σ Z hs j o k hj ho) fun k=>b.foot σ Z hs j o k hj ho,fun σ Z hs k=>k.elim (a.keep σ Z hs) (b.keep σ Z hs)⟩
theorem FJ.by {t:V}{L:List V}{e:Option Nat}{K K':Sc→List O→List O→Prop}(b:Gz K')(s:∀σ Z hs,K σ Z hs→∃v σ' hs',ED ns v t∧F6 v=true∧K' σ' Z hs'∧AK (S ns) (d+11) 15 [.obj 0] [] (scO σ::hs) v (scO σ'::hs'))(w:FJ ns d L e K'):FJ ns d (t::L) e K:=.tok b.foot b.keep s w
noncomputable def txt:List (List Nat×List Nat)→List Nat
 |[]=>[0]
 |p::L=>45::32::39::(p.1++39::(p.2++txt L))
noncomputable def body (L:List (List Nat×List Nat)):List Nat:=(txt L).tail
theorem O7 (y x:List Nat)(L:List (List Nat×List Nat)):body ((y,x)::L)=32::39::(y++39::(x++txt L)):=rfl
structure I9 (x:List Nat):Prop where
 gap:∀c u,c=45∨c=0→Ey true x (c::u)
 ends:∀c u,c=45∨c=0→QU x (c::u)
 head:∀r,∃c u,x++r=c::u∧c≠65279
inductive OK:Nat→List (List Nat×List Nat)→List V→Option Nat→Prop
 |bad {i:Nat} {y x y' r:List Nat} {L:List (List Nat×List Nat)}:y++39::(x++txt L)=y'++r→Gr y' r→OK i ((y,x)::L) [] (some (i+1+(y'.length+1)))
 |last {i:Nat} {y x t:List Nat}:I8 y t (x++[0])→OK i [(y,x)] [E7 t (i+1) (i+1+(y.length+2)),wordT "sequence end",wordT "stream end"] none
 |more {i:Nat} {y x t:List Nat} {q:List Nat×List Nat} {L:List (List Nat×List Nat)} {ds:List V} {e:Option Nat}:I8 y t (x++txt (q::L))→OK (i+1+(y.length+2)+x.length+1) (q::L) ds e→
   OK i ((y,x)::q::L) (E7 t (i+1) (i+1+(y.length+2))::wordT "entry"::ds) e
theorem SX {i:Nat}{L:List (List Nat×List Nat)}{ds:List V}{e:Option Nat}(r:OK i L ds e):(∀q∈L,I9 q.2)→FJ ns d ds e (QQ i (body L)):=by
 induction r with
 |@bad i y x y' r L e1 hb=>
  intro hT
  refine .err fun σ Z hs k=>?_
  rw[O7,e1] at k
  exact So k hb
 |@last i y x t hx=>
  intro hT
  have T:=hT _ (.head _)
  refine AB (T.head [0]) fun c0 z=>AB z fun u0 e0=>?_
  rw[O7]
  refine .by (PL.or WA) (fun σ Z hs k=>ND k hx (T.gap _ _ (.inr rfl)) e0.1 e0.2) ?_
  refine .by U9 (fun σ Z hs k=>Qq k (T.gap _ _ (.inr rfl)) e0.1 e0.2) ?_
  refine .by UA (fun σ Z hs k=>Sn k) ?_
  exact .stop fun σ Z hs k=>Qo k
 |@more i y x t q L ds e hx _ ih=>
  intro hT
  have T:=hT _ (.head _)
  obtain⟨y2,x2⟩:=q
  refine AB (T.head (txt ((y2,x2)::L))) fun c0 z=>AB z fun u0 e0=>?_
  rw[O7]
  refine .by (PL.or PK) (fun σ Z hs k=>NE k hx (T.gap _ _ (.inl rfl)) (T.ends _ _ (.inl rfl)) e0.1 e0.2) ?_
  refine .by PJ (fun σ Z hs k=>Qp k (T.gap _ _ (.inl rfl)) (T.ends _ _ (.inl rfl)) e0.1 e0.2) ?_
  exact ih fun q hq=>hT q (.tail _ hq)
theorem Zm {q:List Nat×List Nat}{L:List (List Nat×List Nat)}{ds:List V}{e:Option Nat}(r:OK 1 (q::L) ds e)(hT:∀p∈q::L,I9 p.2):FJ ns d (wordT "stream"::wordT "sequence"::wordT "entry"::ds) e (QS (txt (q::L))):=by
 obtain⟨y,x⟩:=q
 refine .by W9 (fun σ Z hs k=>PX k) ?_
 refine .by PK (fun σ Z hs k=>PY k) ?_
 refine .by PJ (fun σ Z hs k=>Km k) ?_
 exact SX r hT
end
inductive H4 where
 |ch (c:Nat) (fast:Bool)
 |br (l:List Nat)
noncomputable abbrev OI:List Nat:=[32,9,13,10,133,8232,8233]
inductive Hk:List Nat→Prop
 |dash {c:Nat} {r:List Nat}:c∈OI→Hk (45::45::45::c::r)
 |dots {c:Nat} {r:List Nat}:c∈OI→Hk (46::46::46::c::r)
inductive Pz:Bool→List Nat→List H4→List Nat→Bool→List Nat→Prop
 |doc {u:List Nat}:Hk u→Pz true u [] [] false u
 |eot {h:Bool}:Pz h [] [] [] true []
 |brk {h cl:Bool} {b l u x r:List Nat} {its:List H4}:Dr b l u→Pz true u its x cl r→Pz h (b++u) (.br l::its) (b++x) cl r
 |sign {h cl:Bool} {c:Nat} {u x r:List Nat} {its:List H4}:c≠39→c∉BRK→(h=true→¬Hk (c::u))→Pz false u its x cl r→Pz h (c::u) (.ch c (decide (c∉[32,9]))::its) (c::x) cl r
 |apos {h cl:Bool} {u x r:List Nat} {its:List H4}:Pz false u its x cl r→Pz h (39::39::u) (.ch 39 true::its) (39::39::x) cl r
inductive bO where
 |ns
 |sp (ws:List Nat)
 |br (l t:List Nat)
noncomputable def FZ (l t:List Nat):List Nat:=if l=[] then t else EZ l t
noncomputable def Bf:bO→List H4→List Nat
 | .ns,[]=>[]
 | .sp ws,[]=>ws
 | .br l t,[]=>FZ l t
 | .ns,.ch c true::r=>c::Bf .ns r
 | .ns,.ch c false::r=>Bf (.sp [c]) r
 | .ns,.br l::r=>Bf (.br l []) r
 | .sp ws,.ch c true::r=>ws++c::Bf .ns r
 | .sp ws,.ch c false::r=>Bf (.sp (ws++[c])) r
 | .sp ws,.br []::r=>ws++Bf (.br [] []) r
 | .sp ws,.br (a::l)::r=>Bf (.br (a::l) []) r
 | .br l t,.ch c true::r=>FZ l t++c::Bf .ns r
 | .br l t,.ch c false::r=>Bf (.br l t) r
 | .br l t,.br []::r=>FZ l t++Bf (.br [] []) r
 | .br l t,.br (a::l')::r=>Bf (.br l (t++(a::l'))) r
theorem Pz.split {h cl:Bool}{u x r:List Nat}{its:List H4}(p:Pz h u its x cl r):u=x++r:=by
 induction p with
 |doc=>rfl
 |eot=>rfl
 |brk _ _ ih=>rw[ih,AC]
 |sign _ _ _ _ ih=>rw[ih];rfl
 |apos _ ih=>rw[ih];rfl
theorem Pz.whole {h cl:Bool}{u x r:List Nat}{its:List H4}(p:Pz h u its x cl r):cl=true→r=[]:=by
 induction p with
 |doc=>exact fun e=>(AI e).elim
 |eot=>exact fun zz=>rfl
 |brk _ _ ih=>exact ih
 |sign _ _ _ _ ih=>exact ih
 |apos _ ih=>exact ih
theorem Er:I0 []:=fun zz h=>(Ap h).elim
theorem JV:D5 []:=fun zz h=>(Ap h).elim
theorem HF {c:Nat}{run:List Nat}(hc:c∉G5)(h:I0 run):I0 (c::run):=fun y hy=>(AU.mp hy).elim (fun e=>e▸hc) (h y)
theorem Iq {c:Nat}{ws:List Nat}(hc:c∈[32,9])(h:D5 ws):D5 (ws++[c]):=fun y hy=>(BK.mp hy).elim (h y) fun e=>by rw[AY.mp e];exact hc
theorem Dz.cons {c:Nat}{x t r:List Nat}(hc:c∉G5)(h:Dz x t r):Dz (c::x) (c::t) r:=by
 cases h with
 |stop hr h1 h2 h3=>exact .stop (HF hc hr) h1 h2 h3
 |quote hr h1=>exact .quote (HF hc hr) h1
 |apos hr h=>exact .apos (HF hc hr) h
 |oth hr h1 h=>exact .oth (HF hc hr) h1 h
theorem Oz {c:Nat}{r:List Nat}(h:c≠45∧c≠46):EH (c::r):=.no (fun e=>h.1 (AZ e).1) fun e=>h.2 (AZ e).1
theorem OZ {c:Nat}(h:c∈M7)(h0:c≠0):c∈OI:=(AU.mp h).resolve_left h0
theorem UR {c:Nat}(h:c∈OI):c∈M7:=.tail _ h
theorem Q5 {ws r:List Nat}(hw:D5 ws)(h:ws≠[]∨EH r):EH (ws++r):=by
 rcases ws with _|⟨w,ws⟩
 ·exact h.resolve_left fun z=>z rfl
 ·exact Oz ⟨fun e=>absurd (e▸hw w (.head _)) (by decide),fun e=>absurd (e▸hw w (.head _)) (by decide)⟩
section
variable {y0:Nat}{R:List Nat}
theorem ZJ {u:List Nat}{a b c:Nat}(q:(u++39::y0::R).take 3=[a,b,c])(ha:a≠39)(hb:b≠39)(hc:c≠39):∃r,u=a::b::c::r:=by
 rcases u with _|⟨x,_|⟨y,_|⟨z,u⟩⟩⟩
 ·exact(ha (AZ q).1.symm).elim
 ·exact(hb (AZ (AZ q).2).1.symm).elim
 ·exact(hc (AZ (AZ (AZ q).2).2).1.symm).elim
 ·exact⟨u,congrArg (·++u) (q:[x,y,z]=_)⟩
theorem XL {u:List Nat}(h:¬Hk u)(h0:0∉u):EH (u++39::y0::R):=by
 by_cases q1:(u++39::y0::R).take 3=[45,45,45]
 ·refine AB (ZJ q1 (by decide) (by decide) (by decide)) fun r e=>?_
  subst e
  rcases r with _|⟨e,r⟩
  ·exact .dash (c:=39) (r:=y0::R) (by decide)
  ·exact .dash (c:=e) (r:=r++39::y0::R) fun z=>h (.dash (OZ z fun e0=>h0 (by rw[←e0];simp)))
 ·by_cases q2:(u++39::y0::R).take 3=[46,46,46]
  ·refine AB (ZJ q2 (by decide) (by decide) (by decide)) fun r e=>?_
   subst e
   rcases r with _|⟨e,r⟩
   ·exact .dots (c:=39) (r:=y0::R) (by decide)
   ·exact .dots (c:=e) (r:=r++39::y0::R) fun z=>h (.dots (OZ z fun e0=>h0 (by rw[←e0];simp)))
  ·exact .no q1 q2
theorem Xe {u:List Nat}(h:Hk u):VD (u++39::y0::R):=by
 cases h with
 |@dash c r hc=>exact .dash (c:=c) (r:=r++39::y0::R) (UR hc)
 |@dots c r hc=>exact .dots (c:=c) (r:=r++39::y0::R) (UR hc)
theorem Dr.z {b l u:List Nat}(h:Dr b l u):Dr b l (u++39::y0::R):=by
 cases h with
 |crlf=>exact .crlf
 |@one c r hc hn=>
  refine .one hc fun r' e=>?_
  rcases u with _|⟨a,u⟩
  ·exact absurd (AZ (AZ e).2).1 (by decide)
  ·exact hn u (by rw[(AZ e).1,(AZ (AZ e).2).1])
 |wide hc=>exact .wide hc
end
inductive J3 (ws:List Nat):List Nat→List Nat→Prop
 |doc {x r:List Nat}:IA (ws++x) r→J3 ws x r
 |tl {y t0 x1 t1 x2 r:List Nat}:G6 (ws++y) t0 (x1++(x2++r))→Dz x1 t1 (x2++r)→Hy x2 r→J3 ws (y++(x1++x2)) r
section
variable (y0:Nat)(R:List Nat)
noncomputable abbrev Qt:List Nat:=39::y0::R
noncomputable def JY (cl:Bool)(x r v:List Nat):Prop:=match cl with
 |true=>∃x1 t1 x2 t2,x=x1++x2∧Dz x1 t1 (x2++Qt y0 R)∧Tl x2 t2 (Qt y0 R)∧t1++t2=v
 |false=>Gr x (r++Qt y0 R)
noncomputable def PP (cl:Bool)(ws x r v:List Nat):Prop:=match cl with
 |true=>Tl (ws++x) v (Qt y0 R)
 |false=>Hy (ws++x) (r++Qt y0 R)
noncomputable def OL (cl:Bool)(ws x r:List Nat)(its:List H4):Prop:=match cl with
 |true=>∃y t0 x1 t1 x2 t2,x=y++(x1++x2)∧G6 (ws++y) t0 (x1++(x2++Qt y0 R))∧Dz x1 t1 (x2++Qt y0 R)∧Tl x2 t2 (Qt y0 R)∧∀l t,Bf (.br l t) its=FZ l (t++t0)++(t1++t2)
 |false=>J3 ws x (r++Qt y0 R)
end
section
variable {y0:Nat}{R:List Nat}{cl:Bool}{x r v ws b l u:List Nat}{its:List H4}
theorem Dr.to {v:List Nat}(h:Dr b l u)(e:u++Qt y0 R=v):Dr b l v:=e▸h.z
theorem RJ {c:Nat}(hc:c∉G5)(h:JY y0 R cl x r v):JY y0 R cl (c::x) r (c::v):=by
 rcases cl with _|_
 ·obtain @⟨x1,t1,x2,_,h1,h2⟩:=(show Gr x (r++Qt y0 R) from h)
  exact Gr.later (x1:=c::x1) (h1.cons hc) h2
 ·exact CN h fun x1 t1 x2 t2 e h1 h2 e2=>⟨c::x1,c::t1,x2,t2,by rw[e];rfl,h1.cons hc,h2,by rw[←e2];rfl⟩
theorem TK (h:JY y0 R cl x r v):JY y0 R cl (39::39::x) r (39::v):=by
 rcases cl with _|_
 ·obtain @⟨x1,t1,x2,_,h1,h2⟩:=(show Gr x (r++Qt y0 R) from h)
  exact Gr.later (x1:=39::39::x1) (.apos (run:=[]) Er h1) h2
 ·exact CN h fun x1 t1 x2 t2 e h1 h2 e2=>⟨39::39::x1,39::t1,x2,t2,by rw[e];rfl,.apos (run:=[]) Er h1,h2,by rw[←e2];rfl⟩
theorem Vh {q:Nat}(hq:q∈[34,92])(h:JY y0 R cl x r v):JY y0 R cl (q::x) r (q::v):=by
 rcases cl with _|_
 ·obtain @⟨x1,t1,x2,_,h1,h2⟩:=(show Gr x (r++Qt y0 R) from h)
  exact Gr.later (x1:=q::x1) (.oth (run:=[]) Er hq h1) h2
 ·exact CN h fun x1 t1 x2 t2 e h1 h2 e2=>⟨q::x1,q::t1,x2,t2,by rw[e];rfl,.oth (run:=[]) Er hq h1,h2,by rw[←e2];rfl⟩
theorem Wg {q:Nat}(hw0:ws≠[])(hw:D5 ws)(hr:cl=true→r=[])(e0:x++(r++Qt y0 R)=q::u)(h1:q∉[32,9])(h2:q≠0)(h3:q∉BRK)(h:JY y0 R cl x r v):PP y0 R cl ws x r (ws++v):=by
 rcases cl with _|_
 ·obtain @⟨x1,t1,x2,_,hn,hx⟩:=(show Gr x (r++Qt y0 R) from h)
  exact Hy.blank hw0 hw (by rw[←AC];exact e0) h1 h2 h3 hn hx
 ·
  refine CN h fun x1 t1 x2 t2 e hn ht e2=>?_
  show Tl (ws++x) (ws++v) (Qt y0 R)
  rw[e,←e2]
  exact .blank hw0 hw (c:=q) (u:=u) (by rw[←e0,hr rfl,e,AC];rfl) h1 h2 h3 hn ht
theorem Wl {q:Nat}(hw:D5 ws)(hr:cl=true→r=[])(e0:x++(r++Qt y0 R)=q::u)(h1:q∉[32,9])(h3:q∉BRK)(hd:EH (ws++q::u))(hf:∀l t,Bf (.br l t) its=FZ l t++v)(h:JY y0 R cl x r v):OL y0 R cl ws x r its:=by
 rcases cl with _|_
 ·obtain @⟨x1,t1,x2,_,hn,hx⟩:=(show Gr x (r++Qt y0 R) from h)
  exact J3.tl (y:=[]) (t0:=[]) (by rw[AR,←AC x1,e0];exact .stop hw h1 h3 hd) hn hx
 ·
  refine CN h fun x1 t1 x2 t2 e hn ht e2=>?_
  have e3:x1++(x2++Qt y0 R)=q::u:=by rw[←e0,hr rfl,e,AC];rfl
  exact⟨[],[],x1,t1,x2,t2,e,by rw[AR,e3];exact .stop hw h1 h3 hd,hn,ht,fun l t=>by rw[hf,AR,e2]⟩
theorem Vg (hw:D5 ws)(hb:Dr b l u)(hl:l≠[])(hu:u=x++r)(hr:cl=true→r=[])(h:OL y0 R cl [] x r its):PP y0 R cl ws (b++x) r (Bf (.br l []) its):=by
 rcases cl with _|_
 ·
  rcases(show J3 [] x (r++Qt y0 R) from h) with hx|@⟨y,t0,x1,t1,x2,_,hy,h1,hx⟩
  ·exact Hy.doc hw (hb.to (y0:=y0) (R:=R) (by rw[hu,AC])) hx
  ·
   have:=Hy.fold hw (hb.to (y0:=y0) (R:=R) (v:=y++(x1++(x2++(r++Qt y0 R)))) (by rw[hu];simp)) hy h1 hx
   rw[show(ws++(b++y))++(x1++x2)=ws++(b++(y++(x1++x2))) from by simp] at this
   exact this
 ·
  refine Nu h fun y t0 x1 t1 x2 t2 e hy h1 h2 hf=>?_
  show Tl (ws++(b++x)) _ (Qt y0 R)
  rw[hf,show FZ l ([]++t0)=EZ l t0 from if_neg hl,e,←AC b,←AC ws]
  exact .fold hw (hb.to (y0:=y0) (R:=R) (by rw[hu,hr rfl,e];simp)) hy h1 h2
theorem RI {q:Nat}(hr:cl=true→r=[])(e0:x++(r++Qt y0 R)=q::u)(h1:q∈G5)(h2:q≠39)(h3:q∉[34,92])(h:PP y0 R cl [] x r v):JY y0 R cl x r v:=by
 rcases cl with _|_
 ·exact Gr.later (x1:=[]) (t1:=[]) (by rw[show x++(r++Qt y0 R)=q::u from e0];exact .stop Er h1 h2 h3) h
 ·exact⟨[],[],x,v,rfl,by rw[show x++Qt y0 R=q::u from by rw[←e0,hr rfl];rfl];exact .stop Er h1 h2 h3,h,rfl⟩
theorem Vi (hw:D5 ws)(hb:Dr b l u)(hl:l≠[])(hu:u=x++r)(hr:cl=true→r=[])(hd:EH (ws++(b++(u++Qt y0 R))))(h:OL y0 R cl [] x r its):OL y0 R cl ws (b++x) r (.br l::its):=by
 rcases cl with _|_
 ·
  rcases(show J3 [] x (r++Qt y0 R) from h) with hx|@⟨y,t0,x1,t1,x2,_,hy,h1,hx⟩
  ·refine J3.doc ?_
   exact .more hw (hb.to (y0:=y0) (R:=R) (v:=x++(r++Qt y0 R)) (by rw[hu];simp)) (by rw[←AC x,←hu];exact hd) hx
  ·
   have:=J3.tl (y:=b++y) (t0:=l++t0) (.more hw (hb.to (y0:=y0) (R:=R) (v:=y++(x1++(x2++(r++Qt y0 R)))) (by rw[hu];simp)) (by rw[show y++(x1++(x2++(r++Qt y0 R)))=u++Qt y0 R from by rw[hu];simp];exact hd) hy) h1 hx
   rw[AC] at this
   exact this
 ·
  refine Nu h fun y t0 x1 t1 x2 t2 e hy h1 h2 hf=>?_
  have e3:u++Qt y0 R=y++(x1++(x2++Qt y0 R)):=by rw[hu,hr rfl,e];simp
  refine⟨b++y,l++t0,x1,t1,x2,t2,by rw[e,AC],?_,h1,h2,fun l0 t=>?_⟩
  ·rw[show[]++y=y from rfl] at hy
   rw[show ws++(b++y)=ws++(b++y) from rfl]
   exact .more hw (hb.to (y0:=y0) (R:=R) e3) (by rw[←e3];exact hd) hy
  ·rcases l with _|⟨a,l⟩
   ·exact(hl rfl).elim
   ·
    show Bf (.br l0 (t++(a::l))) its=_
    rw[hf,AC]
theorem MF {c:Nat}(h:PP y0 R cl (ws++[c]) x r v):PP y0 R cl ws (c::x) r v:=by
 rcases cl with _|_
 ·have h:Hy ((ws++[c])++x) (r++Qt y0 R):=h;rw[AC] at h;exact h
 ·have h:Tl ((ws++[c])++x) v (Qt y0 R):=h;rw[AC] at h;exact h
theorem RM {c:Nat}(h:OL y0 R cl (ws++[c]) x r its):OL y0 R cl ws (c::x) r (.ch c false::its):=by
 rcases cl with _|_
 ·
  rcases(show J3 (ws++[c]) x (r++Qt y0 R) from h) with hx|@⟨y,t0,x1,t1,x2,_,hy,h1,hx⟩
  ·exact J3.doc (by rw[AC] at hx;exact hx)
  ·exact J3.tl (y:=c::y) (by rw[AC] at hy;exact hy) h1 hx
 ·exact Nu h fun y t0 x1 t1 x2 t2 e hy h1 h2 hf=>⟨c::y,t0,x1,t1,x2,t2,by rw[e];rfl,by rw[AC] at hy;exact hy,h1,h2,hf⟩
end
section
variable {y0:Nat}{R:List Nat}
structure V7 (y0:Nat)(R:List Nat)(h cl:Bool)(u x r:List Nat)(its:List H4):Prop where
 ns:(h=true→¬Hk u)→JY y0 R cl x r (Bf .ns its)
 sp:h=false→∀ws,ws≠[]→D5 ws→PP y0 R cl ws x r (Bf (.sp ws) its)
 br:∀ws,D5 ws→((ws=[]∧h=true)∨(ws≠[]∧h=false))→OL y0 R cl ws x r its
theorem bX {c:Nat}{u:List Nat}(h1:c≠45)(h2:c≠46):¬Hk (c::u):=fun h=>by
 rcases h with _|_<;>first|exact h1 rfl|exact h2 rfl
theorem N8 {h cl:Bool}{u x r w:List Nat}{its:List H4}{q:Nat}{v:List Nat}(hr:cl=true→r=[])(e0:x++(r++Qt y0 R)=q::w)(h1:q∉[32,9])(h2:q≠0)(h3:q∉BRK)(hd:h=true→EH (q::w))(hn:JY y0 R cl x r v)
  (f1:Bf .ns its=v)(f2:∀ws,Bf (.sp ws) its=ws++v)(f3:∀l t,Bf (.br l t) its=FZ l t++v):V7 y0 R h cl u x r its:=
 ⟨fun hk=>by rw[f1];exact hn,fun hh ws hw0 hw=>by rw[f2];exact Wg hw0 hw hr e0 h1 h2 h3 hn,
  fun ws hw hk=>Wl hw hr e0 h1 h3 (Q5 hw (hk.elim (fun z=>.inr (hd z.2)) fun z=>.inl z.1)) f3 hn⟩
theorem UP {h cl:Bool}{u x r:List Nat}{its:List H4}(hy0:y0≠39)(p:Pz h u its x cl r):0∉u→V7 y0 R h cl u x r its:=by
 induction p with
 |@doc u hd=>
  intro hc
  refine⟨fun hk=>(hk rfl hd).elim,fun hh=>(AI hh.symm).elim,fun ws hw hk=>?_⟩
  have e:ws=[]:=hk.elim (·.1) fun z=>(AI z.2.symm).elim
  subst e
  exact J3.doc (.here (Xe hd))
 |@eot h=>
  intro hc
  have hq:Dz [] [] (Qt y0 R):=.quote Er hy0
  refine⟨fun zz=>⟨[],[],[],[],rfl,hq,.quote,rfl⟩,fun hh ws hw0 hw=>?_,fun ws hw hk=>⟨[],[],[],[],[],[],rfl,?_,hq,.quote,fun l t=>by rw[AR,AR,AR];rfl⟩⟩
  ·have t:Tl (ws++([]++[])) (ws++([]++[])) (Qt y0 R):=Tl.blank (ws:=ws) (x1:=[]) (t1:=[]) (x2:=[]) (t2:=[]) hw0 hw (c:=39) (u:=y0::R) rfl (by decide) (by decide) (by decide) hq .quote
   rw[show ws++([]++[])=ws from AR ws] at t
   show Tl (ws++[]) ws (Qt y0 R)
   rw[AR]
   exact t
  ·rw[AR];exact .stop hw (by decide) (by decide) (Q5 hw (.inr (Oz (by decide))))
 |@brk h cl b l u x r its hb p ih=>
  intro hc
  have hr:=p.whole
  have T:=ih (fun hm=>hc (Ad _ hm))
  have hu:=p.split
  refine hb.head fun q b' eb hq hl=>?_
  have B:=T.br [] JV (.inl ⟨rfl,rfl⟩)
  have S:=fun ws hw=>Vg (ws:=ws) hw hb hl hu hr B
  obtain⟨a,l',el⟩:∃a l',l=a::l':=by rcases l with _|⟨a,l'⟩;exact(hl rfl).elim;exact⟨a,l',rfl⟩
  have q39:q≠39:=fun e=>absurd (e▸hq) (by decide)
  have q92:q∉[34,92]:=fun e=>absurd hq ((by decide:∀q∈[34,92],q∉BRK) q e)
  have q4:q≠45∧q≠46:=⟨fun e=>absurd (e▸hq) (by decide),fun e=>absurd (e▸hq) (by decide)⟩
  refine⟨fun hk=>?_,fun hh ws hw0 hw=>?_,fun ws hw hk=>?_⟩
  ·exact RI hr (q:=q) (u:=(b'++x)++(r++Qt y0 R)) (by rw[eb];rfl) ((show ∀z∈BRK,z∈G5 by decide) q hq) q39 q92 (S [] JV)
  ·have:=S ws hw
   subst el
   exact this
  ·refine Vi hw hb hl hu hr (Q5 hw (.inr ?_)) B
   rw[eb];exact Oz q4
 |@sign h cl c u x r its hc1 hc2 hdoc p ih=>
  intro hc
  have hr:=p.whole
  have T:=ih (fun hm=>hc (.tail _ hm))
  have hu:=p.split
  have c0:c≠0:=fun e=>hc (e▸ .head _)
  by_cases hb:c∈[32,9]
  ·rw[decide_eq_false (fun z=>z hb)]
   have c92:c∉[34,92]:=fun e=>absurd hb ((by decide:∀q∈[34,92],q∉[32,9]) c e)
   have hw1:D5 [c]:=Iq (ws:=[]) hb JV
   refine⟨fun hk=>?_,fun hh ws hw0 hw=>?_,fun ws hw hk=>?_⟩
   ·exact RI hr (q:=c) (u:=x++(r++Qt y0 R)) rfl ((show ∀z∈[32,9],z∈G5 by decide) c hb) hc1 c92 (MF (ws:=[]) (T.sp rfl [c] (by simp) hw1))
   ·exact MF (T.sp rfl (ws++[c]) (by simp) (Iq hb hw))
   ·exact RM (T.br (ws++[c]) (Iq hb hw) (.inr ⟨by simp,rfl⟩))
  ·rw[decide_eq_true hb]
   have N:=T.ns (fun z=>(AI z).elim)
   refine N8 (v:=c::Bf .ns its) hr (q:=c) (w:=x++(r++Qt y0 R)) rfl hb c0 hc2 (fun hk=>?_) ?_ rfl (fun zz=>rfl) (fun zz zz=>rfl)
   ·have:=XL (y0:=y0) (R:=R) (hdoc hk) hc
    rw[hu] at this
    simpa using this
   ·by_cases q:c∈[34,92]
    ·exact Vh q N
    ·exact RJ (fun z=>by
      simp only[AU,Ap,or_false,not_or] at z hb q hc2
      lia) N
 |@apos h cl u x r its p ih=>
  intro hc
  have hr:=p.whole
  have T:=ih (fun hm=>hc (.tail _ (.tail _ hm)))
  have N:=TK (T.ns fun z=>(AI z).elim)
  exact N8 hr (q:=39) (w:=39::(x++(r++Qt y0 R))) rfl (by decide) (by decide) (by decide) (fun zz=>Oz (by decide)) N rfl (fun zz=>rfl) (fun zz zz=>rfl)
theorem Vj {u x r:List Nat}{its:List H4}(hy0:y0≠39)(p:Pz false u its x true r)(h0:0∉u):I8 u (Bf .ns its) (y0::R):=by
 have e:=p.split
 have hr:=p.whole rfl
 subst hr
 rw[AR] at e
 subst e
 refine CN ((UP (R:=R) hy0 p h0).ns fun z=>(AI z).elim) fun x1 t1 x2 t2 e h1 h2 e2=>?_
 rw[e,←e2]
 exact .mk h1 h2
theorem Wm {u x r:List Nat}{its:List H4}(hy0:y0≠39)(p:Pz false u its x false r)(h0:0∉u):Gr x (r++Qt y0 R):=(UP hy0 p h0).ns fun z=>(AI z).elim
end
noncomputable abbrev D9:=List (Nat×Bool)
noncomputable def Ar:List H4→D9×List (List Nat×D9)
 |[]=>([],[])
 | .ch c f::r=>((c,f)::(Ar r).1,(Ar r).2)
 | .br l::r=>([],(l,(Ar r).1)::(Ar r).2)
noncomputable def L4 (r:D9):D9:=r.dropWhile fun p=> !p.2
noncomputable def Ez (r:D9):D9:=(r.reverse.dropWhile fun p=> !p.2).reverse
noncomputable def JG:List (List Nat×D9)→Bool
 |[]=>false
 |p::_=> !p.1.isEmpty
noncomputable def Fk (L:List (List Nat×D9))(r:D9):List Nat:=(bif JG L then Ez r else r).map (·.1)
noncomputable def D7 (L:List (List Nat×D9))(r:D9):List Nat:=Fk L (L4 r)
noncomputable def Eg (p:Bool)(l:List Nat)(L:List (List Nat×D9))(b:List Nat):List Nat:=if l=[10]∧p=true then(if JG L=true∧b=[] then[] else[32]) else l
noncomputable def Gs:Bool→List (List Nat×D9)→List Nat
 |_,[]=>[]
 |p,(l,r)::L=>Eg p l L (D7 L r)++(D7 L r++Gs (!(D7 L r).isEmpty) L)
theorem Qd (p:Bool)(x:List Nat×D9)(L:List (List Nat×D9)):Gs p (x::L)=Eg p x.1 L (D7 L x.2)++(D7 L x.2++Gs (!(D7 L x.2).isEmpty) L):=rfl
theorem LH:∀ws:List Nat,(ws.map fun c=>(c,false)).dropWhile (fun p=> !p.2)=[]
 |[]=>rfl
 |_::ws=>LH ws
theorem OS (ws:List Nat):Ez (ws.map fun c=>(c,false))=[]:=by
 unfold Ez
 rw[←List.map_reverse,LH]
 rfl
theorem JK (ws:List Nat):(ws.map fun c=>(c,false)).map (·.1)=ws:=by
 rw[DV]
 exact(Ds fun zz zz=>rfl).trans (List.map_id ws)
theorem Ks (a:D9)(c:Nat)(r:D9):Ez (a++(c,true)::r)=a++(c,true)::Ez r:=by
 unfold Ez
 rw[List.reverse_append,List.reverse_cons,AC,List.dropWhile_append]
 split
 ·next h=>
  rw[CZ] at h
  rw[h]
  simp
 ·next h=>simp
theorem KI (L:List (List Nat×D9))(a:D9)(c:Nat)(r:D9):Fk L (a++(c,true)::r)=a.map (·.1)++c::Fk L r:=by
 unfold Fk
 rcases JG L with _|_
 ·simp
 ·simp[Ks]
theorem Yn (c:Nat)(r:D9):L4 ((c,true)::r)=(c,true)::r:=rfl
theorem YN (c:Nat)(r:D9):L4 ((c,false)::r)=L4 r:=rfl
theorem Lf (L:List (List Nat×D9)):Fk L []=[]:=by
 unfold Fk
 cases JG L<;>rfl
theorem Pn {l t:List Nat}(h:l≠[10]∨t≠[]):FZ l t=if l=[10] then t else l++t:=by
 unfold FZ EZ
 by_cases h1:l=[]
 ·subst h1;simp
 ·rw[if_neg h1]
  by_cases h2:l=[10]
  ·rw[if_pos h2,if_pos h2,if_neg (h.resolve_left fun z=>z h2)]
  ·rw[if_neg h2,if_neg h2]
theorem UZ:FZ [10] []=[32]:=rfl
theorem MU (L:List (List Nat×D9))(c:Nat)(r:D9):D7 L ((c,true)::r)=c::Fk L r:=KI L [] c r
theorem Ry (its:List H4):Bf .ns its=Fk (Ar its).2 (Ar its).1++Gs true (Ar its).2∧
  (∀ws,Bf (.sp ws) its=Fk (Ar its).2 (ws.map (fun c=>(c,false))++(Ar its).1)++Gs true (Ar its).2)∧
  (∀l t,(l≠[10]∨t≠[])→Bf (.br l t) its=(if l=[10] then t else l++t)++(D7 (Ar its).2 (Ar its).1++Gs (!(D7 (Ar its).2 (Ar its).1).isEmpty) (Ar its).2))∧
  Bf (.br [10] []) its=(if JG (Ar its).2=true∧D7 (Ar its).2 (Ar its).1=[] then[] else[32])++(D7 (Ar its).2 (Ar its).1++Gs (!(D7 (Ar its).2 (Ar its).1).isEmpty) (Ar its).2):=by
 induction its with
 |nil=>
  refine⟨rfl,fun ws=>?_,fun l t h=>?_,rfl⟩
  ·have:Fk [] (ws.map (fun c=>(c,false))++[])=ws:=by rw[AR];exact JK ws
   show ws=Fk [] (ws.map (fun c=>(c,false))++[])++[]
   rw[this,AR]
  ·show FZ l t=_
   rw[Pn h]
   exact(AR _).symm
 |cons it its ih=>
  obtain⟨i1,i2,i3,i4⟩:=ih
  cases it with
  |ch c f=>
   rcases f with _|_
   ·
    have e:(Ar (.ch c false::its))=((c,false)::(Ar its).1,(Ar its).2):=rfl
    rw[e]
    have eb:D7 (Ar its).2 ((c,false)::(Ar its).1)=D7 (Ar its).2 (Ar its).1:=rfl
    rw[eb]
    refine⟨i2 [c],fun ws=>?_,i3,i4⟩
    show Bf (.sp (ws++[c])) its=_
    rw[i2];first|rfl|(rw[AC];rfl)|(rw[AR];rfl)|(rw[AC,AC];rfl)|simp
   ·
    have e:(Ar (.ch c true::its))=((c,true)::(Ar its).1,(Ar its).2):=rfl
    rw[e]
    refine⟨?_,fun ws=>?_,fun l t h=>?_,?_⟩
    ·show c::Bf .ns its=_
     rw[i1]
     have:=KI (Ar its).2 [] c (Ar its).1
     rw[C7] at this
     rw[this];rfl
    ·show ws++c::Bf .ns its=_
     rw[i1,KI,JK];first|rfl|(rw[AC];rfl)|(rw[AR];rfl)|(rw[AC,AC];rfl)|simp
    ·show FZ l t++c::Bf .ns its=_
     rw[i1,Pn h,MU];first|rfl|(rw[AC];rfl)|(rw[AR];rfl)|(rw[AC,AC];rfl)|simp
    ·show FZ [10] []++c::Bf .ns its=_
     rw[i1,UZ,MU];first|rfl|(rw[AC];rfl)|(rw[AR];rfl)|(rw[AC,AC];rfl)|simp
  |br l2=>
   have e:(Ar (.br l2::its))=([],(l2,(Ar its).1)::(Ar its).2):=rfl
   rw[e]
   have b0:D7 ((l2,(Ar its).1)::(Ar its).2) []=[]:=Lf _
   rw[b0]
   generalize hb:D7 (Ar its).2 (Ar its).1=b at i3 i4
   have hv:∀p,Gs p ((l2,(Ar its).1)::(Ar its).2)=Eg p l2 (Ar its).2 b++(b++Gs (!b.isEmpty) (Ar its).2):=fun p=>by rw[Qd,hb]
   rcases l2 with _|⟨a,l2⟩
   ·
    have B:=i3 [] [] (.inl (by decide))
    have s:∀p,Eg p [] (Ar its).2 b=[]:=fun p=>by unfold Eg;rw[if_neg (fun z=>nomatch z.1)]
    have t:∀r,Fk (([],(Ar its).1)::(Ar its).2) r=r.map (·.1):=fun r=>rfl
    refine⟨?_,fun ws=>?_,fun l t' h=>?_,?_⟩
    ·show Bf (.br [] []) its=_
     rw[B,hv,s,Lf];first|rfl|(rw[AC];rfl)|(rw[AR];rfl)|(rw[AC,AC];rfl)|simp
    ·have tt:Fk (([],(Ar its).1)::(Ar its).2) (ws.map (fun c=>(c,false))++[])=ws:=by rw[AR,t,JK]
     show ws++Bf (.br [] []) its=Fk (([],(Ar its).1)::(Ar its).2) (ws.map (fun c=>(c,false))++[])++_
     rw[tt,B,hv,s];first|rfl|(rw[AC];rfl)|(rw[AR];rfl)|(rw[AC,AC];rfl)|simp
    ·show FZ l t'++Bf (.br [] []) its=_
     rw[B,hv,s,Pn h];first|rfl|(rw[AC];rfl)|(rw[AR];rfl)|(rw[AC,AC];rfl)|simp
    ·show FZ [10] []++Bf (.br [] []) its=_
     rw[B,hv,s,UZ];first|rfl|simp[JG]
   ·
    have ns:Bf (.br (a::l2) []) its=Eg true (a::l2) (Ar its).2 b++(b++Gs (!b.isEmpty) (Ar its).2):=by
     by_cases q:a::l2=[10]
     ·rw[q,i4];unfold Eg;rw[if_pos (c:=([10]:List Nat)=[10]∧true=true) ⟨rfl,rfl⟩]
     ·rw[i3 _ _ (.inl q)];unfold Eg;rw[if_neg q,if_neg (fun z=>q z.1),AR]
    have s:Eg false (a::l2) (Ar its).2 b=a::l2:=by unfold Eg;rw[if_neg (fun z=>nomatch z.2)]
    refine⟨?_,fun ws=>?_,fun l t' h=>?_,?_⟩
    ·show Bf (.br (a::l2) []) its=_
     rw[ns,hv,Lf];first|rfl|(rw[AC];rfl)|(rw[AR];rfl)|(rw[AC,AC];rfl)|simp
    ·show Bf (.br (a::l2) []) its=_
     rw[ns,hv]
     have:Fk ((a::l2,(Ar its).1)::(Ar its).2) (ws.map (fun c=>(c,false))++[])=[]:=by
      rw[AR]
      show(Ez _).map (·.1)=[]
      rw[OS];rfl
     rw[this];first|rfl|(rw[AC];rfl)|(rw[AR];rfl)|(rw[AC,AC];rfl)|simp
    ·show Bf (.br l (t'++(a::l2))) its=_
     rw[i3 _ _ (.inr (by simp)),hv]
     show _=_++([]++(Eg false _ _ _++_))
     rw[s]
     by_cases q:l=[10]
     ·rw[if_pos q,if_pos q];first|rfl|(rw[AC];rfl)|(rw[AR];rfl)|(rw[AC,AC];rfl)|simp
     ·rw[if_neg q,if_neg q];first|rfl|(rw[AC];rfl)|(rw[AR];rfl)|(rw[AC,AC];rfl)|simp
    ·show Bf (.br [10] ([]++(a::l2))) its=_
     rw[i3 _ _ (.inr (by simp)),hv]
     show _=_++([]++(Eg false _ _ _++_))
     have c1:(JG ((a::l2,(Ar its).1)::(Ar its).2)=true∧([]:List Nat)=[]):=⟨rfl,rfl⟩
     rw[s,if_pos rfl,if_pos c1];first|rfl|(rw[AC];rfl)|(rw[AR];rfl)|(rw[AC,AC];rfl)|simp
inductive Rw:List Nat→List Nat→List (List Nat×List Nat×List Nat)→Prop
 |nil:Rw [] [] []
 |sign {c:Nat} {u r:List Nat} {L:List (List Nat×List Nat×List Nat)}:c∉BRK→Rw u r L→Rw (c::u) (c::r) L
 |brk {b l u r:List Nat} {L:List (List Nat×List Nat×List Nat)}:Dr b l u→Rw u r L→Rw (b++u) [] ((b,l,r)::L)
noncomputable def dq:List Nat→Bool
 |[]=>true
 |c::r=>if c=39 then(match r with
  |[]=>false
  |d::r'=>decide (d=39)&&dq r') else dq r
theorem Io (c:Nat)(r:List Nat):dq (c::r)=if c=39 then(match r with
  |[]=>false
  |d::r'=>decide (d=39)&&dq r') else dq r:=by rcases r with _|_<;>rfl
noncomputable def Cd:List Nat→D9
 |[]=>[]
 |c::r=>if c=39 then(match r with
  |[]=>[(39,true)]
  |_::r'=>(39,true)::Cd r') else(c,decide (c∉[32,9]))::Cd r
theorem J6 (c:Nat)(r:List Nat):Cd (c::r)=if c=39 then(match r with
  |[]=>[(39,true)]
  |_::r'=>(39,true)::Cd r') else(c,decide (c∉[32,9]))::Cd r:=by rcases r with _|_<;>rfl
noncomputable def HX (row:List Nat)(more:Bool):Bool:=decide (row.take 3=[45,45,45]∨row.take 3=[46,46,46])&&(decide ((row.drop 3).take 1=[32]∨(row.drop 3).take 1=[9])||(decide (row.length=3)&&more))
noncomputable def DQ:Nat→List (List Nat×List Nat×List Nat)→Option Nat
 |_,[]=>none
 |n,p::L=>bif HX p.2.2 (!L.isEmpty) then some (n+p.1.length) else DQ (n+p.1.length+p.2.2.length) L
theorem W5 {b l u w:List Nat}{c:Nat}(hb:Dr b l u)(e:b++u=c::w)(hc:c∉BRK){G:Prop}:G:=hb.head fun a b' eb ha zz=>by
 subst eb
 exact(hc ((AZ e).1▸ha)).elim
theorem IJ {c:Nat}{w r0:List Nat}{L:List (List Nat×List Nat×List Nat)}(h:Rw (c::w) r0 L)(hc:c∉BRK):∃r,r0=c::r∧Rw w r L:=by
 generalize e:c::w=y at h
 rcases h with _|@⟨c',u,r,L,h1,h2⟩|@⟨b,l,u,r,L,hb,h2⟩
 ·exact(List.cons_ne_nil _ _ e).elim
 ·have e1:=(AZ e).1
  have e2:=(AZ e).2
  subst e1 e2
  exact⟨r,rfl,h2⟩
 ·exact W5 hb e.symm hc
theorem Wd {c:Nat}{w r0:List Nat}{L:List (List Nat×List Nat×List Nat)}(h:Rw (c::w) r0 L)(hc:c∈BRK):r0=[]∧L≠[]:=by
 generalize e:c::w=y at h
 rcases h with _|@⟨c',u,r,L,h1,h2⟩|@⟨b,l,u,r,L,hb,h2⟩
 ·exact(List.cons_ne_nil _ _ e).elim
 ·exact(h1 ((AZ e).1▸hc)).elim
 ·exact⟨rfl,List.cons_ne_nil _ _⟩
theorem az {α:Type}{L:List α}(h:L≠[]):(!L.isEmpty)=true:=by rcases L with _|_;exact(h rfl).elim;rfl
theorem Xf {y r0:List Nat}{L:List (List Nat×List Nat×List Nat)}(h:Rw y r0 L)(hd:Hk y):HX r0 (!L.isEmpty)=true:=by
 have key:∀(a c:Nat) (w:List Nat),(a=45∨a=46)→c∈OI→Rw (a::a::a::c::w) r0 L→HX r0 (!L.isEmpty)=true:=fun a c w ha hc h=>by
  have hb:a∉BRK:=ha.elim (fun e=>e▸by decide) fun e=>e▸by decide
  refine AB (IJ h hb) fun r1 e1=>AB (IJ e1.2 hb) fun r2 e2=>AB (IJ e2.2 hb) fun r3 e3=>?_
  rw[e1.1,e2.1,e3.1]
  have q:decide ((a::a::a::r3).take 3=[45,45,45]∨(a::a::a::r3).take 3=[46,46,46])=true:=decide_eq_true (ha.imp (fun e=>by rw[e];rfl) fun e=>by rw[e];rfl)
  unfold HX
  rw[q,Bool.true_and]
  by_cases hk:c∈BRK
  ·have z:=Wd e3.2 hk
   rw[z.1,az z.2]
   rfl
  ·refine AB (IJ e3.2 hk) fun r4 e4=>?_
   rw[e4.1]
   have:c=32∨c=9:=by
    simp only[AU,Ap,or_false,not_or] at hc hk
    lia
   exact Bool.or_eq_true_iff.mpr (.inl (decide_eq_true (this.imp (fun e=>by rw[e];rfl) fun e=>by rw[e];rfl)))
 rcases hd with @⟨c,w,hc⟩|@⟨c,w,hc⟩
 ·exact key 45 c w (.inl rfl) hc h
 ·exact key 46 c w (.inr rfl) hc h
theorem VK {row:List Nat}{a:Nat}(h:row.take 3=[a,a,a]):row=a::a::a::row.drop 3:=by
 rw[show a::a::a::row.drop 3=[a,a,a]++row.drop 3 from rfl,←h,Fi]
theorem Id {a:Nat}{y r0 r3:List Nat}{L:List (List Nat×List Nat×List Nat)}(h:Rw y (a::r0) L):∃w,y=a::w∧Rw w r0 L:=by
 generalize e:a::r0=z at h
 rcases h with _|@⟨c',u,r,L,h1,h2⟩|@⟨b,l,u,r,L,hb,h2⟩
 ·exact(List.cons_ne_nil _ _ e).elim
 ·have e1:=(AZ e).1
  have e2:=(AZ e).2
  subst e1 e2
  exact⟨u,rfl,h2⟩
 ·exact(List.cons_ne_nil _ _ e).elim
theorem Wc {y:List Nat}{L:List (List Nat×List Nat×List Nat)}(h:Rw y [] L)(hL:L≠[]):∃c w,y=c::w∧c∈BRK:=by
 rcases h with _|@⟨c',u,r,L,h1,h2⟩|@⟨b,l,u,r,L,hb,h2⟩
 ·exact(hL rfl).elim
 ·exact hb.head fun a b' eb ha zz=>⟨a,b'++u,by rw[eb];rfl,ha⟩
theorem Wx {y r0:List Nat}{L:List (List Nat×List Nat×List Nat)}(h:Rw y r0 L)(hm:HX r0 (!L.isEmpty)=true):Hk y:=by
 unfold HX at hm
 have hm:=AJ.mp hm
 have key:∀a:Nat,r0.take 3=[a,a,a]→∃c w,y=a::a::a::c::w∧c∈OI:=fun a e=>by
  rw[VK e] at h
  refine AB (Id (r3:=[]) h) fun w1 e1=>AB (Id (r3:=[]) e1.2) fun w2 e2=>AB (Id (r3:=[]) e2.2) fun w3 e3=>?_
  rw[e1.1,e2.1,e3.1]
  refine(Bool.or_eq_true_iff.mp hm.2).elim (fun q=>?_) fun q=>?_
  ·have q:=of_decide_eq_true q
   have h3:=e3.2
   rcases e4:r0.drop 3 with _|⟨c,r4⟩<;>rw[e4] at q h3
   ·exact(q.elim (fun z=>(List.cons_ne_nil _ _ z.symm).elim) fun z=>(List.cons_ne_nil _ _ z.symm).elim)
   ·refine AB (Id (r3:=[]) h3) fun w4 e5=>⟨c,w4,by rw[e5.1],?_⟩
    exact q.elim (fun z=>by rw[(AZ z).1];decide) fun z=>by rw[(AZ z).1];decide
  ·have q:=AJ.mp q
   have l:=of_decide_eq_true q.1
   have e4:r0.drop 3=[]:=List.drop_eq_nil_of_le (CI l)
   have h3:=e3.2
   rw[e4] at h3
   refine AB (Wc h3 (fun z=>by rw[z] at q;exact AI q.2)) fun c z=>AB z fun w4 z=>⟨c,w4,by rw[z.1],(by decide:∀c∈BRK,c∈OI) c z.2⟩
 refine(of_decide_eq_true hm.1).elim (fun e=>AB (key 45 e) fun c z=>AB z fun w z=>?_) fun e=>AB (key 46 e) fun c z=>AB z fun w z=>?_
 ·rw[z.1];exact .dash z.2
 ·rw[z.1];exact .dots z.2
noncomputable abbrev Fb (p:List Nat×List Nat×List Nat):List Nat×D9:=(p.2.1,Cd p.2.2)
theorem UU (N:Nat):∀{y r0:List Nat} {L:List (List Nat×List Nat×List Nat)} {h:Bool},y.length≤N→Rw y r0 L→dq y=true→(h=true→¬Hk y)→∀n0,
  (DQ (n0+r0.length) L=none→∃its,Pz h y its y true []∧Ar its=(Cd r0,L.map Fb))∧(∀m,DQ (n0+r0.length) L=some m→∃its x r,Pz h y its x false r∧n0+x.length=m):=by
 induction N with
 |zero=>
  intro y r0 L h hN hw hq hd n0
  have e:=B5.mp (Nat.le_zero.mp hN)
  subst e
  generalize e:([]:List Nat)=y at hw
  rcases hw with _|@⟨c',u,r,L,h1,h2⟩|@⟨b,l,u,r,L,hb,h2⟩
  ·exact⟨fun zz=>⟨[],.eot,rfl⟩,fun m z=>AP z⟩
  ·exact(List.cons_ne_nil _ _ e.symm).elim
  ·exact hb.head fun a b' eb zz zz=>by subst eb;exact(List.cons_ne_nil _ _ e.symm).elim
 |succ N ih=>
  intro y r0 L h hN hw hq hd n0
  rcases hw with _|@⟨c,u,r,L,h1,h2⟩|@⟨b,l,u,r,L,hb,h2⟩
  ·exact⟨fun zz=>⟨[],.eot,rfl⟩,fun m z=>AP z⟩
  ·rw[Io] at hq
   by_cases q:c=39
   ·subst q
    rw[if_pos rfl] at hq
    rcases u with _|⟨c2,u⟩
    ·exact(AI hq).elim
    have hq:(decide (c2=39)&&dq u)=true:=hq
    have hq:=AJ.mp hq
    have q2:=of_decide_eq_true hq.1
    subst q2
    refine AB (IJ h2 (by decide)) fun r' e=>?_
    have er:=e.1
    subst er
    have I:=ih (h:=false) (BO (Nat.le_of_succ_le_succ hN)) e.2 hq.2 (fun z=>(AI z).elim) (n0+2)
    rw[show n0+2+r'.length=n0+(39::39::r').length by rw[AX,AX];lia] at I
    refine⟨fun z=>AB (I.1 z) fun its k=>⟨.ch 39 true::its,.apos k.1,?_⟩,fun m z=>AB (I.2 m z) fun its k=>AB k fun x k=>AB k fun w k=>⟨_,_,_,.apos k.1,?_⟩⟩
    ·show((39,true)::(Ar its).1,(Ar its).2)=_
     rw[k.2]
     rfl
    ·rw[←k.2,AX,AX];lia
   ·rw[if_neg q] at hq
    have I:=ih (h:=false) (Nat.le_of_succ_le_succ hN) h2 hq (fun z=>(AI z).elim) (n0+1)
    rw[show n0+1+r.length=n0+(c::r).length by rw[AX];lia] at I
    refine⟨fun z=>AB (I.1 z) fun its k=>⟨.ch c (decide (c∉[32,9]))::its,.sign q h1 hd k.1,?_⟩,fun m z=>AB (I.2 m z) fun its k=>AB k fun x k=>AB k fun w k=>⟨_,_,_,.sign q h1 hd k.1,?_⟩⟩
    ·show((c,decide (c∉[32,9]))::(Ar its).1,(Ar its).2)=_
     rw[k.2,J6,if_neg q]
    ·rw[←k.2,AX];lia
  ·have hl:=hb.len.2
   rw[AE] at hN
   have hqu:dq u=true:=by
    refine hb.head fun a b' eb ha zz=>?_
    have key:∀(b:List Nat),(∀c∈b,c≠39)→dq (b++u)=true→dq u=true:=fun b=>by
     induction b with
     |nil=>exact fun zz h=>h
     |cons c b ihb=>
      intro hc h
      rw[By,Io,if_neg (hc c (.head _))] at h
      exact ihb (fun z hz=>hc z (.tail _ hz)) h
    refine key b (fun z hz=>?_) hq
    rcases hb with _|@⟨c,r,hc,_⟩|@⟨c,r,hc⟩
    ·exact(by decide:∀z∈[13,10],z≠39) z hz
    ·rw[AY.mp hz];exact fun e=>absurd (e▸hc) (by decide)
    ·rw[AY.mp hz];exact fun e=>absurd (e▸hc) (by decide)
   rcases e:HX r (!L.isEmpty) with _|_
   ·have I:=ih (h:=true) (by lia) h2 hqu (fun zz z=>AI (e.symm.trans (Xf h2 z))) (n0+b.length)
    have er:DQ (n0+([]:List Nat).length) ((b,l,r)::L)=DQ (n0+b.length+r.length) L:=by
     show(bif HX r (!L.isEmpty) then some (n0+b.length) else DQ (n0+b.length+r.length) L)=_
     rw[e];rfl
    rw[er]
    refine⟨fun z=>AB (I.1 z) fun its k=>⟨.br l::its,.brk hb k.1,?_⟩,fun m z=>AB (I.2 m z) fun its k=>AB k fun x k=>AB k fun w k=>⟨_,_,_,.brk hb k.1,?_⟩⟩
    ·show([],(l,(Ar its).1)::(Ar its).2)=_
     rw[k.2]
     rfl
    ·rw[←k.2,AE];lia
   ·have er:DQ (n0+([]:List Nat).length) ((b,l,r)::L)=some (n0+b.length):=by
     show(bif HX r (!L.isEmpty) then some (n0+b.length) else DQ (n0+b.length+r.length) L)=_
     rw[e];rfl
    rw[er]
    refine⟨fun z=>AP z.symm,fun m z=>⟨_,_,_,.brk hb (.doc (Wx h2 e)),?_⟩⟩
    rw[←AH z,AE]
    rfl
theorem Ir (s:Str):∀L:List Str,M6 Dh s (L.map .str)=some (decide (s∈L))
 |[]=>rfl
 |x::L=>by
  show(M6 Dh s (L.map .str)).map _=_
  rw[Ir s L]
  by_cases h:x=s
  ·subst h;simp
  ·have h':¬s=x:=fun e=>h e.symm
   simp[h,h']
structure Tx (B:List Nat)(p:Nat)(u:List Nat):Prop where
 at_:B.drop p=u
 z:B.length≤lim
theorem Tx.sl {B u:List Nat}{p:Nat}(h:Tx B p u)(n:Nat):B1 B (min p B.length) (min (p+n) B.length)=u.take n:=by rw[Gf,h.at_]
theorem Tx.skip {B x u:List Nat}{p:Nat}(h:Tx B p (x++u)):Tx B (p+x.length) u:=⟨by rw[←List.drop_drop,h.at_,List.drop_left],h.z⟩
theorem Tx.get {B u:List Nat}{p c:Nat}(h:Tx B p (c::u)):B[p]? =some c:=by rw[←Nat.add_zero p,←List.getElem?_drop,h.at_];rfl
noncomputable abbrev sV (l:List Nat):V:=.str ⟨l.toArray⟩
noncomputable abbrev iV (n:Nat):V:=.int (n:Int)
noncomputable abbrev Em:List V:=[.str "\r",.str "\n",.str "\u0085",.str "\u2028",.str "\u2029"]
theorem Nt (c:Nat):Fe (.str ⟨#[c]⟩) Em=some (decide (c∈BRK)):=by
 have e:=Ir ⟨#[c]⟩ ["\r","\n","\u0085","\u2028","\u2029"]
 have e2:decide ((⟨#[c]⟩:Str)∈(["\r","\n","\u0085","\u2028","\u2029"]:List Str))=decide (c∈BRK):=by
  have r:((["\r","\n","\u0085","\u2028","\u2029"]:List Str))=[⟨#[13]⟩,⟨#[10]⟩,⟨#[133]⟩,⟨#[8232]⟩,⟨#[8233]⟩]:=by decide+kernel
  rw[r]
  simp
 rw[e2] at e
 exact e
noncomputable abbrev KD:List V:=[.str "\u2028",.str "\u2029"]
theorem Pw (c:Nat):Fe (.str ⟨#[c]⟩) KD=some (decide (c∈[8232,8233])):=by
 have e:=Ir ⟨#[c]⟩ ["\u2028","\u2029"]
 have e2:decide ((⟨#[c]⟩:Str)∈(["\u2028","\u2029"]:List Str))=decide (c∈[8232,8233]):=by
  have r:((["\u2028","\u2029"]:List Str))=[⟨#[8232]⟩,⟨#[8233]⟩]:=by decide+kernel
  rw[r];simp
 rw[e2] at e
 exact e
theorem X6 {n:Nat}(h:n+1≤lim):FE (-1) (n+1)=some n:=by
 have h':n+1≤1000000:=h
 unfold FE
 rw[if_pos h',if_neg (by decide),if_pos (by lia)]
 exact congrArg some (by lia)
theorem Hw (a b:List Nat):(⟨a.toArray⟩:Str)++⟨b.toArray⟩=⟨(a++b).toArray⟩:=congrArg Str.mk (by simp)
theorem TD {α:Type}(l:List α)(a b:α):(l++[a]).set l.length b=l++[b]:=by
 induction l with
 |nil=>rfl
 |cons x l ih=>exact congrArg (x::·) ih
theorem Tm {α:Type}(l:List α)(a:α):(l++[a])[l.length]? =some a:=by
 rw[Cu (AT _),Eu];rfl
noncomputable def MW:Expr:=wT (Bo (BZ 40) 4)
noncomputable def MZ:List Stmt:=wB (Bo (BZ 40) 4)
noncomputable abbrev H9 (B:List Nat)(ri hi ei p:Nat)(sg:V):List (Str×V):=[("inside",.str ⟨B.toArray⟩),("rows",.obj (ri+1)),("heads",.obj (hi+1)),("ends",.obj (ei+1)),("at",.int (p:Int)),("sign",sg),("len",.bi "len")]
structure J1 (hs:List O)(ri hi ei:Nat)(D:List (List Nat))(cur:List Nat)(H:List Nat)(Es:List (List Nat)):Prop where
 rw_:hs[ri]? =some (.list (D.map sV++[sV cur]))
 he:hs[hi]? =some (.list (H.map iV))
 en:hs[ei]? =some (.list (Es.map sV))
 n1:ri≠hi
 n2:ri≠ei
 n3:hi≠ei
section
variable {ns:List Int}{d:Nat}{a0:O}{hs:List O}{B u:List Nat}{p ri hi ei:Nat}{D Es:List (List Nat)}{cur H:List Nat}{sg:V}
theorem WH {c:Nat}{s':St}(w:J1 hs ri hi ei D cur H Es)(t:Tx B p (c::u))(hc:c∉BRK)(hz:D.length+1≤lim)(hz2:cur.length+1≤lim)(osg:Cn sg=true)(e:An (S ns) (d+3) MW MZ ⟨H9 B ri hi ei (p+1) (Aw c),a0::(hs++[O.list Em]).set ri (.list (D.map sV++[sV (cur++[c])]))⟩ .next s'):
  An (S ns) (d+3) MW MZ ⟨H9 B ri hi ei p sg,a0::hs⟩ .next s':=by
 have g:=t.get
 have lt:=Hj g
 have hB:=t.z
 have q1:decide ((p:Int)<(B.length:Int))=true:=decide_eq_true (Bl.mpr lt)
 have i1:=Gk lt hB
 have m1:Fe (.str ⟨#[c]⟩) Em=some false:=by rw[Nt,decide_eq_false hc]
 have gr:(hs++[O.list Em])[ri]? =some (.list (D.map sV++[sV cur])):=gl w.rw_
 have i2:FE (-1) (D.map sV++[sV cur]).length=some D.length:=by
  rw[AE,AQ];exact X6 hz
 have g2:(D.map sV++[sV cur])[D.length]? =some (sV cur):=by
  have:=Tm (D.map sV) (sV cur)
  rw[AQ] at this
  exact this
 have oc:BE (cur.length+1)=true:=As hz2
 have st:(D.map sV++[sV cur]).set D.length (sV (cur++[c]))=D.map sV++[sV (cur++[c])]:=by
  have:=TD (D.map sV) (sV cur) (sV (cur++[c]))
  rw[AQ] at this
  exact this
 rw[←st,show sV (cur++[c])= .str (⟨cur.toArray⟩++⟨#[c]⟩) from congrArg V.str (Hw cur [c]).symm] at e
 refine An.go (s1:=St.mk [(A8 "inside",V.str (Str.mk (AG B))),(A8 "rows",V.obj (ri+1)),(A8 "heads",V.obj (hi+1)),(A8 "ends",V.obj (ei+1)),(A8 "at",V.int (↑(p+1):Int)),(A8 "sign",V.str (Str.mk #[c])),(A8 "len",V.bi "len")] (a0::Ai (hs++[O.list [V.str (A8 "\x0d"),V.str (A8 "\n"),V.str (A8 ""),V.str (A8 " "),V.str (A8 " ")]]) ri (O.list (Ai (AD sV D++[sV cur]) (A9 D) (V.str (Str.mk (AG cur)++Str.mk #[c])))))) [.t,.t,.v .nat (p),.v .nat (c),.t,.v .ob (O.list [V.str (A8 "\x0d"),V.str (A8 "\n"),V.str (A8 ""),V.str (A8 " "),V.str (A8 " ")]),.v .bool (false),.a 1,.v .ob (O.list (AD sV D++[sV cur])),.v .nat (A9 D),.v .val (sV cur),.t,.v .ob (O.list (AD sV D++[sV cur])),.v .nat (A9 D),.a 1] ?_ (an (As (n:=A9 B) (h:=hB)) (an q1 (an i1 (an (IF (B:=B) (k:=p) (c:=c) (h:=g)) (an (BA (u:=sg) (v:=Aw c) (h:=osg) (h2:=(by rfl))) (an (ga (l:=hs) (o:=O.list [V.str (A8 "\x0d"),V.str (A8 "\n"),V.str (A8 ""),V.str (A8 " "),V.str (A8 " ")]) (r:=[])) (an m1 (an gr (an i2 (an g2 (an oc (an gr (an i2 trivial))))))))))))) (by kernel_rfl)
 exact e
theorem WI {c:Nat}{b l u':List Nat}{s':St}(w:J1 hs ri hi ei D cur H Es)(hb:Dr b l u')(eu:b++u'=c::u)(t:Tx B p (c::u))(hc:c∈BRK)(hz:D.length+1≤lim)(hz2:H.length≤lim)(hz3:Es.length≤lim)(osg:Cn sg=true)
  (e:An (S ns) (d+3) MW MZ ⟨H9 B ri hi ei (p+b.length) (Aw c),a0::(((hs++[O.list Em]++[O.list KD]).set ei (.list (Es.map sV++[sV l]))).set ri (.list ((D.map sV++[sV cur])++[.str ""]))).set hi (.list (H.map iV++[iV (p+b.length)]))⟩ .next s'):
  An (S ns) (d+3) MW MZ ⟨H9 B ri hi ei p sg,a0::hs⟩ .next s':=by
 have g:=t.get
 have lt:=Hj g
 have hB:=t.z
 have q1:decide ((p:Int)<(B.length:Int))=true:=decide_eq_true (Bl.mpr lt)
 have i1:=Gk lt hB
 have m1:Fe (.str ⟨#[c]⟩) Em=some true:=by rw[Nt,decide_eq_true hc]
 have gr:(hs++[O.list Em])[ri]? =some (.list (D.map sV++[sV cur])):=gl w.rw_
 have ge0:(hs++[O.list Em])[ei]? =some (.list (Es.map sV)):=gl w.en
 have ge:(hs++[O.list Em]++[O.list KD])[ei]? =some (.list (Es.map sV)):=gl (gl w.en)
 have gr2:((hs++[O.list Em]++[O.list KD]).set ei (.list (Es.map sV++[sV l])))[ri]? =some (.list (D.map sV++[sV cur])):=(Aa (Cq w.n2)).trans (gl (gl w.rw_))
 have gh2:(((hs++[O.list Em]++[O.list KD]).set ei (.list (Es.map sV++[sV l]))).set ri (.list ((D.map sV++[sV cur])++[.str ""])))[hi]? =some (.list (H.map iV)):=(Aa w.n1).trans ((Aa (Cq w.n3)).trans (gl (gl w.he)))
 have o1:BE (Es.map sV).length=true:=As (by rw[AQ];exact hz3)
 have o2:BE (D.map sV++[sV cur]).length=true:=As (by rw[AE,AQ];exact hz)
 have o3:BE (H.map iV).length=true:=As (by rw[AQ];exact hz2)
 have s2:=t.sl 2
 rcases hb with _|@⟨c',_,hc',hn⟩|@⟨c',_,hc'⟩
 ·have ec:c=13:=(AZ eu).1.symm
  subst ec
  have eu2:u=10::u':=(AZ eu).2.symm
  subst eu2
  have m2:Fe (.str ⟨#[13]⟩) KD=some false:=by rw[Pw];rfl
  have q2:decide ((⟨(B1 B (min p B.length) (min (p+2) B.length)).toArray⟩:Str)=A8 "\r\n")=true:=by rw[s2];exact Ih (L:=[13,10]) (by decide) rfl
  refine An.go (s1:=St.mk [(A8 "inside",V.str (Str.mk (AG B))),(A8 "rows",V.obj (ri+1)),(A8 "heads",V.obj (hi+1)),(A8 "ends",V.obj (ei+1)),(A8 "at",V.int (↑(p+2):Int)),(A8 "sign",V.str (Str.mk #[13])),(A8 "len",V.bi "len")] (a0::Ai (Ai (Ai (hs++[O.list [V.str (A8 "\x0d"),V.str (A8 "\n"),V.str (A8 ""),V.str (A8 " "),V.str (A8 " ")]]++[O.list [V.str (A8 " "),V.str (A8 " ")]]) ei (O.list (AD sV Es++[V.str (A8 "\n")]))) ri (O.list (AD sV D++[sV cur]++[V.str (A8 "")]))) hi (O.list (AD iV H++[V.int (↑(p+2):Int)])))) [.t,.t,.v .nat (p),.v .nat (13),.t,.v .ob (O.list [V.str (A8 "\x0d"),V.str (A8 "\n"),V.str (A8 ""),V.str (A8 " "),V.str (A8 " ")]),.a 2,.t,.v .nat (min p (A9 B)),.v .nat (min (p+2) (A9 B)),.t,.a 1,.v .ob (O.list (AD sV Es)),.v .ob (O.list [V.str (A8 " "),V.str (A8 " ")]),.a 2,.v .ob (O.list (AD sV Es)),.t,.v .ob (O.list (AD sV D++[sV cur])),.v .ob (O.list (AD sV D++[sV cur])),.t,.v .ob (O.list (AD iV H)),.v .ob (O.list (AD iV H)),.t] ?_ (an (As (n:=A9 B) (h:=hB)) (an q1 (an i1 (an (IF (B:=B) (k:=p) (c:=13) (h:=g)) (an (BA (u:=sg) (v:=Aw 13) (h:=osg) (h2:=(by rfl))) (an (ga (l:=hs) (o:=O.list [V.str (A8 "\x0d"),V.str (A8 "\n"),V.str (A8 ""),V.str (A8 " "),V.str (A8 " ")]) (r:=[])) (an (As (n:=A9 B) (h:=hB)) (an (BR (n:=A9 B) (k:=p) (d:=0)) (an (BR (n:=A9 B) (k:=p+2) (d:=A9 B)) (an q2 (an ge0 (an (ga (l:=hs++[O.list [V.str (A8 "\x0d"),V.str (A8 "\n"),V.str (A8 ""),V.str (A8 " "),V.str (A8 " ")]]) (o:=O.list [V.str (A8 " "),V.str (A8 " ")]) (r:=[])) (an ge (an o1 (an gr2 (an gr2 (an o2 (an gh2 (an gh2 (an o3 trivial)))))))))))))))))))) (by kernel_rfl)
  exact e
 ·have ec:=(AZ eu).1
  subst ec
  have eu2:=(AZ eu).2
  subst eu2
  have m2:Fe (.str ⟨#[c']⟩) KD=some false:=by rw[Pw,decide_eq_false (fun z=>absurd hc' ((by decide:∀z∈[8232,8233],z∉[13,10,133]) c' z))]
  have q2:decide ((⟨(B1 B (min p B.length) (min (p+2) B.length)).toArray⟩:Str)=A8 "\r\n")=false:=by
   rw[s2]
   refine Gb (L:=[13,10]) (by decide) fun z=>?_
   rcases u' with _|⟨y,r⟩
   ·exact absurd (AZ z).2 (List.cons_ne_nil _ _).symm
   ·exact hn r (by rw[(AZ z).1,(AZ (AZ z).2).1])
  refine An.go (s1:=St.mk [(A8 "inside",V.str (Str.mk (AG B))),(A8 "rows",V.obj (ri+1)),(A8 "heads",V.obj (hi+1)),(A8 "ends",V.obj (ei+1)),(A8 "at",V.int (↑(p+1):Int)),(A8 "sign",V.str (Str.mk #[c'])),(A8 "len",V.bi "len")] (a0::Ai (Ai (Ai (hs++[O.list [V.str (A8 "\x0d"),V.str (A8 "\n"),V.str (A8 ""),V.str (A8 " "),V.str (A8 " ")]]++[O.list [V.str (A8 " "),V.str (A8 " ")]]) ei (O.list (AD sV Es++[V.str (A8 "\n")]))) ri (O.list (AD sV D++[sV cur]++[V.str (A8 "")]))) hi (O.list (AD iV H++[V.int (↑(p+1):Int)])))) [.t,.t,.v .nat (p),.v .nat (c'),.t,.v .ob (O.list [V.str (A8 "\x0d"),V.str (A8 "\n"),V.str (A8 ""),V.str (A8 " "),V.str (A8 " ")]),.v .bool (true),.a 1,.t,.v .nat (min p (A9 B)),.v .nat (min (p+2) (A9 B)),.f,.a 1,.v .ob (O.list (AD sV Es)),.v .ob (O.list [V.str (A8 " "),V.str (A8 " ")]),.v .bool (false),.a 1,.v .ob (O.list (AD sV Es)),.t,.v .ob (O.list (AD sV D++[sV cur])),.v .ob (O.list (AD sV D++[sV cur])),.t,.v .ob (O.list (AD iV H)),.v .ob (O.list (AD iV H)),.t] ?_ (an (As (n:=A9 B) (h:=hB)) (an q1 (an i1 (an (IF (B:=B) (k:=p) (c:=c') (h:=g)) (an (BA (u:=sg) (v:=Aw c') (h:=osg) (h2:=(by rfl))) (an (ga (l:=hs) (o:=O.list [V.str (A8 "\x0d"),V.str (A8 "\n"),V.str (A8 ""),V.str (A8 " "),V.str (A8 " ")]) (r:=[])) (an m1 (an (As (n:=A9 B) (h:=hB)) (an (BR (n:=A9 B) (k:=p) (d:=0)) (an (BR (n:=A9 B) (k:=p+2) (d:=A9 B)) (an q2 (an ge0 (an (ga (l:=hs++[O.list [V.str (A8 "\x0d"),V.str (A8 "\n"),V.str (A8 ""),V.str (A8 " "),V.str (A8 " ")]]) (o:=O.list [V.str (A8 " "),V.str (A8 " ")]) (r:=[])) (an m2 (an ge (an o1 (an gr2 (an gr2 (an o2 (an gh2 (an gh2 (an o3 trivial)))))))))))))))))))))) (by kernel_rfl)
  exact e
 ·have ec:=(AZ eu).1
  subst ec
  have eu2:=(AZ eu).2
  subst eu2
  have m2:Fe (.str ⟨#[c']⟩) KD=some true:=by rw[Pw,decide_eq_true hc']
  have q2:decide ((⟨(B1 B (min p B.length) (min (p+2) B.length)).toArray⟩:Str)=A8 "\r\n")=false:=by
   rw[s2]
   refine Gb (L:=[13,10]) (by decide) fun z=>?_
   have z1:c'=13:=(AZ z).1
   exact absurd (z1▸hc') (by decide)
  refine An.go (s1:=St.mk [(A8 "inside",V.str (Str.mk (AG B))),(A8 "rows",V.obj (ri+1)),(A8 "heads",V.obj (hi+1)),(A8 "ends",V.obj (ei+1)),(A8 "at",V.int (↑(p+1):Int)),(A8 "sign",V.str (Str.mk #[c'])),(A8 "len",V.bi "len")] (a0::Ai (Ai (Ai (hs++[O.list [V.str (A8 "\x0d"),V.str (A8 "\n"),V.str (A8 ""),V.str (A8 " "),V.str (A8 " ")]]++[O.list [V.str (A8 " "),V.str (A8 " ")]]) ei (O.list (AD sV Es++[Aw c']))) ri (O.list (AD sV D++[sV cur]++[V.str (A8 "")]))) hi (O.list (AD iV H++[V.int (↑(p+1):Int)])))) [.t,.t,.v .nat (p),.v .nat (c'),.t,.v .ob (O.list [V.str (A8 "\x0d"),V.str (A8 "\n"),V.str (A8 ""),V.str (A8 " "),V.str (A8 " ")]),.v .bool (true),.a 1,.t,.v .nat (min p (A9 B)),.v .nat (min (p+2) (A9 B)),.f,.a 1,.v .ob (O.list (AD sV Es)),.v .ob (O.list [V.str (A8 " "),V.str (A8 " ")]),.v .bool (true),.a 1,.v .ob (O.list (AD sV Es)),.t,.v .ob (O.list (AD sV D++[sV cur])),.v .ob (O.list (AD sV D++[sV cur])),.t,.v .ob (O.list (AD iV H)),.v .ob (O.list (AD iV H)),.t] ?_ (an (As (n:=A9 B) (h:=hB)) (an q1 (an i1 (an (IF (B:=B) (k:=p) (c:=c') (h:=g)) (an (BA (u:=sg) (v:=Aw c') (h:=osg) (h2:=(by rfl))) (an (ga (l:=hs) (o:=O.list [V.str (A8 "\x0d"),V.str (A8 "\n"),V.str (A8 ""),V.str (A8 " "),V.str (A8 " ")]) (r:=[])) (an m1 (an (As (n:=A9 B) (h:=hB)) (an (BR (n:=A9 B) (k:=p) (d:=0)) (an (BR (n:=A9 B) (k:=p+2) (d:=A9 B)) (an q2 (an ge0 (an (ga (l:=hs++[O.list [V.str (A8 "\x0d"),V.str (A8 "\n"),V.str (A8 ""),V.str (A8 " "),V.str (A8 " ")]]) (o:=O.list [V.str (A8 " "),V.str (A8 " ")]) (r:=[])) (an m2 (an ge (an o1 (an gr2 (an gr2 (an o2 (an gh2 (an gh2 (an o3 trivial)))))))))))))))))))))) (by kernel_rfl)
  exact e
end
noncomputable def EU (n0:Nat)(h h':List O):Prop:=h.length≤h'.length∧(∀j,j<n0→h'[j]? =h[j]?)∧(Ch h→Ch h')
theorem EU.trans {n:Nat}{a b c:List O}(x:EU n a b)(y:EU n b c):EU n a c:=⟨AL x.1 y.1,fun j h=>(y.2.1 j h).trans (x.2.1 j h),fun n=>y.2.2 (x.2.2 n)⟩
theorem EU.refl {n:Nat}{a:List O}:EU n a a:=⟨AT _,fun zz zz=>rfl,id⟩
theorem Aq.keepB {n:Nat}{h h':List O}(x:Aq h h')(hn:n≤h.length):EU n h h':=⟨x.1,fun j hj=>x.2.1 j (Ab hj hn),x.2.2⟩
theorem EU.set {n c:Nat}{h:List O}{o:O}(hc:n≤c)(ho:DH o=true:=by rfl):EU n h (h.set c o):=⟨by rw[BQ];exact AT _,fun j hj=>Aa (Bh (Ab hj hc)),fun n=>n.set ho⟩
noncomputable abbrev Cy:=List Nat×List Nat×List Nat
noncomputable def JO:Nat→List Cy→List Nat
 |_,[]=>[]
 |n,p::L=>(n+p.1.length)::JO (n+p.1.length+p.2.2.length) L
theorem Mf:V.str (A8 "")=sV []:=congrArg V.str (show A8 ""=(⟨[].toArray⟩:Str) by decide+kernel)
structure IY (hs:List O)(ri hi ei:Nat)(R:List (List Nat))(H:List Nat)(Es:List (List Nat)):Prop where
 rw_:hs[ri]? =some (.list (R.map sV))
 he:hs[hi]? =some (.list (H.map iV))
 en:hs[ei]? =some (.list (Es.map sV))
section
variable {ns:List Int}{d:Nat}{a0:O}{hs:List O}{B:List Nat}{n0 p ri hi ei:Nat}{D Es:List (List Nat)}{cur H:List Nat}{sg:V}
theorem J1.fin (w:J1 hs ri hi ei D cur H Es):IY hs ri hi ei (D++[cur]) H Es:=⟨by rw[Ae];exact w.rw_,w.he,w.en⟩
theorem J1.sign {c:Nat}(w:J1 hs ri hi ei D cur H Es):J1 ((hs++[O.list Em]).set ri (.list (D.map sV++[sV (cur++[c])]))) ri hi ei D (cur++[c]) H Es:=
 {w with
  rw_:=DS (by rw[AE];exact Nat.lt_add_right _ (AM.mp w.rw_).1)
  he:=(Aa w.n1).trans (gl w.he)
  en:=(Aa w.n2).trans (gl w.en)}
theorem J1.brk {l:List Nat}{q:Nat}(w:J1 hs ri hi ei D cur H Es):J1 ((((hs++[O.list Em]++[O.list KD]).set ei (.list (Es.map sV++[sV l]))).set ri (.list ((D.map sV++[sV cur])++[.str ""]))).set hi (.list (H.map iV++[iV q]))) ri hi ei (D++[cur]) [] (H++[q]) (Es++[l]):=by
 have lr:∀{j:Nat} {o:O},hs[j]? =some o→j<(hs++[O.list Em]++[O.list KD]).length:=fun h=>by rw[AE,AE];exact Nat.lt_add_right _ (Nat.lt_add_right _ (AM.mp h).1)
 exact{w with
  rw_:=(Aa (Cq w.n1)).trans (by rw[Ae,Mf];exact DS (by rw[BQ];exact lr w.rw_))
  he:=by rw[Ae];exact DS (by rw[BQ,BQ];exact lr w.he)
  en:=(Aa w.n3).trans ((Aa w.n2).trans (by rw[Ae];exact DS (lr w.en)))}
theorem Xd (h:B.length≤p)(hB:B.length≤lim):An (S ns) (d+3) MW MZ ⟨H9 B ri hi ei p sg,a0::hs⟩ .next ⟨H9 B ri hi ei p sg,a0::hs⟩:=by
 have q1:decide ((p:Int)<(B.length:Int))=false:=decide_eq_false (fun z=>DR.mpr h (Bl.mp z))
 exact An.by [.t,.f] (an (As (n:=A9 B) (h:=hB)) (an q1 trivial)) (by kernel_rfl)
noncomputable def Gq (ns:List Int)(d:Nat)(a0:O)(B:List Nat)(n0 ri hi ei:Nat)(st:St)(hs:List O)(p:Nat)(R:List (List Nat))(H:List Nat)(E:List (List Nat)):Prop:=
 ∃sg hs',IY hs' ri hi ei R H E∧EU n0 hs hs'∧An (S ns) (d+3) MW MZ st .next ⟨H9 B ri hi ei p sg,a0::hs'⟩
theorem Gq.step {R E:List (List Nat)}{H:List Nat}{s1 s2:St}{hs2:List O}(x:∀s',An (S ns) (d+3) MW MZ s2 .next s'→An (S ns) (d+3) MW MZ s1 .next s')(k:EU n0 hs hs2)(n:Gq ns d a0 B n0 ri hi ei s2 hs2 p R H E):
  Gq ns d a0 B n0 ri hi ei s1 hs p R H E:=BF n fun sg hs' r k' w=>⟨sg,hs',r,k.trans k',x _ w⟩
theorem Wz {y r0:List Nat}{L:List Cy}(q:Rw y r0 L):∀{p:Nat} {hs:List O} {D Es:List (List Nat)} {cur H:List Nat} {sg:V},Tx B p y→p+y.length≤lim→J1 hs ri hi ei D cur H Es→n0≤ri∧n0≤hi∧n0≤ei∧n0≤hs.length→D.length≤p∧cur.length≤p∧H.length≤p+1∧Es.length≤p→Cn sg=true→
  Gq ns d a0 B n0 ri hi ei ⟨H9 B ri hi ei p sg,a0::hs⟩ hs (p+y.length) (D++(cur++r0)::L.map (·.2.2)) (H++JO (p+r0.length) L) (Es++L.map (·.2.1)):=by
 induction q with
 |nil=>
  intro p hs D Es cur H sg t hz w n l o
  show Gq ns d a0 B n0 ri hi ei _ hs p (D++[cur++[]]) (H++[]) (Es++[])
  rw[AR,AR,AR]
  exact⟨sg,hs,w.fin,.refl,Xd (List.drop_eq_nil_iff.mp t.at_) t.z⟩
 |@sign c u r L hc _ ih=>
  intro p hs D Es cur H sg t hz w n l o
  rw[AX] at hz
  have hl:p+1≤lim:=AL (CL (BP 1 u.length) p) hz
  have I:=ih (sg:=Aw c) (t.skip (x:=[c])) (by rw[D1,BV,Bv 1];exact hz) (w.sign (c:=c)) ⟨n.1,n.2.1,n.2.2.1,by rw[BQ,AE];exact AL n.2.2.2 (BN _ _)⟩
   ⟨Ck l.1,by rw[AE];exact CX l.2.1,Ck l.2.2.1,Ck l.2.2.2⟩ rfl
  rw[AC cur,show p+[c].length+u.length=p+(c::u).length from Nat.add_right_comm p 1 u.length,show p+[c].length+r.length=p+(c::r).length from Nat.add_right_comm p 1 r.length] at I
  exact Gq.step (fun s' e=>WH w t hc (AL (CX l.1) hl) (AL (CX l.2.1) hl) o e) (((Aq.app hs).keepB n.2.2.2).trans (EU.set n.1)) I
 |@brk b l0 u r L hb _ ih=>
  intro p hs D Es cur H sg t hz w n l o
  refine hb.head fun c b' eb hc zz=>?_
  have hl:p+1≤lim:=AL (CL (by rw[AE,eb,AX];exact AL (BP 1 _) (BN _ _)) p) hz
  have hb1:1≤b.length:=by rw[eb];exact BP 1 _
  rw[AE,←BV] at hz
  have I:=ih (sg:=Aw c) t.skip hz (w.brk (l:=l0) (q:=p+b.length)) ⟨n.1,n.2.1,n.2.2.1,by rw[BQ,BQ,BQ,AE,AE];exact AL n.2.2.2 (AL (BN _ _) (BN _ _))⟩
   ⟨by rw[AE];exact C3 l.1 hb1,Bx _,by rw[AE,Nat.add_right_comm];exact C3 l.2.2.1 hb1,by rw[AE];exact C3 l.2.2.2 hb1⟩ rfl
  rw[AC D,AC H,AC Es,BV p b.length u.length,←AE] at I
  show Gq ns d a0 B n0 ri hi ei _ hs _ (D++(cur++[])::_) _ _
  rw[AR]
  exact Gq.step (fun s' e=>WI w hb (by rw[eb];rfl) (by rw[eb] at t;exact t) hc (AL (CX l.1) hl) (AL l.2.2.1 hl) (AL l.2.2.2 (BO hl)) o e)
   (((Aq.app hs).trans (Aq.app _)).keepB n.2.2.2 |>.trans ((EU.set n.2.2.1).trans ((EU.set n.1).trans (EU.set n.2.1)))) I
theorem Wh {r0:List Nat}{L:List Cy}(q:Rw B r0 L)(hz:B.length≤lim):
  ∃hs' ri hi ei,Aq hs hs'∧(hs.length≤ri∧hs.length≤hi∧hs.length≤ei)∧IY hs' ri hi ei (r0::L.map (·.2.2)) (0::JO r0.length L) (L.map (·.2.1))∧
   AK (S ns) (d+3) 40 [.str ⟨B.toArray⟩] [] (a0::hs) (.tup [.obj (ri+1),.obj (hi+1),.obj (ei+1)]) (a0::hs'):=by
 have g0:(hs++[O.list [.str ""]]++[O.list [.int 0]]++[O.list []])[hs.length]? =some (.list [.str ""]):=by rw[AC,AC];exact ga
 have g1:(hs++[O.list [.str ""]]++[O.list [.int 0]]++[O.list []])[(hs++[O.list [.str ""]]).length]? =some (.list [.int 0]):=by rw[AC];exact ga
 have g2:(hs++[O.list [.str ""]]++[O.list [.int 0]]++[O.list []])[(hs++[O.list [.str ""]]++[O.list [.int 0]]).length]? =some (.list []):=ga
 have w:J1 (hs++[O.list [.str ""]]++[O.list [.int 0]]++[O.list []]) hs.length (hs++[O.list [.str ""]]).length (hs++[O.list [.str ""]]++[O.list [.int 0]]).length [] [] [0] []:=
  ⟨by rw[g0,Mf];rfl,g1,g2,by simp,by simp,by simp⟩
 have X:Aq hs (hs++[O.list [.str ""]]++[O.list [.int 0]]++[O.list []]):=((Aq.app hs).trans (Aq.app _)).trans (Aq.app _)
 refine BF (Wz (ns:=ns) (d:=d) (a0:=a0) (B:=B) (n0:=hs.length) (sg:=.undef) (p:=0) q ⟨rfl,hz⟩ (by rw[C2];exact hz) w ⟨AT _,by simp,by simp,X.1⟩ ⟨AT _,AT _,AT _,AT _⟩ rfl) fun sg hs' R K w=>?_
 rw[C2] at R w
 refine⟨hs',_,_,_,⟨AL X.1 K.1,fun j hj=>(K.2.1 j hj).trans (X.2.1 j hj),fun n=>K.2.2 (X.2.2 n)⟩,⟨AT _,by simp,by simp⟩,R,?_⟩
 exact AK.by [.a 4,.w (Fl.next) (St.mk (H9 B (A9 hs) (A9 (hs++[O.list [V.str (A8 "")]])) (A9 (hs++[O.list [V.str (A8 "")]]++[O.list [V.int 0]])) (A9 B) sg) (a0::hs'))] (an w trivial) (by kernel_rfl)
end
theorem UQ {a b:List Nat}:(⟨a.toArray⟩:Str)=⟨b.toArray⟩↔a=b:=HS
noncomputable abbrev MY:List V:=[.str "---",.str "..."]
noncomputable abbrev GG:List V:=[.str " ",.str "\t"]
theorem YA {s t:String}{a b:List Nat}(hs:(A8 s)=⟨a.toArray⟩)(ht:(A8 t)=⟨b.toArray⟩)(l:List Nat):Fe (sV l) [.str s,.str t]=some (decide (l=a∨l=b)):=by
 have e:=Ir ⟨l.toArray⟩ [A8 s,A8 t]
 rw[hs,ht] at e
 rw[show decide (l=a∨l=b)=decide ((⟨l.toArray⟩:Str)∈[(⟨a.toArray⟩:Str),⟨b.toArray⟩]) from decide_eq_decide.mpr (by rw[AU,AY,UQ,UQ]),hs,ht]
 exact e
theorem Ym (l:List Nat):Fe (sV l) MY=some (decide (l=[45,45,45]∨l=[46,46,46])):=YA (by decide+kernel) (by decide+kernel) l
theorem LN (l:List Nat):Fe (sV l) GG=some (decide (l=[32]∨l=[9])):=YA (by decide+kernel) (by decide+kernel) l
theorem Hr {n k:Nat}(h:n≤lim)(hk:k<n):FE (k:Int) n=some k:=Gk hk h
noncomputable def Ix:Stmt:=Bo (BZ 41) 0
noncomputable abbrev FR (ri hi ei:Nat)(k:V):List (Str×V):=[("rows",.obj (ri+1)),("heads",.obj (hi+1)),("ends",.obj (ei+1)),("k",k),("range",.ty "range"),("len",.bi "len")]
theorem Wi {j n:Nat}(h:1+j<n):some (if(1:Int)+(j:Int)<(n:Int) then some (V.int (1+(j:Int))) else none)=some (some (V.int ((1+j:Nat):Int))):=by
 rw[if_pos (by lia)];rfl
theorem Wj {j n:Nat}(h:n≤1+j):some (if(1:Int)+(j:Int)<(n:Int) then some (V.int (1+(j:Int))) else none)=some none:=by
 rw[if_neg (by lia)]
section
variable {ns:List Int}{d:Nat}{a0:O}{hs:List O}{ri hi ei j h:Nat}{R Es:List (List Nat)}{H row:List Nat}{kv:V}
theorem WK (r:IY hs ri hi ei R H Es)(hR:R.length≤lim)(hH:H.length≤lim)(hE:Es.length≤lim)(gr:R[1+j]? =some row)(gh:H[1+j]? =some h)(hz:row.length≤lim)(o:Cn kv=true):
  ∃hs2,Aq hs hs2∧(HX row (decide (1+j<Es.length))=true→BJ (S ns) (d+2) (wT Ix) (.rng 1 (R.length:Int)) j (wB Ix) ⟨FR ri hi ei kv,a0::hs⟩ (.ret (iV h)) ⟨FR ri hi ei (iV (1+j)),a0::hs2⟩)∧
   (HX row (decide (1+j<Es.length))=false→∀{out s'},BJ (S ns) (d+2) (wT Ix) (.rng 1 (R.length:Int)) (j+1) (wB Ix) ⟨FR ri hi ei (iV (1+j)),a0::hs2⟩ out s'→BJ (S ns) (d+2) (wT Ix) (.rng 1 (R.length:Int)) j (wB Ix) ⟨FR ri hi ei kv,a0::hs⟩ out s'):=by
 have lR:=(AM.mp gr).1
 have lH:=(AM.mp gh).1
 have w1:=Wi lR
 have gR:=r.rw_
 have gH:=r.he
 have gE:=r.en
 have i1:FE ((1+j:Nat):Int) (R.map sV).length=some (1+j):=Hr (by rw[AQ];exact hR) (by rw[AQ];exact lR)
 have i2:(R.map sV)[1+j]? =some (sV row):=by rw[Bn,gr];rfl
 have i3:FE ((1+j:Nat):Int) (H.map iV).length=some (1+j):=Hr (by rw[AQ];exact hH) (by rw[AQ];exact lH)
 have i4:(H.map iV)[1+j]? =some (iV h):=by rw[Bn,gh];rfl
 have oR:BE (R.map sV).length=true:=As (by rw[AQ];exact hR)
 have oE:BE (Es.map sV).length=true:=As (by rw[AQ];exact hE)
 have s1:B1 row 0 (min 3 row.length)=row.take 3:=by have:=Gf (B:=row) 0 3;rw[Nat.zero_min] at this;exact this
 have s2:B1 row (min 3 row.length) (min 4 row.length)=(row.drop 3).take 1:=Gf (B:=row) 3 1
 have m1:=Ym (B1 row 0 (min 3 row.length))
 have m2:=LN (B1 row (min 3 row.length) (min 4 row.length))
 have q3:decide ((row.length:Int)=3)=decide (row.length=3):=decide_eq_decide.mpr (by lia)
 have q4:decide (((1+j:Nat):Int)<((Es.map sV).length:Int))=decide (1+j<Es.length):=decide_eq_decide.mpr (by rw[AQ];exact Bl)
 have hk:HX row (decide (1+j<Es.length))=(decide (row.take 3=[45,45,45]∨row.take 3=[46,46,46])&&(decide ((row.drop 3).take 1=[32]∨(row.drop 3).take 1=[9])||(decide (row.length=3)&&decide (1+j<Es.length)))):=rfl
 rw[hk]
 rw[s1] at m1
 rw[s2] at m2
 have g1:∀{i:Nat} {o:O},hs[i]? =some o→(hs++[O.list MY])[i]? =some o:=gl
 have gR1:=gl (r:=[O.list MY]) gR
 have gR2:=gl (r:=[O.list GG]) gR1
 have gH1:=gl (r:=[O.list GG]) (gl (r:=[O.list MY]) gH)
 have gE1:=gl (r:=[O.list GG]) (gl (r:=[O.list MY]) gE)
 rw[←s1] at m1
 rw[←s2] at m2
 rw[←s1,←s2,←q4]
 generalize decide (B1 row 0 (min 3 row.length)=[45,45,45]∨B1 row 0 (min 3 row.length)=[46,46,46])=b1 at m1 ⊢
 generalize decide (B1 row (min 3 row.length) (min 4 row.length)=[32]∨B1 row (min 3 row.length) (min 4 row.length)=[9])=b2 at m2 ⊢
 rw[←q3]
 rcases b1 with _|_
 ·refine⟨hs++[O.list MY],Aq.app hs,fun z=>(AI z).elim,fun zz out s' e=>?_⟩
  refine BJ.go (s1:=St.mk [(A8 "rows",V.obj (ri+1)),(A8 "heads",V.obj (hi+1)),(A8 "ends",V.obj (ei+1)),(A8 "k",V.int (↑(1+j):Int)),(A8 "range",V.ty "range"),(A8 "len",V.bi "len")] (a0::(hs++[O.list [V.str (A8 "---"),V.str (A8 "...")]]))) [.v .oval (some (V.int (↑(1+j):Int))),.t,.v .ob (O.list (AD sV R)),.v .nat (1+j),.v .val (sV row),.t,.a 1,.v .nat (min 3 (A9 row)),.v .ob (O.list [V.str (A8 "---"),V.str (A8 "...")]),.v .bool (false),.a 2] ?_ (an w1 (an (BA (u:=kv) (v:=V.int (↑(1+j):Int)) (h:=o) (h2:=(by rfl))) (an gR (an i1 (an i2 (an (As (n:=A9 row) (h:=hz)) (an (BR (n:=A9 row) (k:=3) (d:=A9 row)) (an (ga (l:=hs) (o:=O.list [V.str (A8 "---"),V.str (A8 "...")]) (r:=[])) (an m1 trivial))))))))) (by kernel_rfl)
  exact e
 ·rcases b2 with _|_
  ·refine⟨hs++[O.list MY]++[O.list GG],(Aq.app hs).trans (Aq.app _),fun z=>?_,fun z out s' e=>?_⟩
   ·have z:=AJ.mp (show(decide ((row.length:Int)=3)&&decide (((1+j:Nat):Int)<((Es.map sV).length:Int)))=true from z)
    have z1:=z.1
    have z2:=z.2
    exact BJ.by [.v .oval (some (V.int (↑(1+j):Int))),.t,.v .ob (O.list (AD sV R)),.v .nat (1+j),.v .val (sV row),.t,.a 1,.v .nat (min 3 (A9 row)),.v .ob (O.list [V.str (A8 "---"),V.str (A8 "...")]),.v .bool (true),.a 1,.v .ob (O.list (AD sV R)),.v .nat (1+j),.v .val (sV row),.t,.v .nat (min 3 (A9 row)),.v .nat (min 4 (A9 row)),.v .ob (O.list [V.str (A8 " "),V.str (A8 "\t")]),.v .bool (false),.a 1,.v .ob (O.list (AD sV R)),.v .nat (1+j),.v .val (sV row),.t,.t,.v .ob (O.list (AD sV Es)),.t,.t,.a 3,.v .ob (O.list (AD iV H)),.v .nat (1+j),.v .val (iV h)] (an w1 (an (BA (u:=kv) (v:=V.int (↑(1+j):Int)) (h:=o) (h2:=(by rfl))) (an gR (an i1 (an i2 (an (As (n:=A9 row) (h:=hz)) (an (BR (n:=A9 row) (k:=3) (d:=A9 row)) (an (ga (l:=hs) (o:=O.list [V.str (A8 "---"),V.str (A8 "...")]) (r:=[])) (an m1 (an gR1 (an i1 (an i2 (an (As (n:=A9 row) (h:=hz)) (an (BR (n:=A9 row) (k:=3) (d:=0)) (an (BR (n:=A9 row) (k:=4) (d:=A9 row)) (an (ga (l:=hs++[O.list [V.str (A8 "---"),V.str (A8 "...")]]) (o:=O.list [V.str (A8 " "),V.str (A8 "\t")]) (r:=[])) (an m2 (an gR2 (an i1 (an i2 (an (As (n:=A9 row) (h:=hz)) (an z1 (an gE1 (an oE (an z2 (an gH1 (an i3 (an i4 trivial)))))))))))))))))))))))))))) (by kernel_rfl)
   ·rcases Bool.and_eq_false_iff.mp (show(decide ((row.length:Int)=3)&&decide (((1+j:Nat):Int)<((Es.map sV).length:Int)))=false from z) with z1|z2
    ·refine BJ.go (s1:=St.mk [(A8 "rows",V.obj (ri+1)),(A8 "heads",V.obj (hi+1)),(A8 "ends",V.obj (ei+1)),(A8 "k",V.int (↑(1+j):Int)),(A8 "range",V.ty "range"),(A8 "len",V.bi "len")] (a0::(hs++[O.list [V.str (A8 "---"),V.str (A8 "...")]]++[O.list [V.str (A8 " "),V.str (A8 "\t")]]))) [.v .oval (some (V.int (↑(1+j):Int))),.t,.v .ob (O.list (AD sV R)),.v .nat (1+j),.v .val (sV row),.t,.a 1,.v .nat (min 3 (A9 row)),.v .ob (O.list [V.str (A8 "---"),V.str (A8 "...")]),.v .bool (true),.a 1,.v .ob (O.list (AD sV R)),.v .nat (1+j),.v .val (sV row),.t,.v .nat (min 3 (A9 row)),.v .nat (min 4 (A9 row)),.v .ob (O.list [V.str (A8 " "),V.str (A8 "\t")]),.v .bool (false),.a 1,.v .ob (O.list (AD sV R)),.v .nat (1+j),.v .val (sV row),.t,.f,.a 3] ?_ (an w1 (an (BA (u:=kv) (v:=V.int (↑(1+j):Int)) (h:=o) (h2:=(by rfl))) (an gR (an i1 (an i2 (an (As (n:=A9 row) (h:=hz)) (an (BR (n:=A9 row) (k:=3) (d:=A9 row)) (an (ga (l:=hs) (o:=O.list [V.str (A8 "---"),V.str (A8 "...")]) (r:=[])) (an m1 (an gR1 (an i1 (an i2 (an (As (n:=A9 row) (h:=hz)) (an (BR (n:=A9 row) (k:=3) (d:=0)) (an (BR (n:=A9 row) (k:=4) (d:=A9 row)) (an (ga (l:=hs++[O.list [V.str (A8 "---"),V.str (A8 "...")]]) (o:=O.list [V.str (A8 " "),V.str (A8 "\t")]) (r:=[])) (an m2 (an gR2 (an i1 (an i2 (an (As (n:=A9 row) (h:=hz)) (an z1 trivial)))))))))))))))))))))) (by kernel_rfl)
     exact e
    ·rcases z1:decide ((row.length:Int)=3) with _|_
     ·refine BJ.go (s1:=St.mk [(A8 "rows",V.obj (ri+1)),(A8 "heads",V.obj (hi+1)),(A8 "ends",V.obj (ei+1)),(A8 "k",V.int (↑(1+j):Int)),(A8 "range",V.ty "range"),(A8 "len",V.bi "len")] (a0::(hs++[O.list [V.str (A8 "---"),V.str (A8 "...")]]++[O.list [V.str (A8 " "),V.str (A8 "\t")]]))) [.v .oval (some (V.int (↑(1+j):Int))),.t,.v .ob (O.list (AD sV R)),.v .nat (1+j),.v .val (sV row),.t,.a 1,.v .nat (min 3 (A9 row)),.v .ob (O.list [V.str (A8 "---"),V.str (A8 "...")]),.v .bool (true),.a 1,.v .ob (O.list (AD sV R)),.v .nat (1+j),.v .val (sV row),.t,.v .nat (min 3 (A9 row)),.v .nat (min 4 (A9 row)),.v .ob (O.list [V.str (A8 " "),V.str (A8 "\t")]),.v .bool (false),.a 1,.v .ob (O.list (AD sV R)),.v .nat (1+j),.v .val (sV row),.t,.f,.a 3] ?_ (an w1 (an (BA (u:=kv) (v:=V.int (↑(1+j):Int)) (h:=o) (h2:=(by rfl))) (an gR (an i1 (an i2 (an (As (n:=A9 row) (h:=hz)) (an (BR (n:=A9 row) (k:=3) (d:=A9 row)) (an (ga (l:=hs) (o:=O.list [V.str (A8 "---"),V.str (A8 "...")]) (r:=[])) (an m1 (an gR1 (an i1 (an i2 (an (As (n:=A9 row) (h:=hz)) (an (BR (n:=A9 row) (k:=3) (d:=0)) (an (BR (n:=A9 row) (k:=4) (d:=A9 row)) (an (ga (l:=hs++[O.list [V.str (A8 "---"),V.str (A8 "...")]]) (o:=O.list [V.str (A8 " "),V.str (A8 "\t")]) (r:=[])) (an m2 (an gR2 (an i1 (an i2 (an (As (n:=A9 row) (h:=hz)) (an z1 trivial)))))))))))))))))))))) (by kernel_rfl)
      exact e
     ·refine BJ.go (s1:=St.mk [(A8 "rows",V.obj (ri+1)),(A8 "heads",V.obj (hi+1)),(A8 "ends",V.obj (ei+1)),(A8 "k",V.int (↑(1+j):Int)),(A8 "range",V.ty "range"),(A8 "len",V.bi "len")] (a0::(hs++[O.list [V.str (A8 "---"),V.str (A8 "...")]]++[O.list [V.str (A8 " "),V.str (A8 "\t")]]))) [.v .oval (some (V.int (↑(1+j):Int))),.t,.v .ob (O.list (AD sV R)),.v .nat (1+j),.v .val (sV row),.t,.a 1,.v .nat (min 3 (A9 row)),.v .ob (O.list [V.str (A8 "---"),V.str (A8 "...")]),.v .bool (true),.a 1,.v .ob (O.list (AD sV R)),.v .nat (1+j),.v .val (sV row),.t,.v .nat (min 3 (A9 row)),.v .nat (min 4 (A9 row)),.v .ob (O.list [V.str (A8 " "),V.str (A8 "\t")]),.v .bool (false),.a 1,.v .ob (O.list (AD sV R)),.v .nat (1+j),.v .val (sV row),.t,.t,.v .ob (O.list (AD sV Es)),.t,.f,.a 3] ?_ (an w1 (an (BA (u:=kv) (v:=V.int (↑(1+j):Int)) (h:=o) (h2:=(by rfl))) (an gR (an i1 (an i2 (an (As (n:=A9 row) (h:=hz)) (an (BR (n:=A9 row) (k:=3) (d:=A9 row)) (an (ga (l:=hs) (o:=O.list [V.str (A8 "---"),V.str (A8 "...")]) (r:=[])) (an m1 (an gR1 (an i1 (an i2 (an (As (n:=A9 row) (h:=hz)) (an (BR (n:=A9 row) (k:=3) (d:=0)) (an (BR (n:=A9 row) (k:=4) (d:=A9 row)) (an (ga (l:=hs++[O.list [V.str (A8 "---"),V.str (A8 "...")]]) (o:=O.list [V.str (A8 " "),V.str (A8 "\t")]) (r:=[])) (an m2 (an gR2 (an i1 (an i2 (an (As (n:=A9 row) (h:=hz)) (an z1 (an gE1 (an oE (an z2 trivial))))))))))))))))))))))))) (by kernel_rfl)
      exact e
  ·refine⟨hs++[O.list MY]++[O.list GG],(Aq.app hs).trans (Aq.app _),fun zz=>?_,fun z=>(AI z.symm).elim⟩
   exact BJ.by [.v .oval (some (V.int (↑(1+j):Int))),.t,.v .ob (O.list (AD sV R)),.v .nat (1+j),.v .val (sV row),.t,.a 1,.v .nat (min 3 (A9 row)),.v .ob (O.list [V.str (A8 "---"),V.str (A8 "...")]),.v .bool (true),.a 1,.v .ob (O.list (AD sV R)),.v .nat (1+j),.v .val (sV row),.t,.v .nat (min 3 (A9 row)),.v .nat (min 4 (A9 row)),.v .ob (O.list [V.str (A8 " "),V.str (A8 "\t")]),.v .bool (true),.a 3,.v .ob (O.list (AD iV H)),.v .nat (1+j),.v .val (iV h)] (an w1 (an (BA (u:=kv) (v:=V.int (↑(1+j):Int)) (h:=o) (h2:=(by rfl))) (an gR (an i1 (an i2 (an (As (n:=A9 row) (h:=hz)) (an (BR (n:=A9 row) (k:=3) (d:=A9 row)) (an (ga (l:=hs) (o:=O.list [V.str (A8 "---"),V.str (A8 "...")]) (r:=[])) (an m1 (an gR1 (an i1 (an i2 (an (As (n:=A9 row) (h:=hz)) (an (BR (n:=A9 row) (k:=3) (d:=0)) (an (BR (n:=A9 row) (k:=4) (d:=A9 row)) (an (ga (l:=hs++[O.list [V.str (A8 "---"),V.str (A8 "...")]]) (o:=O.list [V.str (A8 " "),V.str (A8 "\t")]) (r:=[])) (an m2 (an gH1 (an i3 (an i4 trivial)))))))))))))))))))) (by kernel_rfl)
end
theorem Oy:∀{n:Nat} {L:List Cy},(JO n L).length=L.length
 |_,[]=>rfl
 |_,_::L=>congrArg (·+1) (Oy (L:=L))
noncomputable def HU:Option Nat→V
 |none=>.int (-1)
 |some m=>iV m
theorem GW {α:Type}{l t:List α}{j:Nat}{x:α}(e:l.drop j=x::t):l[j]? =some x:=by rw[←Nat.add_zero j,←List.getElem?_drop,e];rfl
theorem Gn {α:Type}{l t:List α}{j:Nat}{x:α}(e:l.drop j=x::t):l.drop (j+1)=t:=by rw[←List.drop_drop,e];rfl
theorem MS {α:Type}{l t:List α}{j:Nat}{x:α}(e:l.drop j=x::t):decide (1+j<l.length)= !t.isEmpty:=by
 have:=congrArg A9 e
 rw[Dp,AX] at this
 rcases t with _|⟨y,t⟩
 ·exact decide_eq_false (by rw[Bk] at this;lia)
 ·exact decide_eq_true (by rw[AX] at this;lia)
theorem IY.ext {hs hs':List O}{ri hi ei:Nat}{R Es:List (List Nat)}{H:List Nat}(x:Aq hs hs')(r:IY hs ri hi ei R H Es):IY hs' ri hi ei R H Es:=⟨x.get r.rw_,x.get r.he,x.get r.en⟩
section
variable {ns:List Int}{d:Nat}{a0:O}{ri hi ei n:Nat}{r0:List Nat}{L0:List Cy}
theorem Xc {hs:List O}{j N:Nat}{kv:V}(h:N≤1+j):BJ (S ns) (d+2) (wT Ix) (.rng 1 (N:Int)) j (wB Ix) ⟨FR ri hi ei kv,a0::hs⟩ .next ⟨FR ri hi ei kv,a0::hs⟩:=by
 have w1:=Wj h
 exact BJ.by [.v .oval (none)] (an w1 trivial) (by kernel_rfl)
theorem Wy (hL:L0.length+1≤lim)(hr:∀q∈L0,q.2.2.length≤lim):∀{L:List Cy} {j m:Nat} {hs:List O} {kv:V},L0.drop j=L→(JO n L0).drop j=JO m L→IY hs ri hi ei (r0::L0.map (·.2.2)) (0::JO n L0) (L0.map (·.2.1))→Cn kv=true→
  ∃hs' kv',Aq hs hs'∧(DQ m L=none→BJ (S ns) (d+2) (wT Ix) (.rng 1 ((r0::L0.map (·.2.2)).length:Int)) j (wB Ix) ⟨FR ri hi ei kv,a0::hs⟩ .next ⟨FR ri hi ei kv',a0::hs'⟩)∧
   (∀h,DQ m L=some h→BJ (S ns) (d+2) (wT Ix) (.rng 1 ((r0::L0.map (·.2.2)).length:Int)) j (wB Ix) ⟨FR ri hi ei kv,a0::hs⟩ (.ret (iV h)) ⟨FR ri hi ei kv',a0::hs'⟩):=by
 intro L
 induction L with
 |nil=>
  intro j m hs kv e eh r o
  refine⟨hs,kv,.refl _,fun zz=>Xc ?_,fun h z=>AP z⟩
  rw[AX,AQ,Bv 1]
  exact CX (List.drop_eq_nil_iff.mp e)
 |cons q L ih=>
  intro j m hs kv e eh r o
  have gq:=GW e
  have gr:(r0::L0.map (·.2.2))[1+j]? =some q.2.2:=by rw[Bv 1,List.getElem?_cons_succ,Bn,gq];rfl
  have gh:(0::JO n L0)[1+j]? =some (m+q.1.length):=by rw[Bv 1,List.getElem?_cons_succ];exact GW eh
  refine Dx (WK (ns:=ns) (d:=d) (a0:=a0) r (by rw[AX,AQ];exact hL) (by rw[AX,Oy];exact hL) (by rw[AQ];exact BO hL) gr gh (hr _ (List.mem_of_getElem? gq)) o) fun hs2 x t f=>?_
  rw[AQ,MS e] at t f
  refine BF (ih (kv:=iV (1+j)) (Gn e) (Gn eh) (r.ext x) rfl) fun hs3 kv3 x3 n3 s3=>?_
  show ∃hs' kv',Aq hs hs'∧((bif HX q.2.2 (!L.isEmpty) then some (m+q.1.length) else DQ (m+q.1.length+q.2.2.length) L)=none→_)∧(∀h,(bif HX q.2.2 (!L.isEmpty) then some (m+q.1.length) else DQ (m+q.1.length+q.2.2.length) L)=some h→_)
  rcases z:HX q.2.2 (!L.isEmpty) with _|_
  ·exact⟨hs3,kv3,x.trans x3,fun w=>f z (n3 w),fun h w=>f z (s3 h w)⟩
  ·exact⟨hs2,_,x,fun w=>AP w.symm,fun h w=>AH w▸t z⟩
theorem Y0 {hs:List O}(r:IY hs ri hi ei (r0::L0.map (·.2.2)) (0::JO n L0) (L0.map (·.2.1)))(hL:L0.length+1≤lim)(hr:∀q∈L0,q.2.2.length≤lim):
  ∃hs',Aq hs hs'∧AK (S ns) (d+2) 41 [.obj (ri+1),.obj (hi+1),.obj (ei+1)] [] (a0::hs) (HU (DQ n L0)) (a0::hs'):=by
 refine BF (Wy (ns:=ns) (d:=d) (a0:=a0) (kv:=.undef) (j:=0) hL hr rfl rfl r rfl) fun hs2 kv x nn ss=>⟨hs2,x,?_⟩
 have gR:=r.rw_
 have oR:BE ((r0::L0.map (·.2.2)).map sV).length=true:=As (by rw[AQ,AX,AQ];exact hL)
 rw[←AQ (f:=sV)] at nn ss
 rcases e:DQ n L0 with _|m
 ·have w:=nn e
  exact AK.by [.v .ob (O.list (AD sV (r0::AD (fun x=>Prod.snd (Prod.snd x)) L0))),.t,.t,.t,.w (Fl.next) (St.mk (FR ri hi ei kv) (a0::hs2))] (an gR (an oR (an oR (an oR (an w trivial))))) (by kernel_rfl)
 ·have w:=ss m e
  exact AK.by [.v .ob (O.list (AD sV (r0::AD (fun x=>Prod.snd (Prod.snd x)) L0))),.t,.t,.t,.w (Fl.ret (iV m)) (St.mk (FR ri hi ei kv) (a0::hs2))] (an gR (an oR (an oR (an oR (an w trivial))))) (by kernel_rfl)
end
theorem Ss {α:Type}(x:α)(l:List α):B1 (x::l) (min 1 (x::l).length) (x::l).length=l:=by
 unfold B1
 rw[List.take_length,Nat.min_eq_left (show 1≤(x::l).length from BP 1 _)]
 rfl
theorem Su (x:Nat)(l:List Nat):B1 (x::l) 0 (min 1 (x::l).length)=[x]:=by
 have:=Gf (B:=x::l) 0 1
 rw[Nat.zero_min] at this
 exact this
noncomputable def Dm (c:Nat):Bool:=decide (c∈[32,9])
theorem SM (c:Nat):decide ([c]=[32]∨[c]=[9])=Dm c:=decide_eq_decide.mpr (by
 rw[AU,AY]
 exact or_congr ⟨fun z=>(AZ z).1,fun z=>by rw[z]⟩ ⟨fun z=>(AZ z).1,fun z=>by rw[z]⟩)
noncomputable def GQ:Bool→List Nat→List Nat
 |false,r=>r
 |true,r=>r.dropWhile Dm
noncomputable def Gu:Bool→List Nat→List Nat
 |false,r=>r
 |true,r=>(r.reverse.dropWhile Dm).reverse
noncomputable def ME:Stmt:=Bo (BZ 42) 0
noncomputable def MB:Stmt:=Bo (BZ 42) 1
noncomputable def M9:Stmt:=Bo (BZ 42) 4
noncomputable abbrev Cf (row:List Nat)(lb rb:Bool)(tl at_:V):List (Str×V):=[("row",sV row),("left",.bool lb),("right",.bool rb),("told",tl),("at",at_),("len",.bi "len")]
section
variable {ns:List Int}{d:Nat}{a0:O}{lb rb:Bool}
theorem Yo:∀{row:List Nat} {hs:List O},row.length≤lim→∃hs',Aq hs hs'∧An (S ns) (d+2) (wT ME) (wB ME) ⟨Cf row lb rb .undef .undef,a0::hs⟩ .next ⟨Cf (GQ lb row) lb rb .undef .undef,a0::hs'⟩:=by
 rcases lb with _|_
 ·intro row hs hz
  refine⟨hs,.refl _,?_⟩
  show An (S ns) (d+2) (wT ME) (wB ME) ⟨Cf row false rb .undef .undef,a0::hs⟩ .next ⟨Cf row false rb .undef .undef,a0::hs⟩
  exact An.by [.a 2] trivial (by kernel_rfl)
 ·intro row
  induction row with
  |nil=>
   intro hs hz
   refine⟨hs++[O.list GG],Aq.app hs,?_⟩
   have m:=LN (B1 [] 0 (min 1 ([]:List Nat).length))
   show An (S ns) (d+2) (wT ME) (wB ME) ⟨Cf [] true rb .undef .undef,a0::hs⟩ .next ⟨Cf [] true rb .undef .undef,a0::(hs++[O.list GG])⟩
   have m:Fe (sV (B1 [] 0 (min 1 ([]:List Nat).length))) GG=some false:=m
   exact An.by [.a 4,.v .ob (O.list [V.str (A8 " "),V.str (A8 "\t")]),.a 3] (an (ga (l:=hs) (o:=O.list [V.str (A8 " "),V.str (A8 "\t")]) (r:=[])) trivial) (by kernel_rfl)
  |cons c row ih=>
   intro hs hz
   have m:=LN (B1 (c::row) 0 (min 1 (c::row).length))
   rw[show decide (B1 (c::row) 0 (min 1 (c::row).length)=[32]∨B1 (c::row) 0 (min 1 (c::row).length)=[9])=Dm c by rw[Su];exact SM c] at m
   have o:BE (c::row).length=true:=As hz
   have sl:=Ss c row
   rcases e:Dm c with _|_
   ·rw[e] at m
    refine⟨hs++[O.list GG],Aq.app hs,?_⟩
    rw[show GQ true (c::row)=c::row from List.dropWhile_cons_of_neg (fun z=>AI (e.symm.trans z))]
    exact An.by [.a 1,.t,.a 1,.v .nat (min 1 (A9 (c::row))),.v .ob (O.list [V.str (A8 " "),V.str (A8 "\t")]),.v .bool (false),.a 2] (an o (an (BR (n:=A9 (c::row)) (k:=1) (d:=A9 (c::row))) (an (ga (l:=hs) (o:=O.list [V.str (A8 " "),V.str (A8 "\t")]) (r:=[])) (an m trivial)))) (by kernel_rfl)
   ·rw[e] at m
    refine AS (ih (hs:=hs++[O.list GG]) (BO hz)) fun hs' x w=>⟨hs',(Aq.app hs).trans x,?_⟩
    rw[show GQ true (c::row)=GQ true row from List.dropWhile_cons_of_pos e]
    have w:An (S ns) (d+2) (wT ME) (wB ME) ⟨Cf (B1 (c::row) (min 1 (c::row).length) (c::row).length) true rb .undef .undef,a0::(hs++[O.list GG])⟩ .next ⟨Cf (GQ true row) true rb .undef .undef,a0::hs'⟩:=by rw[sl];exact w
    refine An.go (s1:=St.mk [(A8 "row",V.str (Str.mk (AG (B1 (Array.toList (AG (c::row))) (min 1 (A9 row+1)) (A9 (c::row)))))),(A8 "left",V.bool true),(A8 "right",V.bool rb),(A8 "told",V.undef),(A8 "at",V.undef),(A8 "len",V.bi "len")] (a0::(hs++[O.list [V.str (A8 " "),V.str (A8 "\t")]]))) [.a 1,.t,.a 1,.v .nat (min 1 (A9 (c::row))),.v .ob (O.list [V.str (A8 " "),V.str (A8 "\t")]),.v .bool (true),.a 2,.t,.v .nat (min 1 (A9 (c::row))),.a 2] ?_ (an o (an (BR (n:=A9 (c::row)) (k:=1) (d:=A9 (c::row))) (an (ga (l:=hs) (o:=O.list [V.str (A8 " "),V.str (A8 "\t")]) (r:=[])) (an m (an o (an (BR (n:=A9 (c::row)) (k:=1) (d:=0)) trivial)))))) (by kernel_rfl)
    exact w
theorem RX {n:Nat}:(if(0:Int)≤-1 then min (-1:Int).toNat (n+1) else(-1+((n+1:Nat):Int)).toNat)=n:=by
 rw[if_neg (by decide)];lia
theorem YZ:∀{rr:List Nat} {hs:List O},rr.length≤lim→∃hs',Aq hs hs'∧An (S ns) (d+2) (wT MB) (wB MB) ⟨Cf rr.reverse lb rb .undef .undef,a0::hs⟩ .next ⟨Cf (Gu rb rr.reverse) lb rb .undef .undef,a0::hs'⟩:=by
 rcases rb with _|_
 ·intro row hs hz
  refine⟨hs,.refl _,?_⟩
  show An (S ns) (d+2) (wT MB) (wB MB) ⟨Cf row.reverse lb false .undef .undef,a0::hs⟩ .next ⟨Cf row.reverse lb false .undef .undef,a0::hs⟩
  exact An.by [.a 2] trivial (by kernel_rfl)
 ·intro rr
  induction rr with
  |nil=>
   intro hs hz
   refine⟨hs++[O.list GG],Aq.app hs,?_⟩
   have m:=LN (B1 [] 0 0)
   show An (S ns) (d+2) (wT MB) (wB MB) ⟨Cf [] lb true .undef .undef,a0::hs⟩ .next ⟨Cf [] lb true .undef .undef,a0::(hs++[O.list GG])⟩
   have m:Fe (sV []) GG=some false:=m
   exact An.by [.a 4,.v .ob (O.list [V.str (A8 " "),V.str (A8 "\t")]),.a 3] (an (ga (l:=hs) (o:=O.list [V.str (A8 " "),V.str (A8 "\t")]) (r:=[])) trivial) (by kernel_rfl)
  |cons c rr ih=>
   intro hs hz
   have hl:(rr.reverse++[c]).length=rr.reverse.length+1:=AE
   have e0:(c::rr).reverse=rr.reverse++[c]:=List.reverse_cons
   have o:BE (rr.reverse++[c]).length=true:=As (by rw[←e0,List.length_reverse];exact hz)
   have sl:B1 (rr.reverse++[c]) (if(0:Int)≤-1 then min (-1:Int).toNat (rr.reverse++[c]).length else(-1+((rr.reverse++[c]).length:Int)).toNat) (rr.reverse++[c]).length=[c]:=by
    rw[hl,RX]
    unfold B1
    rw[←hl,List.take_length,List.drop_left]
   have sl2:B1 (rr.reverse++[c]) 0 (if(0:Int)≤-1 then min (-1:Int).toNat (rr.reverse++[c]).length else(-1+((rr.reverse++[c]).length:Int)).toNat)=rr.reverse:=by
    rw[hl,RX]
    unfold B1
    rw[List.drop_zero,List.take_left]
   have m:=LN (B1 (rr.reverse++[c]) (if(0:Int)≤-1 then min (-1:Int).toNat (rr.reverse++[c]).length else(-1+((rr.reverse++[c]).length:Int)).toNat) (rr.reverse++[c]).length)
   rw[show decide (B1 (rr.reverse++[c]) (if(0:Int)≤-1 then min (-1:Int).toNat (rr.reverse++[c]).length else(-1+((rr.reverse++[c]).length:Int)).toNat) (rr.reverse++[c]).length=[32]∨B1 (rr.reverse++[c]) (if(0:Int)≤-1 then min (-1:Int).toNat (rr.reverse++[c]).length else(-1+((rr.reverse++[c]).length:Int)).toNat) (rr.reverse++[c]).length=[9])=Dm c by rw[sl];exact SM c] at m
   rcases e:Dm c with _|_
   ·rw[e] at m
    refine⟨hs++[O.list GG],Aq.app hs,?_⟩
    rw[show Gu true (c::rr).reverse=rr.reverse++[c] by
     show((c::rr).reverse.reverse.dropWhile Dm).reverse=_
     rw[DB,List.dropWhile_cons_of_neg (fun z=>AI (e.symm.trans z)),e0],e0]
    exact An.by [.a 1,.t,.a 2,.v .ob (O.list [V.str (A8 " "),V.str (A8 "\t")]),.v .bool (false),.a 2] (an o (an (ga (l:=hs) (o:=O.list [V.str (A8 " "),V.str (A8 "\t")]) (r:=[])) (an m trivial))) (by kernel_rfl)
   ·rw[e] at m
    refine AS (ih (hs:=hs++[O.list GG]) (BO hz)) fun hs' x w=>⟨hs',(Aq.app hs).trans x,?_⟩
    rw[show Gu true (c::rr).reverse=Gu true rr.reverse by
     show((c::rr).reverse.reverse.dropWhile Dm).reverse=(rr.reverse.reverse.dropWhile Dm).reverse
     rw[DB,DB,List.dropWhile_cons_of_pos e],e0]
    have w:An (S ns) (d+2) (wT MB) (wB MB) ⟨Cf (B1 (rr.reverse++[c]) 0 (if(0:Int)≤-1 then min (-1:Int).toNat (rr.reverse++[c]).length else(-1+((rr.reverse++[c]).length:Int)).toNat)) lb true .undef .undef,a0::(hs++[O.list GG])⟩ .next ⟨Cf (Gu true rr.reverse) lb true .undef .undef,a0::hs'⟩:=by rw[sl2];exact w
    refine An.go (s1:=St.mk [(A8 "row",V.str (Str.mk (AG (B1 (Array.toList (AG (List.reverse rr++[c]))) 0 (if 0≤-1 then min (Int.toNat (-1)) (A9 (List.reverse rr++[c])) else Int.toNat (-1+(↑(A9 (List.reverse rr++[c])):Int))))))),(A8 "left",V.bool lb),(A8 "right",V.bool true),(A8 "told",V.undef),(A8 "at",V.undef),(A8 "len",V.bi "len")] (a0::(hs++[O.list [V.str (A8 " "),V.str (A8 "\t")]]))) [.a 1,.t,.a 2,.v .ob (O.list [V.str (A8 " "),V.str (A8 "\t")]),.v .bool (true),.a 2,.t,.a 3] ?_ (an o (an (ga (l:=hs) (o:=O.list [V.str (A8 " "),V.str (A8 "\t")]) (r:=[])) (an m (an o trivial)))) (by kernel_rfl)
    exact w
end
noncomputable def Cs (lb rb:Bool)(row:List Nat):List Nat:=(Cd (Gu rb (GQ lb row))).map (·.1)
section
variable {ns:List Int}{d:Nat}{a0:O}{hs:List O}{lb rb:Bool}{r:List Nat}
theorem Lh {p:Nat}{tl:V}(h:r.drop p=[])(hz:r.length≤lim):An (S ns) (d+2) (wT M9) (wB M9) ⟨Cf r lb rb tl (iV p),a0::hs⟩ .next ⟨Cf r lb rb tl (iV p),a0::hs⟩:=by
 have q1:decide ((p:Int)<(r.length:Int))=false:=decide_eq_false (fun z=>DR.mpr (List.drop_eq_nil_iff.mp h) (Bl.mp z))
 exact An.by [.t,.f] (an (As (n:=A9 r) (h:=hz)) (an q1 trivial)) (by kernel_rfl)
theorem KJ {p c:Nat}{acc u:List Nat}{s':St}(t:Tx r p (c::u))(hz:acc.length+1≤lim)(e:An (S ns) (d+2) (wT M9) (wB M9) ⟨Cf r lb rb (sV (acc++[c])) (iV (p+if c=39 then 2 else 1)),a0::hs⟩ .next s'):
  An (S ns) (d+2) (wT M9) (wB M9) ⟨Cf r lb rb (sV acc) (iV p),a0::hs⟩ .next s':=by
 have g:=t.get
 have lt:=Hj g
 have hB:=t.z
 have q1:decide ((p:Int)<(r.length:Int))=true:=decide_eq_true (Bl.mpr lt)
 have i1:=Gk lt hB
 have oc:BE (acc.length+1)=true:=As hz
 rw[show sV (acc++[c])= .str (⟨acc.toArray⟩++⟨#[c]⟩) from congrArg V.str (Hw acc [c]).symm] at e
 by_cases hc:c=39
 ·have q2:decide ((⟨#[c]⟩:Str)=A8 "'")=true:=Ih (l:=[c]) (L:=[39]) (by decide) (by rw[hc])
  rw[if_pos hc] at e
  refine An.go (s1:=St.mk [(A8 "row",V.str (Str.mk (AG r))),(A8 "left",V.bool lb),(A8 "right",V.bool rb),(A8 "told",V.str (Str.mk (AG acc)++Str.mk #[c])),(A8 "at",V.int (↑(p+2):Int)),(A8 "len",V.bi "len")] (a0::hs)) [.t,.t,.v .nat (p),.v .nat (c),.t,.a 1,.v .nat (p),.v .nat (c),.t,.a 1] ?_ (an (As (n:=A9 r) (h:=hB)) (an q1 (an i1 (an (IF (B:=r) (k:=p) (c:=c) (h:=g)) (an oc (an i1 (an (IF (B:=r) (k:=p) (c:=c) (h:=g)) (an q2 trivial)))))))) (by kernel_rfl)
  exact e
 ·have q2:decide ((⟨#[c]⟩:Str)=A8 "'")=false:=Gb (l:=[c]) (L:=[39]) (by decide) (fun z=>hc (AZ z).1)
  rw[if_neg hc] at e
  refine An.go (s1:=St.mk [(A8 "row",V.str (Str.mk (AG r))),(A8 "left",V.bool lb),(A8 "right",V.bool rb),(A8 "told",V.str (Str.mk (AG acc)++Str.mk #[c])),(A8 "at",V.int (↑(p+1):Int)),(A8 "len",V.bi "len")] (a0::hs)) [.t,.t,.v .nat (p),.v .nat (c),.t,.a 1,.v .nat (p),.v .nat (c),.f,.a 1] ?_ (an (As (n:=A9 r) (h:=hB)) (an q1 (an i1 (an (IF (B:=r) (k:=p) (c:=c) (h:=g)) (an oc (an i1 (an (IF (B:=r) (k:=p) (c:=c) (h:=g)) (an q2 trivial)))))))) (by kernel_rfl)
  exact e
theorem YU (N:Nat):∀{u acc:List Nat} {p:Nat},u.length≤N→Tx r p u→acc.length+u.length≤lim→∃p',An (S ns) (d+2) (wT M9) (wB M9) ⟨Cf r lb rb (sV acc) (iV p),a0::hs⟩ .next ⟨Cf r lb rb (sV (acc++(Cd u).map (·.1))) (iV p'),a0::hs⟩:=by
 induction N with
 |zero=>
  intro u acc p hN t hz
  have e:=B5.mp (Nat.le_zero.mp hN)
  subst e
  refine⟨p,?_⟩
  show An _ _ _ _ _ _ ⟨Cf r lb rb (sV (acc++[])) (iV p),a0::hs⟩
  rw[AR]
  exact Lh t.at_ t.z
 |succ N ih=>
  intro u acc p hN t hz
  rcases u with _|⟨c,u⟩
  ·refine⟨p,?_⟩
   show An _ _ _ _ _ _ ⟨Cf r lb rb (sV (acc++[])) (iV p),a0::hs⟩
   rw[AR]
   exact Lh t.at_ t.z
  rw[J6]
  have hz1:acc.length+1≤lim:=AL (CL (BP 1 u.length) _) hz
  have t1:=t.skip (x:=[c])
  by_cases hc:c=39
  ·rw[if_pos hc]
   rcases u with _|⟨c2,u⟩
   ·refine⟨p+2,KJ t hz1 ?_⟩
    rw[if_pos hc,hc]
    exact Lh (List.drop_eq_nil_iff.mpr (Ck (List.drop_eq_nil_iff.mp t1.at_))) t.z
   ·refine EB (ih (u:=u) (acc:=acc++[c]) (p:=p+2) (BO (Nat.le_of_succ_le_succ hN)) (t1.skip (x:=[c2])) (by rw[AE];exact AL (Nat.add_le_add_right (AT _) _) (by rw[AX,AX] at hz;rw[D1];lia))) fun p' w=>⟨p',KJ t hz1 ?_⟩
    rw[if_pos hc]
    rw[AC,hc] at w
    rw[hc]
    exact w
  ·rw[if_neg hc]
   refine EB (ih (u:=u) (acc:=acc++[c]) (p:=p+1) (Nat.le_of_succ_le_succ hN) t1 (by rw[AE];rw[AX] at hz;rw[D1];lia)) fun p' w=>⟨p',KJ t hz1 ?_⟩
   rw[if_neg hc]
   rw[AC] at w
   exact w
theorem KW {α:Type}(f:α→Bool):∀l:List α,(l.dropWhile f).length≤l.length
 |[]=>AT _
 |a::l=>by
  rcases e:f a with _|_
  ·rw[List.dropWhile_cons_of_neg (by rw[e];exact AI)];exact AT _
  ·rw[List.dropWhile_cons_of_pos e];exact Ck (KW f l)
theorem Ot {row:List Nat}:(GQ lb row).length≤row.length:=by
 rcases lb with _|_
 ·exact AT _
 ·exact KW _ _
theorem On {row:List Nat}:(Gu rb row).length≤row.length:=by
 rcases rb with _|_
 ·exact AT _
 ·show(row.reverse.dropWhile Dm).reverse.length≤_
  rw[List.length_reverse]
  exact AL (KW _ _) (CI List.length_reverse)
theorem Xz (hz:r.length≤lim):∃hs',Aq hs hs'∧AK (S ns) (d+2) 42 [sV r,.bool lb,.bool rb] [] (a0::hs) (sV (Cs lb rb r)) (a0::hs'):=by
 refine AS (Yo (ns:=ns) (d:=d) (a0:=a0) (lb:=lb) (rb:=rb) (hs:=hs) hz) fun hs1 x1 w1=>?_
 have l1:=AL (Ot (lb:=lb)) hz
 refine AS (YZ (ns:=ns) (d:=d) (a0:=a0) (lb:=lb) (rb:=rb) (rr:=(GQ lb r).reverse) (hs:=hs1) (by rw[List.length_reverse];exact l1)) fun hs2 x2 w2=>?_
 rw[DB] at w2
 have l2:=AL (On (rb:=rb)) l1
 refine EB (YU (ns:=ns) (d:=d) (a0:=a0) (hs:=hs2) (lb:=lb) (rb:=rb) (r:=Gu rb (GQ lb r)) _ (acc:=[]) (p:=0) (AT _) ⟨rfl,l2⟩ (by rw[Bk,C2];exact l2)) fun p' w3=>⟨hs2,x1.trans x2,?_⟩
 rw[C7] at w3
 rw[←Mf] at w3
 exact AK.by [.w (Fl.next) (St.mk (Cf (GQ lb r) lb rb V.undef V.undef) (a0::hs1)),.w (Fl.next) (St.mk (Cf (Gu rb (GQ lb r)) lb rb V.undef V.undef) (a0::hs2)),.a 2,.w (Fl.next) (St.mk (Cf (Gu rb (GQ lb r)) lb rb (sV (AD (fun x=>Prod.fst x) (Cd (List.drop 0 (Gu rb (GQ lb r)))))) (iV p')) (a0::hs2))] (an w1 (an w2 (an w3 trivial))) (by kernel_rfl)
end
set_option backward.match.sparseCases false in
noncomputable def HC:Expr→Expr
 | .ListComp e _ _ _=>e
 |e=>e
noncomputable def H5:Expr→Expr
 | .ListComp _ [⟨t,_,_,_⟩] _ _=>t
 |e=>e
noncomputable def LA:Expr→List Expr
 | .ListComp _ [⟨_,_,l,_⟩] _ _=>l
 |_=>[]
noncomputable def ZM:Stmt→Expr
 | .Assign _ v ..=>v
 |_=>.Constant .none 0 default
noncomputable def JS:Expr:=ZM (Bo (BZ 43) 0)
noncomputable abbrev KR (ci:Nat)(k row:V):List (Str×V):=[(".0",.undef),("k",k),("row",row),("_law_bare",.fn 42),("len",.bi "len"),("ends",.cref (ci+1))]
theorem IL {n m:Nat}(h:n≤m):EF n m=true:=Nat.ble_eq.mpr h
theorem CS.get {c j:Nat}{h h':List O}{o:O}(x:CS c h h')(hj:j≠c)(e:h[j]? =some o):h'[j]? =some o:=(x.2.1 j hj (AM.mp e).1).trans e
section
variable {ns:List Int}{d:Nat}{a0:O}{hs:List O}{ri ei ci bi k:Nat}{R Es acc:List (List Nat)}{row:List Nat}{kv rv:V}
theorem UN (gR:hs[ri]? =some (.list (R.map sV)))(gE:hs[ei]? =some (.list (Es.map sV)))(gC:hs[ci]? =some (.cell (.obj (ei+1))))(gB:hs[bi]? =some (.list (acc.map sV)))(hE:Es.length≤lim)(hA:acc.length≤lim)(gr:R[k]? =some row)(hz:row.length≤lim)(o1:Cn kv=true)(o2:Cn rv=true):
  ∃hs2,Aq hs hs2∧∀s',E5 (S ns) (d+3) (HC JS) (H5 JS) [] (.list (ri+1) true) (k+1) (bi+1) ⟨KR ci (iV k) (sV row),a0::hs2.set bi (.list ((acc++[Cs (decide (0<k)) (decide (k<Es.length)) row]).map sV))⟩ s'→E5 (S ns) (d+3) (HC JS) (H5 JS) [] (.list (ri+1) true) k (bi+1) ⟨KR ci kv rv,a0::hs⟩ s':=by
 have lt:=(AM.mp gr).1
 have k0:EF k (R.map sV).length=true:=IL (by rw[AQ];exact Bu lt)
 have k1:some (((R.map sV)[k]?).map (IC true k))=some (some (.tup [iV k,sV row])):=by rw[Bn,gr];rfl
 have q1:decide ((0:Int)<(k:Int))=decide (0<k):=decide_eq_decide.mpr (by lia)
 have q2:decide ((k:Int)<((Es.map sV).length:Int))=decide (k<Es.length):=decide_eq_decide.mpr (by rw[AQ];exact Bl)
 have oE:BE (Es.map sV).length=true:=As (by rw[AQ];exact hE)
 have oA:BE (acc.map sV).length=true:=As (by rw[AQ];exact hA)
 refine AS (Xz (ns:=ns) (d:=d) (a0:=a0) (hs:=hs) (lb:=decide ((0:Int)<(k:Int))) (rb:=decide ((k:Int)<((Es.map sV).length:Int))) hz) fun hs2 x e=>⟨hs2,x,fun s' n=>?_⟩
 have gB2:=x.get gB
 rw[Ae,←q1,←q2] at n
 refine E5.go (s1:=St.mk [(A8 ".0",V.undef),(A8 "k",V.int (↑k:Int)),(A8 "row",V.str (Str.mk (AG row))),(A8 "_law_bare",V.fn 42),(A8 "len",V.bi "len"),(A8 "ends",V.cref (ci+1))] (a0::Ai hs2 bi (O.list (AD sV acc++[sV (Cs (decide (0<(↑k:Int))) (decide ((↑k:Int)<(↑(A9 (AD sV Es)):Int))) row)])))) [.v .ob (O.list (AD sV R)),.t,.v .oval (some (V.tup [iV k,sV row])),.t,.t,.a 1,.v .ob (O.cell (V.obj (ei+1))),.v .ob (O.list (AD sV Es)),.t,.c (sV (Cs (decide (0<(↑k:Int))) (decide ((↑k:Int)<(↑(A9 (AD sV Es)):Int))) row)) (a0::hs2),.v .ob (O.list (AD sV acc)),.t] ?_ (an gR (an k0 (an k1 (an (BA (u:=kv) (v:=iV k) (h:=o1) (h2:=(by rfl))) (an (BA (u:=rv) (v:=sV row) (h:=o2) (h2:=(by rfl))) (an gC (an gE (an oE (an e (an gB2 (an oA trivial))))))))))) (by kernel_rfl)
 exact n
end
noncomputable def Dd:Nat→List Nat→List Cy→List (List Nat)
 |k,r,[]=>[Cs (decide (0<k)) false r]
 |k,r,q::L=>Cs (decide (0<k)) true r::Dd (k+1) q.2.2 L
section
variable {ns:List Int}{d:Nat}{a0:O}{ri ei ci bi:Nat}{r0:List Nat}{L0:List Cy}
theorem aP {hs:List O}{R:List (List Nat)}{k:Nat}{kv rv:V}(gR:hs[ri]? =some (.list (R.map sV)))(hk:k=R.length):E5 (S ns) (d+3) (HC JS) (H5 JS) [] (.list (ri+1) true) k (bi+1) ⟨KR ci kv rv,a0::hs⟩ ⟨KR ci kv rv,a0::hs⟩:=by
 have k0:EF k (R.map sV).length=true:=IL (by rw[AQ];exact CI hk)
 have k1:some (((R.map sV)[k]?).map (IC true k))=some none:=by rw[CR (by rw[AQ];exact CI hk.symm)];rfl
 exact E5.by [.v .ob (O.list (AD sV R)),.t,.v .oval (none)] (an gR (an k0 (an k1 trivial))) (by kernel_rfl)
theorem Yr (hL:L0.length+1≤lim)(hr:∀q∈L0,q.2.2.length≤lim)(n1:ri≠bi)(n2:ei≠bi)(n3:ci≠bi):∀{L:List Cy} {k:Nat} {row:List Nat} {acc:List (List Nat)} {hs:List O} {kv rv:V},L0.drop k=L→(r0::L0.map (·.2.2))[k]? =some row→k≤L0.length→hs[ri]? =some (.list ((r0::L0.map (·.2.2)).map sV))→hs[ei]? =some (.list ((L0.map (·.2.1)).map sV))→hs[ci]? =some (.cell (.obj (ei+1)))→hs[bi]? =some (.list (acc.map sV))→acc.length=k→row.length≤lim→Cn kv=true→Cn rv=true→
  ∃hs' k' r',CS bi hs hs'∧hs'[bi]? =some (.list ((acc++Dd k row L).map sV))∧E5 (S ns) (d+3) (HC JS) (H5 JS) [] (.list (ri+1) true) k (bi+1) ⟨KR ci kv rv,a0::hs⟩ ⟨KR ci k' r',a0::hs'⟩:=by
 intro L
 induction L with
 |nil=>
  intro k row acc hs kv rv e gr hk gR gE gC gB ha hz o1 o2
  refine AS (UN (ns:=ns) (d:=d) (a0:=a0) gR gE gC gB (by rw[AQ];exact BO hL) (ha▸AL hk (BO hL)) gr hz o1 o2) fun hs2 x t=>?_
  have hk2:L0.length≤k:=List.drop_eq_nil_iff.mp e
  rw[AQ,show decide (k<L0.length)=false from decide_eq_false (DR.mpr hk2)] at t
  exact⟨_,_,_,x.keep.trans (CS.setc _),gs (x.get gB),t _ (aP (R:=r0::L0.map (·.2.2)) ((x.keep.trans (CS.setc _)).get n1 gR) (by rw[AX,AQ];exact congrArg (·+1) (G9 hk hk2)))⟩
 |cons q L ih=>
  intro k row acc hs kv rv e gr hk gR gE gC gB ha hz o1 o2
  refine AS (UN (ns:=ns) (d:=d) (a0:=a0) gR gE gC gB (by rw[AQ];exact BO hL) (ha▸AL hk (BO hL)) gr hz o1 o2) fun hs2 x t=>?_
  have gq:=GW e
  have hk2:k<L0.length:=(AM.mp gq).1
  rw[AQ,show decide (k<L0.length)=true from decide_eq_true hk2] at t
  have K:=x.keep.trans (CS.setc (c:=bi) hs2 (o:=O.list ((acc++[Cs (decide (0<k)) true row]).map sV)))
  refine Hf (ih (kv:=iV k) (rv:=sV row) (Gn e) (row:=q.2.2) (by rw[List.getElem?_cons_succ,Bn,gq];rfl) hk2 (K.get n1 gR) (K.get n2 gE) (K.get n3 gC) (gs (x.get gB)) (by rw[AE,ha];rfl) (hr _ (List.mem_of_getElem? gq)) rfl rfl) fun hs3 k3 r3 K3 g3 c3=>?_
  rw[AC] at g3
  exact⟨hs3,k3,r3,K.trans K3,g3,t _ c3⟩
end
theorem Uu (l:List Nat):decide ((⟨l.toArray⟩:Str)=A8 "")=decide (l=[]):=by
 rcases l with _|⟨c,l⟩
 ·decide+kernel
 ·exact(Gb (l:=c::l) (L:=[]) (by decide) (List.cons_ne_nil _ _)).trans (decide_eq_false (List.cons_ne_nil _ _)).symm
theorem aE (l:List Nat):decide ((⟨l.toArray⟩:Str)=A8 "\n")=decide (l=[10]):=by
 by_cases h:l=[10]
 ·rw[decide_eq_true h];exact Ih (L:=[10]) (by decide) h
 ·rw[decide_eq_false h];exact Gb (L:=[10]) (by decide) h
noncomputable def Fq (p more:Bool)(l b2:List Nat):List Nat:=bif decide (l=[10])&&p then(bif more&&decide (b2=[]) then[] else[32]) else l
noncomputable def Ej:Stmt:=Bo (BZ 43) 2
noncomputable abbrev I4 (ri ci bi:Nat)(k val said:V):List (Str×V):=[("rows",.obj (ri+1)),("ends",.cref (ci+1)),("k",k),("bare",.obj (bi+1)),("value",val),("said",said),("enumerate",.ty "enumerate"),("len",.bi "len")]
theorem bS:V.str (A8 " ")=sV [32]:=congrArg V.str (show A8 " "=(⟨[32].toArray⟩:Str) by decide+kernel)
section
variable {ns:List Int}{d:Nat}{a0:O}{hs:List O}{ri ei ci bi k:Nat}{Es Bs:List (List Nat)}{l b b2' acc:List Nat}{kv sv:V}
theorem YR (gE:hs[ei]? =some (.list (Es.map sV)))(gC:hs[ci]? =some (.cell (.obj (ei+1))))(gB:hs[bi]? =some (.list (Bs.map sV)))(hE:Es.length≤lim)(hB:Bs.length≤lim)(gl_:Es[k]? =some l)(gb:Bs[k]? =some b)(gb2:Bs[k+1]? =some b2')(hz:acc.length+1+l.length+b2'.length≤lim)(o1:Cn kv=true)(o2:Cn sv=true){s':St}
  (e:BJ (S ns) (d+3) (wT Ej) (.list (ei+1) true) (k+1) (wB Ej) ⟨I4 ri ci bi (iV k) (sV (acc++(Fq (decide (k=0)|| !decide (b=[])) (decide (k+1<Es.length)) l b2'++b2'))) (sV (Fq (decide (k=0)|| !decide (b=[])) (decide (k+1<Es.length)) l b2')),a0::hs⟩ .next s'):
  BJ (S ns) (d+3) (wT Ej) (.list (ei+1) true) k (wB Ej) ⟨I4 ri ci bi kv (sV acc) sv,a0::hs⟩ .next s':=by
 have lt:=(AM.mp gl_).1
 have lb:=(AM.mp gb).1
 have lb2:=(AM.mp gb2).1
 have k0:EF k (Es.map sV).length=true:=IL (by rw[AQ];exact Bu lt)
 have k1:some (((Es.map sV)[k]?).map (IC true k))=some (some (.tup [iV k,sV l])):=by rw[Bn,gl_];rfl
 have i1:FE (k:Int) (Bs.map sV).length=some k:=Hr (by rw[AQ];exact hB) (by rw[AQ];exact lb)
 have i2:(Bs.map sV)[k]? =some (sV b):=by rw[Bn,gb];rfl
 have i3:FE ((k+1:Nat):Int) (Bs.map sV).length=some (k+1):=Hr (by rw[AQ];exact hB) (by rw[AQ];exact lb2)
 have i4:(Bs.map sV)[k+1]? =some (sV b2'):=by rw[Bn,gb2];rfl
 have oE:BE (Es.map sV).length=true:=As (by rw[AQ];exact hE)
 have q0:=aE l
 have q1:decide ((k:Int)=0)=decide (k=0):=decide_eq_decide.mpr (by lia)
 have q2:=Uu b
 have q3:=Uu b2'
 have q4:decide (((k+1:Nat):Int)<((Es.map sV).length:Int))=decide (k+1<Es.length):=decide_eq_decide.mpr (by rw[AQ];exact Bl)
 have z1:∀(st:Str) (x:List Nat),st=⟨x.toArray⟩→x.length≤1+l.length→BE (acc.length+st.cps.size)=true∧BE (((⟨acc.toArray⟩:Str)++st).cps.size+b2'.length)=true∧sV (acc++(x++b2'))= .str (((⟨acc.toArray⟩:Str)++st)++⟨b2'.toArray⟩)∧sV x= .str st:=fun st x e hx=>by
  rw[e,Hw,Hw,AC]
  refine⟨As (AL (CL hx _) (AL (BN _ b2'.length) (by rw[←BV];exact hz))),As ?_,rfl,rfl⟩
  show(acc++x).length+_≤_
  rw[AE]
  exact AL (Nat.add_le_add_right (CL hx _) _) (by rw[←BV];exact hz)
 have zl:=z1 ⟨l.toArray⟩ l rfl (BP _ _)
 have ze:=z1 (A8 "") [] (by decide+kernel) (Bx _)
 have zs:=z1 (A8 " ") [32] (by decide+kernel) (BN _ _)
 have a1:=zl.1
 have a2:=zl.2.1
 have b1:=ze.1
 have b2:=ze.2.1
 have c1:=zs.1
 have c2:=zs.2.1
 unfold Fq at e
 generalize decide (k=0)=p0 at q1 e
 generalize decide (b=[])=p1 at q2 e
 generalize decide (b2'=[])=p2 at q3 e
 generalize decide (l=[10])=p3 at q0 e
 generalize decide (k+1<Es.length)=p4 at q4 e
 rcases p3 with _|_
 ·rw[show(bif false&&(p0|| !p1) then(bif p4&&p2 then[] else[32]) else l)=l from rfl,zl.2.2.1] at e
  refine BJ.go (s1:=St.mk [(A8 "rows",V.obj (ri+1)),(A8 "ends",V.cref (ci+1)),(A8 "k",V.int (↑k:Int)),(A8 "bare",V.obj (bi+1)),(A8 "value",V.str (Str.mk (AG acc)++Str.mk (AG l)++Str.mk (AG b2'))),(A8 "said",V.str (Str.mk (AG l))),(A8 "enumerate",V.ty "enumerate"),(A8 "len",V.bi "len")] (a0::hs)) [.v .ob (O.list (AD sV Es)),.t,.v .oval (some (V.tup [iV k,sV l])),.t,.t,.f,.a 1,.t,.v .ob (O.list (AD sV Bs)),.v .nat (k+1),.v .val (sV b2'),.t,.a 1] ?_ (an gE (an k0 (an k1 (an (BA (u:=kv) (v:=iV k) (h:=o1) (h2:=(by rfl))) (an (BA (u:=sv) (v:=sV l) (h:=o2) (h2:=(by rfl))) (an q0 (an a1 (an gB (an i3 (an i4 (an a2 trivial))))))))))) (by kernel_rfl)
  exact e
 ·have key:(bif p0|| !p1 then(bif p4&&p2 then BJ (S ns) (d+3) (wT Ej) (.list (ei+1) true) (k+1) (wB Ej) ⟨I4 ri ci bi (iV k) (.str (((⟨acc.toArray⟩:Str)++A8 "")++⟨b2'.toArray⟩)) (.str (A8 "")),a0::hs⟩ .next s' else BJ (S ns) (d+3) (wT Ej) (.list (ei+1) true) (k+1) (wB Ej) ⟨I4 ri ci bi (iV k) (.str (((⟨acc.toArray⟩:Str)++A8 " ")++⟨b2'.toArray⟩)) (.str (A8 " ")),a0::hs⟩ .next s') else BJ (S ns) (d+3) (wT Ej) (.list (ei+1) true) (k+1) (wB Ej) ⟨I4 ri ci bi (iV k) (.str (((⟨acc.toArray⟩:Str)++⟨l.toArray⟩)++⟨b2'.toArray⟩)) (sV l),a0::hs⟩ .next s'):=by
   rw[←zl.2.2.1,←ze.2.2.1,←zs.2.2.1,←ze.2.2.2,←zs.2.2.2]
   rcases p0 with _|_<;>rcases p1 with _|_<;>rcases p4 with _|_<;>rcases p2 with _|_<;>exact e
  rcases p0 with _|_
  ·rcases p1 with _|_
   ·rcases p4 with _|_
    ·refine BJ.go (s1:=St.mk [(A8 "rows",V.obj (ri+1)),(A8 "ends",V.cref (ci+1)),(A8 "k",V.int (↑k:Int)),(A8 "bare",V.obj (bi+1)),(A8 "value",V.str (Str.mk (AG acc)++A8 " "++Str.mk (AG b2'))),(A8 "said",V.str (A8 " ")),(A8 "enumerate",V.ty "enumerate"),(A8 "len",V.bi "len")] (a0::hs)) [.v .ob (O.list (AD sV Es)),.t,.v .oval (some (V.tup [iV k,sV l])),.t,.t,.t,.f,.v .ob (O.list (AD sV Bs)),.v .nat (k),.v .val (sV b),.t,.a 2,.v .ob (O.cell (V.obj (ei+1))),.v .ob (O.list (AD sV Es)),.t,.f,.a 2,.t,.v .ob (O.list (AD sV Bs)),.v .nat (k+1),.v .val (sV b2'),.t,.a 1] ?_ (an gE (an k0 (an k1 (an (BA (u:=kv) (v:=iV k) (h:=o1) (h2:=(by rfl))) (an (BA (u:=sv) (v:=sV l) (h:=o2) (h2:=(by rfl))) (an q0 (an q1 (an gB (an i1 (an i2 (an (congrArg not q2) (an gC (an gE (an oE (an q4 (an c1 (an gB (an i3 (an i4 (an c2 trivial)))))))))))))))))))) (by kernel_rfl)
     exact key
    ·rcases p2 with _|_
     ·refine BJ.go (s1:=St.mk [(A8 "rows",V.obj (ri+1)),(A8 "ends",V.cref (ci+1)),(A8 "k",V.int (↑k:Int)),(A8 "bare",V.obj (bi+1)),(A8 "value",V.str (Str.mk (AG acc)++A8 " "++Str.mk (AG b2'))),(A8 "said",V.str (A8 " ")),(A8 "enumerate",V.ty "enumerate"),(A8 "len",V.bi "len")] (a0::hs)) [.v .ob (O.list (AD sV Es)),.t,.v .oval (some (V.tup [iV k,sV l])),.t,.t,.t,.f,.v .ob (O.list (AD sV Bs)),.v .nat (k),.v .val (sV b),.t,.a 2,.v .ob (O.cell (V.obj (ei+1))),.v .ob (O.list (AD sV Es)),.t,.t,.v .ob (O.list (AD sV Bs)),.v .nat (k+1),.v .val (sV b2'),.f,.a 2,.t,.v .ob (O.list (AD sV Bs)),.v .nat (k+1),.v .val (sV b2'),.t,.a 1] ?_ (an gE (an k0 (an k1 (an (BA (u:=kv) (v:=iV k) (h:=o1) (h2:=(by rfl))) (an (BA (u:=sv) (v:=sV l) (h:=o2) (h2:=(by rfl))) (an q0 (an q1 (an gB (an i1 (an i2 (an (congrArg not q2) (an gC (an gE (an oE (an q4 (an gB (an i3 (an i4 (an q3 (an c1 (an gB (an i3 (an i4 (an c2 trivial)))))))))))))))))))))))) (by kernel_rfl)
      exact key
     ·refine BJ.go (s1:=St.mk [(A8 "rows",V.obj (ri+1)),(A8 "ends",V.cref (ci+1)),(A8 "k",V.int (↑k:Int)),(A8 "bare",V.obj (bi+1)),(A8 "value",V.str (Str.mk (AG acc)++A8 ""++Str.mk (AG b2'))),(A8 "said",V.str (A8 "")),(A8 "enumerate",V.ty "enumerate"),(A8 "len",V.bi "len")] (a0::hs)) [.v .ob (O.list (AD sV Es)),.t,.v .oval (some (V.tup [iV k,sV l])),.t,.t,.t,.f,.v .ob (O.list (AD sV Bs)),.v .nat (k),.v .val (sV b),.t,.a 2,.v .ob (O.cell (V.obj (ei+1))),.v .ob (O.list (AD sV Es)),.t,.t,.v .ob (O.list (AD sV Bs)),.v .nat (k+1),.v .val (sV b2'),.t,.a 2,.t,.v .ob (O.list (AD sV Bs)),.v .nat (k+1),.v .val (sV b2'),.t,.a 1] ?_ (an gE (an k0 (an k1 (an (BA (u:=kv) (v:=iV k) (h:=o1) (h2:=(by rfl))) (an (BA (u:=sv) (v:=sV l) (h:=o2) (h2:=(by rfl))) (an q0 (an q1 (an gB (an i1 (an i2 (an (congrArg not q2) (an gC (an gE (an oE (an q4 (an gB (an i3 (an i4 (an q3 (an b1 (an gB (an i3 (an i4 (an b2 trivial)))))))))))))))))))))))) (by kernel_rfl)
      exact key
   ·refine BJ.go (s1:=St.mk [(A8 "rows",V.obj (ri+1)),(A8 "ends",V.cref (ci+1)),(A8 "k",V.int (↑k:Int)),(A8 "bare",V.obj (bi+1)),(A8 "value",V.str (Str.mk (AG acc)++Str.mk (AG l)++Str.mk (AG b2'))),(A8 "said",V.str (Str.mk (AG l))),(A8 "enumerate",V.ty "enumerate"),(A8 "len",V.bi "len")] (a0::hs)) [.v .ob (O.list (AD sV Es)),.t,.v .oval (some (V.tup [iV k,sV l])),.t,.t,.t,.f,.v .ob (O.list (AD sV Bs)),.v .nat (k),.v .val (sV b),.f,.a 2,.t,.v .ob (O.list (AD sV Bs)),.v .nat (k+1),.v .val (sV b2'),.t,.a 1] ?_ (an gE (an k0 (an k1 (an (BA (u:=kv) (v:=iV k) (h:=o1) (h2:=(by rfl))) (an (BA (u:=sv) (v:=sV l) (h:=o2) (h2:=(by rfl))) (an q0 (an q1 (an gB (an i1 (an i2 (an (congrArg not q2) (an a1 (an gB (an i3 (an i4 (an a2 trivial)))))))))))))))) (by kernel_rfl)
    exact key
  ·rcases p4 with _|_
   ·refine BJ.go (s1:=St.mk [(A8 "rows",V.obj (ri+1)),(A8 "ends",V.cref (ci+1)),(A8 "k",V.int (↑k:Int)),(A8 "bare",V.obj (bi+1)),(A8 "value",V.str (Str.mk (AG acc)++A8 " "++Str.mk (AG b2'))),(A8 "said",V.str (A8 " ")),(A8 "enumerate",V.ty "enumerate"),(A8 "len",V.bi "len")] (a0::hs)) [.v .ob (O.list (AD sV Es)),.t,.v .oval (some (V.tup [iV k,sV l])),.t,.t,.t,.t,.a 2,.v .ob (O.cell (V.obj (ei+1))),.v .ob (O.list (AD sV Es)),.t,.f,.a 2,.t,.v .ob (O.list (AD sV Bs)),.v .nat (k+1),.v .val (sV b2'),.t,.a 1] ?_ (an gE (an k0 (an k1 (an (BA (u:=kv) (v:=iV k) (h:=o1) (h2:=(by rfl))) (an (BA (u:=sv) (v:=sV l) (h:=o2) (h2:=(by rfl))) (an q0 (an q1 (an gC (an gE (an oE (an q4 (an c1 (an gB (an i3 (an i4 (an c2 trivial)))))))))))))))) (by kernel_rfl)
    exact key
   ·rcases p2 with _|_
    ·refine BJ.go (s1:=St.mk [(A8 "rows",V.obj (ri+1)),(A8 "ends",V.cref (ci+1)),(A8 "k",V.int (↑k:Int)),(A8 "bare",V.obj (bi+1)),(A8 "value",V.str (Str.mk (AG acc)++A8 " "++Str.mk (AG b2'))),(A8 "said",V.str (A8 " ")),(A8 "enumerate",V.ty "enumerate"),(A8 "len",V.bi "len")] (a0::hs)) [.v .ob (O.list (AD sV Es)),.t,.v .oval (some (V.tup [iV k,sV l])),.t,.t,.t,.t,.a 2,.v .ob (O.cell (V.obj (ei+1))),.v .ob (O.list (AD sV Es)),.t,.t,.v .ob (O.list (AD sV Bs)),.v .nat (k+1),.v .val (sV b2'),.f,.a 2,.t,.v .ob (O.list (AD sV Bs)),.v .nat (k+1),.v .val (sV b2'),.t,.a 1] ?_ (an gE (an k0 (an k1 (an (BA (u:=kv) (v:=iV k) (h:=o1) (h2:=(by rfl))) (an (BA (u:=sv) (v:=sV l) (h:=o2) (h2:=(by rfl))) (an q0 (an q1 (an gC (an gE (an oE (an q4 (an gB (an i3 (an i4 (an q3 (an c1 (an gB (an i3 (an i4 (an c2 trivial)))))))))))))))))))) (by kernel_rfl)
     exact key
    ·refine BJ.go (s1:=St.mk [(A8 "rows",V.obj (ri+1)),(A8 "ends",V.cref (ci+1)),(A8 "k",V.int (↑k:Int)),(A8 "bare",V.obj (bi+1)),(A8 "value",V.str (Str.mk (AG acc)++A8 ""++Str.mk (AG b2'))),(A8 "said",V.str (A8 "")),(A8 "enumerate",V.ty "enumerate"),(A8 "len",V.bi "len")] (a0::hs)) [.v .ob (O.list (AD sV Es)),.t,.v .oval (some (V.tup [iV k,sV l])),.t,.t,.t,.t,.a 2,.v .ob (O.cell (V.obj (ei+1))),.v .ob (O.list (AD sV Es)),.t,.t,.v .ob (O.list (AD sV Bs)),.v .nat (k+1),.v .val (sV b2'),.t,.a 2,.t,.v .ob (O.list (AD sV Bs)),.v .nat (k+1),.v .val (sV b2'),.t,.a 1] ?_ (an gE (an k0 (an k1 (an (BA (u:=kv) (v:=iV k) (h:=o1) (h2:=(by rfl))) (an (BA (u:=sv) (v:=sV l) (h:=o2) (h2:=(by rfl))) (an q0 (an q1 (an gC (an gE (an oE (an q4 (an gB (an i3 (an i4 (an q3 (an b1 (an gB (an i3 (an i4 (an b2 trivial)))))))))))))))))))) (by kernel_rfl)
     exact key
end
noncomputable abbrev Fy (L:List Cy)(r:List Nat):List Nat:=Cs true (!L.isEmpty) r
noncomputable def KG:Bool→List Nat→List Cy→List Nat
 |_,_,[]=>[]
 |z,b,q::L=>Fq (z|| !decide (b=[])) (!L.isEmpty) q.2.1 (Fy L q.2.2)++(Fy L q.2.2++KG false (Fy L q.2.2) L)
noncomputable def GH (r0:List Nat)(L:List Cy):List Nat:=Cs false (!L.isEmpty) r0++KG true (Cs false (!L.isEmpty) r0) L
noncomputable def Od:List Cy→Nat
 |[]=>0
 |q::L=>2+q.2.2.length+Od L
theorem VI (N:Nat):∀{u:List Nat},u.length≤N→(Cd u).length≤u.length:=by
 induction N with
 |zero=>intro u h;rw[B5.mp (Nat.le_zero.mp h)];exact AT _
 |succ N ih=>
  intro u h
  rcases u with _|⟨c,u⟩
  ·exact AT _
  rw[J6]
  by_cases hc:c=39
  ·rw[if_pos hc]
   rcases u with _|⟨c2,u⟩
   ·exact AT _
   ·exact CX (Ck (ih (BO (Nat.le_of_succ_le_succ h))))
  ·rw[if_neg hc]
   exact CX (ih (Nat.le_of_succ_le_succ h))
theorem OC {lb rb:Bool}{r:List Nat}:(Cs lb rb r).length≤r.length:=by
 unfold Cs
 rw[AQ]
 exact AL (VI _ (AT _)) (AL On Ot)
theorem TJ {p m:Bool}{l b:List Nat}(h:l.length≤1):(Fq p m l b).length≤1:=by
 unfold Fq
 rcases decide (l=[10])&&p with _|_
 ·exact h
 ·rcases m&&decide (b=[]) with _|_
  ·exact AT _
  ·exact Bx _
theorem OD (k:Nat)(r:List Nat):∀L:List Cy,∃t,Dd k r L=Cs (decide (0<k)) (!L.isEmpty) r::t∧(∀q L',L=q::L'→t=Dd (k+1) q.2.2 L')
 |[]=>⟨[],rfl,fun zz zz e=>(List.cons_ne_nil _ _ e.symm).elim⟩
 |q::L=>⟨_,rfl,fun q' L' e=>by rw[(AZ e).1,(AZ e).2]⟩
theorem Fx:∀{k:Nat} {r:List Nat} {L:List Cy},(Dd k r L).length=L.length+1
 |_,_,[]=>rfl
 |_,_,_::L=>congrArg (·+1) (Fx (L:=L))
section
variable {ns:List Int}{d:Nat}{a0:O}{hs:List O}{ri ei ci bi:Nat}{r0:List Nat}{L0:List Cy}
theorem Z3 {Es:List (List Nat)}{k:Nat}{kv v sd:V}(gE:hs[ei]? =some (.list (Es.map sV)))(hk:Es.length≤k)(h2:k≤Es.length):BJ (S ns) (d+3) (wT Ej) (.list (ei+1) true) k (wB Ej) ⟨I4 ri ci bi kv v sd,a0::hs⟩ .next ⟨I4 ri ci bi kv v sd,a0::hs⟩:=by
 have k0:EF k (Es.map sV).length=true:=IL (by rw[AQ];exact h2)
 have k1:some (((Es.map sV)[k]?).map (IC true k))=some none:=by rw[CR (by rw[AQ];exact hk)];rfl
 exact BJ.by [.v .ob (O.list (AD sV Es)),.t,.v .oval (none)] (an gE (an k0 (an k1 trivial))) (by kernel_rfl)
theorem Yp (hL:L0.length+1≤lim)(hl:∀q∈L0,q.2.1.length≤1)(gE:hs[ei]? =some (.list ((L0.map (·.2.1)).map sV)))(gC:hs[ci]? =some (.cell (.obj (ei+1))))(gB:hs[bi]? =some (.list ((Dd 0 r0 L0).map sV))):
  ∀{L:List Cy} {k:Nat} {row acc:List Nat} {kv sd:V},L0.drop k=L→k≤L0.length→(Dd 0 r0 L0).drop k=Dd k row L→acc.length+Od L≤lim→Cn kv=true→Cn sd=true→
  ∃k' s',BJ (S ns) (d+3) (wT Ej) (.list (ei+1) true) k (wB Ej) ⟨I4 ri ci bi kv (sV acc) sd,a0::hs⟩ .next ⟨I4 ri ci bi k' (sV (acc++KG (decide (k=0)) (Cs (decide (0<k)) (!L.isEmpty) row) L)) s',a0::hs⟩:=by
 intro L
 induction L with
 |nil=>
  intro k row acc kv sd e hk eb hz o1 o2
  refine⟨kv,sd,?_⟩
  rw[show KG (decide (k=0)) (Cs (decide (0<k)) (!([]:List Cy).isEmpty) row) []=[] from rfl,AR]
  exact Z3 gE (by rw[AQ];exact List.drop_eq_nil_iff.mp e) (by rw[AQ];exact hk)
 |cons q L ih=>
  intro k row acc kv sd e hk eb hz o1 o2
  have gq:=GW e
  have hk2:k<L0.length:=(AM.mp gq).1
  have g1:(Dd 0 r0 L0)[k]? =some (Cs (decide (0<k)) true row):=GW eb
  have eb2:(Dd 0 r0 L0).drop (k+1)=Dd (k+1) q.2.2 L:=Gn eb
  refine AS (OD (k+1) q.2.2 L) fun t et zz=>?_
  have g2:(Dd 0 r0 L0)[k+1]? =some (Fy L q.2.2):=GW (eb2.trans et)
  have hl1:=hl _ (List.mem_of_getElem? gq)
  have hb:=OC (lb:=true) (rb:= !L.isEmpty) (r:=q.2.2)
  have hz':acc.length+(2+q.2.2.length+Od L)≤lim:=hz
  have hs1:=TJ (p:=decide (k=0)|| !decide (Cs (decide (0<k)) true row=[])) (m:= !L.isEmpty) (b:=Fy L q.2.2) hl1
  refine Fv (ih (kv:=iV k) (sd:=sV (Fq (decide (k=0)|| !decide (Cs (decide (0<k)) true row=[])) (!L.isEmpty) q.2.1 (Fy L q.2.2))) (acc:=acc++(Fq (decide (k=0)|| !decide (Cs (decide (0<k)) true row=[])) (!L.isEmpty) q.2.1 (Fy L q.2.2)++Fy L q.2.2)) (Gn e) hk2 eb2 (by rw[AE,AE];lia) rfl rfl) fun k' s' w=>⟨k',s',?_⟩
  have em:decide (k+1<(L0.map (·.2.1)).length)= !L.isEmpty:=by rw[AQ,Bv k 1];exact MS e
  refine YR gE gC gB (by rw[AQ];exact BO hL) (by rw[Fx];exact hL) (by rw[Bn,gq];rfl) g1 g2 (by lia) o1 o2 ?_
  rw[em]
  rw[AC,AC] at w
  exact w
theorem Xy {hi:Nat}{H:List Nat}(r:IY hs ri hi ei (r0::L0.map (·.2.2)) H (L0.map (·.2.1)))(hL:L0.length+1≤lim)(hl:∀q∈L0,q.2.1.length≤1)(hz:r0.length+Od L0≤lim)(hr:∀q∈L0,q.2.2.length≤lim):
  ∃hs',Aq hs hs'∧AK (S ns) 15 43 [.obj (ri+1),.obj (ei+1)] [] (a0::hs) (sV (GH r0 L0)) (a0::hs'):=by
 have X:Aq hs (hs++[O.cell (.obj (ei+1))]++[O.list []]):=(Aq.app hs).trans (Aq.app _)
 have r1:=r.ext X
 have lR:=(AM.mp r.rw_).1
 have lE:=(AM.mp r.en).1
 have gC:(hs++[O.cell (.obj (ei+1))]++[O.list []])[hs.length]? =some (.cell (.obj (ei+1))):=by rw[AC];exact ga
 have gB:(hs++[O.cell (.obj (ei+1))]++[O.list []])[(hs++[O.cell (.obj (ei+1))]).length]? =some (.list []):=ga
 have hB:(hs++[O.cell (.obj (ei+1))]).length=hs.length+1:=AE
 have hz0:r0.length≤lim:=AL (BN _ _) hz
 refine Hf (Yr (ns:=ns) (d:=12) (a0:=a0) (ci:=hs.length) (bi:=(hs++[O.cell (.obj (ei+1))]).length) (k:=0) (row:=r0) (acc:=[]) (kv:=.undef) (rv:=.undef) hL hr (by rw[hB];exact Ah (Nat.lt_succ_of_lt lR)) (by rw[hB];exact Ah (Nat.lt_succ_of_lt lE)) (by rw[hB];exact Ah (Nat.lt_succ_self _)) (L:=L0) rfl rfl (Bx _) r1.rw_ r1.en gC gB rfl hz0 rfl rfl) fun hs2 k2 r2 K g c=>?_
 rw[C7] at g
 have X2:Aq hs hs2:=⟨AL X.1 K.1,fun j hj=>(K.2.1 j (by rw[hB];exact Ah (Nat.lt_succ_of_lt hj)) (Ab hj X.1)).trans (X.2.1 j hj),fun n=>K.2.2 (X.2.2 n)⟩
 have gC2:=K.get (by rw[hB];exact Ah (Nat.lt_succ_self _)) gC
 have gE2:=X2.get r.en
 refine Fv (Yp (ns:=ns) (d:=12) (a0:=a0) (ri:=ri) (ci:=hs.length) (row:=r0) (acc:=Cs false (!L0.isEmpty) r0) (kv:=.undef) (sd:=.undef) hL hl gE2 gC2 g rfl (Bx _) rfl (AL (Nat.add_le_add_right OC _) hz) rfl rfl) fun k' s' w=>⟨hs2,X2,?_⟩
 have gR1:=gl (r:=[O.cell (.obj (ei+1))]) r.rw_
 have oB:BE ((Dd 0 r0 L0).map sV).length=true:=As (by rw[AQ,Fx];exact hL)
 have i0:FE (0:Int) ((Dd 0 r0 L0).map sV).length=some 0:=Hr (k:=0) (by rw[AQ,Fx];exact hL) (by rw[AQ,Fx];exact Nat.succ_pos _)
 have i1:((Dd 0 r0 L0).map sV)[0]? =some (sV (Cs false (!L0.isEmpty) r0)):=by
  refine AS (OD 0 r0 L0) fun t e zz=>?_
  rw[e];rfl
 exact AK.by [.v .ob (O.list (AD sV (r0::AD (fun x=>Prod.snd (Prod.snd x)) L0))),.m (St.mk (KR (A9 hs) k2 r2) (a0::hs2)),.a 1,.v .ob (O.list (AD sV (Dd 0 r0 L0))),.v .nat (0),.v .val (sV (Cs false (!List.isEmpty L0) r0)),.a 1,.v .ob (O.cell (V.obj (ei+1))),.v .ob (O.list (AD sV (AD (fun x=>Prod.fst (Prod.snd x)) L0))),.w (Fl.next) (St.mk (I4 ri (A9 hs) (A9 (hs++[O.cell (V.obj (ei+1))])) k' (sV (Cs false (!List.isEmpty L0) r0++KG (decide (0=0)) (Cs (decide (0<0)) (!List.isEmpty (List.drop 0 L0)) r0) (List.drop 0 L0))) s') (a0::hs2))] (an gR1 (an c (an g (an i0 (an i1 (an gC2 (an gE2 (an w trivial)))))))) (by kernel_rfl)
end
theorem Y4 {c:Nat}(hc:c∈BRK)(u:List Nat):∃b l v,Dr b l v∧c::u=b++v∧v.length≤u.length:=by
 by_cases h2:c∈[8232,8233]
 ·exact⟨_,_,u,.wide h2,rfl,AT _⟩
 ·have h1:c∈[13,10,133]:=by
   simp only[AU,Ap,or_false,not_or] at hc h2 ⊢
   lia
  by_cases h3:∃r,c::u=13::10::r
  ·refine AB h3 fun r e=>⟨[13,10],[10],r,.crlf,e,?_⟩
   rw[(AZ e).2]
   exact Nat.le_succ _
  ·exact⟨_,_,u,.one h1 fun r e=>h3 ⟨r,e⟩,rfl,AT _⟩
theorem US (N:Nat):∀{y:List Nat},y.length≤N→∃r0 L,Rw y r0 L:=by
 induction N with
 |zero=>intro y h;rw[B5.mp (Nat.le_zero.mp h)];exact⟨_,_,.nil⟩
 |succ N ih=>
  intro y h
  rcases y with _|⟨c,u⟩
  ·exact⟨_,_,.nil⟩
  have h:=Nat.le_of_succ_le_succ h
  by_cases hc:c∈BRK
  ·refine AB (Y4 hc u) fun b z=>AB z fun l z=>AB z fun v z=>?_
   rw[z.2.1]
   exact AB (ih (AL z.2.2 h)) fun r0 w=>AB w fun L w=>⟨_,_,.brk z.1 w⟩
  ·exact AB (ih h) fun r0 w=>AB w fun L w=>⟨_,_,.sign hc w⟩
structure JX (q:Cy):Prop where
 dq_:dq q.2.2=true
 ne:q.2.1≠[]
 le:q.2.1.length≤1
theorem W6 {b l u:List Nat}(h:Dr b l u):l.length≤1:=by rcases h with _|_|_<;>exact AT 1
theorem bn {r:List Nat}:dq (39::39::r)=dq r:=rfl
theorem Kr {y r0:List Nat}{L:List Cy}(h:Rw y r0 L):(dq y=true→dq r0=true∧∀q∈L,JX q)∧(dq (39::y)=true→dq (39::r0)=true∧∀q∈L,JX q):=by
 induction h with
 |nil=>exact⟨fun e=>⟨e,fun zz h=>(Ap h).elim⟩,fun e=>⟨e,fun zz h=>(Ap h).elim⟩⟩
 |@sign c u r L hc _ ih=>
  refine⟨fun e=>?_,fun e=>?_⟩
  ·by_cases q:c=39
   ·rw[q] at e ⊢
    exact ih.2 e
   ·rw[Io,if_neg q] at e ⊢
    exact ih.1 e
  ·have e:(decide (c=39)&&dq u)=true:=e
   have e:=AJ.mp e
   have q:=of_decide_eq_true e.1
   rw[q]
   exact ih.1 e.2
 |@brk b l u r L hb _ ih=>
  have hne:∃a b',b=a::b'∧a∈BRK:=hb.head fun a b' e h zz=>⟨a,b',e,h⟩
  have hl:l≠[]:=hb.head fun a b' e h z=>z
  refine⟨fun e=>?_,fun e=>?_⟩
  ·have key:∀b:List Nat,(∀c∈b,c≠39)→dq (b++u)=true→dq u=true:=fun b=>by
    induction b with
    |nil=>exact fun zz h=>h
    |cons c b ihb=>
     intro hc h
     rw[By,Io,if_neg (hc c (.head _))] at h
     exact ihb (fun z hz=>hc z (.tail _ hz)) h
   have hqu:=key b (fun z hz=>by
    rcases hb with _|@⟨c,r,hc,_⟩|@⟨c,r,hc⟩
    ·exact(by decide:∀z∈[13,10],z≠39) z hz
    ·rw[AY.mp hz];exact fun e=>absurd (e▸hc) (by decide)
    ·rw[AY.mp hz];exact fun e=>absurd (e▸hc) (by decide)) e
   refine⟨rfl,fun q hq=>(AU.mp hq).elim (fun z=>?_) ((ih.1 hqu).2 q)⟩
   rw[z]
   exact⟨(ih.1 hqu).1,hl,W6 hb⟩
  ·refine AB hne fun a z=>AB z fun b' z=>?_
   rw[z.1] at e
   have e:(decide (a=39)&&dq (b'++u))=true:=e
   have q:=of_decide_eq_true (AJ.mp e).1
   exact absurd (q▸z.2) (by decide)
theorem Vd {y r0:List Nat}{L:List Cy}(h:Rw y r0 L):r0.length+Od L≤2 * y.length∧r0.length+L.length≤y.length∧r0.length≤y.length∧∀q∈L,q.2.2.length≤y.length:=by
 induction h with
 |nil=>exact⟨AT _,AT _,AT _,fun zz h=>(Ap h).elim⟩
 |@sign c u r L hc _ ih=>
  rw[AX,AX]
  exact⟨by lia,by lia,CX ih.2.2.1,fun q hq=>Ck (ih.2.2.2 q hq)⟩
 |@brk b l u r L hb _ ih=>
  have:=hb.len.2
  rw[AE]
  refine⟨?_,?_,Bx _,fun q hq=>(AU.mp hq).elim (fun z=>?_) fun z=>AL (ih.2.2.2 q z) (BP _ _)⟩
  ·show 0+(2+r.length+Od L)≤_
   lia
  ·show 0+(L.length+1)≤_
   lia
  ·rw[z];exact AL ih.2.2.1 (BP _ _)
theorem O8 {c:Nat}(h:Dm c=true):c≠39:=fun e=>absurd (e▸of_decide_eq_true h) (by decide)
theorem HO {c:Nat}(h:c≠39)(r:List Nat):Cd (c::r)=(c, !Dm c)::Cd r:=by
 rw[J6,if_neg h]
 exact congrArg (fun b=>(c,b)::Cd r) (decide_not ..)
theorem Qg:∀r:List Nat,Cd (r.dropWhile Dm)=L4 (Cd r)
 |[]=>rfl
 |c::r=>by
  rcases e:Dm c with _|_
  ·rw[List.dropWhile_cons_of_neg (by rw[e];exact AI)]
   by_cases q:c=39
   ·rw[J6,if_pos q]
    rcases r with _|_<;>rfl
   ·rw[HO q,e];rfl
  ·rw[List.dropWhile_cons_of_pos e,HO (O8 e),e,Qg r];rfl
theorem Xa:∀r:List Nat,dq r=true→dq (r.dropWhile Dm)=true
 |[],h=>h
 |c::r,h=>by
  rcases e:Dm c with _|_
  ·rw[List.dropWhile_cons_of_neg (by rw[e];exact AI)];exact h
  ·rw[List.dropWhile_cons_of_pos e]
   rw[Io,if_neg (O8 e)] at h
   exact Xa r h
theorem KH {P:List Nat→Prop}(h0:P [])(h1:P [39])(h2:∀c r,P r→P (39::c::r))(h3:∀c r,c≠39→P r→P (c::r))(N:Nat):∀r:List Nat,r.length≤N→P r:=by
 induction N with
 |zero=>intro r h;rw[B5.mp (Nat.le_zero.mp h)];exact h0
 |succ N ih=>
  intro r h
  rcases r with _|⟨c,r⟩
  ·exact h0
  by_cases q:c=39
  ·rw[q]
   rcases r with _|⟨c2,r⟩
   ·exact h1
   ·exact h2 _ _ (ih r (BO (Nat.le_of_succ_le_succ h)))
  ·exact h3 _ _ q (ih r (Nat.le_of_succ_le_succ h))
theorem W2 {c:Nat}(hc:c≠39)(r:List Nat):dq (r++[c])=true→dq r=true∧Cd (r++[c])=Cd r++[(c, !Dm c)]:=by
 refine KH (P:=fun r=>dq (r++[c])=true→dq r=true∧Cd (r++[c])=Cd r++[(c, !Dm c)]) (fun zz=>⟨rfl,HO hc []⟩) (fun h=>?_) (fun a r ih h=>?_) (fun a r ha ih h=>?_) _ r (AT _)
 ·have h:(decide (c=39)&&dq [])=true:=h
  exact(hc (of_decide_eq_true (AJ.mp h).1)).elim
 ·have h:(decide (a=39)&&dq (r++[c]))=true:=h
  have h:=AJ.mp h
  have i:=ih h.2
  refine⟨AJ.mpr ⟨h.1,i.1⟩,?_⟩
  exact congrArg ((39,true)::·) i.2
 ·rw[By,Io,if_neg ha] at h
  have i:=ih h
  rw[By,HO ha,HO ha,i.2,Io,if_neg ha]
  exact⟨i.1,rfl⟩
theorem Qf {c:Nat}(hc:Dm c=false)(r:List Nat):∃a x,Cd (r++[c])=a++[(x,true)]:=by
 refine KH (P:=fun r=>∃a x,Cd (r++[c])=a++[(x,true)]) ?_ ⟨[],39,rfl⟩ (fun e r ih=>?_) (fun e r he ih=>?_) _ r (AT _)
 ·by_cases q:c=39
  ·rw[q];exact⟨[],39,rfl⟩
  ·exact⟨[],c,by rw[C7,HO q,hc];rfl⟩
 ·exact AB ih fun a z=>AB z fun x z=>⟨(39,true)::a,x,congrArg ((39,true)::·) z⟩
 ·exact AB ih fun a z=>AB z fun x z=>⟨(e, !Dm e)::a,x,by rw[By,HO he,z];rfl⟩
theorem Ve (a:D9)(x:Nat):Ez (a++[(x,true)])=a++[(x,true)]:=Ks a x []
theorem Vf (a:D9)(x:Nat):Ez (a++[(x,false)])=Ez a:=by
 unfold Ez
 rw[List.reverse_append];rfl
theorem Qe:∀rr:List Nat,dq rr.reverse=true→Cd (rr.dropWhile Dm).reverse=Ez (Cd rr.reverse)
 |[],_=>rfl
 |c::rr,h=>by
  rw[List.reverse_cons] at h
  rcases e:Dm c with _|_
  ·rw[List.dropWhile_cons_of_neg (by rw[e];exact AI),List.reverse_cons]
   refine AB (Qf e rr.reverse) fun a z=>AB z fun x z=>?_
   rw[z,Ve]
  ·have s:=W2 (O8 e) rr.reverse h
   rw[List.dropWhile_cons_of_pos e,List.reverse_cons,s.2,e,Qe rr s.1]
   exact(Vf _ _).symm
theorem PM {rb:Bool}{r:List Nat}(h:dq r=true):(Cd (Gu rb r)).map (·.1)=(bif rb then Ez (Cd r) else Cd r).map (·.1):=by
 rcases rb with _|_
 ·rfl
 ·have:=Qe r.reverse (by rw[DB];exact h)
  rw[DB] at this
  exact congrArg (AD (·.1)) this
theorem NQ {L:List Cy}(h:∀q∈L,JX q):JG (L.map Fb)= !L.isEmpty:=by
 rcases L with _|⟨q,L⟩
 ·rfl
 ·have:=(h q (.head _)).ne
  show(!q.2.1.isEmpty)=true
  rcases e:q.2.1 with _|_
  ·exact(this e).elim
  ·rfl
theorem Y6 {r:List Nat}{L:List Cy}(h:dq r=true)(hL:∀q∈L,JX q):Cs false (!L.isEmpty) r=Fk (L.map Fb) (Cd r):=by
 unfold Fk
 rw[NQ hL]
 exact PM h
theorem Y5 {r:List Nat}{L:List Cy}(h:dq r=true)(hL:∀q∈L,JX q):Fy L r=D7 (L.map Fb) (Cd r):=by
 unfold D7 Fk
 rw[NQ hL,←Qg]
 exact PM (Xa _ h)
theorem Qc:∀{L:List Cy} {z:Bool} {b:List Nat},(∀q∈L,JX q)→KG z b L=Gs (z|| !decide (b=[])) (L.map Fb)
 |[],_,_,_=>rfl
 |q::L,z,b,h=>by
  have hL:∀q∈L,JX q:=fun x hx=>h x (.tail _ hx)
  have e:=Y5 (h q (.head _)).dq_ hL
  show Fq (z|| !decide (b=[])) (!L.isEmpty) q.2.1 (Fy L q.2.2)++(Fy L q.2.2++KG false (Fy L q.2.2) L)=_
  rw[At,Qd,Qc (b:=Fy L q.2.2) hL]
  have es:Fq (z|| !decide (b=[])) (!L.isEmpty) q.2.1 (Fy L q.2.2)=Eg (z|| !decide (b=[])) (Fb q).1 (L.map Fb) (D7 (L.map Fb) (Fb q).2):=by
   unfold Eg Fq
   rw[e,NQ hL]
   generalize (z|| !decide (b=[]))=p
   show(bif decide (q.2.1=[10])&&p then _ else q.2.1)=if q.2.1=[10]∧p=true then _ else q.2.1
   generalize hB:D7 (L.map Fb) (Cd q.2.2)=B
   by_cases h1:q.2.1=[10]
   ·rcases p with _|_
    ·rw[decide_eq_true h1,if_neg (fun w=>AI w.2)];rfl
    ·rw[decide_eq_true h1,if_pos ⟨h1,rfl⟩]
     by_cases h2:B=[]
     ·rcases L.isEmpty with _|_
      ·rw[decide_eq_true h2,if_pos ⟨rfl,h2⟩];rfl
      ·rw[if_neg (fun w=>AI w.1)];rfl
     ·rw[decide_eq_false h2,if_neg (fun w=>h2 w.2),FD];rfl
   ·rw[decide_eq_false h1,if_neg (fun w=>h1 w.1)];rfl
  rw[es,e]
  have eb:(false|| !decide (D7 (L.map Fb) (Cd q.2.2)=[]))= !(D7 (L.map Fb) (Cd q.2.2)).isEmpty:=by
   rcases D7 (L.map Fb) (Cd q.2.2) with _|_<;>rfl
  rw[eb]
theorem VG {r:List Nat}{L:List Cy}(h:dq r=true)(hL:∀q∈L,JX q):GH r L=Fk (L.map Fb) (Cd r)++Gs true (L.map Fb):=by
 unfold GH
 rw[Y6 h hL,Qc hL]
 rfl
noncomputable def PIECES:List (List Nat):=[[97],[32],[10],[39,39],[98,32,99],[32,32],[9],[13,10],[34],[92],[13],[10,10],[8232],[133],[35,32],[92,110],[10,45,45,45],[8233],[45],[10,46,46,46],[58,32],[233],[45,32],[10,45,32],[93],[10,32,39,39]]
noncomputable abbrev SV:List V:=Uj (Uv (Bo Lg 36))
theorem RS:SV=PIECES.map sV:=by
 have e:SV=["a"," ","\n","''","b c","  ","\t","\r\n","\"","\\","\r","\n\n","\u2028","\x85","# ","\\n","\n---","\u2029","-","\n...",": ","é","- ","\n- ","]","\n ''"].map fun s=>V.str (A8 s):=by kernel_rfl
 rw[e]
 have:(["a"," ","\n","''","b c","  ","\t","\r\n","\"","\\","\r","\n\n","\u2028","\x85","# ","\\n","\n---","\u2029","-","\n...",": ","é","- ","\n- ","]","\n ''"].map fun s=>A8 s)=PIECES.map fun l=>(⟨l.toArray⟩:Str):=by decide+kernel
 have q:=congrArg (AD V.str) this
 rw[DV,DV] at q
 exact q
theorem Hd (n:Int)(b:Nat)(hb:0<b):(n.fmod (b:Int)).toNat<b∧n.fmod (b:Int)=((n.fmod (b:Int)).toNat:Int):=by
 have h1:=Int.fmod_nonneg_of_pos n (b:=(b:Int)) (by lia)
 have h2:=Int.fmod_lt_of_pos n (b:=(b:Int)) (by lia)
 exact⟨by lia,(Ef h1).symm⟩
noncomputable def H3 (n:Int):List Nat:=PIECES.getD (n.fmod 26).toNat []
theorem Op (n:Int):PIECES[(n.fmod 26).toNat]? =some (H3 n):=by
 have h:=(Hd n 26 (by decide)).1
 unfold H3
 rw[Cv]
 have hl:(n.fmod 26).toNat<PIECES.length:=h
 rw[Ew hl];rfl
theorem Yg (n:Int):H3 n∈PIECES:=List.mem_of_getElem? (Op n)
theorem Wp (n:Int):FE (n.fmod 26) SV.length=some (n.fmod 26).toNat:=by
 have h:=Hd n 26 (by decide)
 have e:SV.length=26:=by rw[RS];rfl
 rw[e]
 have h2:n.fmod 26=((n.fmod 26).toNat:Int):=h.2
 rw[h2]
 exact Hr (by decide) h.1
theorem Wq (n:Int):SV[(n.fmod 26).toNat]? =some (sV (H3 n)):=by
 rw[RS,Bn,Op n];rfl
noncomputable def selN (c k:Nat):Nat→List Int→List (List Nat)
 |_,[]=>[]
 |p,n::l=>bif decide (p % c=k) then H3 n::selN c k (p+1) l else selN c k (p+1) l
noncomputable def ZD:Expr→Expr
 | .Call _ [x] _ _=>x
 |e=>e
noncomputable def HB:Stmt:=Bo (BZ 45) 5
noncomputable def Fd:Expr:=ZD (ZM (Bo (wB HB) 0))
noncomputable abbrev GS (cc ck:Nat)(a b:V):List (Str×V):=[(".0",.undef),("spot",a),("n",b),("_law_PIECES",.sta 2),("count",.cref (cc+1)),("k",.cref (ck+1))]
theorem Yl {p c k:Nat}:decide ((p:Int).fmod (c:Int)=(k:Int))=decide (p % c=k):=decide_eq_decide.mpr (by
 rw[Int.fmod_eq_emod_of_nonneg _ (CD c),←Int.natCast_emod]
 exact Int.natCast_inj)
section
variable {ns:List Int}{a0:O}{i j cc ck c k:Nat}
theorem Wo (hij:i≠j)(hic:i≠cc)(hik:i≠ck)(hc:0<c)(hk:k<c):∀{suf pre:List Int} {acc:List (List Nat)} {hs:List O} {a b:V},Cn a=true→Cn b=true→hs[j]? =some (.list ((pre++suf).map .int))→hs[i]? =some (.list (acc.map sV))→hs[cc]? =some (.cell (iV c))→hs[ck]? =some (.cell (iV k))→acc.length+suf.length≤lim→
  ∃a' b',E5 (S ns) 15 (HC Fd) (H5 Fd) (LA Fd) (.list (j+1) true) pre.length (i+1) ⟨GS cc ck a b,a0::hs⟩ ⟨GS cc ck a' b',a0::hs.set i (.list ((acc++selN c k pre.length suf).map sV))⟩:=by
 intro suf
 induction suf with
 |nil=>
  intro pre acc hs a b oa ob hj hi gc gk hz
  have k0:EF pre.length ((pre++[]).map V.int).length=true:=IL (by simp)
  have k1:some ((((pre++[]).map V.int)[pre.length]?).map (IC true pre.length))=some none:=by simp
  rw[show acc++selN c k pre.length []=acc from AR _,NO hi]
  refine⟨a,b,?_⟩
  exact E5.by [.v .ob (O.list (AD V.int (pre++[]))),.t,.v .oval (none)] (an hj (an k0 (an k1 trivial))) (by kernel_rfl)
 |cons n suf ih=>
  intro pre acc hs a b oa ob hj hi gc gk hz
  have k0:EF pre.length ((pre++n::suf).map V.int).length=true:=IL (by simp)
  have k1:some ((((pre++n::suf).map V.int)[pre.length]?).map (IC true pre.length))=some (some (.tup [iV pre.length,.int n])):=by simp;rfl
  have i1:=Wp n
  have i2:=Wq n
  have ok:BE (acc.map sV).length=true:=As (by rw[AQ];exact AL (BN _ _) hz)
  have hc0:decide ((c:Int)≠0)=true:=decide_eq_true (by lia)
  have m1:=Yl (p:=pre.length) (c:=c) (k:=k)
  have m1:decide ((pre.length:Int).fmod (c:Int)=(k:Int))=decide (pre.length % c=k):=m1
  show ∃a' b',E5 (S ns) 15 (HC Fd) (H5 Fd) (LA Fd) (.list (j+1) true) pre.length (i+1) ⟨GS cc ck a b,a0::hs⟩ ⟨GS cc ck a' b',a0::hs.set i (.list ((acc++(bif decide (pre.length % c=k) then H3 n::selN c k (pre.length+1) suf else selN c k (pre.length+1) suf)).map sV))⟩
  rcases hd:decide (pre.length % c=k) with _|_
  ·rw[hd] at m1
   refine Fv (ih (pre:=pre++[n]) (acc:=acc) (a:=iV pre.length) (b:=.int n) rfl rfl (by rw[AC];exact hj) hi gc gk (AL (CL (Nat.le_succ _) _) hz)) fun a' b' e=>⟨a',b',?_⟩
   rw[AE (bs:=[n])] at e
   have e:E5 (S ns) 15 (HC Fd) (H5 Fd) (LA Fd) (.list (j+1) true) (pre.length+1) (i+1) ⟨GS cc ck (iV pre.length) (.int n),a0::hs⟩ ⟨GS cc ck a' b',a0::hs.set i (.list ((acc++selN c k (pre.length+1) suf).map sV))⟩:=e
   refine E5.go (s1:=St.mk [(A8 ".0",V.undef),(A8 "spot",V.int (↑(A9 pre):Int)),(A8 "n",V.int n),(A8 "_law_PIECES",V.sta 2),(A8 "count",V.cref (cc+1)),(A8 "k",V.cref (ck+1))] (a0::hs)) [.v .ob (O.list (AD V.int (pre++n::suf))),.t,.v .oval (some (V.tup [iV (A9 pre),V.int n])),.t,.t,.v .ob (O.cell (iV c)),.t,.v .ob (O.cell (iV k)),.f,.a 1] ?_ (an hj (an k0 (an k1 (an (BA (u:=a) (v:=iV (A9 pre)) (h:=oa) (h2:=(by rfl))) (an (BA (u:=b) (v:=V.int n) (h:=ob) (h2:=(by rfl))) (an gc (an hc0 (an gk (an m1 trivial))))))))) (by kernel_rfl)
   exact e
  ·rw[hd] at m1
   have hi2:(hs.set i (.list (acc.map sV++[sV (H3 n)])))[i]? =some (.list ((acc++[H3 n]).map sV)):=by rw[Ae];exact gs hi
   have hj2:(hs.set i (.list (acc.map sV++[sV (H3 n)])))[j]? =some (.list (((pre++[n])++suf).map .int)):=by rw[AC];exact gn hij hj
   refine Fv (ih (pre:=pre++[n]) (acc:=acc++[H3 n]) (a:=iV pre.length) (b:=.int n) rfl rfl hj2 hi2 (gn hic gc) (gn hik gk) (by rw[AE,D1];rw[AX] at hz;lia)) fun a' b' e=>⟨a',b',?_⟩
   rw[AE (bs:=[n]),GA,AC] at e
   have e:E5 (S ns) 15 (HC Fd) (H5 Fd) (LA Fd) (.list (j+1) true) (pre.length+1) (i+1) ⟨GS cc ck (iV pre.length) (.int n),a0::hs.set i (.list (acc.map sV++[sV (H3 n)]))⟩ ⟨GS cc ck a' b',a0::hs.set i (.list ((acc++H3 n::selN c k (pre.length+1) suf).map sV))⟩:=e
   refine E5.go (s1:=St.mk [(A8 ".0",V.undef),(A8 "spot",V.int (↑(A9 pre):Int)),(A8 "n",V.int n),(A8 "_law_PIECES",V.sta 2),(A8 "count",V.cref (cc+1)),(A8 "k",V.cref (ck+1))] (a0::Ai hs i (O.list (AD sV acc++[sV (H3 n)])))) [.v .ob (O.list (AD V.int (pre++n::suf))),.t,.v .oval (some (V.tup [iV (A9 pre),V.int n])),.t,.t,.v .ob (O.cell (iV c)),.t,.v .ob (O.cell (iV k)),.t,.a 2,.v .nat (Int.toNat (Int.fmod n 26)),.v .val (sV (H3 n)),.v .ob (O.list (AD sV acc)),.t] ?_ (an hj (an k0 (an k1 (an (BA (u:=a) (v:=iV (A9 pre)) (h:=oa) (h2:=(by rfl))) (an (BA (u:=b) (v:=V.int n) (h:=ob) (h2:=(by rfl))) (an gc (an hc0 (an gk (an m1 (an i1 (an i2 (an hi (an ok trivial))))))))))))) (by kernel_rfl)
   exact e
end
noncomputable abbrev Ja:=List Nat×List Nat
structure VC (p:Ja):Prop where
 dq_:dq p.1=true
 z:0∉p.1
 hd:∃a r,p.2=a::r∧a≠39
noncomputable def ltx:List Ja→List Nat
 |[]=>[]
 |p::L=>45::32::39::(p.1++39::(p.2++ltx L))
theorem Oc:∀L:List Ja,txt L=ltx L++[0]
 |[]=>rfl
 |p::L=>by
  show 45::32::39::(p.1++39::(p.2++txt L))=45::32::39::(p.1++39::(p.2++ltx L))++[0]
  rw[Oc L]
  simp
inductive JZ:Nat→List Ja→List V→Option Nat→Prop
 |nil {i:Nat}:JZ i [] [] none
 |bad {i m:Nat} {y x r0:List Nat} {L:List Ja} {W:List Cy}:Rw y r0 W→DQ r0.length W=some m→JZ i ((y,x)::L) [wordT "entry"] (some (i+1+(m+1)))
 |more {i:Nat} {y x r0:List Nat} {L:List Ja} {W:List Cy} {ds:List V} {e:Option Nat}:Rw y r0 W→DQ r0.length W=none→JZ (i+1+(y.length+2)+x.length+1) L ds e→
   JZ i ((y,x)::L) (wordT "entry"::E7 (GH r0 W) (i+1) (i+1+(y.length+2))::ds) e
noncomputable def fin:Option Nat→List V
 |none=>[wordT "sequence end",wordT "stream end"]
 |some _=>[]
theorem Ra:∀(L:List Ja) (i:Nat),∃ds e,JZ i L ds e
 |[],i=>⟨[],none,.nil⟩
 |(y,x)::L,i=>AB (US _ (AT y.length)) fun r0 h=>AB h fun W w=>by
  rcases e:DQ r0.length W with _|m
  ·exact AB (Ra L (i+1+(y.length+2)+x.length+1)) fun ds h=>AB h fun f h=>⟨_,f,.more w e h⟩
  ·exact⟨_,_,.bad w e⟩
theorem Nq {y r0 R:List Nat}{W:List Cy}{a:Nat}(w:Rw y r0 W)(hq:dq y=true)(h0:0∉y)(ha:a≠39)(e:DQ r0.length W=none):I8 y (GH r0 W) (a::R):=by
 have P:=(UU y.length (h:=false) (AT _) w hq (fun z=>(AI z).elim) 0).1
 rw[C2] at P
 refine AB (P e) fun its p=>?_
 have g:=Vj (R:=R) ha p.1 h0
 rw[(Ry its).1,p.2] at g
 rw[VG ((Kr w).1 hq).1 ((Kr w).1 hq).2]
 exact g
theorem W1 {y r0 R:List Nat}{W:List Cy}{a m:Nat}(w:Rw y r0 W)(hq:dq y=true)(h0:0∉y)(ha:a≠39)(e:DQ r0.length W=some m):∃y' r,y++39::a::R=y'++r∧Gr y' r∧y'.length=m:=by
 have P:=(UU y.length (h:=false) (AT _) w hq (fun z=>(AI z).elim) 0).2 m
 rw[C2] at P
 refine AB (P e) fun its p=>AB p fun x p=>AB p fun r p=>⟨x,r++Qt a R,?_,Wm ha p.1 h0,by rw[←p.2,C2]⟩
 rw[←AC,←p.1.split]
theorem RH {i:Nat}{L:List Ja}{ds:List V}{e:Option Nat}(h:JZ i L ds e):(∀p∈L,VC p)→L≠[]→∃ds',ds++fin e=wordT "entry"::ds'∧OK i L ds' e:=by
 induction h with
 |nil=>exact fun zz z=>(z rfl).elim
 |@bad i m y x r0 L W w e1=>
  intro hL _
  have o:=hL _ (.head _)
  refine AB o.hd fun a z=>AB z fun r z=>?_
  refine⟨[],rfl,?_⟩
  have b:=W1 (R:=r++txt L) w o.dq_ o.z z.2 e1
  refine AB b fun y' b=>AB b fun r' b=>?_
  rw[←b.2.2]
  refine .bad (r:=r') ?_ b.2.1
  rw[←b.1,show x=a::r from z.1]
  rfl
 |@more i y x r0 L W ds e w e1 hr ih=>
  intro hL _
  have o:=hL _ (.head _)
  refine AB o.hd fun a z=>AB z fun r z=>?_
  have ex:x=a::r:=z.1
  rcases L with _|⟨q,L⟩
  ·generalize ej:i+1+(y.length+2)+x.length+1=j at hr
   rcases hr with _|_|_
   refine⟨_,rfl,?_⟩
   have g:=Nq (R:=r++[0]) w o.dq_ o.z z.2 e1
   exact .last (by rw[ex];exact g)
  ·refine AB (ih (fun p hp=>hL p (.tail _ hp)) (List.cons_ne_nil _ _)) fun ds' h=>⟨_,by rw[By,By,h.1],?_⟩
   have g:=Nq (R:=r++txt (q::L)) w o.dq_ o.z z.2 e1
   exact .more (by rw[ex];exact g) h.2
noncomputable def TAILS:List (List Nat):=[[10],[32,35,32,105,116,39,115,32,39,115,111,39,13,10],[32,32,13],[32,133],[32,35,32,34,10,10],[8232]]
theorem IT {c:Nat}{u:List Nat}(h:c=45∨c=0):Ey false [] (c::u):=by
 have k:∀c,(c=45∨c=0)→c≠32∧c≠35∧c≠65279∧c∉BRK:=fun c h=>h.elim (fun e=>by rw[e];decide) fun e=>by rw[e];decide
 exact .done (fun zz h=>(Ap h).elim) (k c h).1 (k c h).2.1 (k c h).2.2.1 (k c h).2.2.2
theorem NW:∀y∈([]:List Nat),y=32:=fun zz h=>(Ap h).elim
theorem Xj {c:Nat}{u:List Nat}(h:c=45∨c=0):∀r',13::([]++c::u)≠13::10::r':=fun r' e=>by
 have e2:=(AZ (AZ e).2).1
 exact h.elim (fun z=>absurd (z.symm.trans e2) (by decide)) fun z=>absurd (z.symm.trans e2) (by decide)
theorem Ky {a:Nat}(h:a≠13){u:List Nat}:∀r',a::u≠13::10::r':=fun r' e=>h (AZ e).1
theorem Sg:∀x∈TAILS,I9 x:=by
 have hd:∀{a:Nat} {x:List Nat},a≠65279→∀r,∃c u,(a::x)++r=c::u∧c≠65279:=fun h r=>⟨_,_,rfl,h⟩
 have T0:I9 [10]:=⟨fun c u h=>.line (ws:=[]) (b:=[10]) (l:=[10]) (x:=[]) NW (.one (by decide) (Ky (by decide))) (IT h),fun c u h=>⟨[],10,rfl,.inl (by decide)⟩,hd (by decide)⟩
 have T1:I9 [32,35,32,105,116,39,115,32,39,115,111,39,13,10]:=⟨fun c u h=>.comm (ws:=[32]) (cs:=[32,105,116,39,115,32,39,115,111,39]) (b:=[13,10]) (l:=[10]) (x:=[]) (by decide) (by decide) .crlf (IT h),fun c u h=>⟨[32,35,32,105,116,39,115,32,39,115,111,39,13],10,rfl,.inl (by decide)⟩,hd (by decide)⟩
 have T2:I9 [32,32,13]:=⟨fun c u h=>.line (ws:=[32,32]) (b:=[13]) (l:=[10]) (x:=[]) (by decide) (.one (by decide) (Xj h)) (IT h),fun c u h=>⟨[32,32],13,rfl,.inr ⟨rfl,fun e=>by
  have e2:c=10:=AH e
  exact h.elim (fun z=>absurd (z.symm.trans e2) (by decide)) fun z=>absurd (z.symm.trans e2) (by decide)⟩⟩,hd (by decide)⟩
 have T3:I9 [32,133]:=⟨fun c u h=>.line (ws:=[32]) (b:=[133]) (l:=[10]) (x:=[]) (by decide) (.one (by decide) (Ky (by decide))) (IT h),fun c u h=>⟨[32],133,rfl,.inl (by decide)⟩,hd (by decide)⟩
 have T4:I9 [32,35,32,34,10,10]:=⟨fun c u h=>.comm (ws:=[32]) (cs:=[32,34]) (b:=[10]) (l:=[10]) (x:=[10]) (by decide) (by decide) (.one (by decide) (Ky (by decide))) (.line (ws:=[]) (b:=[10]) (l:=[10]) (x:=[]) NW (.one (by decide) (Ky (by decide))) (IT h)),fun c u h=>⟨[32,35,32,34,10],10,rfl,.inl (by decide)⟩,hd (by decide)⟩
 have T5:I9 [8232]:=⟨fun c u h=>.line (ws:=[]) (b:=[8232]) (l:=[8232]) (x:=[]) NW (.wide (by decide)) (IT h),fun c u h=>⟨[],8232,rfl,.inl (by decide)⟩,hd (by decide)⟩
 intro x hx
 rcases AU.mp hx with e|hx
 ·rw[e];exact T0
 rcases AU.mp hx with e|hx
 ·rw[e];exact T1
 rcases AU.mp hx with e|hx
 ·rw[e];exact T2
 rcases AU.mp hx with e|hx
 ·rw[e];exact T3
 rcases AU.mp hx with e|hx
 ·rw[e];exact T4
 rw[AY.mp hx];exact T5
theorem Xb {r:List Nat}(hr:dq r=true)(x:List Nat):dq x=true→dq (x++r)=true:=by
 refine KH (P:=fun x=>dq x=true→dq (x++r)=true) (fun zz=>hr) (fun h=>(AI h).elim) (fun c x ih h=>?_) (fun c x hc ih h=>?_) _ x (AT _)
 ·have h:(decide (c=39)&&dq x)=true:=h
  have h:=AJ.mp h
  exact AJ.mpr ⟨h.1,ih h.2⟩
 ·rw[By,Io,if_neg hc]
  rw[Io,if_neg hc] at h
  exact ih h
noncomputable def ZP (x:List Nat):Bool:=dq x&&(x.all fun c=>decide (c∈[9,10,13,133]∨(32≤c∧c≤126)∨c=233∨c=8232∨c=8233))&&decide (x.length≤4)
theorem Wr:∀x∈PIECES,ZP x=true:=by decide+kernel
noncomputable abbrev V9 (c:Nat):Prop:=c∈[9,10,13,133]∨(32≤c∧c≤126)∨c=233∨c=8232∨c=8233
theorem Kl:∀x∈TAILS,(∀c∈x,V9 c)∧x.length≤14∧∃a∈[10,32,8232],x.head? =some a:=by decide+kernel
theorem Ws {x:List Nat}(h:ZP x=true):dq x=true∧(∀c∈x,V9 c)∧x.length≤4:=by
 have h:=AJ.mp h
 have h1:=AJ.mp h.1
 exact⟨h1.1,fun c hc=>of_decide_eq_true (Az.mp h1.2 c hc),of_decide_eq_true h.2⟩
theorem Jr:∀{X:List (List Nat)},(∀x∈X,x∈PIECES)→dq X.flatten=true∧(∀c∈X.flatten,V9 c)∧X.flatten.length≤4 * X.length
 |[],_=>⟨rfl,fun zz h=>(Ap h).elim,AT _⟩
 |x::X,h=>by
  have o:=Ws (Wr x (h x (.head _)))
  have i:=Jr (X:=X) fun y hy=>h y (.tail _ hy)
  rw[List.flatten_cons]
  refine⟨Xb i.1 x o.1,fun c hc=>(BK.mp hc).elim (o.2.1 c) (i.2.1 c),?_⟩
  rw[AE,AX,Nat.mul_succ,Bv]
  exact C3 i.2.2 o.2.2
theorem Kp {c k:Nat}:∀{l:List Int} {p:Nat},(∀x∈selN c k p l,x∈PIECES)∧(selN c k p l).length≤l.length
 |[],_=>⟨fun zz h=>(Ap h).elim,AT _⟩
 |n::l,p=>by
  have i:=Kp (c:=c) (k:=k) (l:=l) (p:=p+1)
  show(∀x∈(bif decide (p % c=k) then H3 n::selN c k (p+1) l else selN c k (p+1) l),x∈PIECES)∧(bif decide (p % c=k) then H3 n::selN c k (p+1) l else selN c k (p+1) l).length≤l.length+1
  rcases decide (p % c=k) with _|_
  ·exact⟨i.1,Ck i.2⟩
  ·exact⟨fun x hx=>(AU.mp hx).elim (fun e=>e▸Yg n) (i.1 x),CX i.2⟩
theorem Lm {c:Nat}(h:V9 c):KB c∧c≠0∧c≠65279:=by
 have k:∀c∈[9,10,13,133],c≠0∧c≠65279:=by decide
 rcases h with h|h|h|h|h
 ·exact⟨.inl h,k c h⟩
 ·exact⟨.inr (.inl h),by lia,by lia⟩
 ·rw[h];exact⟨.inr (.inr (.inl (by decide))),by decide⟩
 ·rw[h];exact⟨.inr (.inr (.inl (by decide))),by decide⟩
 ·rw[h];exact⟨.inr (.inr (.inl (by decide))),by decide⟩
noncomputable def EJ (f:Int)(k:Nat):List Nat:=TAILS.getD ((f.fdiv 3+(k:Int)).fmod 6).toNat []
theorem Oe (f:Int)(k:Nat):TAILS[((f.fdiv 3+(k:Int)).fmod 6).toNat]? =some (EJ f k):=by
 have h:=(Hd (f.fdiv 3+(k:Int)) 6 (by decide)).1
 unfold EJ
 rw[Cv]
 have hl:((f.fdiv 3+(k:Int)).fmod 6).toNat<TAILS.length:=h
 rw[Ew hl];rfl
theorem Kk (f:Int)(k:Nat):EJ f k∈TAILS:=List.mem_of_getElem? (Oe f k)
theorem WL (f:Int)(k:Nat):FE ((f.fdiv 3+(k:Int)).fmod 6) (TAILS.map sV).length=some ((f.fdiv 3+(k:Int)).fmod 6).toNat:=by
 have h:=Hd (f.fdiv 3+(k:Int)) 6 (by decide)
 have h2:(f.fdiv 3+(k:Int)).fmod 6=(((f.fdiv 3+(k:Int)).fmod 6).toNat:Int):=h.2
 rw[h2]
 exact Hr (by decide) h.1
theorem WM (f:Int)(k:Nat):(TAILS.map sV)[((f.fdiv 3+(k:Int)).fmod 6).toNat]? =some (sV (EJ f k)):=by
 rw[Bn,Oe];rfl
section
variable {ns:List Int}{d:Nat}{a0:O}{hs:List O}
theorem Y2:AK (S ns) (d+1) 39 [] [] (a0::hs) (.obj (hs.length+1)) (a0::(hs++[.list (TAILS.map sV)])):=by
 have e:TAILS.map sV=[.str "\n",.str " # it's 'so'\r\n",.str "  \r",.str " \x85",.str " # \"\n\n",.str "\u2028"]:=by
  have:TAILS.map (fun l=>(⟨l.toArray⟩:Str))=(["\n"," # it's 'so'\r\n","  \r"," \x85"," # \"\n\n","\u2028"]:List Str):=by decide+kernel
  have q:=congrArg (AD V.str) this
  rw[DV] at q
  exact q
 rw[e]
 exact AK.by [] trivial (by kernel_rfl)
end
theorem Yb {j n:Nat}(h:j<n):some (if(0:Int)+(j:Int)<(n:Int) then some (V.int (0+(j:Int))) else none)=some (some (V.int (j:Int))):=by
 rw[Int.zero_add,if_pos (Bl.mpr h)]
theorem Yc {j n:Nat}(h:n≤j):some (if(0:Int)+(j:Int)<(n:Int) then some (V.int (0+(j:Int))) else none)=some none:=by
 rw[Int.zero_add,if_neg (fun z=>DR.mpr h (Bl.mp z))]
structure Lo where
 ins:V
 rws:V
 hed:V
 end_:V
 sta:V
 stp:V
 pla:V
structure Ke (l:Lo):Prop where
 ins:Cn l.ins=true
 rws:Cn l.rws=true
 hed:Cn l.hed=true
 end_:Cn l.end_=true
 sta:Cn l.sta=true
 stp:Cn l.stp=true
 pla:Cn l.pla=true
noncomputable abbrev HY (first text due fault:V)(l:Lo)(got scanner token refusal:V):List (Str×V):=[("script",.sta 9),("first",first),("count",.cref 1),("text",text),("due",due),("fault",fault),("k",.cref 2),("inside",l.ins),("rows",l.rws),("heads",l.hed),("ends",l.end_),("start",l.sta),("stop",l.stp),("place",l.pla),("got",got),("scanner",scanner),("token",token),("refusal",refusal),("range",.ty "range"),("enumerate",.ty "enumerate"),("_law_rows",.fn 40),("len",.bi "len"),("_law_TAILS",.fn 39),("_law_refused",.fn 41),("_law_value",.fn 43),("Scanner",.cls 8),("_law_told",.fn 44),("ScannerError",.cls 9)]
noncomputable abbrev EN (f:Int)(t:V)(F:Option Nat)(l:Lo):List (Str×V):=HY (.int f) t (.obj 3) (HU F) l .undef .undef .undef .undef
noncomputable abbrev Gg (ns:List Int):List V:=B1 (AD V.int ns) (min 1 (AD V.int ns).length) (min 25 (AD V.int ns).length)
noncomputable def Kq (ns:List Int):List Int:=B1 ns (min 1 ns.length) (min 25 ns.length)
theorem YX {ns:List Int}:Gg ns=(Kq ns).map V.int:=by
 unfold Gg Kq B1
 rw[AQ,←List.map_take,←List.map_drop]
theorem RE {ns:List Int}(h:ns.length≤63):(Kq ns).length≤24:=by
 unfold Kq B1
 rw[Dp,List.length_take]
 lia
noncomputable abbrev Bd (ns:List Int)(c k:Nat):List (List Nat):=selN c k 0 (Kq ns)
noncomputable abbrev E1 (ns:List Int)(c k:Nat):List Nat:=(Bd ns c k).flatten
theorem Nf {ns:List Int}(h:ns.length≤63)(c k:Nat):(E1 ns c k).length≤96∧(Bd ns c k).length≤24:=by
 have s:=Kp (c:=c) (k:=k) (l:=Kq ns) (p:=0)
 have l:=AL s.2 (RE h)
 exact⟨AL (Jr s.1).2.2 (by lia),l⟩
structure Fj (c:Nat)(kv:V)(D:List V)(hs:List O):Prop where
 c_:hs[0]? =some (.cell (iV c))
 k_:hs[1]? =some (.cell kv)
 d_:hs[2]? =some (.list D)
theorem Fj.lt {c:Nat}{kv:V}{D:List V}{hs:List O}(l:Fj c kv D hs):3≤hs.length:=(AM.mp l.d_).1
theorem Fj.ext {c:Nat}{kv:V}{D:List V}{hs hs':List O}(x:Aq hs hs')(l:Fj c kv D hs):Fj c kv D hs':=⟨x.get l.c_,x.get l.k_,x.get l.d_⟩
theorem Fj.k {c:Nat}{kv kv':V}{D:List V}{hs:List O}(l:Fj c kv D hs):Fj c kv' D (hs.set 1 (.cell kv')):=⟨gn (by decide) l.c_,gs l.k_,gn (by decide) l.d_⟩
theorem Fj.d {c:Nat}{kv:V}{D D':List V}{hs:List O}(l:Fj c kv D hs):Fj c kv D' (hs.set 2 (.list D')):=⟨gn (by decide) l.c_,gn (by decide) l.k_,gs l.d_⟩
theorem IY.foot {hs:List O}{ri hi ei:Nat}{R Es:List (List Nat)}{H:List Nat}{j:Nat}{o:O}(r:IY hs ri hi ei R H Es)(h1:j≠ri)(h2:j≠hi)(h3:j≠ei):IY (hs.set j o) ri hi ei R H Es:=⟨gn h1 r.rw_,gn h2 r.he,gn h3 r.en⟩
noncomputable def Fc (y x:List Nat):List Nat:=45::32::39::(y++39::x)
theorem QG (t y x:List Nat):sV (t++Fc y x)= .str (((((⟨t.toArray⟩:Str)++A8 "- '")++⟨y.toArray⟩)++A8 "'")++⟨x.toArray⟩):=by
 rw[show A8 "- '"=⟨[45,32,39].toArray⟩ by decide+kernel,show A8 "'"=⟨[39].toArray⟩ by decide+kernel,Hw,Hw,Hw,Hw]
 unfold Fc
 simp
theorem GK (a b:Str):(a++b).cps.size=a.cps.size+b.cps.size:=by
 show(a.cps++b.cps).size=_
 rw[Array.size_append]
section
variable {ns:List Int}{a0:O}{hs:List O}{f:Int}{c k:Nat}{D:List V}{t y r0:List Nat}{W:List Cy}{kv:V}{l:Lo}
noncomputable def LV (ns:List Int)(a0:O)(f:Int)(c k:Nat)(st:St)(hs:List O)(t:List Nat)(F:Option Nat)(D:List V):Prop:=
 ∃hs' l',Ke l'∧Fj c (iV k) D hs'∧(Ch hs→Ch hs')∧∀fl s',BJ (S ns) 16 (wT HB) (.rng 0 (c:Int)) (k+1) (wB HB) ⟨EN f (sV t) F l',a0::hs'⟩ fl s'→BJ (S ns) 16 (wT HB) (.rng 0 (c:Int)) k (wB HB) st fl s'
theorem N3 {F:Option Nat}(g:Fj c kv D hs)(okk:Cn kv=true)(lo:Ke l)(hk:k<c)(hn:ns.length≤63)(w:Rw (E1 ns c k) r0 W)(hWl:∀q∈W,q.2.1.length≤1)(ht:t.length≤1000)(hD:D.length≤1000):
  (∀m,F=some m→LV ns a0 f c k ⟨EN f (sV t) F l,a0::hs⟩ hs (t++Fc (E1 ns c k) (EJ f k)) (some m) D)∧
  (F=none→(∀m,DQ r0.length W=some m→LV ns a0 f c k ⟨EN f (sV t) F l,a0::hs⟩ hs (t++Fc (E1 ns c k) (EJ f k)) (some (t.length+2+1+m)) (D++[wordT "entry"]))∧
   (DQ r0.length W=none→LV ns a0 f c k ⟨EN f (sV t) F l,a0::hs⟩ hs (t++Fc (E1 ns c k) (EJ f k)) none (D++[wordT "entry",E7 (GH r0 W) (t.length+2) (t.length+2+(E1 ns c k).length+2)]))):=by
 have q0:=Yb hk
 have il:=Nf hn c k
 have g1:=g.k (kv':=iV k)
 have h0:BE (ns.map V.int).length=true:=As (by rw[AQ];show _≤1000000;lia)
 have g2:=g1.ext ((Aq.app _ (o:=O.list (Gg ns))).trans (Aq.app _ (o:=O.list ((Bd ns c k).map sV))))
 have g3:=g1.ext ((Aq.app _ (o:=O.list (Gg ns))).trans (Aq.app _ (o:=O.list [])))
 have l1:=g1.lt
 have l2:((hs.set 1 (.cell (iV k)))++[O.list (Gg ns)]).length=(hs.set 1 (.cell (iV k))).length+1:=AE
 refine Fv (Wo (ns:=ns) (a0:=a0) (i:=((hs.set 1 (.cell (iV k)))++[O.list (Gg ns)]).length) (j:=(hs.set 1 (.cell (iV k))).length) (cc:=0) (ck:=1) (c:=c) (k:=k) (by rw[l2];lia) (by rw[l2];lia) (by rw[l2];lia) (Nat.zero_lt_of_lt hk) hk (suf:=Kq ns) (pre:=[]) (acc:=[]) (hs:=(hs.set 1 (.cell (iV k)))++[O.list (Gg ns)]++[O.list []]) (a:=.undef) (b:=.undef) rfl rfl (by rw[AC];exact ga.trans (congrArg (fun x=>some (O.list x)) YX)) ga g3.c_ g3.k_ (by have:=RE hn;show 0+_≤1000000;lia)) fun a' b' e1=>?_
 rw[Cz] at e1
 have e1:E5 (S ns) 15 (HC Fd) (H5 Fd) (LA Fd) (.list ((hs.set 1 (.cell (iV k))).length+1) true) 0 (((hs.set 1 (.cell (iV k)))++[O.list (Gg ns)]).length+1) ⟨GS 0 1 .undef .undef,a0::((hs.set 1 (.cell (iV k)))++[O.list (Gg ns)]++[O.list []])⟩ ⟨GS 0 1 a' b',a0::((hs.set 1 (.cell (iV k)))++[O.list (Gg ns)]++[O.list ((Bd ns c k).map AW)])⟩:=e1
 have jt:=My (ys:=Bd ns c k)
 have jo:=Ow (ys:=Bd ns c k) (AL il.1 (by decide))
 have jf:=JL (Bd ns c k)
 have sz:=Vd w
 refine AB (Wh (ns:=ns) (d:=12) (a0:=a0) (hs:=(hs.set 1 (.cell (iV k)))++[O.list (Gg ns)]++[O.list ((Bd ns c k).map AW)]) w (AL il.1 (by decide))) fun hs2 h=>DU h fun ri hi ei x2 lr R e2=>?_
 rw[AE,l2] at lr
 rw[←jf] at e2
 have e3:=Y2 (ns:=ns) (d:=14) (a0:=a0) (hs:=hs2)
 have k1:=WL f k
 have k2:=WM f k
 have lt:=(Kl _ (Kk f k)).2.1
 have lj:(B3 (A8 "") ((Bd ns c k).map fun y=>(⟨y.toArray⟩:Str))).cps.size≤96:=by rw[jf];exact il.1
 have z0:BE t.length=true:=As (by show _≤1000000;lia)
 have z1:BE (B3 (A8 "") ((Bd ns c k).map fun y=>(⟨y.toArray⟩:Str))).cps.size=true:=As (AL lj (by decide))
 have s3:(A8 "- '").cps.size=3:=rfl
 have s1:(A8 "'").cps.size=1:=rfl
 have z2:BE (t.length+(A8 "- '").cps.size)=true:=As (by rw[s3];show _≤1000000;lia)
 have z3:BE (((⟨t.toArray⟩:Str)++A8 "- '").cps.size+(B3 (A8 "") ((Bd ns c k).map fun y=>(⟨y.toArray⟩:Str))).cps.size)=true:=As (by rw[GK,s3];show t.length+_+_≤1000000;lia)
 have z4:BE ((((⟨t.toArray⟩:Str)++A8 "- '")++B3 (A8 "") ((Bd ns c k).map fun y=>(⟨y.toArray⟩:Str))).cps.size+(A8 "'").cps.size)=true:=As (by rw[GK,GK,s3,s1];show t.length+_+_+_≤1000000;lia)
 have z5:BE (((((⟨t.toArray⟩:Str)++A8 "- '")++B3 (A8 "") ((Bd ns c k).map fun y=>(⟨y.toArray⟩:Str)))++A8 "'").cps.size+(EJ f k).length)=true:=As (by rw[GK,GK,GK,s3,s1];show t.length+_+_+_+_≤1000000;lia)
 have o1:=lo.ins
 have o2:=lo.rws
 have o3:=lo.hed
 have o4:=lo.end_
 have o5:=lo.sta
 have o6:=lo.stp
 have o7:=lo.pla
 have gk:=g.k_
 have g4:=(g2.ext x2).ext (Aq.app _ (o:=O.list (TAILS.map sV)))
 have gk2:=g4.k_
 have nfk:Ch hs→Ch (hs2++[O.list (TAILS.map sV)]):=fun n=>(Aq.app _).2.2 (x2.2.2 (((Aq.app _).trans (Aq.app _)).2.2 (n.set rfl)))
 refine⟨fun m eF=>?_,fun eF=>?_⟩
 ·rw[eF]
  have qf:decide ((m:Int)=-1)=false:=decide_eq_false (by lia)
  refine⟨hs2++[.list (TAILS.map sV)],⟨.str (B3 (A8 "") ((Bd ns c k).map fun y=>(⟨y.toArray⟩:Str))),.obj (ri+1),.obj (hi+1),.obj (ei+1),iV (t.length+2),iV (t.length+2+(B3 (A8 "") ((Bd ns c k).map fun y=>(⟨y.toArray⟩:Str))).cps.size+2),l.pla⟩,⟨rfl,rfl,rfl,rfl,rfl,rfl,lo.pla⟩,g4,nfk,fun fl s' n=>?_⟩
  rw[QG,←jf] at n
  refine BJ.go (s1:=St.mk [(A8 "script",V.sta 9),(A8 "first",V.int f),(A8 "count",V.cref 1),(A8 "text",V.str (Str.mk (AG t)++A8 "- '"++B3 (A8 "") (AD (fun y=>Str.mk (AG y)) (Bd ns c k))++A8 "'"++Str.mk (AG (EJ f k)))),(A8 "due",V.obj 3),(A8 "fault",V.int (↑m:Int)),(A8 "k",V.cref 2),(A8 "inside",V.str (B3 (A8 "") (AD (fun y=>Str.mk (AG y)) (Bd ns c k)))),(A8 "rows",V.obj (ri+1)),(A8 "heads",V.obj (hi+1)),(A8 "ends",V.obj (ei+1)),(A8 "start",V.int (↑(A9 t+2):Int)),(A8 "stop",V.int (↑(A9 t+2+Array.size (Str.cps (B3 (A8 "") (AD (fun y=>Str.mk (AG y)) (Bd ns c k))))+2):Int)),(A8 "place",Lo.pla l),(A8 "got",V.undef),(A8 "scanner",V.undef),(A8 "token",V.undef),(A8 "refusal",V.undef),(A8 "range",V.ty "range"),(A8 "enumerate",V.ty "enumerate"),(A8 "_law_rows",V.fn 40),(A8 "len",V.bi "len"),(A8 "_law_TAILS",V.fn 39),(A8 "_law_refused",V.fn 41),(A8 "_law_value",V.fn 43),(A8 "Scanner",V.cls 8),(A8 "_law_told",V.fn 44),(A8 "ScannerError",V.cls 9)] (a0::(hs2++[O.list [V.str (Str.mk #[10]),V.str (Str.mk #[32,35,32,105,116,39,115,32,39,115,111,39,13,10]),V.str (Str.mk #[32,32,13]),V.str (Str.mk #[32,133]),V.str (Str.mk #[32,35,32,34,10,10]),V.str (Str.mk #[8232])]]))) [.v .oval (some (V.int (↑k:Int))),.a 1,.v .ob (O.cell kv),.t,.v .nat (min 1 (A9 (AD V.int ns))),.v .nat (min 25 (A9 (AD V.int ns))),.v .ob (O.list (B1 (AD V.int ns) (min 1 (A9 (AD V.int ns))) (min 25 (A9 (AD V.int ns))))),.m (St.mk (GS 0 1 a' b') (a0::(Ai hs 1 (O.cell (iV k))++[O.list (Gg ns)]++[O.list (AD AW (Bd ns c k))]))),.v .ob (O.list (AD AW (Bd ns c k))),.v .strs (AD (fun y=>Str.mk (AG y)) (Bd ns c k)),.t,.t,.c (V.tup [V.obj (ri+1),V.obj (hi+1),V.obj (ei+1)]) (a0::hs2),.t,.t,.t,.t,.t,.t,.t,.t,.t,.t,.c (V.obj (A9 hs2+1)) (a0::(hs2++[O.list (AD sV TAILS)])),.a 1,.v .ob (O.cell (iV k)),.a 1,.v .ob (O.list [V.str (Str.mk #[10]),V.str (Str.mk #[32,35,32,105,116,39,115,32,39,115,111,39,13,10]),V.str (Str.mk #[32,32,13]),V.str (Str.mk #[32,133]),V.str (Str.mk #[32,35,32,34,10,10]),V.str (Str.mk #[8232])]),.v .nat (Int.toNat (Int.fmod (Int.fdiv f 3+(↑k:Int)) 6)),.v .val (sV (EJ f k)),.t,.a 1,.f] ?_ (an q0 (an gk (an h0 (an (BR (n:=A9 (AD V.int ns)) (k:=1) (d:=0)) (an (BR (n:=A9 (AD V.int ns)) (k:=25) (d:=A9 (AD V.int ns))) (an (ga (l:=Ai hs 1 (O.cell (V.int (↑k:Int)))) (o:=O.list (B1 (AD V.int ns) (min 1 (A9 (AD V.int ns))) (min 25 (A9 (AD V.int ns))))) (r:=[])) (an e1 (an (ga (l:=Ai hs 1 (O.cell (V.int (↑k:Int)))++[O.list (Gg ns)]) (o:=O.list (AD AW (Bd ns c k))) (r:=[])) (an jt (an jo (an (BA (u:=Lo.ins l) (v:=V.str (B3 (A8 "") (AD (fun y=>Str.mk (AG y)) (Bd ns c k)))) (h:=o1) (h2:=(by rfl))) (an e2 (an (BA (u:=Lo.rws l) (v:=V.obj (ri+1)) (h:=o2) (h2:=(by rfl))) (an (BA (u:=Lo.hed l) (v:=V.obj (hi+1)) (h:=o3) (h2:=(by rfl))) (an (BA (u:=Lo.end_ l) (v:=V.obj (ei+1)) (h:=o4) (h2:=(by rfl))) (an z0 (an (BA (u:=Lo.sta l) (v:=V.int (↑(A9 t+2):Int)) (h:=o5) (h2:=(by rfl))) (an z1 (an (BA (u:=Lo.stp l) (v:=V.int (↑(A9 t+2+Array.size (Str.cps (B3 (A8 "") (AD (fun y=>Str.mk (AG y)) (Bd ns c k))))+2):Int)) (h:=o6) (h2:=(by rfl))) (an z2 (an z3 (an z4 (an e3 (an gk2 (an (ga (l:=hs2) (o:=O.list [V.str (Str.mk #[10]),V.str (Str.mk #[32,35,32,105,116,39,115,32,39,115,111,39,13,10]),V.str (Str.mk #[32,32,13]),V.str (Str.mk #[32,133]),V.str (Str.mk #[32,35,32,34,10,10]),V.str (Str.mk #[8232])]) (r:=[])) (an k1 (an k2 (an z5 (an qf trivial))))))))))))))))))))))))))))) (by kernel_rfl)
  exact n
 ·rw[eF]
  have gd:=g4.d_
  have zD:BE D.length=true:=As (by show _≤1000000;lia)
  have g5:=g4.d (D':=D++[wordT "entry"])
  have R4:=(R.ext (Aq.app _ (o:=O.list (TAILS.map sV)))).foot (j:=2) (o:=.list (D++[wordT "entry"])) (by lia) (by lia) (by lia)
  refine AS (Y0 (ns:=ns) (d:=13) (a0:=a0) R4 (by have:=sz.2.1;show _≤1000000;lia) (fun q hq=>AL (sz.2.2.2 q hq) (AL il.1 (by decide)))) fun hs5 x5 e5=>?_
  have g6:=g5.ext x5
  refine⟨fun m er=>?_,fun er=>?_⟩
  ·rw[er] at e5
   have qp:decide ((0:Int)≤(m:Int))=true:=decide_eq_true (CD m)
   refine⟨hs5,⟨.str (B3 (A8 "") ((Bd ns c k).map fun y=>(⟨y.toArray⟩:Str))),.obj (ri+1),.obj (hi+1),.obj (ei+1),iV (t.length+2),iV (t.length+2+(B3 (A8 "") ((Bd ns c k).map fun y=>(⟨y.toArray⟩:Str))).cps.size+2),iV m⟩,⟨rfl,rfl,rfl,rfl,rfl,rfl,rfl⟩,g6,fun n=>x5.2.2 ((nfk n).set rfl),fun fl s' n=>?_⟩
   rw[QG,←jf] at n
   refine BJ.go (s1:=St.mk [(A8 "script",V.sta 9),(A8 "first",V.int f),(A8 "count",V.cref 1),(A8 "text",V.str (Str.mk (AG t)++A8 "- '"++B3 (A8 "") (AD (fun y=>Str.mk (AG y)) (Bd ns c k))++A8 "'"++Str.mk (AG (EJ f k)))),(A8 "due",V.obj 3),(A8 "fault",V.int (↑(A9 t+2+1+m):Int)),(A8 "k",V.cref 2),(A8 "inside",V.str (B3 (A8 "") (AD (fun y=>Str.mk (AG y)) (Bd ns c k)))),(A8 "rows",V.obj (ri+1)),(A8 "heads",V.obj (hi+1)),(A8 "ends",V.obj (ei+1)),(A8 "start",V.int (↑(A9 t+2):Int)),(A8 "stop",V.int (↑(A9 t+2+Array.size (Str.cps (B3 (A8 "") (AD (fun y=>Str.mk (AG y)) (Bd ns c k))))+2):Int)),(A8 "place",V.int (↑m:Int)),(A8 "got",V.undef),(A8 "scanner",V.undef),(A8 "token",V.undef),(A8 "refusal",V.undef),(A8 "range",V.ty "range"),(A8 "enumerate",V.ty "enumerate"),(A8 "_law_rows",V.fn 40),(A8 "len",V.bi "len"),(A8 "_law_TAILS",V.fn 39),(A8 "_law_refused",V.fn 41),(A8 "_law_value",V.fn 43),(A8 "Scanner",V.cls 8),(A8 "_law_told",V.fn 44),(A8 "ScannerError",V.cls 9)] (a0::hs5)) [.v .oval (some (V.int (↑k:Int))),.a 1,.v .ob (O.cell kv),.t,.v .nat (min 1 (A9 (AD V.int ns))),.v .nat (min 25 (A9 (AD V.int ns))),.v .ob (O.list (B1 (AD V.int ns) (min 1 (A9 (AD V.int ns))) (min 25 (A9 (AD V.int ns))))),.m (St.mk (GS 0 1 a' b') (a0::(Ai hs 1 (O.cell (iV k))++[O.list (Gg ns)]++[O.list (AD AW (Bd ns c k))]))),.v .ob (O.list (AD AW (Bd ns c k))),.v .strs (AD (fun y=>Str.mk (AG y)) (Bd ns c k)),.t,.t,.c (V.tup [V.obj (ri+1),V.obj (hi+1),V.obj (ei+1)]) (a0::hs2),.t,.t,.t,.t,.t,.t,.t,.t,.t,.t,.c (V.obj (A9 hs2+1)) (a0::(hs2++[O.list (AD sV TAILS)])),.a 1,.v .ob (O.cell (iV k)),.a 1,.v .ob (O.list [V.str (Str.mk #[10]),V.str (Str.mk #[32,35,32,105,116,39,115,32,39,115,111,39,13,10]),V.str (Str.mk #[32,32,13]),V.str (Str.mk #[32,133]),V.str (Str.mk #[32,35,32,34,10,10]),V.str (Str.mk #[8232])]),.v .nat (Int.toNat (Int.fmod (Int.fdiv f 3+(↑k:Int)) 6)),.v .val (sV (EJ f k)),.t,.a 2,.v .ob (O.list D),.v .ob (O.list D),.t,.c (HU (some m)) (a0::hs5),.t,.t,.a 1] ?_ (an q0 (an gk (an h0 (an (BR (n:=A9 (AD V.int ns)) (k:=1) (d:=0)) (an (BR (n:=A9 (AD V.int ns)) (k:=25) (d:=A9 (AD V.int ns))) (an (ga (l:=Ai hs 1 (O.cell (V.int (↑k:Int)))) (o:=O.list (B1 (AD V.int ns) (min 1 (A9 (AD V.int ns))) (min 25 (A9 (AD V.int ns))))) (r:=[])) (an e1 (an (ga (l:=Ai hs 1 (O.cell (V.int (↑k:Int)))++[O.list (Gg ns)]) (o:=O.list (AD AW (Bd ns c k))) (r:=[])) (an jt (an jo (an (BA (u:=Lo.ins l) (v:=V.str (B3 (A8 "") (AD (fun y=>Str.mk (AG y)) (Bd ns c k)))) (h:=o1) (h2:=(by rfl))) (an e2 (an (BA (u:=Lo.rws l) (v:=V.obj (ri+1)) (h:=o2) (h2:=(by rfl))) (an (BA (u:=Lo.hed l) (v:=V.obj (hi+1)) (h:=o3) (h2:=(by rfl))) (an (BA (u:=Lo.end_ l) (v:=V.obj (ei+1)) (h:=o4) (h2:=(by rfl))) (an z0 (an (BA (u:=Lo.sta l) (v:=V.int (↑(A9 t+2):Int)) (h:=o5) (h2:=(by rfl))) (an z1 (an (BA (u:=Lo.stp l) (v:=V.int (↑(A9 t+2+Array.size (Str.cps (B3 (A8 "") (AD (fun y=>Str.mk (AG y)) (Bd ns c k))))+2):Int)) (h:=o6) (h2:=(by rfl))) (an z2 (an z3 (an z4 (an e3 (an gk2 (an (ga (l:=hs2) (o:=O.list [V.str (Str.mk #[10]),V.str (Str.mk #[32,35,32,105,116,39,115,32,39,115,111,39,13,10]),V.str (Str.mk #[32,32,13]),V.str (Str.mk #[32,133]),V.str (Str.mk #[32,35,32,34,10,10]),V.str (Str.mk #[8232])]) (r:=[])) (an k1 (an k2 (an z5 (an gd (an gd (an zD (an e5 (an (BA (u:=Lo.pla l) (v:=HU (some m)) (h:=o7) (h2:=(by rfl))) (an qp trivial)))))))))))))))))))))))))))))))))) (by kernel_rfl)
   exact n
  ·rw[er] at e5
   refine AS (Xy (ns:=ns) (a0:=a0) (R4.ext x5) (by have:=sz.2.1;show _≤1000000;lia) hWl (AL sz.1 (by have:=il.1;show _≤1000000;lia)) (fun q hq=>AL (sz.2.2.2 q hq) (AL il.1 (by decide)))) fun hs6 x6 e6=>?_
   have g7:=g6.ext x6
   have gd6:=g6.d_
   have gd7:=g7.d_
   have zD2:BE (D++[wordT "entry"]).length=true:=As (by rw[AE];show _+1≤1000000;lia)
   have g8:=g7.d (D':=(D++[wordT "entry"])++[E7 (GH r0 W) (t.length+2) (t.length+2+(B3 (A8 "") ((Bd ns c k).map fun y=>(⟨y.toArray⟩:Str))).cps.size+2)])
   have ej:(E1 ns c k).length=(B3 (A8 "") ((Bd ns c k).map fun y=>(⟨y.toArray⟩:Str))).cps.size:=by rw[jf];rfl
   rw[ej,show D++[wordT "entry",E7 (GH r0 W) (t.length+2) (t.length+2+(B3 (A8 "") ((Bd ns c k).map fun y=>(⟨y.toArray⟩:Str))).cps.size+2)]=(D++[wordT "entry"])++[E7 (GH r0 W) (t.length+2) (t.length+2+(B3 (A8 "") ((Bd ns c k).map fun y=>(⟨y.toArray⟩:Str))).cps.size+2)] from(AC D [wordT "entry"] _).symm]
   refine⟨_,⟨.str (B3 (A8 "") ((Bd ns c k).map fun y=>(⟨y.toArray⟩:Str))),.obj (ri+1),.obj (hi+1),.obj (ei+1),iV (t.length+2),iV (t.length+2+(B3 (A8 "") ((Bd ns c k).map fun y=>(⟨y.toArray⟩:Str))).cps.size+2),.int (-1)⟩,⟨rfl,rfl,rfl,rfl,rfl,rfl,rfl⟩,g8,fun n=>(x6.2.2 (x5.2.2 ((nfk n).set rfl))).set rfl,fun fl s' n=>?_⟩
   rw[QG,←jf] at n
   refine BJ.go (s1:=St.mk [(A8 "script",V.sta 9),(A8 "first",V.int f),(A8 "count",V.cref 1),(A8 "text",V.str (Str.mk (AG t)++A8 "- '"++B3 (A8 "") (AD (fun y=>Str.mk (AG y)) (Bd ns c k))++A8 "'"++Str.mk (AG (EJ f k)))),(A8 "due",V.obj 3),(A8 "fault",V.int (-1)),(A8 "k",V.cref 2),(A8 "inside",V.str (B3 (A8 "") (AD (fun y=>Str.mk (AG y)) (Bd ns c k)))),(A8 "rows",V.obj (ri+1)),(A8 "heads",V.obj (hi+1)),(A8 "ends",V.obj (ei+1)),(A8 "start",V.int (↑(A9 t+2):Int)),(A8 "stop",V.int (↑(A9 t+2+Array.size (Str.cps (B3 (A8 "") (AD (fun y=>Str.mk (AG y)) (Bd ns c k))))+2):Int)),(A8 "place",V.int (-1)),(A8 "got",V.undef),(A8 "scanner",V.undef),(A8 "token",V.undef),(A8 "refusal",V.undef),(A8 "range",V.ty "range"),(A8 "enumerate",V.ty "enumerate"),(A8 "_law_rows",V.fn 40),(A8 "len",V.bi "len"),(A8 "_law_TAILS",V.fn 39),(A8 "_law_refused",V.fn 41),(A8 "_law_value",V.fn 43),(A8 "Scanner",V.cls 8),(A8 "_law_told",V.fn 44),(A8 "ScannerError",V.cls 9)] (a0::Ai hs6 2 (O.list (D++[wordT (A8 "entry")]++[V.tup [V.str (A8 "scalar"),sV (GH r0 W),V.str (A8 "'"),V.int (↑(A9 t+2):Int),V.int (↑(A9 t+2+Array.size (Str.cps (B3 (A8 "") (AD (fun y=>Str.mk (AG y)) (Bd ns c k))))+2):Int)]])))) [.v .oval (some (V.int (↑k:Int))),.a 1,.v .ob (O.cell kv),.t,.v .nat (min 1 (A9 (AD V.int ns))),.v .nat (min 25 (A9 (AD V.int ns))),.v .ob (O.list (B1 (AD V.int ns) (min 1 (A9 (AD V.int ns))) (min 25 (A9 (AD V.int ns))))),.m (St.mk (GS 0 1 a' b') (a0::(Ai hs 1 (O.cell (iV k))++[O.list (Gg ns)]++[O.list (AD AW (Bd ns c k))]))),.v .ob (O.list (AD AW (Bd ns c k))),.v .strs (AD (fun y=>Str.mk (AG y)) (Bd ns c k)),.t,.t,.c (V.tup [V.obj (ri+1),V.obj (hi+1),V.obj (ei+1)]) (a0::hs2),.t,.t,.t,.t,.t,.t,.t,.t,.t,.t,.c (V.obj (A9 hs2+1)) (a0::(hs2++[O.list (AD sV TAILS)])),.a 1,.v .ob (O.cell (iV k)),.a 1,.v .ob (O.list [V.str (Str.mk #[10]),V.str (Str.mk #[32,35,32,105,116,39,115,32,39,115,111,39,13,10]),V.str (Str.mk #[32,32,13]),V.str (Str.mk #[32,133]),V.str (Str.mk #[32,35,32,34,10,10]),V.str (Str.mk #[8232])]),.v .nat (Int.toNat (Int.fmod (Int.fdiv f 3+(↑k:Int)) 6)),.v .val (sV (EJ f k)),.t,.a 2,.v .ob (O.list D),.v .ob (O.list D),.t,.c (HU none) (a0::hs5),.t,.a 1,.v .ob (O.list (D++[wordT (A8 "entry")])),.c (sV (GH r0 W)) (a0::hs6),.v .ob (O.list (D++[wordT (A8 "entry")])),.t] ?_ (an q0 (an gk (an h0 (an (BR (n:=A9 (AD V.int ns)) (k:=1) (d:=0)) (an (BR (n:=A9 (AD V.int ns)) (k:=25) (d:=A9 (AD V.int ns))) (an (ga (l:=Ai hs 1 (O.cell (V.int (↑k:Int)))) (o:=O.list (B1 (AD V.int ns) (min 1 (A9 (AD V.int ns))) (min 25 (A9 (AD V.int ns))))) (r:=[])) (an e1 (an (ga (l:=Ai hs 1 (O.cell (V.int (↑k:Int)))++[O.list (Gg ns)]) (o:=O.list (AD AW (Bd ns c k))) (r:=[])) (an jt (an jo (an (BA (u:=Lo.ins l) (v:=V.str (B3 (A8 "") (AD (fun y=>Str.mk (AG y)) (Bd ns c k)))) (h:=o1) (h2:=(by rfl))) (an e2 (an (BA (u:=Lo.rws l) (v:=V.obj (ri+1)) (h:=o2) (h2:=(by rfl))) (an (BA (u:=Lo.hed l) (v:=V.obj (hi+1)) (h:=o3) (h2:=(by rfl))) (an (BA (u:=Lo.end_ l) (v:=V.obj (ei+1)) (h:=o4) (h2:=(by rfl))) (an z0 (an (BA (u:=Lo.sta l) (v:=V.int (↑(A9 t+2):Int)) (h:=o5) (h2:=(by rfl))) (an z1 (an (BA (u:=Lo.stp l) (v:=V.int (↑(A9 t+2+Array.size (Str.cps (B3 (A8 "") (AD (fun y=>Str.mk (AG y)) (Bd ns c k))))+2):Int)) (h:=o6) (h2:=(by rfl))) (an z2 (an z3 (an z4 (an e3 (an gk2 (an (ga (l:=hs2) (o:=O.list [V.str (Str.mk #[10]),V.str (Str.mk #[32,35,32,105,116,39,115,32,39,115,111,39,13,10]),V.str (Str.mk #[32,32,13]),V.str (Str.mk #[32,133]),V.str (Str.mk #[32,35,32,34,10,10]),V.str (Str.mk #[8232])]) (r:=[])) (an k1 (an k2 (an z5 (an gd (an gd (an zD (an e5 (an (BA (u:=Lo.pla l) (v:=HU none) (h:=o7) (h2:=(by rfl))) (an gd6 (an e6 (an gd7 (an zD2 trivial))))))))))))))))))))))))))))))))))))) (by kernel_rfl)
   exact n
end
noncomputable def ents (ns:List Int)(f:Int)(c:Nat):Nat→Nat→List Ja
 |0,_=>[]
 |n+1,k=>(E1 ns c k,EJ f k)::ents ns f c n (k+1)
theorem Pv (y x:List Nat)(L:List Ja):ltx ((y,x)::L)=Fc y x++ltx L:=by
 show 45::32::39::(y++39::(x++ltx L))=(45::32::39::(y++39::x))++ltx L
 simp
theorem Nr (y x:List Nat):(Fc y x).length=y.length+x.length+4:=by
 unfold Fc
 simp
 lia
section
variable {ns:List Int}{a0:O}{f:Int}{c:Nat}
noncomputable def LZ (ns:List Int)(a0:O)(f:Int)(c k:Nat)(st:St)(hs:List O)(t:List Nat)(F:Option Nat)(D:List V):Prop:=
 ∃hs' l' kv',Ke l'∧Cn kv'=true∧Fj c kv' D hs'∧(Ch hs→Ch hs')∧BJ (S ns) 16 (wT HB) (.rng 0 (c:Int)) k (wB HB) st .next ⟨EN f (sV t) F l',a0::hs'⟩
theorem LV.on {k:Nat}{st:St}{hs:List O}{t t':List Nat}{F F':Option Nat}{D D':List V}(x:LV ns a0 f c k st hs t F D)(y:∀hs' l',Ke l'→Fj c (iV k) D hs'→LZ ns a0 f c (k+1) ⟨EN f (sV t) F l',a0::hs'⟩ hs' t' F' D'):LZ ns a0 f c k st hs t' F' D':=
 Hg x fun hs1 l1 o g nf s=>AB (y hs1 l1 o g) fun hs2 h=>AB h fun l2 h=>AB h fun kv h=>⟨hs2,l2,kv,h.1,h.2.1,h.2.2.1,fun n=>h.2.2.2.1 (nf n),s _ _ h.2.2.2.2⟩
theorem XY {k:Nat}{hs:List O}{t:List Nat}{F:Option Nat}{D:List V}{kv:V}{l:Lo}(h:c≤k)(o:Ke l)(ok:Cn kv=true)(g:Fj c kv D hs):LZ ns a0 f c k ⟨EN f (sV t) F l,a0::hs⟩ hs t F D:=by
 refine⟨hs,l,kv,o,ok,g,id,?_⟩
 have q0:=Yc h
 exact BJ.by [.v .oval (none)] (an q0 trivial) (by kernel_rfl)
theorem Yq (hn:ns.length≤63)(hc:c≤3):∀{n k:Nat} {t:List Nat} {hs:List O} {D:List V} {kv:V} {l:Lo},k+n=c→Ke l→Cn kv=true→Fj c kv D hs→t.length≤120 * k→D.length≤2+2 * k→
  (∀m,LZ ns a0 f c k ⟨EN f (sV t) (some m) l,a0::hs⟩ hs (t++ltx (ents ns f c n k)) (some m) D)∧
  (∀ds e,JZ (t.length+1) (ents ns f c n k) ds e→LZ ns a0 f c k ⟨EN f (sV t) none l,a0::hs⟩ hs (t++ltx (ents ns f c n k)) e (D++ds)):=by
 intro n
 induction n with
 |zero=>
  intro k t hs D kv l hk o ok g ht hD
  have e:t++ltx (ents ns f c 0 k)=t:=AR t
  rw[e]
  refine⟨fun m=>XY (CI hk.symm) o ok g,fun ds e h=>?_⟩
  generalize eE:ents ns f c 0 k=E at h
  rcases h with _|_|_
  ·rw[AR];exact XY (CI hk.symm) o ok g
  ·exact(List.cons_ne_nil _ _ eE.symm).elim
  ·exact(List.cons_ne_nil _ _ eE.symm).elim
 |succ n ih=>
  intro k t hs D kv l hk o ok g ht hD
  have hkc:k<c:=by lia
  have il:=Nf hn c k
  have fo:=Jr (Kp (c:=c) (k:=k) (l:=Kq ns) (p:=0)).1
  have lt:=(Kl _ (Kk f k)).2.1
  have ht1:t.length≤1000:=by lia
  have hD1:D.length≤1000:=by lia
  have el:(t++Fc (E1 ns c k) (EJ f k)).length=t.length+(E1 ns c k).length+(EJ f k).length+4:=by rw[AE,Nr];lia
  have ht2:(t++Fc (E1 ns c k) (EJ f k)).length≤120 * (k+1):=by rw[el];lia
  have ee:t++ltx (ents ns f c (n+1) k)=(t++Fc (E1 ns c k) (EJ f k))++ltx (ents ns f c n (k+1)):=by rw[AC];exact congrArg (t++·) (Pv _ _ _)
  rw[ee]
  refine⟨fun m=>?_,fun ds e h=>?_⟩
  ·refine AB (US _ (AT (E1 ns c k).length)) fun r0 h=>AB h fun W w=>?_
   exact((N3 (F:=some m) g ok o hkc hn w (fun q hq=>(((Kr w).1 fo.1).2 q hq).le) ht1 hD1).1 m rfl).on fun hs' l' o' g'=>(ih (by lia) o' rfl g' ht2 (by lia)).1 m
  ·generalize eE:ents ns f c (n+1) k=E at h
   rcases h with _|@⟨_,m,y,x,r0,L,W,w,er⟩|@⟨_,y,x,r0,L,W,ds,e,w,er,h⟩
   ·exact(List.cons_ne_nil _ _ eE).elim
   ·have e1:=(AZ eE).1
    have e2:E1 ns c k=y:=congrArg Prod.fst e1
    subst e2
    rw[show t.length+1+1+(m+1)=t.length+2+1+m by lia]
    exact((N3 (F:=none) g ok o hkc hn w (fun q hq=>(((Kr w).1 fo.1).2 q hq).le) ht1 hD1).2 rfl).1 m er |>.on fun hs' l' o' g'=>(ih (by lia) o' rfl g' ht2 (by rw[AE,D1];lia)).1 _
   ·have e1:=(AZ eE).1
    have e2:E1 ns c k=y:=congrArg Prod.fst e1
    have e3:EJ f k=x:=congrArg Prod.snd e1
    have e4:=(AZ eE).2
    subst e2 e3 e4
    have ep:t.length+1+1+((E1 ns c k).length+2)+(EJ f k).length+1=(t++Fc (E1 ns c k) (EJ f k)).length+1:=by rw[el];lia
    rw[ep] at h
    have es:wordT "entry"::E7 (GH r0 W) (t.length+1+1) (t.length+1+1+((E1 ns c k).length+2))::ds=[wordT "entry",E7 (GH r0 W) (t.length+2) (t.length+2+(E1 ns c k).length+2)]++ds:=rfl
    rw[es,←AC D]
    exact((N3 (F:=none) g ok o hkc hn w (fun q hq=>(((Kr w).1 fo.1).2 q hq).le) ht1 hD1).2 rfl).2 er |>.on fun hs' l' o' g'=>(ih (by lia) o' rfl g' ht2 (by rw[AE];show _+2≤_;lia)).2 _ _ h
end
noncomputable def Zn:Stmt→List Stmt
 | .Try b _ _ _ _=>b
 |_=>[]
noncomputable def YS:Stmt:=Bo (BZ 45) 9
noncomputable def Jg:Stmt:=Bo (Zn YS) 1
section
variable {ns:List Int}{fi te du fa:V}{l:Lo}{gi:Nat}
noncomputable def VA (n gi:Nat)(Z hs:List O):Prop:=∀j,j<n→j≠gi→hs[j]? =Z[j]?
theorem aO {σ:Sc}{hs:List O}:An (S ns) 16 (wT Jg) (wB Jg) ⟨HY fi te du fa l (.obj (gi+1)) (.obj 0) .none .undef,scO σ::hs⟩ .next ⟨HY fi te du fa l (.obj (gi+1)) (.obj 0) .none .undef,scO σ::hs⟩:=by
 exact An.by [.a 1] trivial (by kernel_rfl)
theorem Uh {L:List V}{e:Option Nat}{K:Sc→List O→List O→Prop}(w:FJ ns 4 L e K):(∀σ Z hs j o,K σ Z hs→j<Z.length→DH o=true→K σ (Z.set j o) (hs.set j o))→(∀σ Z hs,K σ Z hs→∀j,j<Z.length→hs[j]? =Z[j]?)→
  ∀{σ:Sc} {Z hs:List O} {G:List V} {v t:V},K σ Z hs→ED ns v t→F6 v=true→gi<Z.length→Z[gi]? =some (.list G)→G.length+L.length+1≤1000→
  (e=none→∃σ' hs',VA Z.length gi Z hs'∧hs'[gi]? =some (.list (G++t::L))∧An (S ns) 16 (wT Jg) (wB Jg) ⟨HY fi te du fa l (.obj (gi+1)) (.obj 0) v .undef,scO σ::hs⟩ .next ⟨HY fi te du fa l (.obj (gi+1)) (.obj 0) .none .undef,scO σ'::hs'⟩)∧
  (∀i,e=some i→∃x h' cm κ v',Hz x cm (mk κ)∧κ.ix=i∧VA Z.length gi Z h'.tail∧h'.tail[gi]? =some (.list (G++t::L))∧Cn v'=true∧E2 (S ns) 16 (wT Jg) (wB Jg) ⟨HY fi te du fa l (.obj (gi+1)) (.obj 0) v .undef,scO σ::hs⟩ x ⟨HY fi te du fa l (.obj (gi+1)) (.obj 0) v' .undef,h'⟩):=by
 induction w with
 |@tok t' L e K K' hf' hk' s w ih=>
  intro hf hk σ Z hs G v t k tv hr hg eg hz
  refine AB (IK hr) fun c z=>AB z fun fs ev=>?_
  subst ev
  have g:=(hk _ _ _ k gi hg).trans eg
  have k1:=hf _ _ _ gi (.list (G++[t])) k hg rfl
  have et:=tv 14 (scO σ::hs)
  have hz':G.length+(L.length+1)+1≤1000:=hz
  have oG:BE G.length=true:=As (by show _≤1000000;lia)
  refine DU (s _ _ _ k1) fun v2 σ2 hs2 tv2 hr2 k2=>fun e2=>?_
  refine AB (IK hr2) fun c2 z=>AB z fun fs2 ev=>?_
  subst ev
  have hl:(Z.set gi (.list (G++[t]))).length=Z.length:=BQ
  have I:=ih hf' hk' (G:=G++[t]) k2 tv2 rfl (by rw[hl];exact hg) (gs eg) (by rw[AE];show G.length+1+_+1≤_;lia)
  rw[hl,AC] at I
  have kp:∀{x:List O},VA Z.length gi (Z.set gi (.list (G++[t]))) x→VA Z.length gi Z x:=fun k j h1 h2=>(k j h1 h2).trans (Aa (Cq h2))
  refine⟨fun en=>?_,fun i ei=>?_⟩
  ·refine BF (I.1 en) fun σ3 hs3 kp3 g3 e3=>⟨σ3,hs3,kp kp3,g3,?_⟩
   refine An.go (s1:=St.mk [(A8 "script",V.sta 9),(A8 "first",fi),(A8 "count",V.cref 1),(A8 "text",te),(A8 "due",du),(A8 "fault",fa),(A8 "k",V.cref 2),(A8 "inside",Lo.ins l),(A8 "rows",Lo.rws l),(A8 "heads",Lo.hed l),(A8 "ends",Lo.end_ l),(A8 "start",Lo.sta l),(A8 "stop",Lo.stp l),(A8 "place",Lo.pla l),(A8 "got",V.obj (gi+1)),(A8 "scanner",V.obj 0),(A8 "token",V.rcd c2 fs2),(A8 "refusal",V.undef),(A8 "range",V.ty "range"),(A8 "enumerate",V.ty "enumerate"),(A8 "_law_rows",V.fn 40),(A8 "len",V.bi "len"),(A8 "_law_TAILS",V.fn 39),(A8 "_law_refused",V.fn 41),(A8 "_law_value",V.fn 43),(A8 "Scanner",V.cls 8),(A8 "_law_told",V.fn 44),(A8 "ScannerError",V.cls 9)] (scO σ2::hs2)) [.a 1,.v .ob (O.list G),.c (t) (scO σ::hs),.v .ob (O.list G),.t,.c (V.rcd c2 fs2) (scO σ2::hs2),.a 1] ?_ (an g (an et (an g (an oG (an e2 trivial))))) (by kernel_rfl)
   exact e3
  ·refine AB (I.2 i ei) fun x z=>AB z fun h' z=>AB z fun cm z=>AB z fun κ z=>AB z fun v' z=>⟨x,h',cm,κ,v',z.1,z.2.1,kp z.2.2.1,z.2.2.2.1,z.2.2.2.2.1,?_⟩
   have e3:=z.2.2.2.2.2
   refine E2.go (s1:=St.mk [(A8 "script",V.sta 9),(A8 "first",fi),(A8 "count",V.cref 1),(A8 "text",te),(A8 "due",du),(A8 "fault",fa),(A8 "k",V.cref 2),(A8 "inside",Lo.ins l),(A8 "rows",Lo.rws l),(A8 "heads",Lo.hed l),(A8 "ends",Lo.end_ l),(A8 "start",Lo.sta l),(A8 "stop",Lo.stp l),(A8 "place",Lo.pla l),(A8 "got",V.obj (gi+1)),(A8 "scanner",V.obj 0),(A8 "token",V.rcd c2 fs2),(A8 "refusal",V.undef),(A8 "range",V.ty "range"),(A8 "enumerate",V.ty "enumerate"),(A8 "_law_rows",V.fn 40),(A8 "len",V.bi "len"),(A8 "_law_TAILS",V.fn 39),(A8 "_law_refused",V.fn 41),(A8 "_law_value",V.fn 43),(A8 "Scanner",V.cls 8),(A8 "_law_told",V.fn 44),(A8 "ScannerError",V.cls 9)] (scO σ2::hs2)) [.a 1,.v .ob (O.list G),.c (t) (scO σ::hs),.v .ob (O.list G),.t,.c (V.rcd c2 fs2) (scO σ2::hs2),.a 1] ?_ (an g (an et (an g (an oG (an e2 trivial))))) (by kernel_rfl)
   exact e3
 |@stop K s=>
  intro hf hk σ Z hs G v t k tv hr hg eg hz
  refine AB (IK hr) fun c z=>AB z fun fs ev=>?_
  subst ev
  have g:=(hk _ _ _ k gi hg).trans eg
  have k1:=hf _ _ _ gi (.list (G++[t])) k hg rfl
  have et:=tv 14 (scO σ::hs)
  have oG:BE G.length=true:=As (by show _≤1000000;lia)
  have e2:=s _ _ _ k1
  refine⟨fun zz=>⟨σ,hs.set gi (.list (G++[t])),fun j h1 h2=>(Aa (Cq h2)).trans (hk _ _ _ k j h1),gs g,?_⟩,fun i z=>AP z⟩
  have ew:=aO (ns:=ns) (fi:=fi) (te:=te) (du:=du) (fa:=fa) (l:=l) (gi:=gi) (σ:=σ) (hs:=hs.set gi (.list (G++[t])))
  refine An.go (s1:=St.mk [(A8 "script",V.sta 9),(A8 "first",fi),(A8 "count",V.cref 1),(A8 "text",te),(A8 "due",du),(A8 "fault",fa),(A8 "k",V.cref 2),(A8 "inside",Lo.ins l),(A8 "rows",Lo.rws l),(A8 "heads",Lo.hed l),(A8 "ends",Lo.end_ l),(A8 "start",Lo.sta l),(A8 "stop",Lo.stp l),(A8 "place",Lo.pla l),(A8 "got",V.obj (gi+1)),(A8 "scanner",V.obj 0),(A8 "token",V.none),(A8 "refusal",V.undef),(A8 "range",V.ty "range"),(A8 "enumerate",V.ty "enumerate"),(A8 "_law_rows",V.fn 40),(A8 "len",V.bi "len"),(A8 "_law_TAILS",V.fn 39),(A8 "_law_refused",V.fn 41),(A8 "_law_value",V.fn 43),(A8 "Scanner",V.cls 8),(A8 "_law_told",V.fn 44),(A8 "ScannerError",V.cls 9)] (scO σ::Ai hs gi (O.list (G++[t])))) [.a 1,.v .ob (O.list G),.c (t) (scO σ::hs),.v .ob (O.list G),.t,.c (V.none) (scO σ::Ai hs gi (O.list (G++[t]))),.a 1] ?_ (an g (an et (an g (an oG (an e2 trivial))))) (by kernel_rfl)
  exact ew
 |@err i K s=>
  intro hf hk σ Z hs G v t k tv hr hg eg hz
  refine AB (IK hr) fun c z=>AB z fun fs ev=>?_
  subst ev
  have g:=(hk _ _ _ k gi hg).trans eg
  have k1:=hf _ _ _ gi (.list (G++[t])) k hg rfl
  have et:=tv 14 (scO σ::hs)
  have oG:BE G.length=true:=As (by show _≤1000000;lia)
  refine AB (s _ _ _ k1) fun x z=>AB z fun h' z=>AB z fun cm z=>AB z fun κ z=>?_
  have hl:(Z.set gi (.list (G++[t]))).length=Z.length:=BQ
  have e2:=z.2.2.2
  have kp:=z.2.2.1
  rw[hl] at kp
  have tl:∀j:Nat,h'.tail[j]? =h'[j+1]?:=fun j=>by rw[List.getElem?_tail]
  refine⟨fun z=>AP z.symm,fun i' ei=>⟨x,h',cm,κ,.rcd c fs,z.1,z.2.1.trans (AH ei),fun j h1 h2=>(tl j).trans ((kp j h1).trans (Aa (Cq h2))),(tl gi).trans ((kp gi hg).trans (gs eg)),rfl,?_⟩⟩
  exact E2.by [.a 1,.v .ob (O.list G),.c (t) (scO σ::hs),.v .ob (O.list G),.t,.x (x) (h')] (an g (an et (an g (an oG (an e2 trivial))))) (by kernel_rfl)
end
noncomputable def RP (a b:Nat):List Stmt:=((BZ 45).drop a).take b
noncomputable abbrev RZ:Lo:=⟨.undef,.undef,.undef,.undef,.undef,.undef,.undef⟩
theorem LU:∀{L:List V},(∀v∈L,E9 v v=some true)→Hx E9 L L=some true
 |[],_=>rfl
 |a::L,h=>by
  show((E9 a a).bind fun r=>bif r then Hx E9 L L else none)=_
  rw[h a (.head _)]
  exact LU fun v hv=>h v (.tail _ hv)
theorem HI (s:Str):E9 (wordT s) (wordT s)=some true:=by
 show(bif decide (s=s) then _ else _)=_
 rw[decide_eq_true rfl];rfl
theorem Vc (t:List Nat)(i j:Nat):E9 (E7 t i j) (E7 t i j)=some true:=by
 show(bif decide (A8 "scalar"=A8 "scalar") then(bif decide ((⟨t.toArray⟩:Str)=⟨t.toArray⟩) then(bif decide (A8 "'"=A8 "'") then(bif decide ((i:Int)=(i:Int)) then(bif decide ((j:Int)=(j:Int)) then some true else none) else none) else none) else none) else none)=_
 rw[decide_eq_true rfl,decide_eq_true rfl,decide_eq_true rfl,decide_eq_true rfl,decide_eq_true rfl];rfl
theorem X5 {i:Nat}{L:List Ja}{ds:List V}{e:Option Nat}(h:JZ i L ds e):(∀v∈ds,E9 v v=some true)∧ds.length≤2 * L.length:=by
 induction h with
 |nil=>exact⟨fun zz h=>(Ap h).elim,AT _⟩
 |bad=>exact⟨fun v hv=>(AY.mp hv)▸HI _,by rw[AX,AX,Bk];lia⟩
 |more _ _ _ ih=>exact⟨fun v hv=>(AU.mp hv).elim (fun z=>z▸HI _) fun hv=>(AU.mp hv).elim (fun z=>z▸Vc _ _ _) (ih.1 v),by rw[AX,AX,AX];have:=ih.2;lia⟩
theorem XR:∀{e:Option Nat},(∀v∈fin e,E9 v v=some true)∧(fin e).length≤2
 |none=>⟨fun v hv=>(AU.mp hv).elim (fun z=>z▸HI _) fun hv=>(AY.mp hv)▸HI _,AT _⟩
 |some _=>⟨fun v hv=>(Ap hv).elim,Bx _⟩
section
variable {ns:List Int}
theorem Og {hs:List O}{L:List Nat}(hL:∀c∈L,KB c)(hz:L.length+1≤lim)(nf:Ch hs):∃σ h1,QS (L++[0]) σ hs h1∧AK (S ns) 15 14 [.obj 0,sV L] [] (.inst 8 []::hs) .none (scO σ::h1):=
 ⟨_,_,⟨⟨_,Z1 nf⟩,⟨rfl,by show(L++[0]).length≤lim;rw[AE];exact hz⟩,rfl,rfl,rfl,rfl,rfl⟩,XF (d:=10) hL hz⟩
noncomputable def cntN (f:Int):Nat:=1+(f.fmod 3).toNat
theorem O5 (f:Int):cntN f≤3∧0<cntN f∧(1+f.fmod 3:Int)=(cntN f:Int):=by
 have h:=Hd f 3 (by decide)
 have h2:f.fmod 3=((f.fmod 3).toNat:Int):=h.2
 unfold cntN
 exact⟨by have:=h.1;lia,by lia,by rw[h2];lia⟩
noncomputable abbrev H0 (c:V):List O:=[.cell c,.cell .undef,.list [wordT "stream",wordT "sequence"]]
theorem XM (h:ns.length≤63):∃f:Int,Cm (S ns) 16 (RP 0 5) ⟨HY .undef .undef .undef .undef RZ .undef .undef .undef .undef,[.void,.cell .undef,.cell .undef]⟩ .next ⟨EN f (.str "") none RZ,.void::H0 (iV (cntN f))⟩:=by
 have h0:BE (ns.map V.int).length=true:=As (by rw[AQ];show _≤1000000;lia)
 rcases ns with _|⟨n,ns⟩
 ·refine⟨0,?_⟩
  have k0:decide ((([]:List Int).map V.int).length≠0)=false:=rfl
  rw[show iV (cntN 0)= .int (1+Int.fmod 0 3) from congrArg V.int (O5 0).2.2.symm]
  exact Cm.by [.a 9] trivial (by kernel_rfl)
 ·refine⟨n,?_⟩
  have k0:decide (((n::ns).map V.int).length≠0)=true:=rfl
  have k1:FE 0 ((n::ns).map V.int).length=some 0:=Hr (k:=0) (by rw[AQ];show _≤1000000;lia) (Nat.succ_pos _)
  have k2:((n::ns).map V.int)[0]? =some (.int n):=rfl
  rw[show iV (cntN n)= .int (1+Int.fmod n 3) from congrArg V.int (O5 n).2.2.symm]
  exact Cm.by [.t,.t,.v .nat (0),.v .val (V.int n),.a 7] (an h0 (an k0 (an k1 (an k2 trivial)))) (by kernel_rfl)
end
theorem FJ.first {ns:List Int}{d:Nat}{t:V}{L:List V}{e:Option Nat}{K:Sc→List O→List O→Prop}(W:FJ ns d (t::L) e K):∃K':Sc→List O→List O→Prop,(∀σ Z hs j o,K' σ Z hs→j<Z.length→DH o=true→K' σ (Z.set j o) (hs.set j o))∧(∀σ Z hs,K' σ Z hs→∀j,j<Z.length→hs[j]? =Z[j]?)∧
  (∀σ Z hs,K σ Z hs→∃v σ' hs',ED ns v t∧F6 v=true∧K' σ' Z hs'∧AK (S ns) (d+11) 15 [.obj 0] [] (scO σ::hs) v (scO σ'::hs'))∧FJ ns d L e K':=by
 generalize eT:t::L=TL at W
 rcases W with @⟨t,L',e,K,K',hf,hk,s,w⟩|_|_
 ·have e1:=(AZ eT).1
  have e2:=(AZ eT).2
  subst e1 e2
  exact⟨K',hf,hk,s,w⟩
 ·exact(List.cons_ne_nil _ _ eT).elim
 ·exact(List.cons_ne_nil _ _ eT).elim
section
variable {ns:List Int}{hs:List O}{f:Int}{c:Nat}{kv:V}{D L:List V}{T u:List Nat}{l:Lo}
theorem Qb (h:∀v∈L,E9 v v=some true):Hx E9 ([]++wordT "stream"::L) (wordT "stream"::L)=some true:=LU fun v hv=>(AU.mp hv).elim (fun z=>z▸HI _) (h v)
theorem XO (W:FJ ns 4 (wordT "stream"::L) none (QS (T++[0])))(eD:D++[wordT "sequence end",wordT "stream end"]=wordT "stream"::L)(hv:∀v∈L,E9 v v=some true)(hL:L.length≤100)(g:Fj c kv D hs)(nf:Ch hs)(hp:∀x∈T,KB x)(hz:T.length≤1000):
  ∃l' h',Cm (S ns) 16 (RP 6 5) ⟨EN f (sV T) none l,.void::hs⟩ (.ret (.bool true)) ⟨l',h'⟩:=by
 have hD:D.length≤1000:=by
  have e:D.length+2=L.length+1:=by
   have:=congrArg A9 eD
   rw[AE] at this
   exact this
  lia
 have gd:=g.d_
 have gd1:=(g.ext (Aq.app hs (o:=O.list [wordT "sequence end",wordT "stream end"]))).d_
 have zD:BE (D.length+2)=true:=As (by show _≤1000000;lia)
 have X:Aq hs (hs++[O.list [wordT "sequence end",wordT "stream end"]]++[O.list (D++[wordT "sequence end",wordT "stream end"])]++[O.list []]):=((Aq.app hs).trans (Aq.app _)).trans (Aq.app _)
 refine Dl (Og (ns:=ns) (hs:=hs++[O.list [wordT "sequence end",wordT "stream end"]]++[O.list (D++[wordT "sequence end",wordT "stream end"])]++[O.list []]) hp (by show _≤1000000;lia) (X.2.2 nf)) fun σ0 h1 q0 e0=>?_
 refine SA W.first fun K' hf hk s w=>?_
 ·refine DU (s _ _ _ q0) fun v σ1 h2 tv hr k2=>fun e3=>?_
  refine AB (IK hr) fun cc zz=>AB zz fun fs ev=>?_
  subst ev
  have lg:(hs++[O.list [wordT "sequence end",wordT "stream end"]]++[O.list (D++[wordT "sequence end",wordT "stream end"])]++[O.list []]).length=hs.length+3:=by simp
  have lg2:(hs++[O.list [wordT "sequence end",wordT "stream end"]]++[O.list (D++[wordT "sequence end",wordT "stream end"])]).length=hs.length+2:=by simp
  have lg1:(hs++[O.list [wordT "sequence end",wordT "stream end"]]).length=hs.length+1:=by simp
  refine BF ((Uh (ns:=ns) (fi:=.int f) (te:=sV T) (du:=.obj ((hs++[O.list [wordT "sequence end",wordT "stream end"]]).length+1)) (fa:=HU none) (l:=l) (gi:=(hs++[O.list [wordT "sequence end",wordT "stream end"]]++[O.list (D++[wordT "sequence end",wordT "stream end"])]).length) w hf hk (G:=[]) k2 tv hr (by rw[lg,lg2];lia) ga (by show 0+_+1≤1000;lia)).1 rfl) fun σ3 h3 kp g3 e4=>?_
  have gd3:h3[(hs++[O.list [wordT "sequence end",wordT "stream end"]]).length]? =some (.list (wordT "stream"::L)):=(kp _ (by rw[lg,lg1];lia) (by rw[lg2,lg1];lia)).trans (by rw[←eD,AC];exact ga)
  have q:=Qb hv
  refine⟨HY (.int f) (sV T) (.obj ((hs++[O.list [wordT "sequence end",wordT "stream end"]]).length+1)) (HU none) l (.obj ((hs++[O.list [wordT "sequence end",wordT "stream end"]]++[O.list (D++[wordT "sequence end",wordT "stream end"])]).length+1)) (.obj 0) .none .undef,scO σ3::h3,?_⟩
  have e3:AK (S ns) 15 15 [.obj 0] [] (scO σ0::h1) (.rcd cc fs) (scO σ1::h2):=e3
  exact Cm.by [.a 1,.v .ob (O.list D),.v .ob (O.list [V.tup [V.str (A8 "sequence end")],V.tup [V.str (A8 "stream end")]]),.t,.a 2,.c (V.none) (scO σ0::h1),.a 1,.c (V.rcd cc fs) (scO σ1::h2),.a 1,.w (Fl.next) (St.mk (HY (V.int f) (sV T) (V.obj (A9 (hs++[O.list [wordT (A8 "sequence end"),wordT (A8 "stream end")]])+1)) (HU none) l (V.obj (A9 (hs++[O.list [wordT (A8 "sequence end"),wordT (A8 "stream end")]]++[O.list (D++[wordT (A8 "sequence end"),wordT (A8 "stream end")])])+1)) (V.obj 0) V.none V.undef) (scO σ3::h3)),.a 1,.v .ob (O.list ([]++wordT (A8 "stream")::L)),.v .ob (O.list (wordT (A8 "stream")::L)),.v .bool (true)] (an gd1 (an (ga (l:=hs) (o:=O.list [V.tup [V.str (A8 "sequence end")],V.tup [V.str (A8 "stream end")]]) (r:=[])) (an zD (an e0 (an e3 (an e4 (an g3 (an gd3 (an q trivial))))))))) (by kernel_rfl)
theorem ZB {i:Nat}(W:FJ ns 4 (wordT "stream"::L) (some i) (QS (T++[0])))(eD:D=wordT "stream"::L)(hv:∀v∈L,E9 v v=some true)(hL:L.length≤100)(g:Fj c kv D hs)(nf:Ch hs)(hp:∀x∈T,KB x)(hz:T.length≤1000):
  ∃l' h',Cm (S ns) 16 (RP 6 5) ⟨EN f (sV T) (some i) l,.void::hs⟩ (.ret (.bool true)) ⟨l',h'⟩:=by
 have gd:=g.d_
 have l3:=g.lt
 refine Dl (Og (ns:=ns) (hs:=hs++[O.list []]) hp (by show _≤1000000;lia) ((Aq.app hs).2.2 nf)) fun σ0 h1 q0 e0=>?_
 refine SA W.first fun K' hf hk s w=>?_
 ·refine DU (s _ _ _ q0) fun v σ1 h2 tv hr k2=>fun e3=>?_
  refine AB (IK hr) fun cc zz=>AB zz fun fs ev=>?_
  subst ev
  have lg:(hs++[O.list []]).length=hs.length+1:=AE
  refine AB ((Uh (ns:=ns) (fi:=.int f) (te:=sV T) (du:=.obj 3) (fa:=HU (some i)) (l:=l) (gi:=hs.length) w hf hk (G:=[]) k2 tv hr (by rw[lg];lia) ga (by show 0+_+1≤1000;lia)).2 i rfl) fun x z=>AB z fun h' z=>AB z fun cm z=>AB z fun κ z=>AB z fun v' z=>?_
  rcases h' with _|⟨o,h'⟩
  ·have g3:(none:Option O)=some _:=z.2.2.2.1
   exact AP g3
  have g3:h'[hs.length]? =some (.list ([]++wordT "stream"::L)):=z.2.2.2.1
  have gd3:h'[2]? =some (.list (wordT "stream"::L)):=(z.2.2.1 2 (by rw[lg];lia) (by lia)).trans (by rw[←eD];exact gl gd)
  have ov:=z.2.2.2.2.1
  have e4:=z.2.2.2.2.2
  have hx:=z.1
  refine AB hx fun ct hx=>AB hx fun pr hx=>?_
  subst hx
  have q:=Qb hv
  have qi:decide ((κ.ix:Int)=(i:Int))=true:=decide_eq_true (congrArg Int.ofNat z.2.1)
  have qf:decide ((i:Int)=-1)=false:=decide_eq_false (by lia)
  have qp:decide ((0:Int)≤(i:Int))=true:=decide_eq_true (CD i)
  refine⟨[],o::h',?_⟩
  rw[show V.bool true=V.bool (decide ((κ.ix:Int)=(i:Int))) from congrArg V.bool qi.symm]
  have e3:AK (S ns) 15 15 [.obj 0] [] (scO σ0::h1) (.rcd cc fs) (scO σ1::h2):=e3
  exact Cm.by [.f,.a 1,.c (V.none) (scO σ0::h1),.a 1,.c (V.rcd cc fs) (scO σ1::h2),.a 1,.y (V.rcd 9 (Ee ct cm pr (mk κ))) (St.mk (HY (V.int f) (sV T) (V.obj 3) (HU (some i)) l (V.obj (A9 hs+1)) (V.obj 0) v' V.undef) (o::h')),.a 1,.t,.v .ob (O.list ([]++wordT (A8 "stream")::L)),.v .ob (O.list (wordT (A8 "stream")::L)),.v .bool (true),.a 1] (an qf (an e0 (an e3 (an e4 (an hr (an g3 (an gd3 (an q trivial)))))))) (by kernel_rfl)
theorem Ya {c:Nat}{s':St}(hc:c≤3)(x:BJ (S ns) 16 (wT HB) (.rng 0 (c:Int)) 0 (wB HB) ⟨EN f (.str "") none RZ,.void::H0 (iV c)⟩ .next s'):Cm (S ns) 16 (RP 5 1) ⟨EN f (.str "") none RZ,.void::H0 (iV c)⟩ .next s':=by
 have gc:(H0 (iV c))[0]? =some (.cell (iV c)):=rfl
 have oc:BE c=true:=As (by show _≤1000000;lia)
 exact Cm.by [.v .ob (O.cell (iV c)),.t,.t,.w (Fl.next) (s')] (an gc (an oc (an oc (an x trivial)))) (by kernel_rfl)
end
theorem PB {ns:List Int}{f:Int}{c:Nat}:∀{n k:Nat},(∀p∈ents ns f c n k,VC p∧I9 p.2)∧(∀x∈ltx (ents ns f c n k),KB x)
 |0,_=>⟨fun zz h=>(Ap h).elim,fun zz h=>(Ap h).elim⟩
 |n+1,k=>by
  have fo:=Jr (Kp (c:=c) (k:=k) (l:=Kq ns) (p:=0)).1
  have tl:=Kl _ (Kk f k)
  have i:=PB (ns:=ns) (f:=f) (c:=c) (n:=n) (k:=k+1)
  refine⟨fun p hp=>(AU.mp hp).elim (fun e=>?_) (i.1 p),fun x hx=>?_⟩
  ·rw[e]
   refine⟨⟨fo.1,fun h=>(Lm (fo.2.1 0 h)).2.1 rfl,?_⟩,Sg _ (Kk f k)⟩
   refine AB tl.2.2 fun a h=>?_
   show ∃b r,EJ f k=b::r∧b≠39
   rcases e:EJ f k with _|⟨b,r⟩
   ·rw[e] at h;exact AP h.2
   ·rw[e] at h
    have q:b=a:=AH h.2
    exact⟨b,r,rfl,q▸(by decide:∀a∈[10,32,8232],a≠39) a h.1⟩
  ·have e1:ltx (ents ns f c (n+1) k)=Fc (E1 ns c k) (EJ f k)++ltx (ents ns f c n (k+1)):=Pv _ _ _
   rw[e1] at hx
   refine(BK.mp hx).elim (fun hx=>?_) (i.2 x)
   unfold Fc at hx
   rcases AU.mp hx with h|hx
   ·rw[h];exact .inr (.inl (by decide))
   rcases AU.mp hx with h|hx
   ·rw[h];exact .inr (.inl (by decide))
   rcases AU.mp hx with h|hx
   ·rw[h];exact .inr (.inl (by decide))
   rcases BK.mp hx with h|hx
   ·exact(Lm (fo.2.1 x h)).1
   rcases AU.mp hx with h|hx
   ·rw[h];exact .inr (.inl (by decide))
   exact(Lm (tl.1 x hx)).1
theorem Np {ns:List Int}(h:ns.length≤63){f:Int}{c:Nat}:∀{n k:Nat},(ltx (ents ns f c n k)).length≤120 * n∧(ents ns f c n k).length=n
 |0,_=>⟨AT _,rfl⟩
 |n+1,k=>by
  have il:=Nf h c k
  have tl:=(Kl _ (Kk f k)).2.1
  have i:=Np (f:=f) (c:=c) h (n:=n) (k:=k+1)
  have e1:ltx (ents ns f c (n+1) k)=Fc (E1 ns c k) (EJ f k)++ltx (ents ns f c n (k+1)):=Pv _ _ _
  refine⟨?_,congrArg (·+1) i.2⟩
  rw[e1,AE,Nr]
  have:=i.1
  lia
theorem Yu {ns:List Int}(h63:ns.length≤63):∃h',AK (S ns) 16 45 [.sta 9] [] [.void] (.bool true) h':=by
 refine EB (XM h63) fun f e1=>?_
 have hc:=O5 f
 have hl:=Np (f:=f) (c:=cntN f) h63 (n:=cntN f) (k:=0)
 have ho:=PB (ns:=ns) (f:=f) (c:=cntN f) (n:=cntN f) (k:=0)
 refine Fv (Ra (ents ns f (cntN f) (cntN f) 0) 1) fun ds e h=>?_
 have lo:Ke RZ:=⟨rfl,rfl,rfl,rfl,rfl,rfl,rfl⟩
 have g0:Fj (cntN f) .undef [wordT "stream",wordT "sequence"] (H0 (iV (cntN f))):=⟨rfl,rfl,rfl⟩
 have lp:=(Yq (ns:=ns) (a0:=.void) (f:=f) h63 hc.1 (n:=cntN f) (k:=0) (t:=[]) (C2 _) lo rfl g0 (AT _) (AT _)).2 ds e h
 rw[C7,←Mf] at lp
 refine AB lp fun hs lp=>AB lp fun l lp=>AB lp fun kv lp=>?_
 have e2:=Ya hc.1 lp.2.2.2.2
 have g:=lp.2.2.1
 have nf:=lp.2.2.2.1 rfl
 have hne:ents ns f (cntN f) (cntN f) 0≠[]:=fun z=>by
  have e:=hl.2
  rw[z] at e
  exact absurd hc.2.1 (by rw[←e];exact CG 0)
 refine AS (RH h (fun p hp=>(ho.1 p hp).1) hne) fun ds' ed rn=>?_
 have q:=X5 h
 have qf:=XR (e:=e)
 have hv:∀v∈wordT "sequence"::wordT "entry"::ds',E9 v v=some true:=fun v hv=>(AU.mp hv).elim (fun z=>z▸HI _) fun hv=>by
  rw[←ed] at hv
  exact(BK.mp hv).elim (q.1 v) (qf.1 v)
 have hL:(wordT "sequence"::wordT "entry"::ds').length≤100:=by
  have e:=congrArg A9 ed
  rw[AE] at e
  have q2:=q.2
  have q3:=qf.2
  rw[hl.2] at q2
  rw[AX,←e]
  lia
 have hz:(ltx (ents ns f (cntN f) (cntN f) 0)).length≤1000:=AL hl.1 (by have:=hc.1;lia)
 have W:FJ ns 4 (wordT "stream"::wordT "sequence"::wordT "entry"::ds') e (QS (ltx (ents ns f (cntN f) (cntN f) 0)++[0])):=by
  rw[←Oc]
  rcases eE:ents ns f (cntN f) (cntN f) 0 with _|⟨p,E⟩
  ·exact(hne eE).elim
  ·rw[eE] at rn ho
   exact Zm rn fun p hp=>(ho.1 p hp).2
 have e3:∃l' h',Cm (S ns) 16 (RP 6 5) ⟨EN f (sV (ltx (ents ns f (cntN f) (cntN f) 0))) e l,.void::hs⟩ (.ret (.bool true)) ⟨l',h'⟩:=by
  rcases e with _|i
  ·exact XO W (by rw[AC];exact congrArg (fun x=>wordT "stream"::wordT "sequence"::x) ed) hv hL g nf ho.2 hz
  ·have ed:ds++[]=wordT "entry"::ds':=ed
   rw[AR] at ed
   exact ZB W (congrArg (fun x=>wordT "stream"::wordT "sequence"::x) ed) hv hL g nf ho.2 hz
 refine Fv e3 fun l' h' e3=>?_
 exact⟨h',AK.rows (fun k e=>by kernel_rfl) (e1.app (e2.app e3))⟩
set_option maxHeartbeats 8000000
set_option Elab.async true
theorem AA:True:=trivial
theorem t02.tw10028521363656712428:True:=AA
theorem t02.tw10029652973360961036:True:=AA
theorem t02.tw10050328092401620039:True:=AA
theorem t02.tw10060102108407644617:True:=AA
theorem t02.tw10063490704152091273:True:=AA
theorem t02.tw10063669787694493224:True:=AA
theorem t02.tw10075558369330157750:True:=AA
theorem t02.tw1008505693848133869:True:=AA
theorem t02.tw10109305079642792167:True:=AA
theorem t02.tw10110945381357289113:True:=AA
theorem t02.tw10121036296366174732:True:=AA
theorem t02.tw10165817235231941863:True:=AA
theorem t02.tw10174093400712175166:True:=AA
theorem t02.tw10175005181050649709:True:=AA
theorem t02.tw10178065329721373964:True:=AA
theorem t02.tw10183841012592573939:True:=AA
theorem t02.tw10184696025977248001:True:=AA
theorem t02.tw10191842906924104021:True:=AA
theorem t02.tw10213134222071249959:True:=AA
theorem t02.tw10215699809295900022:True:=AA
theorem t02.tw10219044276788770148:True:=AA
theorem t02.tw10227748115935751675:True:=AA
theorem t02.tw10252588653166807406:True:=AA
theorem t02.tw10269104921890077742:True:=AA
theorem t02.tw10283274813059866572:True:=AA
theorem t02.tw10304524066932694098:True:=AA
theorem t02.tw10304698483159504002:True:=AA
theorem t02.tw10314934914894751466:True:=AA
theorem t02.tw10322659733287174714:True:=AA
theorem t02.tw10326065778129867266:True:=AA
theorem t02.tw10328818544393305419:True:=AA
theorem t02.tw10349118922215498691:True:=AA
theorem t02.tw10355184615537963924:True:=AA
theorem t02.tw10357303092255513290:True:=AA
theorem t02.tw10370684061427203583:True:=AA
theorem t02.tw10383381035839691856:True:=AA
theorem t02.tw10385629241391913015:True:=AA
theorem t02.tw10388727430339958776:True:=AA
theorem t02.tw10389728528676425661:True:=AA
theorem t02.tw1040717425747795414:True:=AA
theorem t02.tw10425995104911231081:True:=AA
theorem t02.tw10432248453331659851:True:=AA
theorem t02.tw10481814828197883617:True:=AA
theorem t02.tw10487081501310226095:True:=AA
theorem t02.tw10495169066827363322:True:=AA
theorem t02.tw10504347738687045543:True:=AA
theorem t02.tw10524652276583198645:True:=AA
theorem t02.tw10531783675676421334:True:=AA
theorem t02.tw10537057205298244176:True:=AA
theorem t02.tw10537378351647644637:True:=AA
theorem t02.tw10550028007929906517:True:=AA
theorem t02.tw10573973399487082891:True:=AA
theorem t02.tw10575146335771775485:True:=AA
theorem t02.tw10577094077177408125:True:=AA
theorem t02.tw10578724761902038362:True:=AA
theorem t02.tw10581417317393029320:True:=AA
theorem t02.tw10595127753094865185:True:=AA
theorem t02.tw10599296706786653899:True:=AA
theorem t02.tw10607604133818180538:True:=AA
theorem t02.tw10621732394751590701:True:=AA
theorem t02.tw10636261324873496638:True:=AA
theorem t02.tw10641718956522076145:True:=AA
theorem t02.tw10665258098977055089:True:=AA
theorem t02.tw10673378499651984361:True:=AA
theorem t02.tw10711771476608535907:True:=AA
theorem t02.tw10756362244916128505:True:=AA
theorem t02.tw10764984539843128947:True:=AA
theorem t02.tw10798330947133237649:True:=AA
theorem t02.tw10800392014254280361:True:=AA
theorem t02.tw10800672530784199433:True:=AA
theorem t02.tw10803601961129207311:True:=AA
theorem t02.tw10807546740553046725:True:=AA
theorem t02.tw10816245168811987451:True:=AA
theorem t02.tw10839245505387187085:True:=AA
theorem t02.tw10839716679114672638:True:=AA
theorem t02.tw1086252958759947643:True:=AA
theorem t02.tw10882209300241413979:True:=AA
theorem t02.tw10897194705416107208:True:=AA
theorem t02.tw10899302946872529275:True:=AA
theorem t02.tw10904430306636851344:True:=AA
theorem t02.tw10920892319174841999:True:=AA
theorem t02.tw10922126031829434660:True:=AA
theorem t02.tw10926314426395606716:True:=AA
theorem t02.tw10929872810491384042:True:=AA
theorem t02.tw10943777540741742486:True:=AA
theorem t02.tw10962911783267499344:True:=AA
theorem t02.tw1097117305380579080:True:=AA
theorem t02.tw10995271595121519457:True:=AA
theorem t02.tw11001918195659791261:True:=AA
theorem t02.tw11021450019313677761:True:=AA
theorem t02.tw11034712033248308802:True:=AA
theorem t02.tw11035828872371622748:True:=AA
theorem t02.tw11048665191153267971:True:=AA
theorem t02.tw11063435660122806579:True:=AA
theorem t02.tw11075453320095110442:True:=AA
theorem t02.tw11083617107168134429:True:=AA
theorem t02.tw1109022921315567824:True:=AA
theorem t02.tw11090767884311020009:True:=AA
theorem t02.tw11094668837024664538:True:=AA
theorem t02.tw11098930575672692295:True:=AA
theorem t02.tw11135680281064442868:True:=AA
theorem t02.tw11137288529078046157:True:=AA
theorem t02.tw1113800678088438362:True:=AA
theorem t02.tw11144023944700194374:True:=AA
theorem t02.tw11148828103874223957:True:=AA
theorem t02.tw11149138136895231727:True:=AA
theorem t02.tw11159594529855214036:True:=AA
theorem t02.tw11173452500678365352:True:=AA
theorem t02.tw11179134403557954977:True:=AA
theorem t02.tw11188428317066098847:True:=AA
theorem t02.tw11202403092669455011:True:=AA
theorem t02.tw11216739715284001109:True:=AA
theorem t02.tw11244425599889813189:True:=AA
theorem t02.tw11246569509892429493:True:=AA
theorem t02.tw11247113216849693626:True:=AA
theorem t02.tw11248691059602572692:True:=AA
theorem t02.tw11250286564752139801:True:=AA
theorem t02.tw11258447234655804593:True:=AA
theorem t02.tw11271936888326253530:True:=AA
theorem t02.tw11282530344947816217:True:=AA
theorem t02.tw11287793874355397731:True:=AA
theorem t02.tw11288160443684720817:True:=AA
theorem t02.tw1133911257344540634:True:=AA
theorem t02.tw11342903316504490210:True:=AA
theorem t02.tw11352243661226667060:True:=AA
theorem t02.tw11359917614738119339:True:=AA
theorem t02.tw11365983833085923298:True:=AA
theorem t02.tw11366469388305664976:True:=AA
theorem t02.tw11367469500316212773:True:=AA
theorem t02.tw1137142033447991132:True:=AA
theorem t02.tw11374461192756940751:True:=AA
theorem t02.tw11381884304773545025:True:=AA
theorem t02.tw11382542172481316020:True:=AA
theorem t02.tw11402401897047211921:True:=AA
theorem t02.tw11403447781674400386:True:=AA
theorem t02.tw11407135539804461021:True:=AA
theorem t02.tw11416682803379409845:True:=AA
theorem t02.tw11434620258281927053:True:=AA
theorem t02.tw11458543322907071912:True:=AA
theorem t02.tw11466550897838016654:True:=AA
theorem t02.tw11489695053677305373:True:=AA
theorem t02.tw11494311011299118207:True:=AA
theorem t02.tw11521610218060276587:True:=AA
theorem t02.tw11540318990474399823:True:=AA
theorem t02.tw11542067396221608117:True:=AA
theorem t02.tw11542172684932388100:True:=AA
theorem t02.tw11548371762679605948:True:=AA
theorem t02.tw11562435923708957412:True:=AA
theorem t02.tw11566998680473475813:True:=AA
theorem t02.tw1157470532227686485:True:=AA
theorem t02.tw11575942160270231145:True:=AA
theorem t02.tw11580200580840781057:True:=AA
theorem t02.tw11615337392559786062:True:=AA
theorem t02.tw11616008378908306579:True:=AA
theorem t02.tw11631387683508852361:True:=AA
theorem t02.tw1163806767979634278:True:=AA
theorem t02.tw11648641301530573031:True:=AA
theorem t02.tw11651653393512500185:True:=AA
theorem t02.tw11653733454457568701:True:=AA
theorem t02.tw11663898690148141699:True:=AA
theorem t02.tw11668152819525078040:True:=AA
theorem t02.tw11687730091773042559:True:=AA
theorem t02.tw1168828440414200256:True:=AA
theorem t02.tw11696705983537766162:True:=AA
theorem t02.tw11715722790059898166:True:=AA
theorem t02.tw11721544808597816650:True:=AA
theorem t02.tw11725911037770180533:True:=AA
theorem t02.tw11735797177354249850:True:=AA
theorem t02.tw11740115334993858072:True:=AA
theorem t02.tw11757494172069811610:True:=AA
theorem t02.tw11770827476362136220:True:=AA
theorem t02.tw11784953211949947763:True:=AA
theorem t02.tw11785995657900420999:True:=AA
theorem t02.tw11803515727193471720:True:=AA
theorem t02.tw11814726608514309359:True:=AA
theorem t02.tw11815208165308424530:True:=AA
theorem t02.tw11815393623812213200:True:=AA
theorem t02.tw11816130888463177465:True:=AA
theorem t02.tw11817733195216164172:True:=AA
theorem t02.tw1181845213140235741:True:=AA
theorem t02.tw11824856838132441060:True:=AA
theorem t02.tw11839014115685857013:True:=AA
theorem t02.tw11849304095434025617:True:=AA
theorem t02.tw11856707978664015762:True:=AA
theorem t02.tw11880955872102568635:True:=AA
theorem t02.tw11891958797298747619:True:=AA
theorem t02.tw11901074170335885200:True:=AA
theorem t02.tw11907588348146461988:True:=AA
theorem t02.tw11913030117667364600:True:=AA
theorem t02.tw11916621217117610521:True:=AA
theorem t02.tw11925995784487355177:True:=AA
theorem t02.tw11935292750981410569:True:=AA
theorem t02.tw11936161861922753591:True:=AA
theorem t02.tw11952357540853709767:True:=AA
theorem t02.tw11954485689620886789:True:=AA
theorem t02.tw11961385693850038029:True:=AA
theorem t02.tw11970383770164000763:True:=AA
theorem t02.tw11974979890684852159:True:=AA
theorem t02.tw11999791521377692629:True:=AA
theorem t02.tw12010617674419889385:True:=AA
theorem t02.tw12044029683645033516:True:=AA
theorem t02.tw12056878826297882657:True:=AA
theorem t02.tw12066568206418623961:True:=AA
theorem t02.tw12067767819152346065:True:=AA
theorem t02.tw12076817968740127395:True:=AA
theorem t02.tw12096283007534529935:True:=AA
theorem t02.tw12100470411162062645:True:=AA
theorem t02.tw12105136499643044293:True:=AA
theorem t02.tw12126370694640007802:True:=AA
theorem t02.tw12143276221387693692:True:=AA
theorem t02.tw1215184252037944485:True:=AA
theorem t02.tw12154176914657166661:True:=AA
theorem t02.tw12155437027160111089:True:=AA
theorem t02.tw12159113804048420909:True:=AA
theorem t02.tw1217065064622585953:True:=AA
theorem t02.tw1218472468933394723:True:=AA
theorem t02.tw12185072971370448383:True:=AA
theorem t02.tw12227999739366327854:True:=AA
theorem t02.tw1223075128721896415:True:=AA
theorem t02.tw12232508813393093805:True:=AA
theorem t02.tw12235609246130683698:True:=AA
theorem t02.tw12250051277195354431:True:=AA
theorem t02.tw12253658536983901267:True:=AA
theorem t02.tw12254634806862589043:True:=AA
theorem t02.tw1226102302740507659:True:=AA
theorem t02.tw12284930300536218835:True:=AA
theorem t02.tw12290782933279720602:True:=AA
theorem t02.tw12298577877131912437:True:=AA
theorem t02.tw12335317382958762545:True:=AA
theorem t02.tw12340125491688963800:True:=AA
theorem t02.tw12340738408665410579:True:=AA
theorem t02.tw12346168927813569340:True:=AA
theorem t02.tw12346633643915553610:True:=AA
theorem t02.tw12358893331807628581:True:=AA
theorem t02.tw12361975026883711370:True:=AA
theorem t02.tw12362172921727846319:True:=AA
theorem t02.tw12413154276944044969:True:=AA
theorem t02.tw12421962618579363861:True:=AA
theorem t02.tw12425015871528804073:True:=AA
theorem t02.tw12425909476036216438:True:=AA
theorem t02.tw12429593066317734730:True:=AA
theorem t02.tw12442037054336688980:True:=AA
theorem t02.tw12462088563153782089:True:=AA
theorem t02.tw1246913037759102894:True:=AA
theorem t02.tw12491528317079262924:True:=AA
theorem t02.tw12502524399817049758:True:=AA
theorem t02.tw12528903473438494805:True:=AA
theorem t02.tw12537739062991038893:True:=AA
theorem t02.tw12553089788975693391:True:=AA
theorem t02.tw12556048298026915918:True:=AA
theorem t02.tw12562755284662347694:True:=AA
theorem t02.tw12576212517405272753:True:=AA
theorem t02.tw12579574073943617105:True:=AA
theorem t02.tw12579705377884771676:True:=AA
theorem t02.tw1259257098600676592:True:=AA
theorem t02.tw12614716788882839627:True:=AA
theorem t02.tw12617212917645367878:True:=AA
theorem t02.tw12627097924118017027:True:=AA
theorem t02.tw12634074148837639445:True:=AA
theorem t02.tw12638162119311596051:True:=AA
theorem t02.tw12658127827461305004:True:=AA
theorem t02.tw12703153534324780331:True:=AA
theorem t02.tw12710992272188928885:True:=AA
theorem t02.tw12714729260335180393:True:=AA
theorem t02.tw12731160608197016907:True:=AA
theorem t02.tw12733860731922407579:True:=AA
theorem t02.tw12747975732143173189:True:=AA
theorem t02.tw12748182442782551447:True:=AA
theorem t02.tw12752386744133074507:True:=AA
theorem t02.tw12788764607048879099:True:=AA
theorem t02.tw12792395766809997418:True:=AA
theorem t02.tw12812917709108123926:True:=AA
theorem t02.tw12814890193574121231:True:=AA
theorem t02.tw12823366780781322376:True:=AA
theorem t02.tw12829523529814056882:True:=AA
theorem t02.tw12830996649603739959:True:=AA
theorem t02.tw1285139570569821021:True:=AA
theorem t02.tw12853837202875348048:True:=AA
theorem t02.tw12856197223456783421:True:=AA
theorem t02.tw12872265175872564739:True:=AA
theorem t02.tw12885737851075820226:True:=AA
theorem t02.tw12898556340632417175:True:=AA
theorem t02.tw1290172659367077233:True:=AA
theorem t02.tw12912231509724121211:True:=AA
theorem t02.tw12916984981329503984:True:=AA
theorem t02.tw12918896441952598938:True:=AA
theorem t02.tw12920572904512232917:True:=AA
theorem t02.tw12928659165260487855:True:=AA
theorem t02.tw12931747899071415421:True:=AA
theorem t02.tw12936305277384207219:True:=AA
theorem t02.tw12938304903530853188:True:=AA
theorem t02.tw12966193683311619969:True:=AA
theorem t02.tw12970244859096545019:True:=AA
theorem t02.tw12978956037075625731:True:=AA
theorem t02.tw12997867314478983256:True:=AA
theorem t02.tw13005476892656741265:True:=AA
theorem t02.tw13031809015034028549:True:=AA
theorem t02.tw13034556073530456559:True:=AA
theorem t02.tw13042104885995714007:True:=AA
theorem t02.tw13064718138245323521:True:=AA
theorem t02.tw1307599551814957112:True:=AA
theorem t02.tw13078006816565762442:True:=AA
theorem t02.tw13087295731385808185:True:=AA
theorem t02.tw13109955808581704049:True:=AA
theorem t02.tw1311451886483132402:True:=AA
theorem t02.tw13137662440764775428:True:=AA
theorem t02.tw13139805279727578478:True:=AA
theorem t02.tw13141240309472892930:True:=AA
theorem t02.tw13147526996149761299:True:=AA
theorem t02.tw13150799194100802556:True:=AA
theorem t02.tw1316338946841604046:True:=AA
theorem t02.tw13169344121856554826:True:=AA
theorem t02.tw13169683065131996394:True:=AA
theorem t02.tw13173149703078120368:True:=AA
theorem t02.tw13173281944825175779:True:=AA
theorem t02.tw13177593572377770798:True:=AA
theorem t02.tw13197986235664577323:True:=AA
theorem t02.tw13204719853979589352:True:=AA
theorem t02.tw13213377068172140796:True:=AA
theorem t02.tw13218773625132290577:True:=AA
theorem t02.tw13219358019499153306:True:=AA
theorem t02.tw13245981085258176267:True:=AA
theorem t02.tw13255637524315093447:True:=AA
theorem t02.tw1326139319717511707:True:=AA
theorem t02.tw13265655075570612356:True:=AA
theorem t02.tw13273720393799626702:True:=AA
theorem t02.tw13280803783480941445:True:=AA
theorem t02.tw13283288336749132398:True:=AA
theorem t02.tw13296482488732169316:True:=AA
theorem t02.tw13297030417989627576:True:=AA
theorem t02.tw13367819279011634091:True:=AA
theorem t02.tw13373620860162527764:True:=AA
theorem t02.tw13388989978555904129:True:=AA
theorem t02.tw13410638223193293449:True:=AA
theorem t02.tw13411366623011302854:True:=AA
theorem t02.tw13460834083941500629:True:=AA
theorem t02.tw13463061572335620674:True:=AA
theorem t02.tw13472855081059759428:True:=AA
theorem t02.tw1347448590971145623:True:=AA
theorem t02.tw13475870225573506625:True:=AA
theorem t02.tw13499834052109233064:True:=AA
theorem t02.tw13554536622427509969:True:=AA
theorem t02.tw1355680889602921564:True:=AA
theorem t02.tw13577591306817164686:True:=AA
theorem t02.tw13578555312814351821:True:=AA
theorem t02.tw13579871123002706114:True:=AA
theorem t02.tw13593459314156857920:True:=AA
theorem t02.tw13601239218514330544:True:=AA
theorem t02.tw13633418283241578544:True:=AA
theorem t02.tw13639325126425187497:True:=AA
theorem t02.tw13649696987748826874:True:=AA
theorem t02.tw13652894045880899461:True:=AA
theorem t02.tw13738314222927397683:True:=AA
theorem t02.tw13741072249951797776:True:=AA
theorem t02.tw13752047652737834145:True:=AA
theorem t02.tw13754042451150852554:True:=AA
theorem t02.tw13754479868575499103:True:=AA
theorem t02.tw13774116434215574902:True:=AA
theorem t02.tw13783841351333634967:True:=AA
theorem t02.tw13783994817548902552:True:=AA
theorem t02.tw13791271600787576078:True:=AA
theorem t02.tw1380136482425435727:True:=AA
theorem t02.tw13801799717292952583:True:=AA
theorem t02.tw1380322314486061347:True:=AA
theorem t02.tw13815805719977460895:True:=AA
theorem t02.tw13841998614398270662:True:=AA
theorem t02.tw1384260524401826501:True:=AA
theorem t02.tw13853117966951908022:True:=AA
theorem t02.tw13857063333930074470:True:=AA
theorem t02.tw13860138671155433808:True:=AA
theorem t02.tw13883061443360468786:True:=AA
theorem t02.tw13892855730324105130:True:=AA
theorem t02.tw13900838476333855160:True:=AA
theorem t02.tw13915138251654953443:True:=AA
theorem t02.tw13930305578281064480:True:=AA
theorem t02.tw1394372947733086595:True:=AA
theorem t02.tw13947592977508295130:True:=AA
theorem t02.tw13948011218269198966:True:=AA
theorem t02.tw13983824229253523226:True:=AA
theorem t02.tw13998269378054169453:True:=AA
theorem t02.tw13999779084110474446:True:=AA
theorem t02.tw14012064665934059777:True:=AA
theorem t02.tw14015381109645159138:True:=AA
theorem t02.tw14028348149563934394:True:=AA
theorem t02.tw14070654124223095565:True:=AA
theorem t02.tw14073830291786556791:True:=AA
theorem t02.tw14086124125685829176:True:=AA
theorem t02.tw1409525742184600153:True:=AA
theorem t02.tw14098431335704117815:True:=AA
theorem t02.tw14100122794482919583:True:=AA
theorem t02.tw14101211010117299422:True:=AA
theorem t02.tw14104982369122824303:True:=AA
theorem t02.tw14109672594403883802:True:=AA
theorem t02.tw14119161503178751753:True:=AA
theorem t02.tw14130411191921443852:True:=AA
theorem t02.tw14154856392887374093:True:=AA
theorem t02.tw1416005116967702899:True:=AA
theorem t02.tw14177067909869768409:True:=AA
theorem t02.tw14185716395034071546:True:=AA
theorem t02.tw14190251868466429691:True:=AA
theorem t02.tw1420748167531393554:True:=AA
theorem t02.tw14217698685369701057:True:=AA
theorem t02.tw1422540393501688054:True:=AA
theorem t02.tw14245705248087481940:True:=AA
theorem t02.tw14251236820025391403:True:=AA
theorem t02.tw14258743963658254985:True:=AA
theorem t02.tw14271431118681810238:True:=AA
theorem t02.tw14273012576244334946:True:=AA
theorem t02.tw14277172270840903159:True:=AA
theorem t02.tw14284360941224433755:True:=AA
theorem t02.tw14307293192152443424:True:=AA
theorem t02.tw14310019616574139817:True:=AA
theorem t02.tw14328858120578284828:True:=AA
theorem t02.tw14345174534419136427:True:=AA
theorem t02.tw14370399868325108675:True:=AA
theorem t02.tw1437952839726091372:True:=AA
theorem t02.tw14382947101956852006:True:=AA
theorem t02.tw14384338442936889225:True:=AA
theorem t02.tw14395006682644245492:True:=AA
theorem t02.tw14395580119701887358:True:=AA
theorem t02.tw14398052857412464782:True:=AA
theorem t02.tw14398180105467623496:True:=AA
theorem t02.tw14411092724842794124:True:=AA
theorem t02.tw14411394700313417702:True:=AA
theorem t02.tw14417152702231875003:True:=AA
theorem t02.tw1443390001649053796:True:=AA
theorem t02.tw14442013181352372060:True:=AA
theorem t02.tw14444953940783452659:True:=AA
theorem t02.tw14449039829756938366:True:=AA
theorem t02.tw1447591300098990722:True:=AA
theorem t02.tw14500831951108677389:True:=AA
theorem t02.tw14502749623220137468:True:=AA
theorem t02.tw14503626972851863676:True:=AA
theorem t02.tw14511105168926770033:True:=AA
theorem t02.tw14552235943226492968:True:=AA
theorem t02.tw1455661470747194427:True:=AA
theorem t02.tw14556895176592108912:True:=AA
theorem t02.tw1457856766989327394:True:=AA
theorem t02.tw14595648908423478075:True:=AA
theorem t02.tw14605447507795337190:True:=AA
theorem t02.tw14606873068474178407:True:=AA
theorem t02.tw14617645055948671100:True:=AA
theorem t02.tw14628973825961082587:True:=AA
theorem t02.tw14646632777154897578:True:=AA
theorem t02.tw14669067209977952204:True:=AA
theorem t02.tw1467318156001794017:True:=AA
theorem t02.tw14686938904141947571:True:=AA
theorem t02.tw14689528653346366537:True:=AA
theorem t02.tw1472236747388011585:True:=AA
theorem t02.tw14751099126285405863:True:=AA
theorem t02.tw14762958849057372237:True:=AA
theorem t02.tw14773168400055802502:True:=AA
theorem t02.tw14802467356262306475:True:=AA
theorem t02.tw14839700150521050053:True:=AA
theorem t02.tw14858710350231001898:True:=AA
theorem t02.tw1486817250399642576:True:=AA
theorem t02.tw14868294448291926488:True:=AA
theorem t02.tw14898614432852144610:True:=AA
theorem t02.tw14904489164771914232:True:=AA
theorem t02.tw14947342860515778701:True:=AA
theorem t02.tw14953653602815218755:True:=AA
theorem t02.tw14965672815806783834:True:=AA
theorem t02.tw14978216342357324347:True:=AA
theorem t02.tw1498025731169646855:True:=AA
theorem t02.tw14988754669683667511:True:=AA
theorem t02.tw15000907279510811120:True:=AA
theorem t02.tw15001827021997061621:True:=AA
theorem t02.tw15026585371866908256:True:=AA
theorem t02.tw15051174059719756711:True:=AA
theorem t02.tw15076469294497402330:True:=AA
theorem t02.tw15081604330276171878:True:=AA
theorem t02.tw15082726486527994391:True:=AA
theorem t02.tw15102230730578809470:True:=AA
theorem t02.tw15118212126441590850:True:=AA
theorem t02.tw15124903380572707326:True:=AA
theorem t02.tw15149822631849305234:True:=AA
theorem t02.tw15165557520425964346:True:=AA
theorem t02.tw15182938918565166065:True:=AA
theorem t02.tw15190893288898661467:True:=AA
theorem t02.tw15191105084449028479:True:=AA
theorem t02.tw15197398423263156311:True:=AA
theorem t02.tw15198141819932625704:True:=AA
theorem t02.tw15202028449243204762:True:=AA
theorem t02.tw15218642396912939029:True:=AA
theorem t02.tw15244204137264250535:True:=AA
theorem t02.tw15260258801287452239:True:=AA
theorem t02.tw15297625115640346033:True:=AA
theorem t02.tw15309931882535210194:True:=AA
theorem t02.tw15354527151784531435:True:=AA
theorem t02.tw15360477774033095149:True:=AA
theorem t02.tw15360768361021708500:True:=AA
theorem t02.tw15391077861229809565:True:=AA
theorem t02.tw15397511486075783322:True:=AA
theorem t02.tw15446445126153083575:True:=AA
theorem t02.tw15454330195159602881:True:=AA
theorem t02.tw15460809225591675837:True:=AA
theorem t02.tw15479161723050046179:True:=AA
theorem t02.tw15484646283358241328:True:=AA
theorem t02.tw15485439566591923500:True:=AA
theorem t02.tw1548993306022332392:True:=AA
theorem t02.tw15492438032562353100:True:=AA
theorem t02.tw15535335706265973664:True:=AA
theorem t02.tw15548485968775745305:True:=AA
theorem t02.tw15554249711871440323:True:=AA
theorem t02.tw1555840556121643836:True:=AA
theorem t02.tw15563760382436804333:True:=AA
theorem t02.tw15589635677285866476:True:=AA
theorem t02.tw15591805895919236177:True:=AA
theorem t02.tw15598233778854908039:True:=AA
theorem t02.tw15608262130492654538:True:=AA
theorem t02.tw15633460705362242260:True:=AA
theorem t02.tw15644348349325194863:True:=AA
theorem t02.tw15664190571847718101:True:=AA
theorem t02.tw15665559587082191335:True:=AA
theorem t02.tw15677529191681703822:True:=AA
theorem t02.tw15690743685343722881:True:=AA
theorem t02.tw15704242503758681612:True:=AA
theorem t02.tw15714652905424584500:True:=AA
theorem t02.tw15717507714649842166:True:=AA
theorem t02.tw1572338653414729349:True:=AA
theorem t02.tw15733653344737109119:True:=AA
theorem t02.tw15738183233448168258:True:=AA
theorem t02.tw15751496317207146236:True:=AA
theorem t02.tw1577618787756252758:True:=AA
theorem t02.tw15794267077126903944:True:=AA
theorem t02.tw15806828273774577134:True:=AA
theorem t02.tw15809054972126492445:True:=AA
theorem t02.tw15832864269516145116:True:=AA
theorem t02.tw15838146428711378856:True:=AA
theorem t02.tw15875494558046544796:True:=AA
theorem t02.tw1587589317435384254:True:=AA
theorem t02.tw15897758916169513086:True:=AA
theorem t02.tw15924096430543986717:True:=AA
theorem t02.tw15924980230598996759:True:=AA
theorem t02.tw15940154517110520226:True:=AA
theorem t02.tw15951855258893474725:True:=AA
theorem t02.tw15953784691536961190:True:=AA
theorem t02.tw15957040522852910914:True:=AA
theorem t02.tw15958511089729791434:True:=AA
theorem t02.tw15969021758244507271:True:=AA
theorem t02.tw15970699646207300380:True:=AA
theorem t02.tw1597110006586305120:True:=AA
theorem t02.tw15972619196808260499:True:=AA
theorem t02.tw15977039198181983355:True:=AA
theorem t02.tw15987458150222511569:True:=AA
theorem t02.tw16023784202440816193:True:=AA
theorem t02.tw16027891411181297661:True:=AA
theorem t02.tw16028712983187522212:True:=AA
theorem t02.tw16029099429220062479:True:=AA
theorem t02.tw16032481846536685332:True:=AA
theorem t02.tw16040906742597926692:True:=AA
theorem t02.tw1604768314855887241:True:=AA
theorem t02.tw1604899355535906213:True:=AA
theorem t02.tw16057781113645801433:True:=AA
theorem t02.tw16061037294971553786:True:=AA
theorem t02.tw16069374030888769005:True:=AA
theorem t02.tw16070818992145596429:True:=AA
theorem t02.tw16071785326348708139:True:=AA
theorem t02.tw16072612435797286861:True:=AA
theorem t02.tw16073301882088831008:True:=AA
theorem t02.tw16078153996948299709:True:=AA
theorem t02.tw16080845191122325939:True:=AA
theorem t02.tw16084925390851645901:True:=AA
theorem t02.tw16094124618747220340:True:=AA
theorem t02.tw16094245984257029668:True:=AA
theorem t02.tw16102253226509277725:True:=AA
theorem t02.tw16104114033533095397:True:=AA
theorem t02.tw16122052091834957637:True:=AA
theorem t02.tw16133858054362432296:True:=AA
theorem t02.tw16139788162448537063:True:=AA
theorem t02.tw16155237612373476954:True:=AA
theorem t02.tw16161838971467392334:True:=AA
theorem t02.tw16173276803764119289:True:=AA
theorem t02.tw16183261702656688436:True:=AA
theorem t02.tw16211308520757259902:True:=AA
theorem t02.tw16225823110098340904:True:=AA
theorem t02.tw16230496078571524950:True:=AA
theorem t02.tw16230698538630916771:True:=AA
theorem t02.tw16233896809477310946:True:=AA
theorem t02.tw16237067781245970927:True:=AA
theorem t02.tw1623765870466487787:True:=AA
theorem t02.tw16243210611024480543:True:=AA
theorem t02.tw16244260692178165785:True:=AA
theorem t02.tw16260684229772696052:True:=AA
theorem t02.tw16270408783960506823:True:=AA
theorem t02.tw16283253735298338509:True:=AA
theorem t02.tw16306345562647424897:True:=AA
theorem t02.tw16311738507058738202:True:=AA
theorem t02.tw16321308778807239347:True:=AA
theorem t02.tw16332963292290365022:True:=AA
theorem t02.tw16381087168584952943:True:=AA
theorem t02.tw16386471590905158042:True:=AA
theorem t02.tw16387029544786277386:True:=AA
theorem t02.tw16410158395972852309:True:=AA
theorem t02.tw16413074147700946858:True:=AA
theorem t02.tw16419619807576549229:True:=AA
theorem t02.tw16432291925629873163:True:=AA
theorem t02.tw16438798699179998115:True:=AA
theorem t02.tw16443295624876468018:True:=AA
theorem t02.tw16445769858417068670:True:=AA
theorem t02.tw16477230399097080266:True:=AA
theorem t02.tw16496319049148679758:True:=AA
theorem t02.tw16499194774464957143:True:=AA
theorem t02.tw16501887688195486186:True:=AA
theorem t02.tw16520561494207388114:True:=AA
theorem t02.tw16522890696953773470:True:=AA
theorem t02.tw16523167344340720760:True:=AA
theorem t02.tw16547196978155457808:True:=AA
theorem t02.tw16566832121869285205:True:=AA
theorem t02.tw1658060540639434662:True:=AA
theorem t02.tw16609322980473239879:True:=AA
theorem t02.tw166107990086631767:True:=AA
theorem t02.tw16612718807430326822:True:=AA
theorem t02.tw16627657421754644880:True:=AA
theorem t02.tw16637880204578831964:True:=AA
theorem t02.tw16653527225959463955:True:=AA
theorem t02.tw16655156084982051173:True:=AA
theorem t02.tw16668784110639478190:True:=AA
theorem t02.tw1667716101140790942:True:=AA
theorem t02.tw16684958591454521985:True:=AA
theorem t02.tw16724380772158687450:True:=AA
theorem t02.tw1677865972984755172:True:=AA
theorem t02.tw16791866405295910375:True:=AA
theorem t02.tw16813488939176724018:True:=AA
theorem t02.tw16826123903396751355:True:=AA
theorem t02.tw16831328336743008777:True:=AA
theorem t02.tw16837422671617570491:True:=AA
theorem t02.tw16854763044375279224:True:=AA
theorem t02.tw16857206041039118632:True:=AA
theorem t02.tw16858718237049106740:True:=AA
theorem t02.tw1686255114181657687:True:=AA
theorem t02.tw16873614573794058137:True:=AA
theorem t02.tw16879219971943951250:True:=AA
theorem t02.tw1688992054226358486:True:=AA
theorem t02.tw16895834044800123284:True:=AA
theorem t02.tw16896200415063488899:True:=AA
theorem t02.tw16901982982185387394:True:=AA
theorem t02.tw16904428090048183918:True:=AA
theorem t02.tw16925414200605776680:True:=AA
theorem t02.tw16946877403894844014:True:=AA
theorem t02.tw16952490280200566608:True:=AA
theorem t02.tw16976852847690004740:True:=AA
theorem t02.tw16998970397045308727:True:=AA
theorem t02.tw17005022843459088789:True:=AA
theorem t02.tw17014468177799020446:True:=AA
theorem t02.tw17028180649176869814:True:=AA
theorem t02.tw17053325449354603240:True:=AA
theorem t02.tw17070213350664020403:True:=AA
theorem t02.tw17074854497320959551:True:=AA
theorem t02.tw17080558909486766634:True:=AA
theorem t02.tw17092690087631303044:True:=AA
theorem t02.tw1710729354284674579:True:=AA
theorem t02.tw17113699159758857763:True:=AA
theorem t02.tw17116823942784265754:True:=AA
theorem t02.tw17127622117320743267:True:=AA
theorem t02.tw17138133704822326586:True:=AA
theorem t02.tw17141316720535222901:True:=AA
theorem t02.tw17178091314187194251:True:=AA
theorem t02.tw17184383226390019330:True:=AA
theorem t02.tw17185239321210751468:True:=AA
theorem t02.tw17192944108165789417:True:=AA
theorem t02.tw17199792476758130466:True:=AA
theorem t02.tw17204722953723251487:True:=AA
theorem t02.tw17214642986848175851:True:=AA
theorem t02.tw17218955276925055296:True:=AA
theorem t02.tw17226942514518064329:True:=AA
theorem t02.tw172300166570056245:True:=AA
theorem t02.tw17240238086328351414:True:=AA
theorem t02.tw17241856421492314020:True:=AA
theorem t02.tw17244071879128308529:True:=AA
theorem t02.tw17252747476727053161:True:=AA
theorem t02.tw17262000329144722261:True:=AA
theorem t02.tw1728401785281799503:True:=AA
theorem t02.tw17284931901675472488:True:=AA
theorem t02.tw17287396962534893136:True:=AA
theorem t02.tw17294142624480037719:True:=AA
theorem t02.tw17331563980615689454:True:=AA
theorem t02.tw17352778341396872926:True:=AA
theorem t02.tw173817280399197034:True:=AA
theorem t02.tw17390993364369311590:True:=AA
theorem t02.tw17397969468620336559:True:=AA
theorem t02.tw17400805973486576951:True:=AA
theorem t02.tw17410277053421305992:True:=AA
theorem t02.tw17410356776819897675:True:=AA
theorem t02.tw17411698001337955251:True:=AA
theorem t02.tw17422744053074176231:True:=AA
theorem t02.tw17429097316132318409:True:=AA
theorem t02.tw17467282158376917109:True:=AA
theorem t02.tw17493491576325646:True:=AA
theorem t02.tw17496693757814958846:True:=AA
theorem t02.tw1751489784376937689:True:=AA
theorem t02.tw17530186215870706873:True:=AA
theorem t02.tw17556801616234596554:True:=AA
theorem t02.tw17580275467507186961:True:=AA
theorem t02.tw17602732273833409001:True:=AA
theorem t02.tw1760631013046223402:True:=AA
theorem t02.tw17610203340007732996:True:=AA
theorem t02.tw17628017613037075607:True:=AA
theorem t02.tw17638408937954184034:True:=AA
theorem t02.tw17650838142182996551:True:=AA
theorem t02.tw17670265811756066323:True:=AA
theorem t02.tw17677718870317731378:True:=AA
theorem t02.tw17693381635109080692:True:=AA
theorem t02.tw17719621360372627690:True:=AA
theorem t02.tw17738146414954175885:True:=AA
theorem t02.tw17746169958596276836:True:=AA
theorem t02.tw17747799064217411994:True:=AA
theorem t02.tw17771611362013223312:True:=AA
theorem t02.tw17783232251853991741:True:=AA
theorem t02.tw17789074491193774859:True:=AA
theorem t02.tw17789970252178605183:True:=AA
theorem t02.tw17794399493180748592:True:=AA
theorem t02.tw17802522635533482302:True:=AA
theorem t02.tw17808260893573164374:True:=AA
theorem t02.tw17814741938212573118:True:=AA
theorem t02.tw17820889987106164292:True:=AA
theorem t02.tw17833921773762033942:True:=AA
theorem t02.tw17856388372452136350:True:=AA
theorem t02.tw17860766412532030757:True:=AA
theorem t02.tw17893587605324219962:True:=AA
theorem t02.tw17897991131768015568:True:=AA
theorem t02.tw17907414814168888776:True:=AA
theorem t02.tw17919293638533283288:True:=AA
theorem t02.tw1791938700076297513:True:=AA
theorem t02.tw17941815151043720624:True:=AA
theorem t02.tw17954777426825102729:True:=AA
theorem t02.tw17956219460425712016:True:=AA
theorem t02.tw17958895886359194492:True:=AA
theorem t02.tw17961245568615318795:True:=AA
theorem t02.tw17983559114248921882:True:=AA
theorem t02.tw17994465625049735013:True:=AA
theorem t02.tw18006002517953429468:True:=AA
theorem t02.tw18010893690938480477:True:=AA
theorem t02.tw18011197397185436946:True:=AA
theorem t02.tw18027368754467314454:True:=AA
theorem t02.tw1803802477463259586:True:=AA
theorem t02.tw18055406563454218373:True:=AA
theorem t02.tw18064853513813290481:True:=AA
theorem t02.tw18071382425228899049:True:=AA
theorem t02.tw1807706640314142020:True:=AA
theorem t02.tw18088506894468088495:True:=AA
theorem t02.tw18092288511872795635:True:=AA
theorem t02.tw18094248867797799474:True:=AA
theorem t02.tw18098675557468051134:True:=AA
theorem t02.tw18122058091454679906:True:=AA
theorem t02.tw18125753254466921555:True:=AA
theorem t02.tw18127626411740592515:True:=AA
theorem t02.tw18155969932174533948:True:=AA
theorem t02.tw1816254961845586428:True:=AA
theorem t02.tw1820110688120249942:True:=AA
theorem t02.tw18213880102281203708:True:=AA
theorem t02.tw1821709173226393605:True:=AA
theorem t02.tw18219905411865878433:True:=AA
theorem t02.tw18230061520936459560:True:=AA
theorem t02.tw1823731016901304015:True:=AA
theorem t02.tw18272029339470331406:True:=AA
theorem t02.tw18291773656156879624:True:=AA
theorem t02.tw18305275786905785928:True:=AA
theorem t02.tw18309710461242307319:True:=AA
theorem t02.tw1831480447775728386:True:=AA
theorem t02.tw18321354843116369336:True:=AA
theorem t02.tw18341843148819041761:True:=AA
theorem t02.tw18345942404441028275:True:=AA
theorem t02.tw1834904024014705414:True:=AA
theorem t02.tw18353092101480134333:True:=AA
theorem t02.tw18363561620552360535:True:=AA
theorem t02.tw18364962342458101174:True:=AA
theorem t02.tw18397054057721789910:True:=AA
theorem t02.tw18423745776447983217:True:=AA
theorem t02.tw18424536572365895103:True:=AA
theorem t02.tw1847104646190337461:True:=AA
theorem t02.tw1873425525980132710:True:=AA
theorem t02.tw1878871213162280002:True:=AA
theorem t02.tw1881412152675440774:True:=AA
theorem t02.tw1883659148872156749:True:=AA
theorem t02.tw1924004586352013761:True:=AA
theorem t02.tw1930285924201862826:True:=AA
theorem t02.tw1931191654663108895:True:=AA
theorem t02.tw1944140207986174006:True:=AA
theorem t02.tw1944856942246486520:True:=AA
theorem t02.tw1965487262274706001:True:=AA
theorem t02.tw1969415338302818540:True:=AA
theorem t02.tw1972219531929490369:True:=AA
theorem t02.tw197364718063506300:True:=AA
theorem t02.tw1993568025719410302:True:=AA
theorem t02.tw20260234299617810:True:=AA
theorem t02.tw2031491009403782739:True:=AA
theorem t02.tw2045843470334604325:True:=AA
theorem t02.tw2047183789812736005:True:=AA
theorem t02.tw2055437862966207343:True:=AA
theorem t02.tw2079587998063692538:True:=AA
theorem t02.tw2097082627364561237:True:=AA
theorem t02.tw2108017003984176284:True:=AA
theorem t02.tw2110947121341731564:True:=AA
theorem t02.tw2115627951401203699:True:=AA
theorem t02.tw2116580463194852107:True:=AA
theorem t02.tw2130312470319875317:True:=AA
theorem t02.tw2153601962705394450:True:=AA
theorem t02.tw2156963553116586971:True:=AA
theorem t02.tw2172216762379281430:True:=AA
theorem t02.tw2175349347728799823:True:=AA
theorem t02.tw218317526317580496:True:=AA
theorem t02.tw2187153470126072947:True:=AA
theorem t02.tw2191831297663360855:True:=AA
theorem t02.tw221865283778105047:True:=AA
theorem t02.tw2224458586919497114:True:=AA
theorem t02.tw2247838907545863689:True:=AA
theorem t02.tw2277671027134241375:True:=AA
theorem t02.tw2279857923375317623:True:=AA
theorem t02.tw2283357692980552634:True:=AA
theorem t02.tw2308836730930526196:True:=AA
theorem t02.tw2317096212234621993:True:=AA
theorem t02.tw2320039938193538594:True:=AA
theorem t02.tw2340510407289235042:True:=AA
theorem t02.tw2343079814840462039:True:=AA
theorem t02.tw2343641833819344926:True:=AA
theorem t02.tw2354401791536690971:True:=AA
theorem t02.tw2354743797624115537:True:=AA
theorem t02.tw2358186479817233950:True:=AA
theorem t02.tw2366314676620446408:True:=AA
theorem t02.tw2391028565109777504:True:=AA
theorem t02.tw2406010333897832229:True:=AA
theorem t02.tw2411371475615952860:True:=AA
theorem t02.tw2456850857125368467:True:=AA
theorem t02.tw2458551578448591358:True:=AA
theorem t02.tw2459884607949204531:True:=AA
theorem t02.tw2487764881702911358:True:=AA
theorem t02.tw2500423426299822753:True:=AA
theorem t02.tw2511813871568996812:True:=AA
theorem t02.tw2580770702009698561:True:=AA
theorem t02.tw2604391773837167309:True:=AA
theorem t02.tw2642955273462664217:True:=AA
theorem t02.tw2653350972888053801:True:=AA
theorem t02.tw2654531560626720735:True:=AA
theorem t02.tw2703504689641907594:True:=AA
theorem t02.tw2725981792482981186:True:=AA
theorem t02.tw2734726705418648827:True:=AA
theorem t02.tw2738404962312184406:True:=AA
theorem t02.tw2746506427310472704:True:=AA
theorem t02.tw2758969138877734303:True:=AA
theorem t02.tw2781053346275158217:True:=AA
theorem t02.tw2788968262696184389:True:=AA
theorem t02.tw279844096333900080:True:=AA
theorem t02.tw2817734927843509791:True:=AA
theorem t02.tw2819498936925601586:True:=AA
theorem t02.tw2822898086539875784:True:=AA
theorem t02.tw2832314246057075468:True:=AA
theorem t02.tw2843711048285217984:True:=AA
theorem t02.tw2845692540291229119:True:=AA
theorem t02.tw2854188804680403447:True:=AA
theorem t02.tw2861454327744341465:True:=AA
theorem t02.tw2862319725641470022:True:=AA
theorem t02.tw286893090281958242:True:=AA
theorem t02.tw2888931428119865770:True:=AA
theorem t02.tw2915597677062042009:True:=AA
theorem t02.tw2916137119114044784:True:=AA
theorem t02.tw2962291981997377018:True:=AA
theorem t02.tw2973000489968155308:True:=AA
theorem t02.tw2992311689834484725:True:=AA
theorem t02.tw3003915209563827542:True:=AA
theorem t02.tw3026793315243091156:True:=AA
theorem t02.tw3041721474457305212:True:=AA
theorem t02.tw3054272436268142591:True:=AA
theorem t02.tw3065903094954796580:True:=AA
theorem t02.tw3069276484224816816:True:=AA
theorem t02.tw3073938929958854398:True:=AA
theorem t02.tw307955946916428376:True:=AA
theorem t02.tw3081848077014523556:True:=AA
theorem t02.tw3086117298285748300:True:=AA
theorem t02.tw3100404142249942603:True:=AA
theorem t02.tw3111895085433832440:True:=AA
theorem t02.tw3118299385983893174:True:=AA
theorem t02.tw3123721950768949315:True:=AA
theorem t02.tw3133358764237282674:True:=AA
theorem t02.tw3137718721317965652:True:=AA
theorem t02.tw3152043209006869380:True:=AA
theorem t02.tw315488295006449021:True:=AA
theorem t02.tw316108493703276481:True:=AA
theorem t02.tw318068420507954074:True:=AA
theorem t02.tw3191054561833786785:True:=AA
theorem t02.tw3197904230653944927:True:=AA
theorem t02.tw3199128155860617958:True:=AA
theorem t02.tw3209701269856607642:True:=AA
theorem t02.tw3210686851731283445:True:=AA
theorem t02.tw3216116022943562230:True:=AA
theorem t02.tw3229622492931668727:True:=AA
theorem t02.tw3234491876029964325:True:=AA
theorem t02.tw325420932002646572:True:=AA
theorem t02.tw3261236163906907884:True:=AA
theorem t02.tw3262362189399178131:True:=AA
theorem t02.tw3272206890810763571:True:=AA
theorem t02.tw3275138581836933657:True:=AA
theorem t02.tw3279439454798023488:True:=AA
theorem t02.tw3285686943527600206:True:=AA
theorem t02.tw3293814035570915596:True:=AA
theorem t02.tw3319442810889460304:True:=AA
theorem t02.tw334710193291450860:True:=AA
theorem t02.tw3357899910172288337:True:=AA
theorem t02.tw3364611803731654105:True:=AA
theorem t02.tw3376872178860914148:True:=AA
theorem t02.tw338228147631900534:True:=AA
theorem t02.tw3383058422408932111:True:=AA
theorem t02.tw3386737763224633137:True:=AA
theorem t02.tw3402806904310831230:True:=AA
theorem t02.tw3406468295198641957:True:=AA
theorem t02.tw3422087118229955907:True:=AA
theorem t02.tw3426065452523362454:True:=AA
theorem t02.tw3434191193017998230:True:=AA
theorem t02.tw3450978271723186320:True:=AA
theorem t02.tw3459346276074516436:True:=AA
theorem t02.tw3462918840436900407:True:=AA
theorem t02.tw3463396471996747799:True:=AA
theorem t02.tw3484943390485247217:True:=AA
theorem t02.tw349483343472905496:True:=AA
theorem t02.tw3500388690890157400:True:=AA
theorem t02.tw3503234444232117225:True:=AA
theorem t02.tw3504083421547271715:True:=AA
theorem t02.tw3507030626953862418:True:=AA
theorem t02.tw3517941280888288895:True:=AA
theorem t02.tw353039771234326315:True:=AA
theorem t02.tw3554187906127351216:True:=AA
theorem t02.tw3577454272479171269:True:=AA
theorem t02.tw3583910680422075963:True:=AA
theorem t02.tw3587298074076939990:True:=AA
theorem t02.tw3597971499832110557:True:=AA
theorem t02.tw3627646908869539078:True:=AA
theorem t02.tw3632990551718706074:True:=AA
theorem t02.tw3637826729520382909:True:=AA
theorem t02.tw3648195771707079770:True:=AA
theorem t02.tw3653499075882132548:True:=AA
theorem t02.tw3664352765579082514:True:=AA
theorem t02.tw3675997975129128540:True:=AA
theorem t02.tw3698566490499442374:True:=AA
theorem t02.tw371656286182873889:True:=AA
theorem t02.tw3716970723176225810:True:=AA
theorem t02.tw372384312165747423:True:=AA
theorem t02.tw3724836742495860839:True:=AA
theorem t02.tw3729677874183771327:True:=AA
theorem t02.tw3734451272155425180:True:=AA
theorem t02.tw3760146742188260333:True:=AA
theorem t02.tw376075872281443592:True:=AA
theorem t02.tw3763444731256430319:True:=AA
theorem t02.tw3780112870041905375:True:=AA
theorem t02.tw3789301612147947163:True:=AA
theorem t02.tw3789769795336976074:True:=AA
theorem t02.tw3796071389043591769:True:=AA
theorem t02.tw3818408542545661612:True:=AA
theorem t02.tw3819537295650965150:True:=AA
theorem t02.tw3821014754025620414:True:=AA
theorem t02.tw3824603441629476868:True:=AA
theorem t02.tw3868324336409173303:True:=AA
theorem t02.tw3875425211913040132:True:=AA
theorem t02.tw3891482939582555954:True:=AA
theorem t02.tw3891700294427443520:True:=AA
theorem t02.tw389425651592864641:True:=AA
theorem t02.tw390669673407794775:True:=AA
theorem t02.tw3917265529959434886:True:=AA
theorem t02.tw3918884015532001767:True:=AA
theorem t02.tw3923618521394288903:True:=AA
theorem t02.tw3932884937136183707:True:=AA
theorem t02.tw3960998567742164509:True:=AA
theorem t02.tw3962776914728520890:True:=AA
theorem t02.tw3974114876539958265:True:=AA
theorem t02.tw3987518120470491110:True:=AA
theorem t02.tw3987866650263739290:True:=AA
theorem t02.tw3988010561402340548:True:=AA
theorem t02.tw4002697910608023967:True:=AA
theorem t02.tw4006393711353390048:True:=AA
theorem t02.tw4044402750851164623:True:=AA
theorem t02.tw4051414740972255858:True:=AA
theorem t02.tw4054262219684559072:True:=AA
theorem t02.tw4056289304081128834:True:=AA
theorem t02.tw4075931059908515330:True:=AA
theorem t02.tw4082701320066406262:True:=AA
theorem t02.tw4087159363451396555:True:=AA
theorem t02.tw4100165166707745222:True:=AA
theorem t02.tw4110128586014554101:True:=AA
theorem t02.tw4110211738374617722:True:=AA
theorem t02.tw4112263845969117048:True:=AA
theorem t02.tw4142046690803804339:True:=AA
theorem t02.tw4151216579473782705:True:=AA
theorem t02.tw4154119966270474131:True:=AA
theorem t02.tw4155538613137629907:True:=AA
theorem t02.tw4155611822487589477:True:=AA
theorem t02.tw4158052073225107756:True:=AA
theorem t02.tw4162282597015074891:True:=AA
theorem t02.tw4170688774811747077:True:=AA
theorem t02.tw4187640684407517481:True:=AA
theorem t02.tw4189347950002056403:True:=AA
theorem t02.tw4191923184302145177:True:=AA
theorem t02.tw4224127251396236374:True:=AA
theorem t02.tw4235270257857006517:True:=AA
theorem t02.tw423696623560014736:True:=AA
theorem t02.tw4242593677121225556:True:=AA
theorem t02.tw4259687311069514173:True:=AA
theorem t02.tw4266014378708220368:True:=AA
theorem t02.tw4267180270941276181:True:=AA
theorem t02.tw4277924069358127224:True:=AA
theorem t02.tw4286198529332940130:True:=AA
theorem t02.tw4299408662730300736:True:=AA
theorem t02.tw4304633790351833264:True:=AA
theorem t02.tw4332780015891682025:True:=AA
theorem t02.tw4333558394744192585:True:=AA
theorem t02.tw435422702987384870:True:=AA
theorem t02.tw4354286950933235650:True:=AA
theorem t02.tw4384332530381020584:True:=AA
theorem t02.tw4386352611074561435:True:=AA
theorem t02.tw4389830743237141124:True:=AA
theorem t02.tw4395036282633489856:True:=AA
theorem t02.tw4426074163009813642:True:=AA
theorem t02.tw4434028516244203235:True:=AA
theorem t02.tw4439799396209336826:True:=AA
theorem t02.tw4442649033418079931:True:=AA
theorem t02.tw445537362842006577:True:=AA
theorem t02.tw4468911370541893425:True:=AA
theorem t02.tw4471960020762976056:True:=AA
theorem t02.tw450079634990792675:True:=AA
theorem t02.tw4514650600118382785:True:=AA
theorem t02.tw4522223509602487089:True:=AA
theorem t02.tw4533514951923215437:True:=AA
theorem t02.tw453967750138812356:True:=AA
theorem t02.tw4540771288085902036:True:=AA
theorem t02.tw4566782467433553443:True:=AA
theorem t02.tw4575162862668464105:True:=AA
theorem t02.tw4586241754425358325:True:=AA
theorem t02.tw4590334174035564524:True:=AA
theorem t02.tw4591128666240912317:True:=AA
theorem t02.tw4596956873591932863:True:=AA
theorem t02.tw4602699047274724227:True:=AA
theorem t02.tw4602723221333358710:True:=AA
theorem t02.tw4607407482571894455:True:=AA
theorem t02.tw4608524518521911985:True:=AA
theorem t02.tw4616700511763280934:True:=AA
theorem t02.tw462250705507873158:True:=AA
theorem t02.tw4624946100178268398:True:=AA
theorem t02.tw4635836339378921959:True:=AA
theorem t02.tw4644493671847134723:True:=AA
theorem t02.tw4648121637465916283:True:=AA
theorem t02.tw465873795729851624:True:=AA
theorem t02.tw4668852504848540454:True:=AA
theorem t02.tw4673439692317667858:True:=AA
theorem t02.tw4674245049865645125:True:=AA
theorem t02.tw4697313196403147450:True:=AA
theorem t02.tw4701270650778365736:True:=AA
theorem t02.tw4719729614679644103:True:=AA
theorem t02.tw4729480446068503734:True:=AA
theorem t02.tw4737441097337715181:True:=AA
theorem t02.tw4744531549244140329:True:=AA
theorem t02.tw4744591446651747080:True:=AA
theorem t02.tw4758057696608861386:True:=AA
theorem t02.tw4784500489891512241:True:=AA
theorem t02.tw4816462069911938440:True:=AA
theorem t02.tw4818144669151028793:True:=AA
theorem t02.tw4833991629308677214:True:=AA
theorem t02.tw4848374449548420520:True:=AA
theorem t02.tw4854366425516517997:True:=AA
theorem t02.tw486304265203888933:True:=AA
theorem t02.tw4863323714120276016:True:=AA
theorem t02.tw4878965204260338464:True:=AA
theorem t02.tw4900521210484916004:True:=AA
theorem t02.tw4904976125573496780:True:=AA
theorem t02.tw4906268938790887107:True:=AA
theorem t02.tw4908260571482524422:True:=AA
theorem t02.tw4937862188150014978:True:=AA
theorem t02.tw4945375811536732727:True:=AA
theorem t02.tw497743256547536304:True:=AA
theorem t02.tw4987735676690957043:True:=AA
theorem t02.tw499012539330158666:True:=AA
theorem t02.tw4997810374523642014:True:=AA
theorem t02.tw4998509767657219224:True:=AA
theorem t02.tw500815804221811832:True:=AA
theorem t02.tw5040596240026244140:True:=AA
theorem t02.tw5044206548444370315:True:=AA
theorem t02.tw5044729745437132030:True:=AA
theorem t02.tw5063394165347300872:True:=AA
theorem t02.tw5064210769950933145:True:=AA
theorem t02.tw5068517833265152285:True:=AA
theorem t02.tw5069911800871106929:True:=AA
theorem t02.tw5070094931304670858:True:=AA
theorem t02.tw5075191514500126287:True:=AA
theorem t02.tw5088075079758402311:True:=AA
theorem t02.tw5097394233663157985:True:=AA
theorem t02.tw5101068500984016054:True:=AA
theorem t02.tw5128113244438092760:True:=AA
theorem t02.tw5134541588934622346:True:=AA
theorem t02.tw51783922693876203:True:=AA
theorem t02.tw5181183040428649885:True:=AA
theorem t02.tw5182494762739278478:True:=AA
theorem t02.tw5201538247723199046:True:=AA
theorem t02.tw522435099793154346:True:=AA
theorem t02.tw5226975364951326598:True:=AA
theorem t02.tw5236083810141710049:True:=AA
theorem t02.tw5237379451488413773:True:=AA
theorem t02.tw5240359294082775598:True:=AA
theorem t02.tw5246266388761921748:True:=AA
theorem t02.tw5265311970802714953:True:=AA
theorem t02.tw5269245425516677522:True:=AA
theorem t02.tw5284744318799193518:True:=AA
theorem t02.tw529053060362529079:True:=AA
theorem t02.tw5292651982701071012:True:=AA
theorem t02.tw5318501340125778671:True:=AA
theorem t02.tw5321653335391697112:True:=AA
theorem t02.tw5334043394393081851:True:=AA
theorem t02.tw5341340001671270034:True:=AA
theorem t02.tw536347851213982588:True:=AA
theorem t02.tw5370540957199482451:True:=AA
theorem t02.tw5386672128828729715:True:=AA
theorem t02.tw5397667249204117400:True:=AA
theorem t02.tw5398135027649769398:True:=AA
theorem t02.tw5406958124118723193:True:=AA
theorem t02.tw5417409582207037271:True:=AA
theorem t02.tw5450353977358745863:True:=AA
theorem t02.tw5459465390928779983:True:=AA
theorem t02.tw5469174740102445950:True:=AA
theorem t02.tw5475565816279705777:True:=AA
theorem t02.tw5501633201707752014:True:=AA
theorem t02.tw5518007317028613501:True:=AA
theorem t02.tw5530979663067886772:True:=AA
theorem t02.tw5532958402954960066:True:=AA
theorem t02.tw553317524513429806:True:=AA
theorem t02.tw5533860508879089201:True:=AA
theorem t02.tw5537021450827538115:True:=AA
theorem t02.tw5553450519324714894:True:=AA
theorem t02.tw5570646886519309046:True:=AA
theorem t02.tw5586108675613777101:True:=AA
theorem t02.tw5593880330663630423:True:=AA
theorem t02.tw5606622106894567587:True:=AA
theorem t02.tw5607706818864499650:True:=AA
theorem t02.tw5609066332952412369:True:=AA
theorem t02.tw5622920690081212326:True:=AA
theorem t02.tw562996036174765256:True:=AA
theorem t02.tw5636517159673702005:True:=AA
theorem t02.tw5641355368001893768:True:=AA
theorem t02.tw56421270779968256:True:=AA
theorem t02.tw5643687606025068868:True:=AA
theorem t02.tw5663346352437703289:True:=AA
theorem t02.tw5673554489376786629:True:=AA
theorem t02.tw5684621554836324616:True:=AA
theorem t02.tw569753428496110736:True:=AA
theorem t02.tw57132247461492726:True:=AA
theorem t02.tw5750723846493638730:True:=AA
theorem t02.tw575688270403042821:True:=AA
theorem t02.tw576251566081853187:True:=AA
theorem t02.tw576575206096976430:True:=AA
theorem t02.tw5781465040950682518:True:=AA
theorem t02.tw5788345122647703:True:=AA
theorem t02.tw5802558424844428497:True:=AA
theorem t02.tw5820536516763881462:True:=AA
theorem t02.tw58209286910965007:True:=AA
theorem t02.tw5823516438343169806:True:=AA
theorem t02.tw5830153438497198794:True:=AA
theorem t02.tw583937347084689404:True:=AA
theorem t02.tw5843817133448725996:True:=AA
theorem t02.tw5848942973465616639:True:=AA
theorem t02.tw5877089953835461246:True:=AA
theorem t02.tw5899570857610400923:True:=AA
theorem t02.tw591926264500376745:True:=AA
theorem t02.tw5922108203414789569:True:=AA
theorem t02.tw5924151001458877408:True:=AA
theorem t02.tw5924646249998192711:True:=AA
theorem t02.tw5931153055805469949:True:=AA
theorem t02.tw5935924510123746310:True:=AA
theorem t02.tw5941449578985974766:True:=AA
theorem t02.tw5949441790587292161:True:=AA
theorem t02.tw5957868767411747460:True:=AA
theorem t02.tw5976617746232907525:True:=AA
theorem t02.tw59786349361478041:True:=AA
theorem t02.tw5997877400313523427:True:=AA
theorem t02.tw6012573427554224631:True:=AA
theorem t02.tw6016493314694668264:True:=AA
theorem t02.tw6049909783828448895:True:=AA
theorem t02.tw6070120311191451364:True:=AA
theorem t02.tw6079038765885321996:True:=AA
theorem t02.tw6086581092519748428:True:=AA
theorem t02.tw6108848585293274515:True:=AA
theorem t02.tw6123583744411348804:True:=AA
theorem t02.tw6164241889990200209:True:=AA
theorem t02.tw6166155555862593206:True:=AA
theorem t02.tw6172146686728216274:True:=AA
theorem t02.tw617390554977198378:True:=AA
theorem t02.tw6175392447346628728:True:=AA
theorem t02.tw6178232600544305411:True:=AA
theorem t02.tw6186245133169038956:True:=AA
theorem t02.tw6189518242311312311:True:=AA
theorem t02.tw619283390124737945:True:=AA
theorem t02.tw620435347695580212:True:=AA
theorem t02.tw6216685002588110282:True:=AA
theorem t02.tw6244639510737964864:True:=AA
theorem t02.tw6252245354516274018:True:=AA
theorem t02.tw6255857166000328794:True:=AA
theorem t02.tw6257279769761971554:True:=AA
theorem t02.tw6263072157715026115:True:=AA
theorem t02.tw6277724714999543780:True:=AA
theorem t02.tw6283488715158155247:True:=AA
theorem t02.tw6304495378997479004:True:=AA
theorem t02.tw6306764569562440948:True:=AA
theorem t02.tw6356585114659921012:True:=AA
theorem t02.tw6364482350651015052:True:=AA
theorem t02.tw63652778621247326:True:=AA
theorem t02.tw6402409637303819395:True:=AA
theorem t02.tw6405011158436694646:True:=AA
theorem t02.tw6428112252503485762:True:=AA
theorem t02.tw6429535516395635587:True:=AA
theorem t02.tw644053110220164295:True:=AA
theorem t02.tw6452359091175010120:True:=AA
theorem t02.tw6465101792275754601:True:=AA
theorem t02.tw6467805351261878475:True:=AA
theorem t02.tw6471469981658321310:True:=AA
theorem t02.tw6472138351083019422:True:=AA
theorem t02.tw6473605986286544246:True:=AA
theorem t02.tw6482840199345647884:True:=AA
theorem t02.tw649853398070095606:True:=AA
theorem t02.tw6526419483287370489:True:=AA
theorem t02.tw6536486859426650839:True:=AA
theorem t02.tw6549392423685212966:True:=AA
theorem t02.tw6553970306915769676:True:=AA
theorem t02.tw656866407581749131:True:=AA
theorem t02.tw6583111150658337146:True:=AA
theorem t02.tw6608527331671840150:True:=AA
theorem t02.tw6632620824568531081:True:=AA
theorem t02.tw6638356133799219452:True:=AA
theorem t02.tw6671122269129601550:True:=AA
theorem t02.tw6676366318878264954:True:=AA
theorem t02.tw6691055640569975827:True:=AA
theorem t02.tw6706882283525757744:True:=AA
theorem t02.tw6706978134461666915:True:=AA
theorem t02.tw6716033412104243851:True:=AA
theorem t02.tw6724112761609917018:True:=AA
theorem t02.tw67251921756847532:True:=AA
theorem t02.tw674017443988214869:True:=AA
theorem t02.tw6758690866957392086:True:=AA
theorem t02.tw6758970567436217780:True:=AA
theorem t02.tw6761321053494995992:True:=AA
theorem t02.tw6792569271796031482:True:=AA
theorem t02.tw6799979290205873678:True:=AA
theorem t02.tw6825361346139995306:True:=AA
theorem t02.tw6837343575227814236:True:=AA
theorem t02.tw6841238584150060443:True:=AA
theorem t02.tw6841271790138276513:True:=AA
theorem t02.tw6843512113977966222:True:=AA
theorem t02.tw6847528203317044722:True:=AA
theorem t02.tw6874565488065457456:True:=AA
theorem t02.tw6895262237484571782:True:=AA
theorem t02.tw6925399044963449087:True:=AA
theorem t02.tw6939836226195479564:True:=AA
theorem t02.tw6952080927722443962:True:=AA
theorem t02.tw6976260134061606186:True:=AA
theorem t02.tw6988331180124151210:True:=AA
theorem t02.tw6994698006295543560:True:=AA
theorem t02.tw6999836424678429984:True:=AA
theorem t02.tw7026550435793386839:True:=AA
theorem t02.tw7055707114311375697:True:=AA
theorem t02.tw706367857327795388:True:=AA
theorem t02.tw7068886938749901146:True:=AA
theorem t02.tw7069616989737314196:True:=AA
theorem t02.tw7074831609668874369:True:=AA
theorem t02.tw7075267578107145648:True:=AA
theorem t02.tw7084593734998042558:True:=AA
theorem t02.tw7085922627563494495:True:=AA
theorem t02.tw7092287314995615435:True:=AA
theorem t02.tw7094604103722418062:True:=AA
theorem t02.tw7098394000470957619:True:=AA
theorem t02.tw7123693275063642930:True:=AA
theorem t02.tw714776166809932998:True:=AA
theorem t02.tw7152066198360825489:True:=AA
theorem t02.tw7154788573078767446:True:=AA
theorem t02.tw7182659975985120088:True:=AA
theorem t02.tw7182752100254472220:True:=AA
theorem t02.tw7217832152623112111:True:=AA
theorem t02.tw7229662865573189374:True:=AA
theorem t02.tw7232369933510726057:True:=AA
theorem t02.tw7243842841214845218:True:=AA
theorem t02.tw7244732539619732552:True:=AA
theorem t02.tw7268394124534459134:True:=AA
theorem t02.tw7282820348829114722:True:=AA
theorem t02.tw7297101976348123303:True:=AA
theorem t02.tw7300280405374961905:True:=AA
theorem t02.tw7304711489636187731:True:=AA
theorem t02.tw730795746395216992:True:=AA
theorem t02.tw7338776911351661458:True:=AA
theorem t02.tw734162368918964336:True:=AA
theorem t02.tw7353402483863961995:True:=AA
theorem t02.tw7354697870833037760:True:=AA
theorem t02.tw7392893234647890506:True:=AA
theorem t02.tw7395000164415051824:True:=AA
theorem t02.tw7395795680910621316:True:=AA
theorem t02.tw7400306105138625438:True:=AA
theorem t02.tw740077969279425100:True:=AA
theorem t02.tw7408497745146794885:True:=AA
theorem t02.tw7420587737881176644:True:=AA
theorem t02.tw7432564214740410893:True:=AA
theorem t02.tw7450288305016748012:True:=AA
theorem t02.tw7454404336199754340:True:=AA
theorem t02.tw746578557436191890:True:=AA
theorem t02.tw7475593745135000876:True:=AA
theorem t02.tw7508297843127273367:True:=AA
theorem t02.tw7528784611093649770:True:=AA
theorem t02.tw752979379257660207:True:=AA
theorem t02.tw7534786354183090054:True:=AA
theorem t02.tw7544465759032107467:True:=AA
theorem t02.tw754865929536147851:True:=AA
theorem t02.tw7572724717740266567:True:=AA
theorem t02.tw7608678347608030155:True:=AA
theorem t02.tw7637832212531002340:True:=AA
theorem t02.tw7654109119422034249:True:=AA
theorem t02.tw7667061175966126049:True:=AA
theorem t02.tw7674561669937423760:True:=AA
theorem t02.tw7679798714655772462:True:=AA
theorem t02.tw7684492158786179487:True:=AA
theorem t02.tw7687791175329866465:True:=AA
theorem t02.tw7689136688381137586:True:=AA
theorem t02.tw7719483926409186666:True:=AA
theorem t02.tw774110172444418704:True:=AA
theorem t02.tw7741890462449856159:True:=AA
theorem t02.tw7751325277752198621:True:=AA
theorem t02.tw7786822452771336146:True:=AA
theorem t02.tw7793348535638940870:True:=AA
theorem t02.tw7816503705542021846:True:=AA
theorem t02.tw7834410743986317235:True:=AA
theorem t02.tw7847084530628624506:True:=AA
theorem t02.tw7847298275844298372:True:=AA
theorem t02.tw7849280318074645617:True:=AA
theorem t02.tw7898865497913267166:True:=AA
theorem t02.tw7906507925301799517:True:=AA
theorem t02.tw791190988361823372:True:=AA
theorem t02.tw7934760882599809349:True:=AA
theorem t02.tw7942081077941993024:True:=AA
theorem t02.tw7948206102427324033:True:=AA
theorem t02.tw7954742373697217332:True:=AA
theorem t02.tw7961676299306464626:True:=AA
theorem t02.tw7976877284361261383:True:=AA
theorem t02.tw7977505600247625263:True:=AA
theorem t02.tw7999267337246734150:True:=AA
theorem t02.tw8016834310745293372:True:=AA
theorem t02.tw801826263147297424:True:=AA
theorem t02.tw8083051622904623045:True:=AA
theorem t02.tw8083167921008451009:True:=AA
theorem t02.tw8114900990785712861:True:=AA
theorem t02.tw8119247964876623320:True:=AA
theorem t02.tw8120980511568592509:True:=AA
theorem t02.tw8130219816577133839:True:=AA
theorem t02.tw8174450943397119469:True:=AA
theorem t02.tw8186780337866200134:True:=AA
theorem t02.tw8224405689988836304:True:=AA
theorem t02.tw8233159581382114466:True:=AA
theorem t02.tw8253317773414933929:True:=AA
theorem t02.tw8262729404141920954:True:=AA
theorem t02.tw8276856179042515177:True:=AA
theorem t02.tw8277167299912986304:True:=AA
theorem t02.tw82837495905480565:True:=AA
theorem t02.tw8288741532993774800:True:=AA
theorem t02.tw8315332845895059372:True:=AA
theorem t02.tw8316436757324835437:True:=AA
theorem t02.tw8335909240955580468:True:=AA
theorem t02.tw8336125726438060225:True:=AA
theorem t02.tw8336484392806766319:True:=AA
theorem t02.tw8358258040730593538:True:=AA
theorem t02.tw8363668298756727438:True:=AA
theorem t02.tw8367650056045802677:True:=AA
theorem t02.tw8372798055165274531:True:=AA
theorem t02.tw8375691486458333098:True:=AA
theorem t02.tw8397679345136459938:True:=AA
theorem t02.tw8407800818825452471:True:=AA
theorem t02.tw8418789336805475647:True:=AA
theorem t02.tw8419922617094210371:True:=AA
theorem t02.tw8420578890019501515:True:=AA
theorem t02.tw8428228466261903639:True:=AA
theorem t02.tw8428663079083647498:True:=AA
theorem t02.tw8437815713594789706:True:=AA
theorem t02.tw8449625838893398830:True:=AA
theorem t02.tw8460633106555905459:True:=AA
theorem t02.tw8465760204517729125:True:=AA
theorem t02.tw8472529616945143464:True:=AA
theorem t02.tw8476416944027811982:True:=AA
theorem t02.tw8479940921561389683:True:=AA
theorem t02.tw848258897895022403:True:=AA
theorem t02.tw8489257368382163559:True:=AA
theorem t02.tw8490210453697523426:True:=AA
theorem t02.tw849346235754192739:True:=AA
theorem t02.tw849727659724802584:True:=AA
theorem t02.tw8500846867194797696:True:=AA
theorem t02.tw8502057369082602976:True:=AA
theorem t02.tw8509106211518202333:True:=AA
theorem t02.tw8510461150943363812:True:=AA
theorem t02.tw8517946842630111730:True:=AA
theorem t02.tw8534300067078950823:True:=AA
theorem t02.tw854617928906490879:True:=AA
theorem t02.tw8560292660057551585:True:=AA
theorem t02.tw8567878838817721873:True:=AA
theorem t02.tw856980542348694196:True:=AA
theorem t02.tw8575660802337663839:True:=AA
theorem t02.tw8581442857989275700:True:=AA
theorem t02.tw8583092430158949224:True:=AA
theorem t02.tw8584003785805524048:True:=AA
theorem t02.tw8592662780117450555:True:=AA
theorem t02.tw859433835120490904:True:=AA
theorem t02.tw8610040578583112553:True:=AA
theorem t02.tw8629948630661399989:True:=AA
theorem t02.tw8634966453626010033:True:=AA
theorem t02.tw8638592670252298144:True:=AA
theorem t02.tw8670388985899699547:True:=AA
theorem t02.tw8675904528402299278:True:=AA
theorem t02.tw8678171225998145484:True:=AA
theorem t02.tw867887137507339383:True:=AA
theorem t02.tw8688270904106123854:True:=AA
theorem t02.tw8716045634305810529:True:=AA
theorem t02.tw8734148561875996029:True:=AA
theorem t02.tw8735243040300308492:True:=AA
theorem t02.tw8735628616114160486:True:=AA
theorem t02.tw8739164136097057833:True:=AA
theorem t02.tw8764856458458446040:True:=AA
theorem t02.tw8774960653749043832:True:=AA
theorem t02.tw8788231726388456903:True:=AA
theorem t02.tw8808283954298843223:True:=AA
theorem t02.tw881375438311860751:True:=AA
theorem t02.tw8816307336861490016:True:=AA
theorem t02.tw8818238027187043543:True:=AA
theorem t02.tw8822928474221092937:True:=AA
theorem t02.tw8831073863507094204:True:=AA
theorem t02.tw883546623626951320:True:=AA
theorem t02.tw8843475819704825722:True:=AA
theorem t02.tw8851023754018833952:True:=AA
theorem t02.tw8862215922388645208:True:=AA
theorem t02.tw8866568144878138171:True:=AA
theorem t02.tw8870819930359905836:True:=AA
theorem t02.tw8870912742630846795:True:=AA
theorem t02.tw8875013291019865400:True:=AA
theorem t02.tw8901829542233699089:True:=AA
theorem t02.tw8909395719948466949:True:=AA
theorem t02.tw8910150304554347083:True:=AA
theorem t02.tw8910959064574623519:True:=AA
theorem t02.tw8915495604551457118:True:=AA
theorem t02.tw8930244101672116518:True:=AA
theorem t02.tw8934984869178525008:True:=AA
theorem t02.tw894245237392491794:True:=AA
theorem t02.tw8942464699935472939:True:=AA
theorem t02.tw8982389706936923859:True:=AA
theorem t02.tw9002303354863088092:True:=AA
theorem t02.tw9006505402638434948:True:=AA
theorem t02.tw9013901790451813278:True:=AA
theorem t02.tw9026243025798927358:True:=AA
theorem t02.tw9037704144081592976:True:=AA
theorem t02.tw9046472115942104019:True:=AA
theorem t02.tw9056274897490408249:True:=AA
theorem t02.tw9107873313750281051:True:=AA
theorem t02.tw9125850518431297733:True:=AA
theorem t02.tw9134164681555196255:True:=AA
theorem t02.tw9144836330488561879:True:=AA
theorem t02.tw9152099302371672413:True:=AA
theorem t02.tw9158968473251016428:True:=AA
theorem t02.tw9164664327491390465:True:=AA
theorem t02.tw9169277177217955499:True:=AA
theorem t02.tw9210272648468128518:True:=AA
theorem t02.tw9214043196430733561:True:=AA
theorem t02.tw9218022257231198138:True:=AA
theorem t02.tw9236413090049705284:True:=AA
theorem t02.tw9239780063230688452:True:=AA
theorem t02.tw9265106510439724091:True:=AA
theorem t02.tw9272100980392289398:True:=AA
theorem t02.tw9279632633095941740:True:=AA
theorem t02.tw928668286661663411:True:=AA
theorem t02.tw9292898104951508998:True:=AA
theorem t02.tw9295066877882687704:True:=AA
theorem t02.tw9295659846132391358:True:=AA
theorem t02.tw9301715874521597813:True:=AA
theorem t02.tw9310448202510415155:True:=AA
theorem t02.tw9313847582123886887:True:=AA
theorem t02.tw9330423541170303504:True:=AA
theorem t02.tw9353403463994051021:True:=AA
theorem t02.tw9363152044876662185:True:=AA
theorem t02.tw9365774102580946500:True:=AA
theorem t02.tw938517324107828494:True:=AA
theorem t02.tw939099405779103628:True:=AA
theorem t02.tw9397037776528921507:True:=AA
theorem t02.tw9411730295207279270:True:=AA
theorem t02.tw9431572336038351254:True:=AA
theorem t02.tw944271041108216412:True:=AA
theorem t02.tw94693784248143273:True:=AA
theorem t02.tw9471517955376673391:True:=AA
theorem t02.tw9489316085440130802:True:=AA
theorem t02.tw9492583786833268734:True:=AA
theorem t02.tw9516572527495159467:True:=AA
theorem t02.tw9525861335509259690:True:=AA
theorem t02.tw9533557292956317848:True:=AA
theorem t02.tw9555761887736319725:True:=AA
theorem t02.tw9574507206981134997:True:=AA
theorem t02.tw9584551078249228020:True:=AA
theorem t02.tw9596091073997131811:True:=AA
theorem t02.tw9597872486838442216:True:=AA
theorem t02.tw9600208215981418312:True:=AA
theorem t02.tw9612876030075628995:True:=AA
theorem t02.tw9613027326273822171:True:=AA
theorem t02.tw9646818026986175489:True:=AA
theorem t02.tw9651479182995315847:True:=AA
theorem t02.tw9664225405238228679:True:=AA
theorem t02.tw9671531649697075482:True:=AA
theorem t02.tw9681457395466171878:True:=AA
theorem t02.tw9688484407736756522:True:=AA
theorem t02.tw9692645393520769041:True:=AA
theorem t02.tw9697643391002619338:True:=AA
theorem t02.tw9702594803097760147:True:=AA
theorem t02.tw9703365467182644508:True:=AA
theorem t02.tw9730347678062761152:True:=AA
theorem t02.tw9735534820304781243:True:=AA
theorem t02.tw9742766554157456123:True:=AA
theorem t02.tw975511359227481889:True:=AA
theorem t02.tw9783563074564996095:True:=AA
theorem t02.tw9787211661806320687:True:=AA
theorem t02.tw9795831074112301672:True:=AA
theorem t02.tw9802718224188922878:True:=AA
theorem t02.tw9804282386591905562:True:=AA
theorem t02.tw9810375040337550924:True:=AA
theorem t02.tw9847144467227072755:True:=AA
theorem t02.tw9854865863561826209:True:=AA
theorem t02.tw9856560520273619123:True:=AA
theorem t02.tw9868799011285237915:True:=AA
theorem t02.tw9884638971121945119:True:=AA
theorem t02.tw989524375625340799:True:=AA
theorem t02.tw9897073203103543000:True:=AA
theorem t02.tw9900345480452575775:True:=AA
theorem t02.tw9908162453617394237:True:=AA
theorem t02.tw9919298848832647528:True:=AA
theorem t02.tw9920493960540746928:True:=AA
theorem t02.tw9940996240023194469:True:=AA
theorem t02.tw9944307980596531014:True:=AA
theorem t02.tw99492873531356846:True:=AA
theorem t02.tw9970933553385921680:True:=AA
set_option tactic.hygienic true in
theorem t02:PySem.Challenge.rw_te0006_02.Holds:=by
 w_on;o_law;k_head
 (case hw=>w_witness2)
 k_go0
 rename_i w s₀ s₁ mg mb G Y fa o pm doc ho hg KX X V0 GL T B TE TW x1 x2 M x3 x4 hcd ns hs hlay0 hL1 hr1 hl2 x5 x6 sa vs x7 hL ra w1 r0 hI hr hc1 hc2 K0 hD h₁ tk₁ F o1 o2 le1 ax N0 X0
 refine(Yu (ns:=ns) (by omega)).elim fun h' H=>?_
 refine Tb (w:=w) (ns:=ns) (a:=sa) ?C KX T hI hL H rfl rfl rfl rfl rfl K0 F N0 X0 ?hbv ?hb fun h' tk m' F'=>?fin
 case C=>exact⟨⟨by kernel_rfl,by kernel_rfl,by kernel_rfl,by kernel_rfl,by kernel_rfl,by kernel_rfl,by kernel_rfl,by kernel_rfl,by kernel_rfl,by kernel_rfl,by kernel_rfl,by kernel_rfl,by kernel_rfl,by kernel_rfl,by kernel_rfl,by kernel_rfl,by kernel_rfl,by kernel_rfl,by kernel_rfl,by kernel_rfl,by kernel_rfl,by kernel_rfl,by kernel_rfl,by kernel_rfl,by kernel_rfl,by kernel_rfl,by kernel_rfl,by kernel_rfl,by kernel_rfl,by kernel_rfl,by kernel_rfl,by kernel_rfl,by kernel_rfl,by kernel_rfl,by kernel_rfl,by kernel_rfl,by kernel_rfl,by kernel_rfl,by kernel_rfl,by kernel_rfl,by kernel_rfl,by kernel_rfl,by kernel_rfl,by kernel_rfl,by kernel_rfl,trivial⟩,by kernel_rfl,by kernel_rfl,by kernel_rfl,by kernel_rfl,by kernel_rfl,by kernel_rfl,by kernel_rfl,by kernel_rfl,⟨by kernel_rfl,by kernel_rfl,by kernel_rfl,by kernel_rfl,by kernel_rfl,by kernel_rfl,by kernel_rfl,by kernel_rfl,by kernel_rfl,by kernel_rfl,by kernel_rfl,by kernel_rfl,by kernel_rfl,by kernel_rfl,by kernel_rfl,by kernel_rfl,by kernel_rfl,by kernel_rfl,by kernel_rfl,by kernel_rfl,by kernel_rfl⟩,⟨by kernel_rfl,by kernel_rfl,by kernel_rfl,by kernel_rfl⟩,⟨by kernel_rfl,by kernel_rfl,by kernel_rfl,by kernel_rfl⟩,⟨by kernel_rfl,by kernel_rfl,by kernel_rfl⟩⟩
 case hbv=>kernel_rfl
 case hb=>kernel_rfl
 case fin=>close_w
end Mine.Internal
theorem PySem.Challenge.cw_te0006_02_holds : PySem.Challenge.rw_te0006_02.Holds := by
  exact Mine.Internal.t02
